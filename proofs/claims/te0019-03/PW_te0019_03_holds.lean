import PyProof.Rows.All
import Wide.All
import OpenK.AllK
import Wide.FinOn
import PySem.Challenge.RW_te0019_03
open Option renaming some→aa,none→af,map→ph,isSome→uL,eq_none_iff_forall_ne_some→wT,isSome_iff_exists→zP,map_eq_some_iff→Dl,getD→PT,map_id'→agk,getD_some→ahw,toList→ajd
open Bool renaming true→ab,false→an,and_eq_true→bO,false_ne_true→iD,not_eq_true'→jL,and_eq_true_iff→Dx,or_eq_false_iff→Dz,eq_false_iff→DC,or_eq_true→DP,or_true→HW,and_true→Ig,eq_iff_iff→Qr,not_true→aih,true_and→ai7
open Nat renaming le_trans→ah,le_refl→ar,lt_of_le_of_lt→bd,le_of_eq→bF,lt_of_lt_of_le→bI,le_succ→bR,le_add_right→b6,zero_le→b_,le_of_lt→cj,le_succ_of_le→c8,lt_succ_self→dq,ne_of_lt→du,ne_of_gt→dG,succ_pos→dK,succ_le_succ→eG,le_of_lt_succ→eS,add_le_add_left→e6,lt_irrefl→fo,add_le_add→fp,le_of_succ_le→gg,lt_trans→i4,not_lt→js,le_of_ble_eq_true→jG,sub_le→ku,lt_succ_of_le→lb,lt_of_succ_le→lr,le_add_left→lu,not_lt_of_le→ma,not_le_of_lt→mi,zero_add→mZ,not_lt_zero→m5,pos_of_ne_zero→oh,add_le_add_right→oj,lt_of_succ_lt→oy,one_pos→pf,le_of_not_lt→pg,mul_le_mul_left→pB,succ_lt_succ→pC,min_le_right→pD,lt_succ_of_lt→pE,le_antisymm→qQ,mul_le_mul_right→qR,lt_add_of_pos_right→qS,sub_add_cancel→qT,sub_lt→sn,add_comm→sp,min_eq_left→sA,succ_le_of_lt→sH,eq_zero_or_pos→sJ,add_sub_cancel'→uv,add_right_comm→uA,ble→wL,two_pos→wM,succ_add→wN,lt_of_le_of_ne→wO,eq_or_lt_of_le→wP,lt_or_eq_of_le→zI,sub_self→zJ,succ_ne_zero→z0,add_lt_add_right→De,add_sub_cancel_left→Df,mod_lt→Dg,succ_add_eq_add_succ→Dj,lt_trichotomy→HD,succ→HF,le_of_succ_le_succ→H9,le_of_not_le→Ii,min_eq_right→Ij,lt_of_succ_lt_succ→Is,le_zero→It,lt_of_lt_of_eq→PS,lt_or_ge→Qk,add_sub_cancel→Qu,sub_le_of_le_add→QG,succ_mul→QP,sub_lt_of_lt→QZ,div_lt_of_lt_mul→afz,le_div_iff_mul_le→af0,sub_pos_of_lt→af1,add_lt_add_left→af2,add_assoc→af3,mul_le_mul→af4,not_succ_le_zero→agw,succ_ne_self→ahv,lt_of_mul_lt_mul_right→ahy,zero_lt_succ→aie,lt_of_not_le→aij,sub_lt_sub_left→ais,pos_iff_ne_zero→ai6,min_le_left→aje,add_lt_of_lt_sub→ajf,lt_or_gt_of_ne→aji
open PySem renaming Shared→ak,Addr→au,wpAny→aw,wpAny_pure→aD,model→aR,Stmt→bx,Scope→cb,World→cE,Heap→cO,sizeLine→cR,compareOp→c5,SetTable→c9,LstAt→de,Comprehension→dC,DictEntry→dL,wpAny_holding→dM,wpAny_ite_false→dU,Around→dZ,eval→d9,cLine→ez,rawInt→e_,Program→fD,clipAt→fE,starEach→gh,cellsFrom→gt,Model→i2,wpAny_call_entry→i5,getItem→i6,holding→ju,backTo→jv,wpAny_standAt→jJ,wpAny_rule→jK,wpAny_ite_split→jM,standAt→kh,codeAny→ki,wpAny_setState_of→kw,NameKind→lg,Fin→lj,isSubtype→lv,binaryOp→m7,getAttr→m8,mem_of_lookup→m_,wpAny_mono→ox,seqIndex?→oz,assign→pq,call→pv,wpAny_ite_true→pz,isSubtype_type→pA,assignEach→qJ,wpAny_callSpecial?_slot→qK,wpAny_of_eq→qL,pyIter→qM,wpAny_specialOf→qN,wpAny_dictEpoch→qO,inplaceOp→sC,wpAny_setField→sE,wpAny_newObj_type→sF,dictGet→sG,mainGlobals→uw,setItem→ux,attributeBase→uy,bindArgs→uz,wpAny_field→uB,Pairs→uC,pyNext→uD,wpAny_typeOf→uF,typeOf→uG,Operator→wS,swappedStores→wV,Result→wW,callWith→wX,wpAny_seqItems→wY,foldedSetIterable→w0,wpAny_isInstance→w5,codeAny_builtin→w6,builtinsNs→zK,truthy→zL,wpAny_askSetting→zN,wpAny_sequenceKey→zR,IsPart→zV,hashByValue→zY,sysModules→Dn,unsupported→Do,behindInMarks→Dp,setAttr→Dq,swapsWithSole→Dr,swapsWith→Dt,strKind→Dw,letOwnedTupleGo→Dy,slot_dict_getitem→DF,ofAClassStatement→DK,bootBuiltins→HI,recursionLimit→HJ,wpAny_truthy_bool→HK,FuncData→HO,wpAny_loadPart'→HR,raiseNew→HV,compPost→HY,pushCells→HZ,noteFrame→H4,eqIsQuiet→H7,isInstance→H8,wpAny_dictEntries→H_,wpAny_missed_other→Ib,ret→Ie,setSearchFrom→Il,plainId_quiet→Ir,entryFor→Iu,reduceHash→PU,wpAny_release→PX,wpAny_assignInOrder_more→PY,letTemporaryGo→P0,wpAny_letTemporaryGo→P4,wpAny_call→P7,firstArgMember→Qa,wpAny_pyIter_tuple→Qb,wpAny_pyIter_list→Qf,wpAny_alloc→Qg,pushCells_keeps→Qh,codeAny_of_tree→Qi,wpAny_runValue→Qo,callSpecial?→Qp,wpAny_operating→Qq,call_meets→Qv,fitsIndex_of→Qx,firstAsync→QB,sub_set_self→QD,entryFor_alias→QH,wpAny_setEpoch_of→QJ,formatField→QW,strLen_append→QY,plainExc_IndexError→Q4,wpAny_assignInOrder_none→agc,wpAny_Assign_stores→agd,wpAny_pyIter_enum→agq,wpAny_pyHash_int→ags,wpAny_pyHash_str→agt,beq_builtin_none→agu,isSubtype_tuple_tuple→agv,entry_dict_getitem→ag1,args_dict_getitem→ag2,slot_dict_contains→ag4,slot_dict_setitem→ag6,searchCouldBeSeen→ahz,wpAny_storeSet_of→ah2,checkBuiltinCall→ah4,codeAny_call_builtin→ah6,builtinLookup_eq_fast→aid,wpAny_pyIter_slot→aif,slot_list_setitem→ai8
open List renaming length_map→aI,range→bo,mem_map→bB,mem_of_getElem?→bN,mem_singleton→bS,length_append→cU,getElem?_eq_some_iff→cV,all_eq_true→dc,getElem?_map→dv,mem_append→dw,mem_cons_self→dA,mem_cons→dE,map_append→dN,mem_range→dR,length_range→dS,mem_cons_of_mem→eT,contains_iff_mem→e9,getElem?_eq_getElem→fb,append_nil→gP,mem_filterMap→gQ,length_cons→iE,mem_append_left→i7,length_take→jH,take_add_one→jN,mem_append_right→kj,getElem?_eq_none_iff→km,pairwise_singleton→ko,lookup_cons→k_,nodup_cons→lh,nodup_append→lq,getElem?_eq_none→md,mem_filter→m9,take_of_length_le→na,length→oq,map_map→pi,getD_eq_getElem?_getD→pn,forIn_cons→py,length_tail→pF,mem_iff_getElem?→qH,filterMap_cons→qP,filterMap_append→sD,map_cons→sI,mem_flatMap→sK,getElem?_of_mem→uE,replicate→uH,filterMap→uK,length_filterMap_le→uM,pairwise_map→wQ,append_assoc→wR,lookup→w4,contains_cons→w8,getElem?_range→w9,range_succ→w_,length_singleton→zU,take_length→zW,length_drop→zX,map_drop→zZ,getElem?_append_left→Di,not_mem_nil→DE,all_cons→DH,cons→DI,mem_of_mem_take→DL,map_nil→DN,map_inj_left→DO,nodup_range→HE,take_sublist→HG,perm_ext_iff_of_nodup→HH,filter_cons→HX,map_take→Im,map→Iq,drop_eq_getElem_cons→Iy,cons_ne_nil→IA,length_filter_le→IC,pairwise_iff_getElem→PM,getElem?_drop→PN,take_append_drop→PO,any_cons→PZ,forall_mem_cons→Qc,getElem?_inj→Qm,range_succ_eq_map→Qz,not_mem_cons_of_ne_of_not_mem→QL,length_flatMap→QT,getElem?_append_right→QU,getElem?_tail→Q5,lookup_cons_self→afy,getElem?_take_of_lt→af5,pairwise_lt_range→af8,nil_append→af9,find?_cons_of_neg→agf,size_toArray→agh,map_fst_zip→agi,mem_map_of_mem→agj,ext_getElem?→agr,any_eq_true→agy,all_map→ahs,any_map→aht,eq_nil_of_length_eq_zero→ah8,length_eq_zero_iff→aiq,append_eq_nil_iff→aiv,map_const'→aiw,map_congr_left→aix,sum_replicate_nat→aiy,length_erase_of_mem→aiz,cons_append→ai0,getElem?_cons_succ→ai1,foldl_append→ai2,append_inj→ai4,filter_append→ai5,drop_one→ai9,flatMap_append→ajb,append_subset→ajc,getElem?_cons_zero→ajg
open Option.some renaming inj→aY
open PySem.Heap renaming get?_push_of_some→dT,get?_push_size→fP,lt_size→jI,get?_update_self→lf,size_push→mc,SameBut→sB,get?_update_other→zO,get?_none_of_le→zQ,ExtBut→P_,NewExc→ag0
open PySem.W renaming FnAt→d0,findIn→ie,tabObj→mj,dictOf→qI,plainGet→zM,kas_sort→z7,hasDictIn→Ds,kas_bin→DM,plainGet_of→HL,plainOver→HM,putName_dict→HN,kas_count→Iv,looks_findIn→P8,kas_descPart→QK
open PySem.Str renaming ofString→d5,empty→z9
open PySem.Value renaming none→eH,type→zS,ref→Du,builtin→H5,bool→ag5
open List.Nodup renaming length_le_of_subset→fO
open Array renaming length_toList→fQ,getElem?_eq_getElem→jr,getElem?_toList→jt,getElem?_eq_some_iff→oi,toList_push→H3,forIn_toList→H6,size_map→Ip,toList_inj→Ix,replicate→PP,getD_eq_getD_getElem?→PQ,any_toList→agg,mem_of_getElem?→agx,isEmpty→ag8,eraseIdxIfInBounds→ahb,toList_eraseIdx→ahc,toList_append→ahf,toArray_toList→ahg,toList_map→ah0,getD→aii
open Prod.mk renaming inj→gi
open Int renaming ofNat_lt→ib,natCast_nonneg→jq,not_lt→qG,lt_trans→sv,ofNat_le→wZ,le_trans→DB,toNat_natCast→HT,toNat→Ih,emod_nonneg→PL,max_eq_right→Qy,le_refl→QQ,ne_of_lt→QR,ofNat_ne_zero→afu,toNat_lt→afv,emod_lt_of_pos→afw,natCast_pos→afx,ediv_one→agn,lt_of_le_of_lt→ago,add_zero→agp,min_eq_left→ahh,le_of_lt→ahi,sub_add_cancel→ahk,ne_of_gt→ahq,lt_of_lt_of_le→air,le_add_one→ait,lt_add_one_of_le→aiu,ofNat_sub→ai3,lt_asymm→ajh
open Prod renaming ext→jw,fst→m6,snd→Dk
open PyProof.Rows renaming seqObj→ky,envOfC→xa,lookup_of_mem_nodup→HP,SortKind→Iw,range_getD→QM,slicePart_none→ahl,loadName_read→aky,UnaryOp_→akz,neg_int→ak0,IfExp_→ak1,truthy_none→ak2,isTrue_not→ak3,isTrue_and→ak4,isTrue_or→ak5,isTrue_and_nil→ak6,isTrue_or_nil→ak7,isTrue_plain→ak8,BoolOp_one→ak9,BoolOp_and→ala,BoolOp_or→alb,getItem_tuple→alj,truthy_tuple→alk,len_tuple→alm,list_addW→alq,slicePart_int→als,tupleItemsOf_→alu
open List.cons renaming inj→lw
open PySem.Obj renaming mapSeq→mh,mapFields→uI,putSet→uJ,cls_mapFields→Dv,data_mapFields→HU,putName→P5,isFreed_of_fields→P9,isFreed_of_dict→agz
open PySem.Heap.SameBut renaming update→pt
open PySem.Expr renaming casesOn→wU
open Int.ofNat renaming inj→w7
open PySem.Around renaming under_plainId→zT
open PySem.Txt renaming join→z8
open Classical renaming byContradiction→Dh,choose_spec→Qs,choose→ag9
open PySem.Builtin.Tuple renaming tupleHashOf→Dm,tupleItemsOf→Ql,tupleExact→alv
open Nat.succ renaming inj→DD
open PySem.F renaming slot_tuple_getitem→DG,slot_dict_get→Ic,entry_dict_get→Qn,slot_list_pop→Qw,args_dict_get_3→ag3,slot_dict_len→ag7,entry_list_pop→aha,slot_list_insert→ahe,entry_tuple_getitem→ahn,args_tuple_getitem_2→aho,plain_set_new→ah5,entry_set_init→ah7,slot_set_ne→aib,slot_set_iter→aig,plain_list_iadd→aim
open PySem.Code renaming builtin→HQ
open PySem.Builtin.SmallTypes renaming nextOf→HS
open ForInStep renaming yield→H0
open PySem.Builtin.Dict renaming missed→Ia,pendingKey?→alg,notOrdered→alh,pendingCount→ali
open PySem.Builtin.Slice renaming sliceAdjust→Ik,slicePlaces→ahj,sliceApplied→ahm,slicePartIndex→alr,sliceFields→alt
open PySem.SetTable renaming insertAt→Io,toList_insertAt→af6,fill→ahx
open List.Pairwise renaming map→Iz,imp_of_mem→af7,of_map→aja,filterMap→akx,imp→ald,filter→alf,sublist→al9
open PySem.PyData renaming list→IB,keyHash→P6,hasDictAll→QN,depthAll→QO,shownAll→Q2,shown→Q3,hasDict→aio,depth→aip
open PySem.Env renaming kindOf→PV
open PySem.Calls renaming loadGlobal_global→PW,loadGlobal_builtin→aga,call_function_entry→ahu
open PySem.Value.ref renaming inj→Qd
open And renaming intro→Qj
open PySem.Walks renaming list→QA
open PyProof.Rows.F renaming plain_set_update_loop→QC,entry_set_update_loop→ah3
open PySem.Shared renaming TypeIs→QE
open PySem.Builtin.Frozenset renaming quietEq→QI,slot1→aia,addrOf→aic,newClass→alw,updateFrom→alx,isAnySet→aly,sizeOf→alz,walkUnseen→al0,walk→al1,subsetOf→al2,unchanged→al3,slot0→al4
open Lean.Parser.Tactic renaming exact→afr,tacticSeq→akr,tacticSeq1Indented→aks,tacticRfl→aku
open Lean renaming Syntax→afs
open PySem.NameKind renaming cell→agb
open PySem.DictEntry renaming refKey→age
open PySem.Builtin.Range renaming rangeSize→agl,small→agm,rangeFitsLong→ale
open PySem.Builtin.List renaming listFitsIndex→ahd,listUpdate→aik,listLengthHint→ail,listExtendWith→ain,listItems→al5,listSameRef→al6,listTouch→al7,listSubscript?→al8
open PySem.Heap.IsSliceOf renaming new→ahp
open PySem.P renaming truthy_int→ahr
open PySem.List renaming filterMap_getElem?_range_length→ah1
open PySem.pickOrder renaming go→ah9
open Lean.Parser.Term renaming app→akt,hole→akv,basicFun→akw
open PySem.Builtin.SmallTypes.calledThroughType renaming match_1→alc
open PySem.MeetsSeq renaming list_pop_last→aln,list_pop_at→alo
open PySem.AutoSeq1 renaming list_insert_list_int_val_1→alp
open PySem PySem.W PyProof.Rows
set_option Elab.async false
set_option maxRecDepth 100000
set_option maxHeartbeats 8000000
set_option linter.unusedVariables false
namespace Mine.Internal
abbrev i0:=@decide_eq_false
abbrev sk:=@of_decide_eq_false
abbrev qF:=@beq_self_eq_true
abbrev mX:=@bne_self_eq_false
abbrev k9:=@beq_eq_false_iff_ne
abbrev mY:=@decide_eq_decide
abbrev ay:=@congrArg
abbrev aK:=@if_neg
abbrev aP:=@if_pos
abbrev bc:=@absurd
abbrev fC:=@of_decide_eq_true
abbrev eQ:=@decide_eq_true
abbrev h_:=@decide_eq_true_iff
abbrev eX:=@beq_iff_eq
open Lean in
def D7(k:Name)(a:Array Syntax):Syntax:=.node .none ``Lean.Parser.Tactic.tacticSeq #[.node .none ``Lean.Parser.Tactic.tacticSeq1Indented #[.node .none `null #[.node .none k a]]]
open Lean in
def bl:Syntax:=D7 ``Lean.Parser.Tactic.exact #[mkAtom "exact",.node .none ``Lean.Parser.Term.app #[mkIdent `Eq.refl,.node .none `null #[mkIdent `true]]]
open Lean in
def dI:Syntax:=D7 ``Lean.Parser.Tactic.tacticRfl #[mkAtom "rfl"]
open Lean in
def yp:Syntax:=.node .none ``Lean.Parser.Term.hole #[mkAtom "_"]
open Lean in
def Nk(a:Array Syntax):Syntax:=D7 ``Lean.Parser.Tactic.exact #[mkAtom "exact",.node .none ``Lean.Parser.Term.fun #[mkAtom "fun",.node .none ``Lean.Parser.Term.basicFun #[.node .none `null a,.node .none `null #[],mkAtom "=>",mkIdent `rfl]]]
def i8:afs:=Nk #[yp,yp]
def xR:afs:=Nk #[yp,yp,yp]
theorem aJ{n m:Nat}(h:wL n m=ab:=by with_unfolding_all exact Eq.refl ab):n≤m:=jG h
theorem bg{n m:Nat}(h:wL (n+1) m=ab:=by with_unfolding_all exact Eq.refl ab):n<m:=jG h
theorem bG{n m:Nat}(h:Nat.beq n m=an:=by with_unfolding_all exact Eq.refl an):n≠m:=Nat.ne_of_beq_eq_false h
theorem bQ{n:Nat}{l:List Nat}(h:l.elem n=ab:=by with_unfolding_all exact Eq.refl ab):n∈l:=List.mem_of_elem_eq_true h
theorem xD{x:Int}{k:Nat}(h:0<k):x % (k:Int)=((x % (k:Int)).toNat:Int):=(Int.toNat_of_nonneg (PL _ (afu.mpr (dG h)))).symm
theorem uY{x:Int}{k:Nat}(h:0<k):(x % (k:Int)).toNat<k:=(afv (PL _ (afu.mpr (dG h)))).mpr (afw _ (afx.mpr h))
theorem AI{j m n:Nat}(h:j+m=n)(l:j<n):m-1<m:=sn (oh λz=>fo n (bd (bF (by rw[←h,z];rfl)) l)) pf
theorem Ae{j m n:Nat}(h:j+m=n)(l:j<n):j+1+(m-1)=n:=by lia
theorem N8{j m n:Nat}(h:m+j=n)(l:j<n):m-1<m:=AI ((sp _ _).trans h) l
theorem Pt{j m n:Nat}(h:m+j=n)(l:j<n):m-1+(j+1)=n:=(sp _ _).trans (Ae ((sp _ _).trans h) l)
theorem Jr{n:Nat}(h:0<n):-(n:Int) <0:=Int.neg_neg_of_pos (afx.mpr h)
theorem JI{n:Nat}:¬-(n:Int) > 0:=qG.mpr (Int.neg_nonpos_of_nonneg (jq n))
theorem vU{n:Nat}(h:n<2^62):(n:Int) <2^63:=sv (b:=((2^62:Nat):Int)) (ib.mpr h) (by decide)
theorem Ms{n:Nat}(h:n<2^62):¬(n:Int)≥2^63:=Int.not_le.mpr (vU h)
theorem PB{a b c k:Nat}(x:a≤k)(y:b≤k)(z:c≤k):a+b+c≤k+k+k:=fp (fp x y) z
theorem Ki{m a b k:Nat}(h:m+a=k)(l:a<b)(e:b≤k):k-b<m:=by lia
theorem aW{p:Prop}[d:Decidable p](h:decide p=ab:=by with_unfolding_all exact Eq.refl ab):p:=fC h
open PySem in
theorem wb{α β:Type}{M:i2}{A:dZ}{E:Value→ak→Prop}{s:ak}{m:Sem α}{f:α→Sem β}{Q:β→ak→Prop}(h:aw M A m (λa=>aw M A (f a) Q E) E s):aw M A (m >>=f) Q E s:=wpAny_bind h
theorem n9{α:Sort u}{c:Prop}[d:Decidable c]{a b:α}{P:α→Prop}(h:c)(x:P a):P (if c then a else b):=(aP h).symm▸x
theorem nG{α:Sort u}{c:Prop}[d:Decidable c]{a b:α}{P:α→Prop}(h:¬c)(x:P b):P (if c then a else b):=(aK h).symm▸x
theorem AB{α:Sort u}{c:Prop}[d:Decidable c]{a b:α}{P:α→Prop}(h:c→P a)(h':¬c→P b):P (if c then a else b):=if z:c then n9 z (h z) else nG z (h' z)
theorem i_{α β:Type}[BEq α][LawfulBEq α]{p:α×β}{r:List (α×β)}{x:α}(e:x=p.1):(p::r).lookup x=aa p.2:=e▸afy
theorem gT{α β:Type}[BEq α][LawfulBEq α]{p:α×β}{r:List (α×β)}{x:α}(e:x≠p.1):(p::r).lookup x=r.lookup x:=by rw[k_,k9.mpr e]
@[elab_as_elim] theorem rwL{α:Sort u}{b:α}{motive:α→Prop}(x:motive b){a:α}(h:a=b):motive a:=h▸x
@[elab_as_elim] theorem Z0{α:Sort u}{b:α}{motive:α→Prop}(x:motive b){a:α}(h:b=a):motive a:=h▸x
theorem cF{p0:Prop}{p1:Prop}{p2:Prop}(eM:p0)(eU:p1)(fT:p2):p0∧p1∧p2:=⟨eM,eU,fT⟩
theorem A9{T0:Type}{p0:Prop}{p1:T0→Prop}(eM:p0)(v0:T0)(eU:p1 v0):p0∧∃v0,p1 v0:=⟨eM,v0,eU⟩
theorem aU{T0:Type}{p0:T0→Prop}{p1:T0→Prop}(v0:T0)(eM:p0 v0)(eU:p1 v0):∃v0,p0 v0∧p1 v0:=⟨v0,eM,eU⟩
theorem ud{T0 T1:Type}{p0:T0→T1→Prop}(v0:T0)(v1:T1)(eM:p0 v0 v1):∃v0,∃v1,p0 v0 v1:=⟨v0,v1,eM⟩
theorem oW{p0:Prop}{p1:Prop}{p2:Prop}{p3:Prop}(eM:p0)(eU:p1)(fT:p2)(ke:p3):p0∧p1∧p2∧p3:=⟨eM,eU,fT,ke⟩
theorem q9{T0:Type}{p0:Prop}{p1:T0→Prop}{p2:T0→Prop}(eM:p0)(v0:T0)(eU:p1 v0)(fT:p2 v0):p0∧∃v0,p1 v0∧p2 v0:=⟨eM,v0,eU,fT⟩
theorem cL{T0:Type}{p0:T0→Prop}{p1:T0→Prop}{p2:T0→Prop}(v0:T0)(eM:p0 v0)(eU:p1 v0)(fT:p2 v0):∃v0,p0 v0∧p1 v0∧p2 v0:=⟨v0,eM,eU,fT⟩
theorem yq{T0 T1:Type}{p0:T0→T1→Prop}{p1:T0→T1→Prop}(v0:T0)(v1:T1)(eM:p0 v0 v1)(eU:p1 v0 v1):∃v0,∃v1,p0 v0 v1∧p1 v0 v1:=⟨v0,v1,eM,eU⟩
theorem s9{p0:Prop}{p1:Prop}{p2:Prop}{p3:Prop}{p4:Prop}(eM:p0)(eU:p1)(fT:p2)(ke:p3)(qb:p4):p0∧p1∧p2∧p3∧p4:=⟨eM,eU,fT,ke,qb⟩
theorem ik{T0:Type}{p0:T0→Prop}{p1:T0→Prop}{p2:T0→Prop}{p3:T0→Prop}(v0:T0)(eM:p0 v0)(eU:p1 v0)(fT:p2 v0)(ke:p3 v0):∃v0,p0 v0∧p1 v0∧p2 v0∧p3 v0:=⟨v0,eM,eU,fT,ke⟩
theorem mr{T0 T1:Type}{p0:T0→T1→Prop}{p1:T0→T1→Prop}{p2:T0→T1→Prop}(v0:T0)(v1:T1)(eM:p0 v0 v1)(eU:p1 v0 v1)(fT:p2 v0 v1):∃v0,∃v1,p0 v0 v1∧p1 v0 v1∧p2 v0 v1:=⟨v0,v1,eM,eU,fT⟩
theorem nQ{T0 T1:Type}{p0:T0→Prop}{p1:T0→Prop}{p2:T0→T1→Prop}{p3:T0→T1→Prop}(v0:T0)(eM:p0 v0)(eU:p1 v0)(v1:T1)(fT:p2 v0 v1)(ke:p3 v0 v1):∃v0,p0 v0∧p1 v0∧∃v1,p2 v0 v1∧p3 v0 v1:=⟨v0,eM,eU,v1,fT,ke⟩
theorem yG{T0:Type}{p0:T0→Prop}{p1:T0→Prop}{p2:T0→Prop}{p3:T0→Prop}{p4:T0→Prop}{p5:T0→Prop}(v0:T0)(eM:p0 v0)(eU:p1 v0)(fT:p2 v0)(ke:p3 v0)(qb:p4 v0)(xt:p5 v0):∃v0,p0 v0∧p1 v0∧p2 v0∧p3 v0∧p4 v0∧p5 v0:=⟨v0,eM,eU,fT,ke,qb,xt⟩
theorem xy{T0 T1:Type}{p0:T0→Prop}{p1:T0→Prop}{p2:T0→Prop}{p3:T0→T1→Prop}{p4:T0→T1→Prop}(v0:T0)(eM:p0 v0)(eU:p1 v0)(fT:p2 v0)(v1:T1)(ke:p3 v0 v1)(qb:p4 v0 v1):∃v0,p0 v0∧p1 v0∧p2 v0∧∃v1,p3 v0 v1∧p4 v0 v1:=⟨v0,eM,eU,fT,v1,ke,qb⟩
theorem th{T0:Type}{p0:Prop}{p1:Prop}{p2:Prop}{p3:Prop}{p4:T0→Prop}{p5:T0→Prop}{p6:T0→Prop}(eM:p0)(eU:p1)(fT:p2)(ke:p3)(v0:T0)(qb:p4 v0)(xt:p5 v0)(hp6:p6 v0):p0∧p1∧p2∧p3∧∃v0,p4 v0∧p5 v0∧p6 v0:=⟨eM,eU,fT,ke,v0,qb,xt,hp6⟩
theorem t9{T0 T1:Type}{p0:Prop}{p1:T0→T1→Prop}{p2:T0→T1→Prop}{p3:T0→T1→Prop}{p4:T0→T1→Prop}{p5:T0→T1→Prop}(eM:p0)(v0:T0)(v1:T1)(eU:p1 v0 v1)(fT:p2 v0 v1)(ke:p3 v0 v1)(qb:p4 v0 v1)(xt:p5 v0 v1):p0∧∃v0,∃v1,p1 v0 v1∧p2 v0 v1∧p3 v0 v1∧p4 v0 v1∧p5 v0 v1:=⟨eM,v0,v1,eU,fT,ke,qb,xt⟩
structure Bx(p:Prop):Prop where
 run:p
@[elab_as_elim] theorem m4{α:Type}{a b c d x:α}{motive:α→Prop}(h:x∈[a,b,c,d])(ha:motive a)(hb:motive b)(hc:motive c)(hd:motive d):motive x:=
 (dE.mp h).elim (λe=>e▸ha) λh=>(dE.mp h).elim (λe=>e▸hb) λh=>(dE.mp h).elim (λe=>e▸hc) λh=>bS.mp h▸hd
theorem a7{α:Type}{a:α}{C:Prop}(h:af=aa a):C:=nomatch h
theorem fu{α:Type}{a:α}{C:Prop}(h:aa a=af):C:=nomatch h
theorem cM{C:Prop}(h:an=ab):C:=nomatch h
theorem iY{C:Prop}(h:ab=an):C:=nomatch h
theorem jz{α:Type}{a:α}{l:List α}{C:Prop}(h:a::l=[]):C:=nomatch h
theorem wy{α:Type}{a:α}{l:List α}{C:Prop}(h:[]=a::l):C:=nomatch h
theorem cS{α:Type}{a:α}{C:Prop}(h:a∈[]):C:=nomatch h
theorem xA{p0:Prop}{p1:Prop}{C:Prop}(h:p0∧p1)(k:p0→p1→C):C:=k h.1 h.2
theorem xE{T0:Type}{p0:T0→Prop}{C:Prop}(h:∃v0,p0 v0)(k:∀v0,p0 v0→C):C:=h.elim λv0 h1=>k v0 h1
theorem jF{p0:Prop}{p1:Prop}{p2:Prop}{C:Prop}(h:p0∧p1∧p2)(k:p0→p1→p2→C):C:=k h.1 h.2.1 h.2.2
theorem B3{T0:Type}{p0:Prop}{p1:T0→Prop}{C:Prop}(h:p0∧∃v0,p1 v0)(k:p0→∀v0,p1 v0→C):C:=h.2.elim λv0 h1=>k h.1 v0 h1
theorem aj{T0:Type}{p0:T0→Prop}{p1:T0→Prop}{C:Prop}(h:∃v0,p0 v0∧p1 v0)(k:∀v0,p0 v0→p1 v0→C):C:=h.elim λv0 h1=>k v0 h1.1 h1.2
theorem kc{T0 T1:Type}{p0:T0→T1→Prop}{C:Prop}(h:∃v0,∃v1,p0 v0 v1)(k:∀v0,∀v1,p0 v0 v1→C):C:=h.elim λv0 h1=>h1.elim λv1 h2=>k v0 v1 h2
theorem mv{p0:Prop}{p1:Prop}{p2:Prop}{p3:Prop}{C:Prop}(h:p0∧p1∧p2∧p3)(k:p0→p1→p2→p3→C):C:=k h.1 h.2.1 h.2.2.1 h.2.2.2
theorem mP{T0:Type}{p0:Prop}{p1:T0→Prop}{p2:T0→Prop}{C:Prop}(h:p0∧∃v0,p1 v0∧p2 v0)(k:p0→∀v0,p1 v0→p2 v0→C):C:=h.2.elim λv0 h1=>k h.1 v0 h1.1 h1.2
theorem bH{T0:Type}{p0:T0→Prop}{p1:T0→Prop}{p2:T0→Prop}{C:Prop}(h:∃v0,p0 v0∧p1 v0∧p2 v0)(k:∀v0,p0 v0→p1 v0→p2 v0→C):C:=h.elim λv0 h1=>k v0 h1.1 h1.2.1 h1.2.2
theorem ef{T0 T1:Type}{p0:T0→T1→Prop}{p1:T0→T1→Prop}{C:Prop}(h:∃v0,∃v1,p0 v0 v1∧p1 v0 v1)(k:∀v0,∀v1,p0 v0 v1→p1 v0 v1→C):C:=h.elim λv0 h1=>h1.elim λv1 h2=>k v0 v1 h2.1 h2.2
theorem uq{T0 T1 T2:Type}{p0:T0→T1→T2→Prop}{C:Prop}(h:∃v0,∃v1,∃v2,p0 v0 v1 v2)(k:∀v0,∀v1,∀v2,p0 v0 v1 v2→C):C:=h.elim λv0 h1=>h1.elim λv1 h2=>h2.elim λv2 h3=>k v0 v1 v2 h3
theorem x9{p0:Prop}{p1:Prop}{p2:Prop}{p3:Prop}{p4:Prop}{C:Prop}(h:p0∧p1∧p2∧p3∧p4)(k:p0→p1→p2→p3→p4→C):C:=k h.1 h.2.1 h.2.2.1 h.2.2.2.1 h.2.2.2.2
theorem Zy{T0:Type}{p0:Prop}{p1:Prop}{p2:T0→Prop}{p3:T0→Prop}{C:Prop}(h:p0∧p1∧∃v0,p2 v0∧p3 v0)(k:p0→p1→∀v0,p2 v0→p3 v0→C):C:=h.2.2.elim λv0 h1=>k h.1 h.2.1 v0 h1.1 h1.2
theorem yS{T0:Type}{p0:Prop}{p1:T0→Prop}{p2:T0→Prop}{p3:T0→Prop}{C:Prop}(h:p0∧∃v0,p1 v0∧p2 v0∧p3 v0)(k:p0→∀v0,p1 v0→p2 v0→p3 v0→C):C:=h.2.elim λv0 h1=>k h.1 v0 h1.1 h1.2.1 h1.2.2
theorem gU{T0:Type}{p0:T0→Prop}{p1:T0→Prop}{p2:T0→Prop}{p3:T0→Prop}{C:Prop}(h:∃v0,p0 v0∧p1 v0∧p2 v0∧p3 v0)(k:∀v0,p0 v0→p1 v0→p2 v0→p3 v0→C):C:=h.elim λv0 h1=>k v0 h1.1 h1.2.1 h1.2.2.1 h1.2.2.2
theorem zu{T0 T1:Type}{p0:T0→Prop}{p1:T0→Prop}{p2:T0→T1→Prop}{C:Prop}(h:∃v0,p0 v0∧p1 v0∧∃v1,p2 v0 v1)(k:∀v0,p0 v0→p1 v0→∀v1,p2 v0 v1→C):C:=h.elim λv0 h1=>h1.2.2.elim λv1 h2=>k v0 h1.1 h1.2.1 v1 h2
theorem bP{T0 T1:Type}{p0:T0→T1→Prop}{p1:T0→T1→Prop}{p2:T0→T1→Prop}{C:Prop}(h:∃v0,∃v1,p0 v0 v1∧p1 v0 v1∧p2 v0 v1)(k:∀v0,∀v1,p0 v0 v1→p1 v0 v1→p2 v0 v1→C):C:=h.elim λv0 h1=>h1.elim λv1 h2=>k v0 v1 h2.1 h2.2.1 h2.2.2
theorem GV{p0:Prop}{p1:Prop}{p2:Prop}{p3:Prop}{p4:Prop}{p5:Prop}{C:Prop}(h:p0∧p1∧p2∧p3∧p4∧p5)(k:p0→p1→p2→p3→p4→p5→C):C:=k h.1 h.2.1 h.2.2.1 h.2.2.2.1 h.2.2.2.2.1 h.2.2.2.2.2
theorem jC{T0:Type}{p0:T0→Prop}{p1:T0→Prop}{p2:T0→Prop}{p3:T0→Prop}{p4:T0→Prop}{C:Prop}(h:∃v0,p0 v0∧p1 v0∧p2 v0∧p3 v0∧p4 v0)(k:∀v0,p0 v0→p1 v0→p2 v0→p3 v0→p4 v0→C):C:=h.elim λv0 h1=>k v0 h1.1 h1.2.1 h1.2.2.1 h1.2.2.2.1 h1.2.2.2.2
theorem gO{T0 T1:Type}{p0:T0→T1→Prop}{p1:T0→T1→Prop}{p2:T0→T1→Prop}{p3:T0→T1→Prop}{C:Prop}(h:∃v0,∃v1,p0 v0 v1∧p1 v0 v1∧p2 v0 v1∧p3 v0 v1)(k:∀v0,∀v1,p0 v0 v1→p1 v0 v1→p2 v0 v1→p3 v0 v1→C):C:=h.elim λv0 h1=>h1.elim λv1 h2=>k v0 v1 h2.1 h2.2.1 h2.2.2.1 h2.2.2.2
theorem Hh{T0 T1 T2:Type}{p0:T0→T1→T2→Prop}{p1:T0→T1→T2→Prop}{p2:T0→T1→T2→Prop}{C:Prop}(h:∃v0,∃v1,∃v2,p0 v0 v1 v2∧p1 v0 v1 v2∧p2 v0 v1 v2)(k:∀v0,∀v1,∀v2,p0 v0 v1 v2→p1 v0 v1 v2→p2 v0 v1 v2→C):C:=h.elim λv0 h1=>h1.elim λv1 h2=>h2.elim λv2 h3=>k v0 v1 v2 h3.1 h3.2.1 h3.2.2
theorem oK{T0 T1 T2 T3:Type}{p0:T0→T1→T2→T3→Prop}{p1:T0→T1→T2→T3→Prop}{C:Prop}(h:∃v0,∃v1,∃v2,∃v3,p0 v0 v1 v2 v3∧p1 v0 v1 v2 v3)(k:∀v0,∀v1,∀v2,∀v3,p0 v0 v1 v2 v3→p1 v0 v1 v2 v3→C):C:=h.elim λv0 h1=>h1.elim λv1 h2=>h2.elim λv2 h3=>h3.elim λv3 h4=>k v0 v1 v2 v3 h4.1 h4.2
theorem Bl{T0:Type}{p0:Prop}{p1:Prop}{p2:Prop}{p3:Prop}{p4:T0→Prop}{p5:T0→Prop}{C:Prop}(h:p0∧p1∧p2∧p3∧∃v0,p4 v0∧p5 v0)(k:p0→p1→p2→p3→∀v0,p4 v0→p5 v0→C):C:=h.2.2.2.2.elim λv0 h1=>k h.1 h.2.1 h.2.2.1 h.2.2.2.1 v0 h1.1 h1.2
theorem vA{T0 T1:Type}{p0:Prop}{p1:T0→T1→Prop}{p2:T0→T1→Prop}{p3:T0→T1→Prop}{p4:T0→T1→Prop}{C:Prop}(h:p0∧∃v0,∃v1,p1 v0 v1∧p2 v0 v1∧p3 v0 v1∧p4 v0 v1)(k:p0→∀v0,∀v1,p1 v0 v1→p2 v0 v1→p3 v0 v1→p4 v0 v1→C):C:=h.2.elim λv0 h1=>h1.elim λv1 h2=>k h.1 v0 v1 h2.1 h2.2.1 h2.2.2.1 h2.2.2.2
theorem PC{T0:Type}{p0:T0→Prop}{p1:T0→Prop}{p2:T0→Prop}{p3:T0→Prop}{p4:T0→Prop}{p5:T0→Prop}{C:Prop}(h:∃v0,p0 v0∧p1 v0∧p2 v0∧p3 v0∧p4 v0∧p5 v0)(k:∀v0,p0 v0→p1 v0→p2 v0→p3 v0→p4 v0→p5 v0→C):C:=h.elim λv0 h1=>k v0 h1.1 h1.2.1 h1.2.2.1 h1.2.2.2.1 h1.2.2.2.2.1 h1.2.2.2.2.2
theorem xT{T0 T1:Type}{p0:T0→Prop}{p1:T0→Prop}{p2:T0→Prop}{p3:T0→T1→Prop}{p4:T0→T1→Prop}{C:Prop}(h:∃v0,p0 v0∧p1 v0∧p2 v0∧∃v1,p3 v0 v1∧p4 v0 v1)(k:∀v0,p0 v0→p1 v0→p2 v0→∀v1,p3 v0 v1→p4 v0 v1→C):C:=h.elim λv0 h1=>h1.2.2.2.elim λv1 h2=>k v0 h1.1 h1.2.1 h1.2.2.1 v1 h2.1 h2.2
theorem Λ{T0 T1:Type}{p0:T0→Prop}{p1:T0→T1→Prop}{p2:T0→T1→Prop}{p3:T0→T1→Prop}{p4:T0→T1→Prop}{C:Prop}(h:∃v0,p0 v0∧∃v1,p1 v0 v1∧p2 v0 v1∧p3 v0 v1∧p4 v0 v1)(k:∀v0,p0 v0→∀v1,p1 v0 v1→p2 v0 v1→p3 v0 v1→p4 v0 v1→C):C:=h.elim λv0 h1=>h1.2.elim λv1 h2=>k v0 h1.1 v1 h2.1 h2.2.1 h2.2.2.1 h2.2.2.2
theorem tw{T0 T1:Type}{p0:T0→T1→Prop}{p1:T0→T1→Prop}{p2:T0→T1→Prop}{p3:T0→T1→Prop}{p4:T0→T1→Prop}{C:Prop}(h:∃v0,∃v1,p0 v0 v1∧p1 v0 v1∧p2 v0 v1∧p3 v0 v1∧p4 v0 v1)(k:∀v0,∀v1,p0 v0 v1→p1 v0 v1→p2 v0 v1→p3 v0 v1→p4 v0 v1→C):C:=h.elim λv0 h1=>h1.elim λv1 h2=>k v0 v1 h2.1 h2.2.1 h2.2.2.1 h2.2.2.2.1 h2.2.2.2.2
theorem OK{T0 T1:Type}{p0:T0→Prop}{p1:T0→Prop}{p2:T0→T1→Prop}{p3:T0→T1→Prop}{p4:T0→T1→Prop}{p5:T0→T1→Prop}{C:Prop}(h:∃v0,p0 v0∧p1 v0∧∃v1,p2 v0 v1∧p3 v0 v1∧p4 v0 v1∧p5 v0 v1)(k:∀v0,p0 v0→p1 v0→∀v1,p2 v0 v1→p3 v0 v1→p4 v0 v1→p5 v0 v1→C):C:=h.elim λv0 h1=>h1.2.2.elim λv1 h2=>k v0 h1.1 h1.2.1 v1 h2.1 h2.2.1 h2.2.2.1 h2.2.2.2
theorem Ju{T0 T1 T2:Type}{p0:T0→T1→Prop}{p1:T0→T1→Prop}{p2:T0→T1→Prop}{p3:T0→T1→T2→Prop}{p4:T0→T1→T2→Prop}{C:Prop}(h:∃v0,∃v1,p0 v0 v1∧p1 v0 v1∧p2 v0 v1∧∃v2,p3 v0 v1 v2∧p4 v0 v1 v2)(k:∀v0,∀v1,p0 v0 v1→p1 v0 v1→p2 v0 v1→∀v2,p3 v0 v1 v2→p4 v0 v1 v2→C):C:=h.elim λv0 h1=>h1.elim λv1 h2=>h2.2.2.2.elim λv2 h3=>k v0 v1 h2.1 h2.2.1 h2.2.2.1 v2 h3.1 h3.2
set_option bootstrap.genMatcherCode false
set_option genSizeOf false
set_option genInjectivity false
local macro_rules |`(tactic|show $t)=>`(tactic|first
 |refine(?_:$t)
 |change $t)
local macro_rules |`(tactic|rewrite[$e:term])=>`(tactic|first
 |with_reducible refine Mine.Internal.rwL ?_ $e
 |rewrite[$e:term] at ⊢)
local macro_rules |`(tactic|rewrite[←$e:term])=>`(tactic|first
 |with_reducible refine Mine.Internal.Z0 ?_ $e
 |rewrite[←$e:term] at ⊢)
local macro_rules |`(tactic|rw[$r:rwRule])=>`(tactic|(rewrite[$r];with_reducible try rfl))
local macro_rules |`(tactic|rw[$r:rwRule,$rs:rwRule,*])=>`(tactic|(rewrite[$r];rw[$rs,*]))
section
open SetTable
def np(xs:List Nat):Prop:=xs.Pairwise (· < ·)
theorem np.lt{xs:Array Nat}(hr:np xs.toList){i k u v:Nat}(hu:xs[i]? =aa u)(hv:xs[k]? =aa v)(h:i<k):u<v:=
 (oi.mp hu).elim λa e=>(oi.mp hv).elim λc e'=>e▸e'▸PM.mp hr i k a c h
structure rz(xs:Array Nat)(j r:Nat):Prop where
 le:r≤xs.size
 lo:∀(i v:Nat),xs[i]? =aa v→i<r→v<j
 hi:∀(i v:Nat),xs[i]? =aa v→r≤i→j≤v
theorem U5{xs:Array Nat}{j:Nat}(hr:np xs.toList)(fuel:Nat):∀{lo hi:Nat},hi≤lo+fuel→lo≤xs.size→hi≤xs.size→
  (∀(i v:Nat),xs[i]? =aa v→i<lo→v<j)→(∀(i v:Nat),xs[i]? =aa v→hi≤i→j≤v)→rz xs j (below.go xs j fuel lo hi):=by
 induction fuel with
 |zero=>exact λ{lo hi} h h1 _ a b=>⟨h1,a,λi v e hi=>b i v e (ah h hi)⟩
 |succ fuel ih=>
  intro lo hi h h1 h2 a b;refine if hl:lo<hi then n9 (P:=rz xs j) hl ?_ else nG (P:=rz xs j) hl ⟨h1,a,λi v e hi=>b i v e (ah (pg hl) hi)⟩
  have m1:(lo+hi) / 2<hi:=afz (Nat.two_mul hi▸De hl hi);have m3:=bI m1 h2;have hg:xs[(lo+hi) / 2]? =aa (xs.getD ((lo+hi) / 2) j):=(jr m3).trans (ay aa (dif_pos m3).symm);exact if q:xs.getD ((lo+hi) / 2) j<j then n9 (P:=rz xs j) q (ih (ah h (ah (eG (oj ((af0 wM).mpr (Nat.mul_two lo▸e6 (cj hl) lo):lo≤(lo+hi) / 2) fuel)) (bF (wN _ _).symm))) m3 h2 (λi v e z=>(zI (eS z)).elim (λy=>i4 (hr.lt e hg y) q) λy=>aY (e.symm.trans ((ay (λk:Nat=>xs[k]?) y).trans hg))▸q) b)
   else nG (P:=rz xs j) q (ih (eS (bI m1 h)) h1 (cj m3) a λi v e z=>ah (pg q) ((zI z).elim (λy=>cj (hr.lt hg e y)) λy=>bF (aY (hg.symm.trans ((ay (λk:Nat=>xs[k]?) y).trans e)))))
theorem Bm{xs:Array Nat}(j:Nat)(hr:np xs.toList):rz xs j (below xs j):=
 U5 hr xs.size (bF (mZ _).symm) (b_ _) (ar _) (λi v _ h=>bc h (m5 i)) λi v hv h=>bc (oi.mp hv).1 (ma h)
theorem rz.at{xs:Array Nat}{i j r:Nat}(B:rz xs j r)(hr:np xs.toList)(h:xs[i]? =aa j):r=i:=by
 rcases HD i r with q|q|q
 ·exact bc (B.lo i j h q) (fo j)
 ·exact q.symm
 ·have g:=jr (i4 q (oi.mp h).1)
  exact bc (hr.lt g h q) (ma (B.hi r _ g (ar r)))
theorem KG{t:c9}{j i:Nat}(hr:np t.place.toList)(h:t.place[i]? =aa j):t.slot j=.live i:=
 have e:=(Bm j hr).at hr h
 (aP (by rw[e,h];exact qF _):t.slot j=_).trans (ay Slot.live e)
theorem RM{t:c9}{j:Nat}(hr:np t.place.toList)(hd:t.dummies=#[])(h:∀i:Nat,t.place[i]? ≠aa j):t.slot j=.empty:=
 (aK λe=>h _ (eq_of_beq e):t.slot j=_).trans (aK (by rw[hd];exact iD))
noncomputable def qx(mask:Nat)(p:Probe):Probe:=advance {fresh 0 0 ab with mask} p
noncomputable def bn(mask:Nat)(h:Int):Nat→Probe
 |0=>probeStart {fresh 0 0 ab with mask} h
 |k+1=>qx mask (bn mask h k)
noncomputable def dQ(mask:Nat)(h:Int):Nat→Nat×Nat
 |0=>(bits h % (mask+1),bits h)
 |k+1=>leap mask (dQ mask h k).1 (dQ mask h k).2
noncomputable def rl(mask:Nat)(h:Int)(k:Nat):Nat:=runEnd mask (dQ mask h k).1- (dQ mask h k).1
noncomputable def Ak(mask:Nat)(h:Int)(k:Nat):Probe:={j:=(dQ mask h k).1,more:=rl mask h k,i:=(dQ mask h k).1,perturb:=(dQ mask h k).2,dummy:=af}
theorem LU(mask i:Nat):i≤runEnd mask i:=if h:i+9≤mask then n9 (P:=(i≤·)) h (b6 i 9) else nG (P:=(i≤·)) h (ar i)
theorem adh{mask i:Nat}(hi:i≤mask):runEnd mask i≤mask:=if h:i+9≤mask then n9 (P:=(· ≤mask)) h h else nG (P:=(· ≤mask)) h hi
theorem Zu(mask i:Nat):runEnd mask i-i≤9:=if h:i+9≤mask then n9 (P:=(· - i≤9)) h (bF (Df i 9)) else nG (P:=(· - i≤9)) h ((zJ i).symm▸b_ 9)
theorem Hp{mask i:Nat}(hi:i≤mask):i+(runEnd mask i-i)≤mask:=ah (bF (uv (LU mask i))) (adh hi)
theorem MG{mask:Nat}{p:Probe}(h:p.more > 0):qx mask p={p with j:=p.j+1,more:=p.more-1}:=aP h
theorem UO{mask:Nat}{h:Int}{k:Nat}{p:Probe}(h0:p.more=0)(hi:p.i=(dQ mask h k).1)(hp:p.perturb=(dQ mask h k).2)(hd:p.dummy=af):qx mask p=Ak mask h (k+1):=by
 refine(aK λz=>dG z h0:qx mask p=_).trans ?_;rw[hi,hp];show Probe.mk _ _ _ _ p.dummy=_;rw[hd];rfl
noncomputable def rs(mask:Nat)(h:Int):Nat→Nat
 |0=>0
 |k+1=>rs mask h k+rl mask h k+1
theorem UQ(mask:Nat)(h:Int)(k:Nat):rs mask h k≤10*k:=by
 induction k with
 |zero=>exact ar _
 |succ k ih=>exact eG (fp ih (Zu _ _))
theorem L7{mask:Nat}{h:Int}{k n:Nat}(hn:bn mask h n=Ak mask h k)(d:Nat):d≤rl mask h k→bn mask h (n+d)={Ak mask h k with j:=(dQ mask h k).1+d,more:=rl mask h k-d}:=by
 induction d with
 |zero=>exact λ_=>hn
 |succ d ih=>exact λhd=>(ay (qx mask) (ih (gg hd))).trans (MG (af1 hd))
theorem KO(mask:Nat)(h:Int)(k:Nat):bn mask h (rs mask h k)=Ak mask h k:=by
 induction k with
 |zero=>rfl
 |succ k ih=>exact(ay (qx mask) (L7 ih _ (ar _))).trans (UO (zJ _) rfl rfl rfl)
theorem Ge(mask:Nat)(h:Int)(k d:Nat)(hd:d≤rl mask h k):(bn mask h (rs mask h k+d)).j=(dQ mask h k).1+d:=ay Probe.j (L7 (KO mask h k) d hd)
noncomputable def vD(m:Nat)(c a:Nat):Nat:=match c with
 |0=>a
 |c+1=>(vD m c a*5+1) % m
theorem ae6:∀a<7+1,∀q<7+1,∃c<7+1,vD (7+1) c a=q:=by decide +kernel
noncomputable def aat:Bool:=(bo 32).all λa=>(bo 32).all λq=>((bo 32).map λc=>vD 32 c a).contains q
theorem Rl:∀a<31+1,∀q<31+1,∃c<31+1,vD (31+1) c a=q:=λa ha q hq=>by
 have:aat=ab:=by decide +kernel
 exact aj (bB.mp (e9.mp (dc.mp (dc.mp this a (dR.mpr ha)) q (dR.mpr hq)))) λc hc e=>⟨c,dR.mp hc,e⟩
theorem Tr(h:Int):bits h<2^64:=(afv (PL _ aW)).mpr (afw _ aW)
theorem V7(mask:Nat)(h:Int)(k:Nat):(dQ mask h k).2=bits h / 32^k:=by
 induction k with
 |zero=>exact(Nat.div_one _).symm
 |succ k ih=>exact(ay (· / 32) ih).trans (Nat.div_div_eq_div_mul _ _ _)
theorem aa5(mask:Nat)(h:Int)(c:Nat):(dQ mask h (13+c)).2=0:=
 (V7 mask h (13+c)).trans (Nat.div_eq_of_lt (bI (Tr h) (ah (aJ:2^64≤32^13) (Nat.pow_le_pow_right bg (b6 13 c)))))
theorem ED(mask:Nat)(h:Int)(k:Nat):(dQ mask h k).1<mask+1:=by
 cases k with
 |zero=>exact Dg _ (dK _)
 |succ k=>exact Dg _ (dK _)
theorem U0(mask:Nat)(h:Int)(c:Nat):(dQ mask h (13+c)).1=vD (mask+1) c (dQ mask h 13).1:=by
 induction c with
 |zero=>rfl
 |succ c ih=>
  show((dQ mask h (13+c)).1*5+1+(dQ mask h (13+c)).2 / 32) % (mask+1)=_;rw[aa5 _ _ _,ih];rfl
theorem LK{mask:Nat}(hm:mask=7∨mask=31)(h:Int){q:Nat}(hq:q≤mask):∃k,k<turns mask∧(dQ mask h k).1=q:=aj ((hm.elim (λe=>e▸ae6) λe=>e▸Rl:∀a<mask+1,∀q<mask+1,∃c<mask+1,vD (mask+1) c a=q) _ (ED mask h 13) q (lb hq)) λc hc e=>⟨13+c,i4 (af2 hc 13) (sp 13 _▸dq _),(U0 mask h c).trans e⟩
theorem Xj{mask:Nat}(hm:mask=7∨mask=31)(h:Int){q:Nat}(hq:q≤mask):∃n,n<10*turns mask∧(bn mask h n).j=q:=
 aj (LK hm h hq) λk hk e=>⟨rs mask h k,bd (UQ mask h k) (Nat.mul_lt_mul_of_pos_left hk bg),(ay Probe.j (KO mask h k)).trans e⟩
theorem Mp(mask:Nat)(h:Int)(n:Nat):(bn mask h n).dummy=af∧(bn mask h n).j+(bn mask h n).more≤mask:=by
 induction n with
 |zero=>exact⟨rfl,Hp (eS (ED mask h 0))⟩
 |succ n ih=>
  show(qx mask (bn mask h n)).dummy=af∧(qx mask (bn mask h n)).j+(qx mask (bn mask h n)).more≤mask;exact if hm:(bn mask h n).more > 0 then(MG hm).symm▸⟨ih.1,ah (bF ((af3 _ 1 _).trans (ay _ (uv hm)))) ih.2⟩
   else nG (P:=λp:Probe=>p.dummy=af∧p.j+p.more≤mask) hm ⟨ih.1,Hp (eS (Dg _ (dK _)))⟩
structure oH(t:c9)(hs:List Int):Prop where
 len:t.place.toList.length=hs.length
 rise:np t.place.toList
 BM:t.dummies=#[]
 mask:t.mask=7∨t.mask=31
 le:∀p∈t.place.toList,p≤t.mask
 path:∀(i:Nat) h,hs[i]? =aa h→∃n,t.place.toList[i]? =aa (bn t.mask h n).j∧∀n',n'<n→(bn t.mask h n').j∈t.place.toList
def f_(t:c9)(hs:List Int):Prop:=oH t hs∧hs.length*5<t.mask*3
theorem aan{t:c9}{hs:List Int}(c7:t.place.toList.length=hs.length)(room:hs.length*5<t.mask*3)(rise:np t.place.toList):∃q,q≤t.mask∧q∉t.place.toList:=
 Dh λhn=>by
  have sub:=fO HE (l₁:=bo (t.mask+1)) (l₂:=t.place.toList) λq hq=>Dh λfR=>hn ⟨q,eS (dR.mp hq),fR⟩;rw[dS,c7] at sub;exact fo _ (bI room (af4 (gg sub) aJ))
theorem f_.adn{t:c9}{hs:List Int}(T:f_ t hs)(h:Int):∃n,n<10*turns t.mask∧(bn t.mask h n).j∉t.place.toList:=
 aj (aan T.1.len T.2 T.1.rise) λq hq hf=>aj (Xj T.1.mask h hq) λn hn e=>⟨n,hn,e.symm▸hf⟩
noncomputable def NJ(t:c9)(hashAt:Nat→Int)(h:Int)(fuel:Nat)(p:Probe)(o:Slot):Option Met:=match o with
 |.empty=>aa (.empty p.j p.dummy)
 |.dummy=>probe.go t hashAt h fuel (t.advance {p with dummy:=aa p.j})
 |.live i=>if hashAt i==h then aa (.candidate p.j i (t.advance p)) else probe.go t hashAt h fuel (t.advance p)
theorem OT{t:c9}{hashAt:Nat→Int}{h:Int}{fuel:Nat}{p:Probe}{o:Slot}(hs:t.slot p.j=o):probe.go t hashAt h (fuel+1) p=NJ t hashAt h fuel p o:=ay (NJ t hashAt h fuel p) hs
theorem Δ{t:c9}{hs:List Int}(T:oH t hs)(hashAt:Nat→Int)(h:Int){I:Nat→Prop}(st:∀n i,I n→t.place.toList[i]? =aa (bn t.mask h n).j→hashAt i≠h→I (n+1)){N:Nat}(hN:(bn t.mask h N).j∉t.place.toList){C:Prop}(fuel:Nat):
  ∀(k:Nat),k≤N→N<k+fuel→I k→(∀n,I n→probe.go t hashAt h fuel (bn t.mask h k)=aa (.empty (bn t.mask h n).j af)→(bn t.mask h n).j∉t.place.toList→C)→
  (∀n i,I n→probe.go t hashAt h fuel (bn t.mask h k)=aa (.candidate (bn t.mask h n).j i (bn t.mask h (n+1)))→t.place.toList[i]? =aa (bn t.mask h n).j→hashAt i=h→C)→C:=by
 induction fuel with
 |zero=>exact λk h1 h2 _ _ _=>bc h2 (js.mpr h1)
 |succ fuel ih=>
  intro k h1 h2 hI k1 k2
  by_cases hk:(bn t.mask h k).j∈t.place.toList
  ·refine xE (qH.mp hk) λi hi=>?_
   have e:=OT (fuel:=fuel) (hashAt:=hashAt) (h:=h) (KG T.rise (jt.symm.trans hi))
   by_cases hh:hashAt i=h
   ·exact k2 k i hI (e.trans (aP (eX.mpr hh))) hi hh
   ·have e':=e.trans (aK λq=>hh (eq_of_beq q))
    exact ih (k+1) (wO h1 λq=>hN (q▸hk)) (wN k fuel▸h2) (st k i hI hi hh) (λn a c=>k1 n a (e'.trans c)) λn i a c=>k2 n i a (e'.trans c)
  ·exact k1 k hI ((OT (RM T.rise T.BM λi hi=>hk (qH.mpr ⟨i,jt.trans hi⟩))).trans (ay (λd=>aa (Met.empty _ d)) (Mp t.mask h k).1)) hk
end
section
open SetTable
noncomputable def kJ{α:Type}(l:List α)(p:Nat)(x:α):List α:=l.take p++x::l.drop p
theorem ON{α:Type}(l:List α)(p:Nat)(x:α)(hp:p≤l.length)(i:Nat):(kJ l p x)[i]? =if i<p then l[i]? else if i=p then aa x else l[i-1]? :=by
 unfold kJ;rw[List.getElem?_append,jH,sA hp];refine if h:i<p then(aP h).trans ((af5 h).trans (aP h).symm) else(aK h).trans (Eq.trans ?_ (aK h).symm)
 rcases wP (pg h) with e|e
 ·rw[←e,zJ _,aP rfl];rfl
 ·obtain⟨d,rfl⟩:=Nat.exists_eq_add_of_lt e
  rw[aK (dG e),show p+d+1-p=d+1 from Df p (d+1)];exact PN
theorem AW{α:Type}{l:List α}{p:Nat}{x y:α}:y∈kJ l p x↔y=x∨y∈l:=
 ((dw.trans (or_congr_right dE)).trans or_left_comm).trans (or_congr_right (dw.symm.trans (iff_of_eq (ay (y∈·) (PO p l)))))
theorem FL{α:Type}(l:List α)(p:Nat)(x:α):(kJ l p x).length=l.length+1:=
 cU.trans (ay HF (cU.symm.trans (ay oq (PO p l))))
theorem Su{t:c9}{hs:List Int}(T:oH t hs){h:Int}{n:Nat}(hf:(bn t.mask h n).j∉t.place.toList)(hb:∀n',n'<n→(bn t.mask h n').j∈t.place.toList)(pl:Bool):
  below t.place (bn t.mask h n).j≤hs.length∧(t.put (bn t.mask h n).j).2=below t.place (bn t.mask h n).j∧(t.put (bn t.mask h n).j).1.mask=t.mask∧
  oH {(t.put (bn t.mask h n).j).1 with plain:=pl} (kJ hs (below t.place (bn t.mask h n).j) h):=by
 have B:=Bm (xs:=t.place) (bn t.mask h n).j T.rise;have p9:(t.put (bn t.mask h n).j).1.place.toList=kJ t.place.toList (below t.place (bn t.mask h n).j) (bn t.mask h n).j:=af6 _ _ _;have bV:below t.place (bn t.mask h n).j≤t.place.toList.length:=B.le;have hp:=ah bV (bF T.len);have hd:(if has t.dummies (bn t.mask h n).j then eraseAt t.dummies (below t.dummies (bn t.mask h n).j) else t.dummies)=#[]:=by rw[T.BM];rfl
 refine oW hp rfl rfl ⟨(ay oq p9).trans ((FL _ _ _).trans ((ay HF T.len).trans (FL _ _ _).symm)),p9.symm▸?_,hd,T.mask,?_,?_⟩
 ·have at_:∀v∈t.place.toList.drop (below t.place (bn t.mask h n).j),(bn t.mask h n).j<v:=λv hv=>xE (qH.mp hv) λi hi=>
   have hi:=PN.symm.trans hi
   wO (B.hi _ v (jt.symm.trans hi) (b6 _ _)) λe=>hf (e▸bN hi)
  have Pl:∀v∈t.place.toList.take (below t.place (bn t.mask h n).j),v< (bn t.mask h n).j:=λv hv=>xE (qH.mp hv) λi hi=>
   have hlt:=bI (cV.mp hi).1 (List.length_take_le _ _)
   B.lo i v (jt.symm.trans ((af5 hlt).symm.trans hi)) hlt
  exact List.pairwise_append.mpr ⟨T.rise.sublist (HG _ _),List.pairwise_cons.mpr ⟨at_,T.rise.sublist (List.drop_sublist _ _)⟩,λa ha b hb=>(dE.mp hb).elim (λe=>e▸Pl a ha) λhb=>i4 (Pl a ha) (at_ b hb)⟩
 ·intro p hp
  replace hp:p∈(t.put (bn t.mask h n).j).1.place.toList:=hp
  rw[p9] at hp;exact(AW.mp hp).elim (λe=>ah (bF e) (ah (b6 _ _) (Mp t.mask h n).2)) (T.le p)
 ·intro i h' hi
  show ∃n',(t.put _).1.place.toList[i]? =aa (bn t.mask h' n').j∧∀o7,o7<n'→(bn t.mask h' o7).j∈(t.put _).1.place.toList;rw[p9];have g:=ON t.place.toList _ (bn t.mask h n).j bV i
  replace hi:=(ON hs _ h hp i).symm.trans hi
  by_cases h1:i<below t.place (bn t.mask h n).j
  ·exact aj (T.path i h' ((aP h1).symm.trans hi)) λn' q1 q2=>⟨n',g.trans ((aP h1).trans q1),λo7 hn=>AW.mpr (.inr (q2 o7 hn))⟩
  ·replace hi:=(aK h1).symm.trans hi
   replace g:=g.trans (aK h1)
   by_cases h2:i=below t.place (bn t.mask h n).j
   ·exact aY ((aP h2).symm.trans hi)▸⟨n,g.trans (aP h2),λo7 hn=>AW.mpr (.inr (hb o7 hn))⟩
   ·exact aj (T.path (i-1) h' ((aK h2).symm.trans hi)) λn' q1 q2=>⟨n',g.trans ((aK h2).trans q1),λo7 hn=>AW.mpr (.inr (q2 o7 hn))⟩
structure mR(mask:Nat)(owner:Array (Option Nat))(done:List Int):Prop where
 size:owner.size=mask+1
 at_:∀(j i:Nat),owner[j]? =aa (aa i)→∃h n,done[i]? =aa h∧(bn mask h n).j=j∧∀n',n'<n→∃i',owner[(bn mask h n').j]? =aa (aa i')
 all:∀(i:Nat),i<done.length→∃j:Nat,owner[j]? =aa (aa i)
 inj:∀(j j' i:Nat),owner[j]? =aa (aa i)→owner[j']? =aa (aa i)→j=j'
theorem mR.lt{mask:Nat}{owner:Array (Option Nat)}{done:List Int}(O:mR mask owner done){j i:Nat}(h:owner[j]? =aa (aa i)):i<done.length:=ef (O.at_ j i h) λ_ _ e _=>(cV.mp e).1
theorem mR.Sh{mask:Nat}{owner:Array (Option Nat)}{done:List Int}(O:mR mask owner done)(hk:done.length≤mask):∃q,q≤mask∧owner[q]? =aa af:=by
 refine Dh λhn=>?_;have all:∀q,q∈bo (mask+1)→∃i,owner[q]? =aa (aa i):=λq hq=>by
  have hq:=dR.mp hq;have g:=jr (O.size.symm▸hq:q<owner.size)
  cases e:owner[q]'(O.size.symm▸hq) with
  |none=>exact bc ⟨q,eS hq,e▸g⟩ hn
  |some i=>exact⟨i,e▸g⟩
 have f:∀{q i:Nat},owner[q]? =aa (aa i)→((owner[q]?).getD af).getD 0=i:=λe=>ay (λo:Option (Option Nat)=>(o.getD af).getD 0) e;have sub:=fO (l₁:=(bo (mask+1)).map λq=>((owner[q]?).getD af).getD 0) (l₂:=bo done.length)
  (wQ.mpr (af7 (λ{a b} ha hb hab e=>xE (all a ha) λi e1=>xE (all b hb) λi' e2=>du hab (O.inj a b i e1 (((f e1).symm.trans (e.trans (f e2)))▸e2))) (af8 (n:=mask+1))))
  λx hx=>aj (bB.mp hx) λq hq e=>xE (all q hq) λi e1=>e▸(f e1).symm▸dR.mpr (O.lt e1)
 rw[aI,dS,dS] at sub;exact fo _ (bI sub hk)
theorem M9{P:Nat→Prop}{a d:Nat}(h1:∀n,n<a→P n)(h2:∀x,x<d→P (a+x))(n:Nat)(hn:n<a+d):P n:=
 if h:n<a then h1 n h else uv (pg h)▸h2 _ (Nat.sub_lt_left_of_lt_add (pg h) hn)
theorem acj{mask:Nat}{owner:Array (Option Nat)}{h:Int}(hsz:owner.size=mask+1){C:Prop}(fuel:Nat):∀(r:Nat) {r':Nat},r≤r'→r'<r+fuel→owner[(dQ mask h r').1]? =aa af→
  (∀n',n'<rs mask h r→∃i,owner[(bn mask h n').j]? =aa (aa i))→
  (∀n,layClean.free mask owner fuel (dQ mask h r).1 (dQ mask h r).2=aa (bn mask h n).j→owner[(bn mask h n).j]? =aa af→(∀n',n'<n→∃i,owner[(bn mask h n').j]? =aa (aa i))→C)→C:=by
 induction fuel with
 |zero=>exact λr r' h1 h2 _ _ _=>bc h2 (ma h1)
 |succ fuel ih=>
  intro r r' h1 h2 h3 hb k;have own:∀d,d≤rl mask h r→owner[(bn mask h (rs mask h r+d)).j]? =aa (owner.getD ((dQ mask h r).1+d) (aa 0)):=λd hd=>by
   have hlt:(dQ mask h r).1+d<owner.size:=hsz.symm▸lb (ah (e6 hd _) (Hp (eS (ED mask h r))));rw[Ge mask h r d hd,jr hlt];exact ay aa (dif_pos hlt).symm
  have el:runEnd mask (dQ mask h r).1+1- (dQ mask h r).1=rl mask h r+1:=Nat.succ_sub (LU mask _);have taken:∀d,d≤rl mask h r→(!(owner.getD ((dQ mask h r).1+d) (aa 0)).isNone)=ab→∃i,owner[(bn mask h (rs mask h r+d)).j]? =aa (aa i):=λd hd q=>by
   rw[own d hd]
   cases e:owner.getD ((dQ mask h r).1+d) (aa 0) with
   |none=>rw[e] at q;exact cM q
   |some i=>exact⟨i,rfl⟩
  have st:layClean.free mask owner (fuel+1) (dQ mask h r).1 (dQ mask h r).2=match (bo (rl mask h r+1)).find? λk=>(owner.getD ((dQ mask h r).1+k) (aa 0)).isNone with
   |some k=>aa ((dQ mask h r).1+k)
   |none=>layClean.free mask owner fuel (dQ mask h (r+1)).1 (dQ mask h (r+1)).2:=el▸rfl
  cases hf:(bo (rl mask h r+1)).find? (λk=>(owner.getD ((dQ mask h r).1+k) (aa 0)).isNone) with
  |some d=>
   rw[hf] at st;refine jF (List.find?_range_eq_some.mp hf) λf1 f2 f3=>?_;have hd:=eS (dR.mp f2);exact k (rs mask h r+d) (st.trans (ay aa (Ge mask h r d hd).symm)) ((own d hd).trans (ay aa (Option.isNone_iff_eq_none.mp f1))) (M9 hb λx hx=>taken x (ah (cj hx) hd) (f3 x hx))
  |none=>
   rw[hf] at st;have hn:∀d,d<rl mask h r+1→∃i,owner[(bn mask h (rs mask h r+d)).j]? =aa (aa i):=λd hd=>taken d (eS hd) (List.find?_range_eq_none.mp hf d hd);refine ih (r+1) (wO h1 λe=>?_) (wN r fuel▸h2) h3 (M9 (a:=rs mask h r) (d:=rl mask h r+1) hb hn) λn a=>k n (st.trans a);exact xE (hn 0 (dK _)) λi q=>nomatch (h3.symm.trans ((ay (λx:Nat=>owner[x]?) ((ay (λr=>(dQ mask h r).1) e).symm.trans (Ge mask h r 0 (b_ _)).symm)).trans q):aa af=aa (aa i))
noncomputable def B9(mask:Nat)(acc:Option (Array (Option Nat)×Nat))(h:Int):Option (Array (Option Nat)×Nat):=do
 let(owner,k) ←acc
 let j ←layClean.free mask owner (turns mask) (bits h % (mask+1)) (bits h)
 pure (owner.setIfInBounds j (aa k),k+1)
theorem mR.step{mask:Nat}{owner:Array (Option Nat)}{done:List Int}{h:Int}{n:Nat}(O:mR mask owner done)(f2:owner[(bn mask h n).j]? =aa af)(f3:∀n',n'<n→∃i,owner[(bn mask h n').j]? =aa (aa i)):
  mR mask (owner.setIfInBounds (bn mask h n).j (aa done.length)) (done++[h]):=by
 have get:∀x,(owner.setIfInBounds (bn mask h n).j (aa done.length))[x]? =if(bn mask h n).j=x then aa (aa done.length) else owner[x]? :=λx=>
  Array.getElem?_setIfInBounds.trans (if e:(bn mask h n).j=x then(aP e).trans ((aP (e▸((oi.mp f2).1))).trans (aP e).symm) else(aK e).trans (aK e).symm)
 have sz:(owner.setIfInBounds (bn mask h n).j (aa done.length)).size=mask+1:=Array.size_setIfInBounds.trans O.size;generalize owner.setIfInBounds (bn mask h n).j (aa done.length)=o' at get sz ⊢;have mono:∀{x},(∃i,owner[x]? =aa (aa i))→∃i,o'[x]? =aa (aa i):=λ{x} q=>if e:(bn mask h n).j=x then⟨_,(get x).trans (aP e)⟩ else xE q λi q=>⟨i,(get x).trans ((aK e).trans q)⟩
 have inv:∀{x i},o'[x]? =aa (aa i)→((bn mask h n).j=x∧done.length=i)∨owner[x]? =aa (aa i):=λ{x i} q=>
  if e:(bn mask h n).j=x then .inl ⟨e,aY (aY ((aP e).symm.trans ((get x).symm.trans q)))⟩ else .inr ((aK e).symm.trans ((get x).symm.trans q))
 refine⟨sz,λj i e=>(inv e).elim (λq=>⟨h,n,q.2▸List.getElem?_concat_length,q.1,λn' hn=>mono (f3 n' hn)⟩) λq=>bP (O.at_ j i q) λh' n' e1 e2 e3=>⟨h',n',(Di (cV.mp e1).1).trans e1,e2,λo7 hn=>mono (e3 o7 hn)⟩,
  λi hi=>?_,λj j' i e e'=>(inv e).elim (λq=>(inv e').elim (λq'=>q.1.symm.trans q'.1) λq'=>bc (O.lt q') (q.2▸fo _)) λq=>(inv e').elim (λq'=>bc (O.lt q) (q'.2▸fo _)) (O.inj j j' i q)⟩
 rw[cU] at hi;exact(zI (eS hi)).elim (λz=>xE (O.all i z) λj e=>⟨j,(get j).trans ((aK λq=>nomatch (f2.symm.trans ((ay (λx:Nat=>owner[x]?) q).trans e):aa af=aa (aa i))).trans e)⟩) λz=>⟨_,(get _).trans ((aP rfl).trans (z▸rfl))⟩
theorem aef{mask:Nat}(hm:mask=7∨mask=31)(hs:List Int):∀{done:List Int} {owner:Array (Option Nat)},mR mask owner done→done.length+hs.length≤mask→
  ∃CR,hs.foldl (B9 mask) (aa (owner,done.length))=aa (CR,(done++hs).length)∧mR mask CR (done++hs):=by
 induction hs with
 |nil=>exact λ{done owner} O _=>⟨owner,by rw[gP _];rfl,by rw[gP _];exact O⟩
 |cons h hs ih=>
  intro done owner O hl;refine aj (O.Sh (ah (b6 _ _) hl)) λq hq hf=>aj (LK hm h hq) λr hr er=>?_;refine acj (h:=h) O.size (turns mask) 0 (b_ r) ((mZ _).symm▸hr) (er.symm▸hf) (λn' hn=>bc hn (m5 _)) λn f1 f2 f3=>?_;have step:B9 mask (aa (owner,done.length)) h=aa (owner.setIfInBounds (bn mask h n).j (aa done.length),(done++[h]).length):=
   (ay (λo:Option Nat=>o.bind λj=>aa (owner.setIfInBounds j (aa done.length),done.length+1)) f1).trans (by rw[cU];rfl)
  have z:=ih (O.step f2 f3) (by rw[cU];exact ah (bF (Dj _ _)) hl);rw[wR] at z;exact aj z λCR g1 g2=>⟨CR,(ay (hs.foldl (B9 mask)) step).trans g1,g2⟩
theorem mR.start(mask:Nat):mR mask (PP (mask+1) af) []:=by
 have:∀(j i:Nat),(PP (mask+1) (af:Option Nat))[j]? ≠aa (aa i):=λj i e=>by
  rw[Array.getElem?_replicate] at e
  split at e
  ·exact nomatch e
  ·exact a7 e
 exact⟨Array.size_replicate,λj i e=>bc e (this j i),λi hi=>bc hi (m5 i),λj j' i e=>bc e (this j i)⟩
theorem getD_some{owner:Array (Option Nat)}{j i:Nat}:owner.getD j af=aa i↔owner[j]? =aa (aa i):=by
 rw[PQ]
 cases owner[j]? with
 |none=>exact⟨λe=>a7 e,λe=>a7 e⟩
 |some o=>exact⟨ay aa,aY⟩
noncomputable def yN(mask:Nat)(owner:Array (Option Nat)):List (Nat×Nat):=(bo (mask+1)).filterMap λj=>(owner.getD j af).map (j,·)
noncomputable def Gn(mask finger moves:Nat)(led plain:Bool)(owner:Array (Option Nat)):c9×Array Nat:=({mask,place:=((yN mask owner).map m6).toArray,dummies:=#[],finger,led,moves,plain},((yN mask owner).map Dk).toArray)
theorem aed{mask:Nat}(hm:mask=7∨mask=31)(finger moves:Nat)(led plain:Bool)(hs:Array Int)(hl:hs.size≤mask):
  ∃t iS,laid mask finger moves led plain hs=aa (t,iS)∧t.mask=mask∧t.led=led∧iS.toList.Perm (bo hs.size)∧oH t (iS.toList.map λi=>hs.toList.getD i 0):=by
 refine aj (aef hm hs.toList (mR.start mask) ((mZ _).symm▸hl)) λowner g1 O=>?_;rw[af9] at g1 O;have O8:layClean mask hs=aa owner:=by
  show(hs.foldl (B9 mask) (aa (PP (mask+1) af,0))).map (·.1)=_;rw[←Array.foldl_toList];exact ay (ph (·.1)) g1
 have el:laid mask finger moves led plain hs=aa (Gn mask finger moves led plain owner):=ay (λo:Option (Array (Option Nat))=>o.bind λowner=>aa (Gn mask finger moves led plain owner)) O8;have fm:∀(p:Nat×Nat),p∈yN mask owner↔owner[p.1]? =aa (aa p.2):=λp=>
  gQ.trans ⟨λq=>aj q λj _ e=>aj (Dl.mp e) λi e1 e2=>e2▸getD_some.mp e1,λe=>⟨p.1,dR.mpr (O.size▸(oi.mp e).1),ay (ph (p.1,·)) (getD_some.mpr e)⟩⟩
 have pw:(yN mask owner).Pairwise (λa b=>a.1<b.1):=
  akx _ (λa a' YD b hb b' zr=>aj (Dl.mp hb) λ_ _ e=>aj (Dl.mp zr) λ_ _ e'=>e▸e'▸YD) (af8 (n:=mask+1))
 unfold Gn at el;generalize yN mask owner=L at el fm pw;refine⟨_,_,el,rfl,rfl,(HH ?_ HE).mpr λi=>?_,⟨?_,wQ.mpr pw,rfl,hm,λp hp=>?_,λi h hi=>?_⟩⟩
 ·exact wQ.mpr (af7 (λ{a b} ha hb hab e=>du hab (O.inj a.1 b.1 a.2 ((fm a).mp ha) (e▸(fm b).mp hb))) pw)
 ·exact(bB.trans ⟨λq=>aj q λp hp e=>e▸O.lt ((fm p).mp hp),λhi=>xE (O.all i hi) λj e=>⟨(j,i),(fm (j,i)).mpr e,rfl⟩⟩).trans dR.symm
 ·exact(aI _).trans ((aI _).trans (aI _)).symm
 ·exact aj (bB.mp hp) λq hq e=>e▸eS (PS (oi.mp ((fm q).mp hq)).1 O.size)
 ·show ∃n,(L.map m6)[i]? =aa (bn mask h n).j∧∀n',n'<n→(bn mask h n').j∈L.map m6
  change ((L.map Dk).map _)[i]? =aa h at hi;rw[pi,dv] at hi;rw[dv];refine aj (Dl.mp hi) λp e hh=>bP (O.at_ _ _ ((fm p).mp (bN e))) λh' n e1 e2 e3=>?_;have:h=h':=hh.symm.trans (pn.trans (ay (PT · 0) e1));exact this▸⟨n,(ay (ph m6) e).trans (ay aa e2.symm),λn' hn=>xE (e3 n' hn) λi' q=>bB.mpr ⟨(_,i'),(fm (_,i')).mpr q,rfl⟩⟩
end
set_option genInjectivity true in
inductive Nm where
 |mk (k:Nat) (l:List Nat)
deriving DecidableEq
inductive SV where
 |none
 |bool (b:Bool)
 |int (i:Int)
 |str (s:Str)
 |tup (vs:List SV)
 |ref (n:Nm)
 |range (a b:Int)
 |glob (a:au)
 |bi (id:String)
 |ty (n:String)
theorem SV.int.inj{a c:Int}(h:SV.int a=.int c):a=c:=by injection h
theorem SV.str.inj{a c:Str}(h:SV.str a=.str c):a=c:=by injection h
theorem SV.tup.inj{a c:List SV}(h:SV.tup a=.tup c):a=c:=by injection h
inductive cy where
 |list (vs:List SV)
 |dict (es:List (SV×SV))
 |set (vs:List SV)
 |inst (c:au) (fs:List (Str×SV))
abbrev SH:=Nm→Option cy
abbrev SF:=List (Str×SV)
abbrev aV:=au→Option Obj
abbrev Mu:=Nm→Option (au×au)
mutual
noncomputable def VR(PR:aV)(μ:Mu):SV→Value→Prop
 |.none,v=>v=.none
 |.bool b,v=>v=.bool b
 |.int i,v=>∃t,v=.int i t
 |.str s,v=>∃t,v=.str s t
 |.tup vs,v=>∃a o items n,v=.ref a∧PR a=aa o∧o.cls=.type "tuple"∧o.data=.seq items n∧aO PR μ vs items.toList
 |.ref n,v=>∃ad,μ n=aa ad∧v=.ref ad.1
 |.range a b,v=>∃r t u w,v=.ref r∧PR r=aa {cls:=.type "range",data:=.fields #[.int a t,.int b u,.int 1 w]}
 |.glob a,v=>v=.ref a
 |.bi id,v=>v=.builtin id
 |.ty n,v=>v=.type n
noncomputable def aO(PR:aV)(μ:Mu):List SV→List Value→Prop
 |[],l=>l=[]
 |v::vs,l=>∃x r,l=x::r∧VR PR μ v x∧aO PR μ vs r
end
@[elab_as_elim] theorem nc{P:aV}{m:Mu}{x:Int}{motive:Value→Prop}{v:Value}(h:VR P m (.int x) v)(k:∀t,motive (.int x t)):motive v:=h.elim λt e=>e▸k t
@[elab_as_elim] theorem pG{P:aV}{m:Mu}{x:Str}{motive:Value→Prop}{v:Value}(h:VR P m (.str x) v)(k:∀t,motive (.str x t)):motive v:=h.elim λt e=>e▸k t
@[elab_as_elim] theorem uN{P:aV}{m:Mu}{n:Nm}{motive:Value→Prop}{v:Value}(h:VR P m (.ref n) v)(k:∀ad:au×au,m n=aa ad→motive (.ref ad.1)):motive v:=h.elim λt e=>e.2▸k t e.1
@[elab_as_elim] theorem jx{P:aV}{m:Mu}{x:SV}{motive:List Value→Prop}{l:List Value}(h:aO P m [x] l)(k:∀a,VR P m x a→motive [a]):motive l:=h.elim λa h=>h.elim λ_ h=>h.1▸h.2.2▸k a h.2.1
@[elab_as_elim] theorem gu{P:aV}{m:Mu}{x y:SV}{motive:List Value→Prop}{l:List Value}(h:aO P m [x,y] l)(k:∀a c,VR P m x a→VR P m y c→motive [a,c]):motive l:=h.elim λa h=>h.elim λ_ h=>h.1▸jx (motive:=λr=>motive (a::r)) h.2.2 λc hc=>k a c h.2.1 hc
@[elab_as_elim] theorem ID{P:aV}{m:Mu}{x y z:SV}{motive:List Value→Prop}{l:List Value}(h:aO P m [x,y,z] l)(k:∀a c d,VR P m x a→VR P m y c→VR P m z d→motive [a,c,d]):motive l:=h.elim λa h=>h.elim λ_ h=>h.1▸gu (motive:=λr=>motive (a::r)) h.2.2 λc d hc=>k a c d h.2.1 hc
def aV.le(P Q:aV):Prop:=∀a o,P a=aa o→Q a=aa o
def Mu.le(m n:Mu):Prop:=∀a o,m a=aa o→n a=aa o
def jX(o:Obj):Prop:=(o.cls=.type "tuple"∧∃items n,o.data=.seq items n)∨(o.cls=.type "range"∧∃vs,o.data=.fields vs)
theorem xi{o:Obj}{es n}(h:o.data=.dict es n):¬jX o:=λx=>x.elim (λz=>kc z.2 λ_ _ e=>nomatch h.symm.trans e) λz=>z.2.elim λ_ e=>nomatch h.symm.trans e
theorem Ca{o:Obj}{v}(h:o.data=.cell v):¬jX o:=λx=>x.elim (λz=>kc z.2 λ_ _ e=>nomatch h.symm.trans e) λz=>z.2.elim λ_ e=>nomatch h.symm.trans e
theorem V1{o o':Obj}(hc:o'.cls=o.cls)(hd:o'.data=o.data)(h:¬jX o):¬jX o':=λx=>h (x.imp (λz=>⟨hc.symm.trans z.1,kc z.2 λi n e=>⟨i,n,hd.symm.trans e⟩⟩) λz=>⟨hc.symm.trans z.1,z.2.elim λvs e=>⟨vs,hd.symm.trans e⟩⟩)
def aV.fZ(P Q:aV):Prop:=∀a o,P a=aa o→jX o→Q a=aa o
mutual
theorem VR.mono{P P':aV}{m m':Mu}(hP:P.fZ P')(hm:m.le m'):∀(x:SV) {v:Value},VR P m x v→VR P' m' x v
 |.none,_,h=>h
 |.bool _,_,h=>h
 |.int _,_,h=>h
 |.str _,_,h=>h
 |.tup vs,_,h=>by
  obtain⟨a,o,items,n,h1,h2,h3,h4,h5⟩:=h;exact⟨a,o,items,n,h1,hP _ _ h2 (.inl ⟨h3,_,_,h4⟩),h3,h4,aO.mono hP hm vs h5⟩
 |.ref _,_,h=>by refine aj h λad h1 h2=>?_;clear h;exact⟨ad,hm _ _ h1,h2⟩
 |.range _ _,_,h=>by refine oK h λr t u w h1 h2=>?_;clear h;exact⟨r,t,u,w,h1,hP _ _ h2 (.inr ⟨rfl,_,rfl⟩)⟩
 |.glob _,_,h=>h
 |.bi _,_,h=>h
 |.ty _,_,h=>h
theorem aO.mono{P P':aV}{m m':Mu}(hP:P.fZ P')(hm:m.le m'):∀(x:List SV) {v:List Value},aO P m x v→aO P' m' x v
 |[],_,h=>h
 |x::xs,_,h=>by
  refine bP h λy r h1 h2 h3=>?_;clear h;exact⟨y,r,h1,VR.mono hP hm x h2,aO.mono hP hm xs h3⟩
end
theorem aV.le.t{P Q:aV}(h:P.le Q):P.fZ Q:=λa o h1 _=>h a o h1
theorem aV.le.rfl{P:aV}:P.le P:=λ_ _ h=>h
theorem Mu.le.rfl{P:Mu}:P.le P:=λ_ _ h=>h
theorem aV.le.trans{P Q R:aV}(h:P.le Q)(g:Q.le R):P.le R:=λa o x=>g a o (h a o x)
theorem Mu.le.trans{P Q R:Mu}(h:P.le Q)(g:Q.le R):P.le R:=λa o x=>g a o (h a o x)
theorem aO.length{P:aV}{m:Mu}{x:List SV}:∀{v:List Value},aO P m x v→x.length=v.length:=by
 induction x with
 |nil=>exact λh=>(ay oq (h:_=[])).symm
 |cons x xs ih=>exact λh=>bP h λy r z _ h3=>z▸ay (· +1) (ih h3)
theorem aO.get{P:aV}{m:Mu}{x:List SV}:∀{v:List Value} {i:Nat} {y:SV},aO P m x v→x[i]? =aa y→∃w,v[i]? =aa w∧VR P m y w:=by
 induction x with
 |nil=>exact λ_ e=>a7 e
 |cons x xs ih=>
  intro v i y h e;refine bP h λw r z h2 h3=>?_;subst z
  cases i with
  |zero=>exact⟨w,rfl,aY e▸h2⟩
  |succ i=>exact ih (i:=i) h3 e
theorem aO.app{P:aV}{m:Mu}{x:List SV}:∀{v:List Value} {x':List SV} {v':List Value},aO P m x v→aO P m x' v'→aO P m (x++x') (v++v'):=by
 induction x with
 |nil=>exact λh h'=>(h:_=[])▸h'
 |cons x xs ih=>exact λh h'=>bP h λw r z h2 h3=>⟨w,r++_,ay (· ++_) z,h2,ih h3 h'⟩
theorem aO.one{P:aV}{m:Mu}{x:SV}{v:Value}(h:VR P m x v):aO P m [x] [v]:=⟨v,[],rfl,h,rfl⟩
noncomputable def NV(l:List Int):Int:=PU (Dm l)
mutual
noncomputable def bZ(w:cE):SV→Int
 |.int i=>hashInt i
 |.str s=>hashStr w s
 |.tup vs=>NV (Be w vs)
 |_=>0
noncomputable def Be(w:cE):List SV→List Int
 |[]=>[]
 |v::vs=>bZ w v::Be w vs
end
mutual
noncomputable def SV.key:Nat→SV→Bool
 |_,.int _=>ab
 |_,.str _=>ab
 |n+1,.tup vs=>SV.keys n vs
 |_,_=>an
noncomputable def SV.keys:Nat→List SV→Bool
 |_,[]=>ab
 |n,v::vs=>SV.key n v && SV.keys n vs
end
structure Gl where
 prog:fD
 w:cE
 base:cO
 K:Frag
 mg:Str→Option Value
 mb:Str→Option Value
 os:OsState
 g:base.Ns uw mg
 b:base.Ns zK mb
 blt:∀x:Str,x≠"__name__"→mb x=HI x
 nolimit:base.NoLimit
 fY:K.In base
 BO:∃o,base.get? Dn=aa o
noncomputable def gy(w:cE)(P:aV)(m:Mu):List (SV×SV)→List dL→Prop
 |[],l=>l=[]
 |(k,v)::es,l=>∃e r,l=e::r∧e.hash=bZ w k∧VR P m k e.key∧VR P m v e.val∧gy w P m es r
theorem gy.mono{w:cE}{P P':aV}{m m':Mu}(hP:P.fZ P')(hm:m.le m'){x:List (SV×SV)}:∀{v:List dL},gy w P m x v→gy w P' m' x v:=by
 induction x with
 |nil=>exact id
 |cons p es ih=>exact λh=>tw h λe r h1 h2 h3 h4 h5=>⟨e,r,h1,h2,VR.mono hP hm _ h3,VR.mono hP hm _ h4,ih h5⟩
noncomputable def zD(es:Array dL)(n:Nat):Obj:={cls:=.type "dict",data:=.dict es n}
noncomputable def E9(xs:Array Value)(n:Nat):Obj:={cls:=.type "list",data:=.seq xs n}
noncomputable def gC(xs:Array (Int×Value))(n:Nat)(t:c9):Obj:={cls:=.type "set",data:=.set xs n t}
noncomputable def vI(c d:au):Obj:={cls:=.ref c,dict:=aa d,data:=.plain}
noncomputable def f7(P:aV)(m:Mu):List (Str×SV)→List dL→Prop
 |[],l=>l=[]
 |(x,v)::fs,l=>∃e r,l=e::r∧(∃t,e.key=.str x t)∧VR P m v e.val∧f7 P m fs r
theorem f7.mono{P P':aV}{m m':Mu}(hP:P.fZ P')(hm:m.le m'){x:List (Str×SV)}:∀{v:List dL},f7 P m x v→f7 P' m' x v:=by
 induction x with
 |nil=>exact id
 |cons p es ih=>exact λh=>gO h λe r h1 h2 h3 h4=>⟨e,r,h1,h2,VR.mono hP hm _ h3,ih h4⟩
noncomputable def cr(w:cE)(P:aV)(m:Mu):List SV→List (Int×Value)→Prop
 |[],l=>l=[]
 |v::vs,l=>∃e r,l=e::r∧e.1=bZ w v∧VR P m v e.2∧cr w P m vs r
theorem cr.mono{w:cE}{P P':aV}{m m':Mu}(hP:P.fZ P')(hm:m.le m'){x:List SV}:∀{v:List (Int×Value)},cr w P m x v→cr w P' m' x v:=by
 induction x with
 |nil=>exact id
 |cons v vs ih=>exact λh=>gO h λe r h1 h2 h3 h4=>⟨e,r,h1,h2,VR.mono hP hm _ h3,ih h4⟩
noncomputable def z_:SV→Bool
 |.int _=>ab
 |.str _=>ab
 |_=>an
noncomputable def fc:SV→Bool
 |.tup vs=>vs.all z_
 |_=>an
def OR(w:cE)(P:aV)(m:Mu)(h:cO)(ad:au×au):cy→Prop
 |.list vs=>ad.2=ad.1∧∃xs n,h.get? ad.1=aa (E9 xs n)∧aO P m vs xs.toList
 |.dict es=>ad.2=ad.1∧∃xs,h.get? ad.1=aa (zD xs es.length)∧gy w P m es xs.toList∧(es.map (·.1)).Nodup∧∀k∈es.map (·.1),SV.key 6 k=ab
 |.set vs=>ad.2=ad.1∧∃es n t,h.get? ad.1=aa (gC es n t)∧f_ t (es.toList.map (·.1))∧cr w P m vs es.toList∧vs.Nodup∧(∀v∈vs,fc v=ab)∧t.led=!(w.params.followText "set-order")
 |.inst c fs=>ad.2≠ad.1∧h.get? ad.1=aa (vI c ad.2)∧∃xs n,h.get? ad.2=aa (qI xs n)∧f7 P m fs xs
theorem OR.mono{w:cE}{P P':aV}{m m':Mu}{h h':cO}{ad:au×au}(hP:P.fZ P')(hm:m.le m')
  (hk:∀o,h.get? ad.1=aa o→h'.get? ad.1=aa o) (dY:∀o,h.get? ad.2=aa o→h'.get? ad.2=aa o):
  ∀{x:cy},OR w P m h ad x→OR w P' m' h' ad x:=λ{x} r=>by
 cases x with
 |list vs=>exact⟨r.1,ef r.2 λxs n h1 h2=>⟨xs,n,hk _ h1,aO.mono hP hm _ h2⟩⟩
 |dict es=>exact⟨r.1,bH r.2 λxs h1 h2 h3=>⟨xs,hk _ h1,gy.mono hP hm h2,h3⟩⟩
 |set vs=>exact⟨r.1,uq r.2 λes n t z=>⟨es,n,t,hk _ z.1,z.2.1,cr.mono hP hm z.2.2.1,z.2.2.2⟩⟩
 |inst c fs=>exact⟨r.1,hk _ r.2.1,ef r.2.2 λxs n h2 h3=>⟨xs,n,dY _ h2,f7.mono hP hm h3⟩⟩
structure FD where
 sc:cb
 st:List Str
 q:Bool
structure FrR(F:FD)(own:List au)(ae:Env)(P:aV)(m:Mu)(fr:SF)(h:cO):Prop where
 sc:ae.scope=F.sc
 kind:F.sc.kind=.function
 glob:ae.globals=uw
 blt:ae.builtins=zK
 r9:ae.locals∈own
 ns:∃mm,h.Ns ae.locals mm∧∀x v,fr.lookup x=aa v→F.sc.names.lookup x=aa .local→∃v',mm x=aa v'∧VR P m v v'
 mB:∀x v,fr.lookup x=aa v→(F.sc.names.lookup x=aa .cell∨F.sc.names.lookup x=aa .free)→
  ∃c v',ae.cells.lookup x=aa c∧VR P m v v'∧((c∈own∧c≠ae.locals∧h.IsCell c (aa v'))∨∃o,P c=aa o∧o.data=.cell (aa v'))
 rU:∀x,(F.sc.names.lookup x=aa .cell∨F.sc.names.lookup x=aa .free)→∃c,ae.cells.lookup x=aa c∧((c∈own∧∃v,h.IsCell c v)∨∃o v,P c=aa o∧o.data=.cell v)
 uh:∀x∈F.st,F.sc.names.lookup x=aa .cell∧∃c v,ae.cells.lookup x=aa c∧c∈own∧c≠ae.locals∧h.IsCell c v
 apart:∀x y c,x∈F.st→ae.cells.lookup x=aa c→ae.cells.lookup y=aa c→x=y
 mT:∀a∈own,∃o,h.get? a=aa o∧¬jX o
structure Rel(G:Gl)(F:FD)(b:Nat)(own:List au)(ae:Env)(A:dZ)(P:aV)(m:Mu)(fr:SF)(h:SH)(s:ak):Prop where
 gens:s.gens=#[]
 os:s.os=G.os
 bs:∀a o,G.base.get? a=aa o→s.heap.get? a=aa o
 basePR:∀a o,G.base.get? a=aa o→P a=aa o
 frs:∃l,A.frames=aa l∧s.heap.FunFrames G.base l∧(∃e0 l',l=e0::l'∧e0.frame=ae.frame)∧
  (∀a∈l.filterMap (·.frame),a∈own∨∃o,P a=aa o)∧
  ∀a o,P a=aa o→∃sl,s.heap.get? a=aa {o with slots:=sl}∧(a∉l.filterMap (·.frame)→sl=o.slots)
 obj:∀n so,h n=aa so→∃ad,m n=aa ad∧OR G.w P m s.heap ad so
 dom:∀n,h n=af→m n=af
 inj:∀n n' ad bT,m n=aa ad→m n'=aa bT→n≠n'→ad.1≠bT.1∧ad.1≠bT.2∧ad.2≠bT.1∧ad.2≠bT.2
 sep:∀n ad,m n=aa ad→P ad.1=af∧P ad.2=af∧ad.1∉own∧ad.2∉own
 ownP:∀a∈own,P a=af
 f:FrR F own ae P m fr s.heap
 depth:A.depth+b<HJ
 units:A.units+8*b+8<ez
 guards:A.guards=aa []
 quiet:F.q=ab→A.handled=af
theorem IE(o:Obj)(sl)(h:sl=o.slots):({o with slots:=sl}:Obj)=o:=h▸rfl
variable{G:Gl}{F:FD}{b:Nat}{own:List au}{ae:Env}{A:dZ}{P:aV}{m:Mu}{fr:SF}{h:SH}{s:ak}
theorem Rel.oU(R:Rel G F b own ae A P m fr h s){a:au}{o:Obj}(e:P a=aa o):∃sl,s.heap.get? a=aa {o with slots:=sl}:=jC R.frs λ_ _ _ _ _ h5=>aj (h5 a o e) λsl h6 _=>⟨sl,h6⟩
theorem Rel.rd(R:Rel G F b own ae A P m fr h s){a:au}{o:Obj}(e:P a=aa o):∃o',s.heap.get? a=aa o'∧o'.cls=o.cls∧o'.data=o.data:=(R.oU e).elim λsl h6=>⟨_,h6,rfl,rfl⟩
theorem Rel.tok(R:Rel G F b own ae A P m fr h s)(t:Nat):Rel G F b own ae A P m fr h {s with toks:=t}:=
 ⟨R.gens,R.os,R.bs,R.basePR,R.frs,R.obj,R.dom,R.inj,R.sep,R.ownP,R.f,R.depth,R.units,R.guards,R.quiet⟩
theorem FrR.keep{P':aV}{m':Mu}{hp bV:cO}(X:FrR F own ae P m fr hp)(hP:P.le P')(hm:m.le m')(hk:∀a∈own,∀o,hp.get? a=aa o→∃o',bV.get? a=aa o'∧o'.cls=o.cls∧o'.data=o.data):
  FrR F own ae P' m' fr bV:=by
 have cl:∀{c v},c∈own→hp.IsCell c v→bV.IsCell c v:=λ{c v} hc q=>aj q λo q6 q7=>bH (hk _ hc o q6) λo' e1 _ e2=>⟨o',e1,e2.trans q7⟩;exact⟨X.sc,X.kind,X.glob,X.blt,X.r9,aj X.ns λmm z h4=>z.elim λo z=>kc z λes ep z=>bH (hk _ X.r9 o z.1) λo' e1 _ e2=>⟨mm,⟨o',es,ep,e1,e2.trans z.2.1,z.2.2⟩,λx v hx hl=>aj (h4 x v hx hl) λv' q1 q2=>⟨v',q1,q2.mono hP.t hm⟩⟩,
  λx v hx hl=>bP (X.mB x v hx hl) λc v' q1 q2 q3=>⟨c,v',q1,q2.mono hP.t hm,q3.imp (λq=>⟨q.1,q.2.1,cl q.1 q.2.2⟩) λq=>aj q λo q6 q7=>⟨o,hP _ _ q6,q7⟩⟩,
  λx hx=>aj (X.rU x hx) λc q1 q2=>⟨c,q1,q2.imp (λq=>⟨q.1,q.2.imp λv=>cl q.1⟩) λq=>ef q λo v q2 q3=>⟨o,v,hP _ _ q2,q3⟩⟩,
  λx hx=>vA (X.uh x hx) λq0 c v q1 q2 q3 q4=>⟨q0,c,v,q1,q2,q3,cl q2 q4⟩,X.apart,λa ha=>aj (X.mT a ha) λo e1 e2=>bH (hk a ha o e1) λo' f1 f0 f2=>⟨o',f1,V1 f0 f2 e2⟩⟩
theorem Rel.grow(R:Rel G F b own ae A P m fr h s){s':ak}(hk:∀a o,s.heap.get? a=aa o→s'.heap.get? a=aa o)(hg:s'.gens=s.gens)(ho:s'.os=s.os):
  Rel G F b own ae A P m fr h s':=
 ⟨hg.trans R.gens,ho.trans R.os,λa o e=>hk _ _ (R.bs a o e),R.basePR,jC R.frs λl h1 h2 h3 h4 h5=>⟨l,h1,h2.of_keeps λb o e _=>⟨o,hk _ _ e,rfl⟩,h3,h4,λa o e=>aj (h5 a o e) λsl q1 q2=>⟨sl,hk _ _ q1,q2⟩⟩,
  λn so e=>aj (R.obj n so e) λad q1 q2=>⟨ad,q1,q2.mono aV.le.rfl.t Mu.le.rfl (λo=>hk _ o) λo=>hk _ o⟩,R.dom,R.inj,R.sep,R.ownP,R.f.keep .rfl .rfl λa _ o e=>⟨o,hk _ _ e,rfl,rfl⟩,R.depth,R.units,R.guards,R.quiet⟩
theorem Rel.Kh(R:Rel G F b own ae A P m fr h s){a:au}{o:Obj}(ha:s.heap.get? a=aa o)(hP:P a=af)(hm:∀n ad,m n=aa ad→a≠ad.1∧a≠ad.2)(uo:a∉own)(ajw:G.base.get? a=af):
  Rel G F b own ae A (λx=>if x=a then aa o else P x) m fr h s∧P.le (λx=>if x=a then aa o else P x):=by
 have le:P.le (λx=>if x=a then aa o else P x):=λx o' e=>(aK λz=>a7 (hP.symm.trans (z▸e))).trans e;exact⟨⟨R.gens,R.os,R.bs,λx o' e=>le _ _ (R.basePR x o' e),jC R.frs λl h1 h2 h3 h4 h5=>⟨l,h1,h2,h3,λx hx=>(h4 x hx).imp id λq=>q.elim λo' q=>⟨o',le _ _ q⟩,
   λx o' e=>if hx:x=a then⟨o'.slots,(ay s.heap.get? hx).trans (ha.trans ((aP hx).symm.trans e)),λ_=>rfl⟩ else h5 x o' ((aK hx).symm.trans e)⟩,
  λn so e=>aj (R.obj n so e) λad q1 q2=>⟨ad,q1,q2.mono le.t .rfl (λ_ x=>x) λ_ x=>x⟩,R.dom,R.inj,λn ad e=>have q:=R.sep n ad e;have p:=hm n ad e;⟨(aK p.1.symm).trans q.1,(aK p.2.symm).trans q.2.1,q.2.2⟩,
  λx hx=>(aK λe:x=a=>uo (e▸hx)).trans (R.ownP x hx),R.f.keep le .rfl λa _ o e=>⟨o,e,rfl,rfl⟩,R.depth,R.units,R.guards,R.quiet⟩,le⟩
section
structure At(base:cO)(h:cO)(P:aV)(m:Mu)(own:List au)(e:au)(x:String):Prop where
 obj:∃oe vs,h.get? e=aa oe∧oe.cls=.type x∧oe.data=.fields vs∧vs[1]? =aa .none
 base:base.get? e=af
 oU:P e=af
 mu:∀n ad,m n=aa ad→e≠ad.1∧e≠ad.2
 own:e∉own
abbrev QV:=SV→SH→Prop
abbrev QX:=String→SH→Prop
noncomputable def lX:QX:=λ_ _=>False
section
variable(G:Gl)(F:FD)(b:Nat)(fr:SF)(h:SH)
def g0(own:List au)(ae:Env)(A:dZ)(P:aV)(m:Mu)(fr:SF)(X:QX)(E':Value→ak→Prop):Prop:=
 ∀x h' e s' P' m',X x h'→P.le P'→m.le m'→At G.base s'.heap P' m' own e x→Rel G F b own ae A P' m' fr h' s'→E' (.ref e) s'
def l_(own:List au)(ae:Env)(A:dZ)(P:aV)(m:Mu)(Q:QV)(Q':Value→ak→Prop):Prop:=
 ∀v h' v' s' P' m',Q v h'→P.le P'→m.le m'→VR P' m' v v'→Rel G F b own ae A P' m' fr h' s'→Q' v' s'
def WVb(t:Env→Sem Value)(Q:QV)(X:QX):Prop:=
 ∀own ae A P m s (Q':Value→ak→Prop) (E':Value→ak→Prop),Rel G F b own ae A P m fr h s→
  l_ G F b fr own ae A P m Q Q'→g0 G F b own ae A P m fr X E'→aw (aR G.prog G.w) A (t ae) Q' E' s
abbrev WV(t:Env→Sem Value)(Q:QV)(X:QX):Prop:=Bx (WVb G F b fr h t Q X)
def WE(e:Expr)(Q:QV)(X:QX):Prop:=WV G F b fr h (d9 e) Q X
def Sg(vs:List SV)(t:List Value→Sem Value)(Q:QV)(X:QX):Prop:=
 ∀own ae A P m s (Q':Value→ak→Prop) (E':Value→ak→Prop) a5,Rel G F b own ae A P m fr h s→aO P m vs a5→
  l_ G F b fr own ae A P m Q Q'→g0 G F b own ae A P m fr X E'→aw (aR G.prog G.w) A (t a5) Q' E' s
abbrev WO(vs:List SV)(t:List Value→Sem Value)(Q:QV)(X:QX):Prop:=Bx (Sg G F b fr h vs t Q X)
def Y1(e:Expr)(Q:Bool→SH→Prop)(X:QX):Prop:=
 ∀own ae A P m s (Q':Bool→ak→Prop) (E':Value→ak→Prop),Rel G F b own ae A P m fr h s→
  (∀v h' s' P' m',Q v h'→P.le P'→m.le m'→Rel G F b own ae A P' m' fr h' s'→Q' v s')→g0 G F b own ae A P m fr X E'→
  aw (aR G.prog G.w) A (isTrue e ae (d9 e ae)) Q' E' s
abbrev WB(e:Expr)(Q:Bool→SH→Prop)(X:QX):Prop:=Bx (Y1 G F b fr h e Q X)
def Β(v:SV)(Q:Bool→SH→Prop)(X:QX):Prop:=
 ∀own ae A P m s (Q':Bool→ak→Prop) (E':Value→ak→Prop) v',Rel G F b own ae A P m fr h s→VR P m v v'→
  (∀c h' s' P' m',Q c h'→P.le P'→m.le m'→Rel G F b own ae A P' m' fr h' s'→Q' c s')→g0 G F b own ae A P m fr X E'→
  aw (aR G.prog G.w) A (zL v') Q' E' s
abbrev WT(v:SV)(Q:Bool→SH→Prop)(X:QX):Prop:=Bx (Β G F b fr h v Q X)
inductive ug where
 |next|brk|cont
 |ret (v:SV)
def YF(P:aV)(m:Mu):ug→Flow→Prop
 |.next,f=>f=.next
 |.brk,f=>f=.brk
 |.cont,f=>f=.cont
 |.ret v,f=>∃v',f=.ret v'∧VR P m v v'
abbrev QS:=ug→SF→SH→Prop
abbrev dP:=String→SF→SH→Prop
def Au(own:List au)(ae:Env)(A:dZ)(P:aV)(m:Mu)(Q:QS)(Q':Flow→ak→Prop):Prop:=
 ∀f fr' h' f' s' P' m',Q f fr' h'→P.le P'→m.le m'→YF P' m' f f'→Rel G F b own ae A P' m' fr' h' s'→Q' f' s'
def ql(own:List au)(ae:Env)(A:dZ)(P:aV)(m:Mu)(X:dP)(E':Value→ak→Prop):Prop:=
 ∀x fr' h' e s' P' m',X x fr' h'→P.le P'→m.le m'→At G.base s'.heap P' m' own e x→Rel G F b own ae A P' m' fr' h' s'→E' (.ref e) s'
def ac1(t:Env→Sem Flow)(Q:QS)(X:dP):Prop:=
 ∀own ae A P m s (Q':Flow→ak→Prop) (E':Value→ak→Prop),Rel G F b own ae A P m fr h s→
  Au G F b own ae A P m Q Q'→ql G F b own ae A P m X E'→aw (aR G.prog G.w) A (t ae) Q' E' s
abbrev iH(t:Env→Sem Flow)(Q:QS)(X:dP):Prop:=Bx (ac1 G F b fr h t Q X)
def WS(st:bx)(Q:QS)(X:dP):Prop:=iH G F b fr h (exec st) Q X
def j4(st:List bx)(Q:QS)(X:dP):Prop:=iH G F b fr h (execs st) Q X
end
variable{P':aV}{m':Mu}
theorem l_.mono{Q:QV}{Q':Value→ak→Prop}(c:l_ G F b fr own ae A P m Q Q')(hP:P.le P')(hm:m.le m'):l_ G F b fr own ae A P' m' Q Q':=
 λv h' v' s' cD cu hq h1 h2=>c v h' v' s' cD cu hq (hP.trans h1) (hm.trans h2)
theorem g0.mono{X:QX}{E':Value→ak→Prop}(c:g0 G F b own ae A P m fr X E')(hP:P.le P')(hm:m.le m'):g0 G F b own ae A P' m' fr X E':=
 λx h' e s' cD cu hq h1 h2=>c x h' e s' cD cu hq (hP.trans h1) (hm.trans h2)
theorem Au.mono{Q:QS}{Q':Flow→ak→Prop}(c:Au G F b own ae A P m Q Q')(hP:P.le P')(hm:m.le m'):Au G F b own ae A P' m' Q Q':=
 λf fr' h' v' s' cD cu hq h1 h2=>c f fr' h' v' s' cD cu hq (hP.trans h1) (hm.trans h2)
theorem ql.mono{X:dP}{E':Value→ak→Prop}(c:ql G F b own ae A P m X E')(hP:P.le P')(hm:m.le m'):ql G F b own ae A P' m' X E':=
 λx fr' h' e s' cD cu hq h1 h2=>c x fr' h' e s' cD cu hq (hP.trans h1) (hm.trans h2)
theorem ql.j8{X:dP}{E':Value→ak→Prop}(c:ql G F b own ae A P m X E'):g0 G F b own ae A P m fr (λx h=>X x fr h) E':=
 λx h' e s' cD cu hq h1 h2=>c x fr h' e s' cD cu hq h1 h2
theorem l_.here{Q:QV}{Q':Value→ak→Prop}(c:l_ G F b fr own ae A P m Q Q'){v:SV}{v':Value}(hq:Q v h)(hv:VR P m v v')(R:Rel G F b own ae A P m fr h s):Q' v' s:=
 c v h v' s P m hq .rfl .rfl hv R
theorem WV.imp{t:Env→Sem Value}{Q pR:QV}{X yF:QX}(w:WV G F b fr h t Q X)(hQ:∀v h,Q v h→pR v h)(hX:∀x h,X x h→yF x h):WV G F b fr h t pR yF:=
 .mk λown ae A P m s Q' E' R c d=>w.run own ae A P m s Q' E' R (λv h' v' s' P' m' q=>c v h' v' s' P' m' (hQ _ _ q)) (λx h' e s' P' m' q=>d x h' e s' P' m' (hX _ _ q))
theorem iH.imp{t:Env→Sem Flow}{Q pR:QS}{X yF:dP}(w:iH G F b fr h t Q X)(hQ:∀f fr h,Q f fr h→pR f fr h)(hX:∀x fr h,X x fr h→yF x fr h):iH G F b fr h t pR yF:=
 .mk λown ae A P m s Q' E' R c d=>w.run own ae A P m s Q' E' R (λf fr' h' v' s' P' m' q=>c f fr' h' v' s' P' m' (hQ _ _ _ q)) (λx fr' h' e s' P' m' q=>d x fr' h' e s' P' m' (hX _ _ _ q))
theorem Rel.yC(R:Rel G F b own ae A P m fr h s):s.heap.Ns ae.globals G.mg:=by rw[R.f.glob];exact G.g.keeps R.bs
theorem Rel.JU(R:Rel G F b own ae A P m fr h s):s.heap.Ns ae.builtins G.mb:=by rw[R.f.blt];exact G.b.keeps R.bs
noncomputable def sW(F:FD)(x:Str):Bool:=match F.sc.names.lookup x with
 |some .local=>ab
 |some .cell=>ab
 |some .free=>x !=("__classdict__":Str)
 |_=>an
theorem NO{x:Str}{v:SV}{Q':Value→ak→Prop}{E':Value→ak→Prop}(R:Rel G F b own ae A P m fr h s)(hx:fr.lookup x=aa v)(hk:sW F x=ab)(hq:∀v',VR P m v v'→Q' v' s):
  aw (aR G.prog G.w) A (loadName ae x) Q' E' s:=by
 have qY:ae.scope.kind=.function:=by rw[R.f.sc];exact R.f.kind
 unfold sW at hk
 cases hl:F.sc.names.lookup x with
 |none=>rw[hl] at hk;exact cM hk
 |some k=>
  rw[hl] at hk;have jR:ae.kindOf x=aa k:=by unfold PV;rw[R.f.sc];exact hl
  have free:∀{ce},(F.sc.names.lookup x=aa .cell∨F.sc.names.lookup x=aa .free)→ae.cells.lookup x=aa ce→∃v',s.heap.IsCell ce (aa v')∧VR P m v v':=by
   intro ce dY hc;refine bP (R.f.mB x v hx dY) λc' v' q1 q2 q3=>?_;obtain rfl:c'=ce:=aY (q1.symm.trans hc);refine(aU v' ?_ q2);rcases q3 with⟨_,_,q⟩|⟨o,q5,q6⟩
   ·exact q
   ·refine xE (R.oU q5) λsl q7=>?_
    exact⟨_,q7,q6⟩
  cases k with
  |«local»=>
   obtain⟨mm,q1,q2⟩:=R.f.ns;refine aj (q2 x v hx hl) λv' q3 q4=>?_;exact wpAny_loadName_local qY jR q1 q3 (hq _ q4)
  |cell=>
   refine bP (R.f.mB x v hx (.inl hl)) λce v' q1 q2 q3=>?_;refine aj (free (.inl hl) q1) λv'' q4 q5=>?_;exact wpAny_loadName_cell qY jR q1 q4 (hq _ q5)
  |free=>
   refine bP (R.f.mB x v hx (.inr hl)) λce v' q1 q2 q3=>?_;refine aj (free (.inr hl) q1) λv'' q4 q5=>?_;exact wpAny_loadName_free qY jR q1 q4 (hq _ q5) (by simpa using hk)
  |_=>simp at hk
theorem Nb{x:Str}{pos:Pos}{v:SV}{Q:QV}{X:QX}(hx:fr.lookup x=aa v)(hk:sW F x=ab)(hd:(x==("__debug__":Str))=an)(hq:Q v h):
  WE G F b fr h (.Name x pos) Q X:=
 .mk λown ae A P m s Q' E' R c d=>wpAny_Name (NO R hx hk λv' hv=>c.here hq hv R) hd
theorem Hs{M:i2}{t:Sem Unit}{Q:Value→ak→Prop}{E:Value→ak→Prop}(w:aw M A (do t;pure eH) Q E s):aw M A t (λ_=>Q .none) E s:=λΓ p CO=>by
 have:=w Γ p CO;rw[Sem.wp_bind'] at this;exact Sem.wp_mono _ Γ _ (λ_ _ _ x=>x) (λ_ _ _ x=>x) _ _ this
inductive jm(G:Gl)(x:Str):SV→Prop
 |ref {a:au}:G.mg x=aa (.ref a)→jm G x (.glob a)
 |str {t:Str} {k:Tok}:G.mg x=aa (.str t k)→jm G x (.str t)
 |int {t:Int} {k:Tok}:G.mg x=aa (.int t k)→jm G x (.int t)
 |bi {id:String}:G.mg x=af→G.mb x=aa (.builtin id)→jm G x (.bi id)
 |ty {id:String}:G.mg x=af→G.mb x=aa (.type id)→jm G x (.ty id)
theorem Ez{x:Str}{pos:Pos}{v:SV}{Q:QV}{X:QX}(hg:jm G x v)(hk:F.sc.names.lookup x=aa .globalImplicit)(hd:(x==("__debug__":Str))=an)(hq:Q v h):
  WE G F b fr h (.Name x pos) Q X:=by
 refine .mk ?_;intro own ae A P m s Q' E' R c d;refine wpAny_Name ?_ hd;have qY:ae.scope.kind=.function:=by rw[R.f.sc];exact R.f.kind
 rw[aky qY (by unfold PV;rw[R.f.sc];exact hk)]
 cases hg with
 |ref e=>exact PW R.yC e (c.here hq rfl R)
 |str e=>exact PW R.yC e (c.here hq ⟨_,rfl⟩ R)
 |int e=>exact PW R.yC e (c.here hq ⟨_,rfl⟩ R)
 |bi e1 e2=>exact aga R.yC e1 R.JU e2 (c.here hq rfl R)
 |ty e1 e2=>exact aga R.yC e1 R.JU e2 (c.here hq rfl R)
theorem const_int{i:Int}{k:Nat}{pos:Pos}{Q:QV}{X:QX}(hq:Q (.int i) h):WE G F b fr h (.Constant (.int i) k pos) Q X:=
 .mk λown ae A P m s Q' E' R c d=>wpAny_Constant_int (c _ _ _ _ _ _ hq .rfl .rfl ⟨_,rfl⟩ (R.tok _))
theorem IU{i:Str}{k:Nat}{pos:Pos}{Q:QV}{X:QX}(hq:Q (.str i) h):WE G F b fr h (.Constant (.str i) k pos) Q X:=
 .mk λown ae A P m s Q' E' R c d=>wpAny_Constant_str (c _ _ _ _ _ _ hq .rfl .rfl ⟨_,rfl⟩ (R.tok _))
theorem Rt{i:Bool}{k:Nat}{pos:Pos}{Q:QV}{X:QX}(hq:Q (.bool i) h):WE G F b fr h (.Constant (.bool i) k pos) Q X:=
 .mk λown ae A P m s Q' E' R c d=>wpAny_Constant_bool (c _ _ _ _ _ _ hq .rfl .rfl rfl R)
theorem const_none{k:Nat}{pos:Pos}{Q:QV}{X:QX}(hq:Q .none h):WE G F b fr h (.Constant .none k pos) Q X:=
 .mk λown ae A P m s Q' E' R c d=>wpAny_Constant_none (c _ _ _ _ _ _ hq .rfl .rfl rfl R)
noncomputable def bw(f:Value→Value→Sem Value):List Value→Sem Value
 |[a,b]=>f a b
 |_=>Do "op2"
noncomputable def mJ(f:Value→Sem Value):List Value→Sem Value
 |[a]=>f a
 |_=>Do "op1"
noncomputable def Hr(f:Value→Value→Value→Sem Value):List Value→Sem Value
 |[a,b,c]=>f a b c
 |_=>Do "op3"
theorem WV.two{l r:Env→Sem Value}{f:Value→Value→Sem Value}{Q:QV}{X:QX}
  (w:WV G F b fr h l (λv ag=>WV G F b fr ag r (λu aC=>WO G F b fr aC [v,u] (bw f) Q X) X) X):
  ∀own ae A P m s (Q':Value→ak→Prop) (E':Value→ak→Prop),Rel G F b own ae A P m fr h s→
  l_ G F b fr own ae A P m Q Q'→g0 G F b own ae A P m fr X E'→
  aw (aR G.prog G.w) A (l ae) (λx aZ=>aw (aR G.prog G.w) A (r ae) (λy bz=>aw (aR G.prog G.w) A (f x y) Q' E' bz) E' aZ) E' s:=by
 intro own ae A P m s Q' E' R c d;refine w.run own ae A P m s _ _ R (λv ag v' aZ bW bU hq hP hm hv a6=>?_) d;refine hq.run own ae A bW bU aZ _ _ a6 (λu aC u' bz cD cu h9 cQ cJ hu bk=>?_) (d.mono hP hm);exact h9.run own ae A cD cu bz Q' E' [v',u'] bk ⟨_,_,rfl,hv.mono cQ.t cJ,_,_,rfl,hu,rfl⟩ (c.mono (hP.trans cQ) (hm.trans cJ)) (d.mono (hP.trans cQ) (hm.trans cJ))
theorem Pb{l r:Expr}{op:wS}{pos:Pos}{Q:QV}{X:QX}
  (w:WE G F b fr h l (λv ag=>WE G F b fr ag r (λu aC=>WO G F b fr aC [v,u] (bw (m7 op)) Q X) X) X):WE G F b fr h (.BinOp l op r pos) Q X:=
 .mk λown ae A P m s Q' E' R c d=>wpAny_BinOp (WV.two w own ae A P m s Q' E' R c d)
theorem A7{l r:Expr}{op:CmpOp}{pos:Pos}{Q:QV}{X:QX}(hm:Dp op r=an)
  (w:WE G F b fr h l (λv ag=>WE G F b fr ag r (λu aC=>WO G F b fr aC [v,u] (bw (c5 op)) Q X) X) X):WE G F b fr h (.Compare l [op] [r] pos) Q X:=
 .mk λown ae A P m s Q' E' R c d=>wpAny_Compare1 (WV.two w own ae A P m s Q' E' R c d) hm
end
noncomputable def SH.set(h:SH)(n:Nm)(o:cy):SH:=λx=>if x=n then aa o else h x
noncomputable def Mu.set(m:Mu)(n:Nm)(ad:au×au):Mu:=λx=>if x=n then aa ad else m x
noncomputable def aV.set(P:aV)(a:au)(o:Obj):aV:=λx=>if x=a then aa o else P x
theorem OR.l9{w:cE}{P:aV}{m:Mu}{h:cO}{ad:au×au}{so:cy}(r:OR w P m h ad so):∃o,h.get? ad.1=aa o:=by
 cases so with
 |list vs=>exact ef r.2 λxs n h1 _=>⟨_,h1⟩
 |dict es=>exact bH r.2 λxs h1 _ _=>⟨_,h1⟩
 |set vs=>exact uq r.2 λes n t z=>⟨_,z.1⟩
 |inst c fs=>exact⟨_,r.2.1⟩
theorem OR.at2{w:cE}{P:aV}{m:Mu}{h:cO}{ad:au×au}{so:cy}(r:OR w P m h ad so):∃o,h.get? ad.2=aa o:=by
 cases so with
 |inst c fs=>exact ef r.2.2 λxs n h1 _=>⟨_,h1⟩
 |_=>exact r.1.symm▸r.l9
theorem OR.lt{w:cE}{P:aV}{m:Mu}{h:cO}{ad:au×au}{so:cy}(r:OR w P m h ad so):ad.1<h.objs.size∧ad.2<h.objs.size:=⟨r.l9.elim λ_=>jI,r.at2.elim λ_=>jI⟩
theorem TL{h h' base:cO}(k:∀b o,h.get? b=aa o→(∀vs,o.data≠.fields vs)→∃o',h'.get? b=aa o'∧∀vs,o'.data≠.fields vs){l:List Env}:h.FunFrames base l→h'.FunFrames base l:=by
 induction l with
 |nil=>exact id
 |cons e r ih=>exact λx=>⟨x.1,gO x.2.1 λL o f2 f3 f4 f5=>aj (k L o f4 f5) λo' q1 q2=>⟨L,o',f2,f3,q1,q2⟩,ih x.2.2⟩
theorem OG{hp bV base:cO}{p:au→Prop}{l:List Env}(h2:hp.FunFrames base l)(h4:∀a∈l.filterMap (·.frame),p a)(hk:∀a,p a→∀o,hp.get? a=aa o→bV.get? a=aa o):bV.FunFrames base l:=by
 induction l with
 |nil=>exact trivial
 |cons e0 r ih=>exact⟨h2.1,gO h2.2.1 λL o f2 f3 f4 f5=>⟨L,o,f2,f3,hk L (h4 L (gQ.mpr ⟨e0,.head _,f2⟩)) o f4,f5⟩,ih h2.2.2 λa ha=>h4 a (gQ.mpr ((gQ.mp ha).imp λe z=>⟨.tail _ z.1,z.2⟩))⟩
variable{P':aV}{m':Mu}
theorem Rel.acm(R:Rel G F b own ae A P m fr h s){n:Nm}{ad:au×au}(e:m n=aa ad):ad.1<s.heap.objs.size∧ad.2<s.heap.objs.size:=by
 cases hn:h n with
 |none=>exact a7 ((R.dom n hn).symm.trans e)
 |some so=>exact aj (R.obj n so hn) λbT e' o=>aY (e'.symm.trans e)▸o.lt
theorem Rel.free(R:Rel G F b own ae A P m fr h s){a:au}(ha:s.heap.objs.size≤a):
  P a=af∧(∀n ad,m n=aa ad→a≠ad.1∧a≠ad.2)∧a∉own∧G.base.get? a=af:=
 have no:∀{o},s.heap.get? a≠aa o:=λq=>js.mpr ha (jI q)
 ⟨wT.mpr λo e=>(R.oU e).elim λsl q=>no q,λn ad e=>have q:=R.acm e;⟨dG (bI q.1 ha),dG (bI q.2 ha)⟩,λho=>aj (R.f.mT a ho) λo q _=>no q,wT.mpr λo e=>no (R.bs a o e)⟩
theorem Rel.IW(R:Rel G F b own ae A P m fr h s)(o:Obj)(hf:o.isFreed=an):
  Rel G F b own ae A (P.set s.heap.objs.size o) m fr h {s with heap:=s.heap.push o}∧P.le (P.set s.heap.objs.size o):=
 have q:=R.free (ar s.heap.objs.size)
 (R.grow (s':={s with heap:=s.heap.push o}) (λa o' e=>dT _ e) rfl rfl).Kh (fP _ hf) q.1 q.2.1 q.2.2.1 q.2.2.2
theorem Rel.Ei(R:Rel G F b own ae A P m fr h s){vs:List SV}{a5:List Value}(hv:aO P m vs a5):
  ∃P',P.le P'∧Rel G F b own ae A P' m fr h {s with heap:=s.heap.push {cls:=.type "tuple",data:=.seq a5.toArray}}∧VR P' m (.tup vs) (.ref s.heap.objs.size):=
 have q:=R.IW {cls:=.type "tuple",data:=.seq a5.toArray} rfl
 ⟨_,q.2,q.1,_,_,_,_,rfl,show aV.set _ _ _ _=_ from aP rfl,rfl,rfl,aO.mono q.2.t .rfl _ hv⟩
theorem Rel.alloc(R:Rel G F b own ae A P m fr h s){n:Nm}(hn:h n=af){so:cy}{ad:au×au}{s':ak}
  (hk:∀a o,s.heap.get? a=aa o→s'.heap.get? a=aa o) (hg:s'.gens=s.gens) (ho:s'.os=s.os)
  (h1:s.heap.objs.size≤ad.1) (h2:s.heap.objs.size≤ad.2) (hO:OR G.w P (m.set n ad) s'.heap ad so):
  Rel G F b own ae A P (m.set n ad) fr (h.set n so) s'∧m.le (m.set n ad):=by
 have R':=R.grow hk hg ho;have le:m.le (m.set n ad):=λx o e=>(aK λz=>a7 ((R.dom n hn).symm.trans (z▸e))).trans e;have mu:∀{x a},m.set n ad x=aa a→(x=n∧ad=a)∨m x=aa a:=λ{x a} e=>if hx:x=n then .inl ⟨hx,aY ((aP hx).symm.trans e)⟩ else .inr ((aK hx).symm.trans e)
 have p:=R.free h1;have r:=R.free h2;exact⟨⟨R'.gens,R'.os,R'.bs,R'.basePR,R'.frs,λx Bw e=>if hx:x=n then⟨ad,aP hx,aY ((aP hx).symm.trans e)▸hO⟩ else aj (R'.obj x Bw ((aK hx).symm.trans e)) λbT q1 q2=>⟨bT,le _ _ q1,q2.mono aV.le.rfl.t le (λ_ z=>z) λ_ z=>z⟩,
  λx e=>if hx:x=n then fu ((aP hx).symm.trans e) else(aK hx).trans (R'.dom x ((aK hx).symm.trans e)),
  λx x' a a' e e' dh=>(mu e).elim (λq=>(mu e').elim (λq'=>bc (q.1.trans q'.1.symm) dh) λq'=>have t:=p.2.1 _ _ q';have u:=r.2.1 _ _ q';q.2▸⟨t.1,t.2,u.1,u.2⟩) λq=>(mu e').elim (λq'=>have t:=p.2.1 _ _ q;have u:=r.2.1 _ _ q;q'.2▸⟨t.1.symm,u.1.symm,t.2.symm,u.2.symm⟩) λq'=>R'.inj x x' a a' q q' dh,
  λx a e=>(mu e).elim (λq=>q.2▸⟨p.1,r.1,p.2.2.1,r.2.2.1⟩) (R'.sep x a),R'.ownP,R'.f.keep .rfl le λa _ o e=>⟨o,e,rfl,rfl⟩,R'.depth,R'.units,R'.guards,R'.quiet⟩,le⟩
theorem Rel.upd(R:Rel G F b own ae A P m fr h s){fr':SF}{h':SH}{s':ak}(kP:∀{a o},P a=aa o→∀{o'},s.heap.get? a=aa o'→s'.heap.get? a=aa o')(hg:s'.gens=s.gens)(ho:s'.os=s.os)
  (kF:∀l,s.heap.FunFrames G.base l→(∀a∈l.filterMap (·.frame),a∈own∨∃o,P a=aa o)→s'.heap.FunFrames G.base l) (obj:∀n so,h' n=aa so→∃ad,m n=aa ad∧OR G.w P m s'.heap ad so) (dom:∀n,h' n=af→m n=af) (f:FrR F own ae P m fr' s'.heap):
  Rel G F b own ae A P m fr' h' s':=
 ⟨hg.trans R.gens,ho.trans R.os,λa o e=>kP (R.basePR a o e) (R.bs a o e),R.basePR,jC R.frs λl h1 h2 h3 h4 h5=>⟨l,h1,kF l h2 h4,h3,h4,λa o e=>aj (h5 a o e) λsl q1 q2=>⟨sl,kP e q1,q2⟩⟩,obj,dom,R.inj,R.sep,R.ownP,f,R.depth,R.units,R.guards,R.quiet⟩
theorem Rel.turn(R:Rel G F b own ae A P m fr h s){n:Nm}{so Bw:cy}(hn:h n=aa so){ad:au×au}(hm:m n=aa ad){s':ak}
  (hk:∀a o,a≠ad.1→a≠ad.2→s.heap.get? a=aa o→s'.heap.get? a=aa o) (hg:s'.gens=s.gens) (ho:s'.os=s.os)
  (hO:OR G.w P m s'.heap ad Bw):Rel G F b own ae A P m fr (h.set n Bw) s':=by
 have p:=R.sep n ad hm;have kP:∀{a o},P a=aa o→∀{o'},s.heap.get? a=aa o'→s'.heap.get? a=aa o':=λ{a o} e {o'}=>hk a o' (λq=>a7 (p.1.symm.trans (q▸e))) λq=>a7 (p.2.1.symm.trans (q▸e));have kO:∀{a},a∈own→∀{o},s.heap.get? a=aa o→s'.heap.get? a=aa o:=λ{a} ha {o}=>hk a o (λq=>p.2.2.1 (q▸ha)) λq=>p.2.2.2 (q▸ha);exact R.upd kP hg ho (λl h2 h4=>OG h2 h4 λa q o=>q.elim (λq=>kO q) λq=>q.elim λo' q=>kP q)
  (λx EE e=>if hx:x=n then⟨ad,hx▸hm,aY ((aP hx).symm.trans e)▸hO⟩ else aj (R.obj x EE ((aK hx).symm.trans e)) λbT q1 q2=>have i:=R.inj x n bT ad q1 hm hx;⟨bT,q1,q2.mono aV.le.rfl.t .rfl (λo=>hk _ o i.1 i.2.1) λo=>hk _ o i.2.2.1 i.2.2.2⟩)
  (λx e=>if hx:x=n then fu ((aP hx).symm.trans e) else R.dom x ((aK hx).symm.trans e)) (R.f.keep .rfl .rfl λa ha o e=>⟨o,kO ha e,rfl,rfl⟩)
theorem Rel.Lb(R:Rel G F b own ae A P m fr h s){c:au}(hc:c∈own){fr':SF}{s':ak}(hs:sB c s.heap s'.heap)
  (hd:∃o,s'.heap.get? c=aa o∧(∀vs,o.data≠.fields vs)) (hg:s'.gens=s.gens) (ho:s'.os=s.os) (hF:FrR F own ae P m fr' s'.heap):Rel G F b own ae A P m fr' h s':=
 R.upd (λ{a o} e {o'} e'=>(hs.2 a λq=>a7 ((R.ownP c hc).symm.trans (q▸e))).trans e') hg ho (λl h2 _=>TL (λb o e dh=>if hb:b=c then hb▸hd else⟨o,(hs.2 b hb).trans e,dh⟩) h2)
  (λx EE e=>aj (R.obj x EE e) λad q1 q2=>have p:=R.sep x ad q1;⟨ad,q1,q2.mono aV.le.rfl.t .rfl (λo z=>(hs.2 _ λq:ad.1=c=>p.2.2.1 (q▸hc)).trans z) λo z=>(hs.2 _ λq:ad.2=c=>p.2.2.2 (q▸hc)).trans z⟩) R.dom hF
theorem Mu.jb{m:Mu}{n:Nm}{ad:au×au}:m.set n ad n=aa ad:=aP rfl
theorem Aa{m:Mu}{n:Nm}{ad:au×au}(hn:m n=af):m.le (m.set n ad):=λx o e=>by
 unfold Mu.set
 by_cases hx:x=n
 ·subst hx;rw[hn] at e;exact a7 e
 ·rw[aK hx];exact e
theorem SW{op:UnaryOp}{e:Expr}{pos:Pos}{Q:QV}{X:QX}(w:WE G F b fr h e (λv ag=>WO G F b fr ag [v] (mJ (unaryOp op)) Q X) X):WE G F b fr h (.UnaryOp op e pos) Q X:=by
 refine .mk ?_;intro own ae A P m s Q' E' R c d;refine akz (w.run own ae A P m s _ _ R (λv ag v' aZ bW bU hq hP hm hv a6=>?_) d);exact hq.run own ae A bW bU aZ Q' E' [v'] a6 (aO.one hv) (c.mono hP hm) (d.mono hP hm)
theorem ab3{i:Int}{Q:QV}{X:QX}(hq:Q (.int (-i)) h):WO G F b fr h [.int i] (mJ (unaryOp .USub)) Q X:=by
 refine .mk ?_;intro own ae A P m s Q' E' a5 R hv c d;refine jx hv λv' zA=>?_
 first|refine nc zA λt=>?_|refine pG zA λt=>?_
 exact ak0 (c _ _ _ _ _ _ hq .rfl .rfl ⟨_,rfl⟩ (R.tok _))
theorem ND{t MD sd:Expr}{pos:Pos}{Q:QV}{X:QX}(w:WB G F b fr h t (λc ag=>if c then WE G F b fr ag MD Q X else WE G F b fr ag sd Q X) X):WE G F b fr h (.IfExp t MD sd pos) Q X:=by
 refine .mk ?_;intro own ae A P m s Q' E' R c d;refine ak1 (w.run own ae A P m s _ _ R (λv ag aZ bW bU hq hP hm a6=>?_) d)
 cases v with
 |true=>exact hq.run own ae A bW bU aZ Q' E' a6 (c.mono hP hm) (d.mono hP hm)
 |false=>exact hq.run own ae A bW bU aZ Q' E' a6 (c.mono hP hm) (d.mono hP hm)
theorem Dc{c:Bool}{Q:Bool→SH→Prop}{X:QX}(hq:Q c h):WT G F b fr h (.bool c) Q X:=by
 refine .mk ?_;intro own ae A P m s Q' E' v' R hv k d;obtain rfl:=hv;exact HK (k _ _ _ _ _ hq .rfl .rfl R)
theorem ac5{Q:Bool→SH→Prop}{X:QX}(hq:Q an h):WT G F b fr h .none Q X:=by
 refine .mk ?_;intro own ae A P m s Q' E' v' R hv k d;obtain rfl:=hv;exact ak2 (k _ _ _ _ _ hq .rfl .rfl R)
theorem Uq{e:Expr}{pos:Pos}{Q:Bool→SH→Prop}{X:QX}(w:WB G F b fr h e (λc ag=>Q (!c) ag) X):WB G F b fr h (.UnaryOp .Not e pos) Q X:=by
 refine .mk ?_;intro own ae A P m s Q' E' R c d;exact ak3 (w.run own ae A P m s _ _ R (λv ag aZ bW bU hq hP hm a6=>c _ _ _ _ _ hq hP hm a6) d)
theorem N0{e:Expr}{es:List Expr}{pos:Pos}{Q:Bool→SH→Prop}{X:QX}
  (w:WB G F b fr h e (λc ag=>if c then WB G F b fr ag (.BoolOp .And es pos) Q X else Q an ag) X):WB G F b fr h (.BoolOp .And (e::es) pos) Q X:=by
 refine .mk ?_;intro own ae A P m s Q' E' R c d;refine ak4 (w.run own ae A P m s _ _ R (λv ag aZ bW bU hq hP hm a6=>?_) d)
 cases v with
 |true=>exact hq.run own ae A bW bU aZ Q' E' a6 (λv h' s' P' m' q a b=>c v h' s' P' m' q (hP.trans a) (hm.trans b)) (d.mono hP hm)
 |false=>exact c _ _ _ _ _ hq hP hm a6
theorem ER{e:Expr}{es:List Expr}{pos:Pos}{Q:Bool→SH→Prop}{X:QX}
  (w:WB G F b fr h e (λc ag=>if c then Q ab ag else WB G F b fr ag (.BoolOp .Or es pos) Q X) X):WB G F b fr h (.BoolOp .Or (e::es) pos) Q X:=by
 refine .mk ?_;intro own ae A P m s Q' E' R c d;refine ak5 (w.run own ae A P m s _ _ R (λv ag aZ bW bU hq hP hm a6=>?_) d)
 cases v with
 |true=>exact c _ _ _ _ _ hq hP hm a6
 |false=>exact hq.run own ae A bW bU aZ Q' E' a6 (λv h' s' P' m' q a b=>c v h' s' P' m' q (hP.trans a) (hm.trans b)) (d.mono hP hm)
theorem Y5{pos:Pos}{Q:Bool→SH→Prop}{X:QX}(hq:Q ab h):WB G F b fr h (.BoolOp .And [] pos) Q X:=
 .mk λown ae A P m s Q' E' R c d=>ak6 (c _ _ _ _ _ hq .rfl .rfl R)
theorem Yu{pos:Pos}{Q:Bool→SH→Prop}{X:QX}(hq:Q an h):WB G F b fr h (.BoolOp .Or [] pos) Q X:=
 .mk λown ae A P m s Q' E' R c d=>ak7 (c _ _ _ _ _ hq .rfl .rfl R)
theorem L9{l r:Expr}{op:CmpOp}{pos:Pos}{Q:Bool→SH→Prop}{X:QX}(hm:Dp op r=an)
  (w:WE G F b fr h l (λv ag=>WE G F b fr ag r (λu aC=>WO G F b fr aC [v,u] (bw (c5 op)) (λt cK=>WT G F b fr cK t Q X) X) X) X):WB G F b fr h (.Compare l [op] [r] pos) Q X:=by
 refine .mk ?_;intro own ae A P m s Q' E' R c d;refine wpAny_isTrue_Compare1 (WV.two w own ae A P m s _ E' R (λv ag v' aZ bW bU hq hP hm hv a6=>?_) d) hm;exact hq.run own ae A bW bU aZ Q' E' v' a6 hv (λv h' s' P' m' q a b=>c v h' s' P' m' q (hP.trans a) (hm.trans b)) (d.mono hP hm)
noncomputable def Bv(e:Expr):Bool:=!([0,3,5,15].contains e.ctorIdx)
theorem R6{e:Expr}(h:Bv e=ab)(ae:Env)(AF:Sem Value):isTrue e ae AF=(do let v ←AF;kh e.pos;ju [v] (zL v)):=by
 refine @wU (λe=>Bv e=ab→isTrue e ae AF=(do let v ←AF;kh e.pos;ju [v] (zL v))) e ?_ ?_ ?_ ?_ ?_ ?_ ?_ ?_ ?_ ?_ ?_ ?_ ?_ ?_ ?_ ?_ ?_ ?_ ?_ ?_ ?_ ?_ ?_ ?_ ?_ ?_ ?_ h<;>(intros;first|rfl|exact cM ‹_›)
theorem Φ{e:Expr}{Q:Bool→SH→Prop}{X:QX}(hp:Bv e=ab)(w:WE G F b fr h e (λv ag=>WT G F b fr ag v Q X) X):WB G F b fr h e Q X:=by
 refine .mk ?_;intro own ae A P m s Q' E' R c d;refine ak8 (w.run own ae A P m s _ _ R (λv ag v' aZ bW bU hq hP hm hv a6=>?_) d) (R6 hp ae _);exact hq.run own ae A bW bU aZ Q' E' v' a6 hv (λv h' s' P' m' q a b=>c v h' s' P' m' q (hP.trans a) (hm.trans b)) (d.mono hP hm)
theorem KU{op:BoolOp}{e:Expr}{pos:Pos}{Q:QV}{X:QX}(w:WE G F b fr h e Q X):WE G F b fr h (.BoolOp op [e] pos) Q X:=
 .mk λown ae A P m s Q' E' R c d=>ak9 (w.run own ae A P m s Q' E' R c d)
theorem US{e sd:Expr}{es:List Expr}{pos:Pos}{Q:QV}{X:QX}
  (w:WE G F b fr h e (λv ag=>WT G F b fr ag v (λc aC=>if c then WE G F b fr aC (.BoolOp .And (sd::es) pos) Q X else Q v aC) X) X):WE G F b fr h (.BoolOp .And (e::sd::es) pos) Q X:=by
 refine .mk ?_;intro own ae A P m s Q' E' R c d;refine ala (w.run own ae A P m s _ _ R (λv ag v' aZ bW bU hq hP hm hv a6=>?_) d);refine hq.run own ae A bW bU aZ _ _ v' a6 hv (λt aC bz cD cu h9 cQ cJ bk=>?_) (d.mono hP hm)
 cases t with
 |true=>exact h9.run own ae A cD cu bz Q' E' bk (c.mono (hP.trans cQ) (hm.trans cJ)) (d.mono (hP.trans cQ) (hm.trans cJ))
 |false=>exact c _ _ _ _ _ _ h9 (hP.trans cQ) (hm.trans cJ) (hv.mono cQ.t cJ) bk
theorem aas{e sd:Expr}{es:List Expr}{pos:Pos}{Q:QV}{X:QX}
  (w:WE G F b fr h e (λv ag=>WT G F b fr ag v (λc aC=>if c then Q v aC else WE G F b fr aC (.BoolOp .Or (sd::es) pos) Q X) X) X):WE G F b fr h (.BoolOp .Or (e::sd::es) pos) Q X:=by
 refine .mk ?_;intro own ae A P m s Q' E' R c d;refine alb (w.run own ae A P m s _ _ R (λv ag v' aZ bW bU hq hP hm hv a6=>?_) d);refine hq.run own ae A bW bU aZ _ _ v' a6 hv (λt aC bz cD cu h9 cQ cJ bk=>?_) (d.mono hP hm)
 cases t with
 |false=>exact h9.run own ae A cD cu bz Q' E' bk (c.mono (hP.trans cQ) (hm.trans cJ)) (d.mono (hP.trans cQ) (hm.trans cJ))
 |true=>exact c _ _ _ _ _ _ h9 (hP.trans cQ) (hm.trans cJ) (hv.mono cQ.t cJ) bk
def afi(G:Gl)(F:FD)(b:Nat)(fr:SF)(h:SH)(es:List Expr)(Q:List SV→SH→Prop)(X:QX):Prop:=
 ∀own ae A P m s pos (Q':List Value→ak→Prop) (E':Value→ak→Prop),Rel G F b own ae A P m fr h s→
  (∀v h' v' s' P' m',Q v h'→P.le P'→m.le m'→aO P' m' v v'→Rel G F b own ae A P' m' fr h' s'→Q' v' s')→g0 G F b own ae A P m fr X E'→
  aw (aR G.prog G.w) A (spliced (jv pos (gh es ae))) Q' E' s
abbrev j7(G:Gl)(F:FD)(b:Nat)(fr:SF)(h:SH)(es:List Expr)(Q:List SV→SH→Prop)(X:QX):Prop:=Bx (afi G F b fr h es Q X)
theorem tz{Q:List SV→SH→Prop}{X:QX}(hq:Q [] h):j7 G F b fr h [] Q X:=
 .mk λown ae A P m s pos Q' E' R c d=>wpAny_items_nil (c _ _ _ _ _ _ hq .rfl .rfl rfl R)
theorem Xr{e:Expr}{es:List Expr}{Q:List SV→SH→Prop}{X:QX}(he:∀ae,gh (e::es) ae=(an,d9 e ae)::gh es ae)
  (w:WE G F b fr h e (λv ag=>j7 G F b fr ag es (λvs aC=>Q (v::vs) aC) X) X):j7 G F b fr h (e::es) Q X:=by
 refine .mk ?_;intro own ae A P m s pos Q' E' R c d;refine wpAny_items_cons (w.run own ae A P m s _ _ R (λv ag v' aZ bW bU hq hP hm hv a6=>?_) d) (he ae);exact hq.run own ae A bW bU aZ pos _ E' a6 (λvs aC a5 bz cD cu h9 cQ cJ qt bk=>c _ _ _ _ _ _ h9 (hP.trans cQ) (hm.trans cJ) ⟨_,_,rfl,hv.mono cQ.t cJ,qt⟩ bk) (d.mono hP hm)
theorem tuple{es:List Expr}{k:Nat}{pos:Pos}{Q:QV}{X:QX}(hn:es.length≤cR)
  (w:j7 G F b fr h es (λvs ag=>vs.length=es.length∧Q (.tup vs) ag) X):WE G F b fr h (.Tuple es k pos) Q X:=by
 refine .mk ?_;intro own ae A P m s Q' E' R c d;refine wpAny_Tuple (w.run own ae A P m s pos _ _ R (λv ag v' aZ bW bU hq hP hm hv a6=>?_) d);refine bH (a6.Ei hv) λcD le bk qt=>?_;exact⟨by rw[←hv.length,hq.1];exact hn,c _ _ _ _ _ _ hq.2 (hP.trans le) hm qt bk⟩
theorem list{es:List Expr}{pos:Pos}{Q:QV}{X:QX}(hn:es.length≤cR)
  (w:j7 G F b fr h es (λvs ag=>vs.length=es.length∧∃n,ag n=af∧Q (.ref n) (ag.set n (.list vs))) X):WE G F b fr h (.List es pos) Q X:=by
 refine .mk ?_;intro own ae A P m s Q' E' R c d;refine wpAny_List (w.run own ae A P m s pos _ _ R (λv ag v' aZ bW bU hq hP hm hv a6=>?_) d);refine mP hq λhl n pX hQ=>?_;clear hq;refine⟨by rw[←hv.length,hl];exact hn,?_⟩;obtain⟨bk,le⟩:=a6.alloc pX (so:=.list v) (ad:=(aZ.heap.objs.size,aZ.heap.objs.size)) (s':={aZ with heap:=aZ.heap.push {cls:=.type "list",data:=.seq v'.toArray}})
  (λa o e=>dT _ e) rfl rfl (ar _) (ar _) ⟨rfl,v'.toArray,0,fP _ rfl,by
   refine aO.mono aV.le.rfl.t (λx o e=>?_) _ (by exact hv);exact Aa (a6.dom n pX) x o e⟩
 exact c _ _ _ _ _ _ hQ hP (hm.trans le) ⟨_,Mu.jb,rfl⟩ bk
theorem wf{Q:QS}{X:dP}(hq:Q .next fr h):j4 G F b fr h [] Q X:=
 .mk λown ae A P m s Q' E' R c d=>wpAny_execs_nil (c _ _ _ _ _ _ _ hq .rfl .rfl rfl R)
theorem xx{st:bx}{rest:List bx}{Q:QS}{X:dP}
  (w:WS G F b fr h st (λf bv ag=>match f with|.next=>j4 G F b bv ag rest Q X|f=>Q f bv ag) X):j4 G F b fr h (st::rest) Q X:=by
 refine .mk ?_;intro own ae A P m s Q' E' R c d;refine wpAny_execs_cons (w.run own ae A P m s _ _ R (λf bv ag f' aZ bW bU hq hP hm hf a6=>?_) d)
 cases f with
 |next=>obtain rfl:=hf;exact hq.run own ae A bW bU aZ Q' E' a6 (c.mono hP hm) (d.mono hP hm)
 |brk=>obtain rfl:=hf;exact c _ _ _ _ _ _ _ hq hP hm rfl a6
 |cont=>obtain rfl:=hf;exact c _ _ _ _ _ _ _ hq hP hm rfl a6
 |ret v=>refine aj hf λv' bq hv=>?_;clear hf;subst bq;exact c _ _ _ _ _ _ _ hq hP hm ⟨_,rfl,hv⟩ a6
theorem TN{pos:Pos}{Q:QS}{X:dP}(hq:Q .next fr h):WS G F b fr h (.Pass pos) Q X:=
 .mk λown ae A P m s Q' E' R c d=>wpAny_Pass (c _ _ _ _ _ _ _ hq .rfl .rfl rfl R)
theorem brk{pos:Pos}{Q:QS}{X:dP}(hq:Q .brk fr h):WS G F b fr h (.Break pos) Q X:=
 .mk λown ae A P m s Q' E' R c d=>wpAny_Break (c _ _ _ _ _ _ _ hq .rfl .rfl rfl R)
theorem cont{pos:Pos}{Q:QS}{X:dP}(hq:Q .cont fr h):WS G F b fr h (.Continue pos) Q X:=
 .mk λown ae A P m s Q' E' R c d=>wpAny_Continue (c _ _ _ _ _ _ _ hq .rfl .rfl rfl R)
theorem ret{e:Expr}{pos:Pos}{Q:QS}{X:dP}(w:WE G F b fr h e (λv ag=>Q (.ret v) fr ag) (λx h=>X x fr h)):WS G F b fr h (.Return (aa e) pos) Q X:=
 .mk λown ae A P m s Q' E' R c d=>wpAny_Return_some (w.run own ae A P m s _ _ R (λv ag v' aZ bW bU hq hP hm hv a6=>c _ _ _ _ _ _ _ hq hP hm ⟨_,rfl,hv⟩ a6) d.j8)
theorem GZ{t:Expr}{body eZ:List bx}{pos:Pos}{Q:QS}{X:dP}
  (w:WB G F b fr h t (λc ag=>if c then j4 G F b fr ag body Q X else j4 G F b fr ag eZ Q X) (λx h=>X x fr h)):WS G F b fr h (.If t body eZ pos) Q X:=by
 refine .mk ?_;intro own ae A P m s Q' E' R c d;refine wpAny_If (w.run own ae A P m s _ _ R (λv ag aZ bW bU hq hP hm a6=>?_) d.j8)
 cases v with
 |true=>exact hq.run own ae A bW bU aZ Q' E' a6 (c.mono hP hm) (d.mono hP hm)
 |false=>exact hq.run own ae A bW bU aZ Q' E' a6 (c.mono hP hm) (d.mono hP hm)
noncomputable def SF.put:SF→Str→SV→SF
 |[],x,v=>[(x,v)]
 |(y,u)::r,x,v=>if x=y then(y,v)::r else(y,u)::SF.put r x v
theorem gj(fr:SF)(x:Str)(v:SV)(y:Str):(fr.put x v).lookup y=if y=x then aa v else fr.lookup y:=by
 induction fr with
 |nil=>exact if e:y=x then(i_ (p:=(x,v)) e).trans (aP e).symm else(gT (p:=(x,v)) e).trans (aK e).symm
 |cons p r ih=>
  by_cases h:x=p.1
  ·rw[show SF.put (p::r) x v=(p.1,v)::r from aP h]
   exact if e:y=x then(i_ (p:=(p.1,v)) (e.trans h)).trans (aP e).symm else(gT (p:=(p.1,v)) λz=>e (z.trans h.symm)).trans ((gT λz=>e (z.trans h.symm)).symm.trans (aK e).symm)
  ·rw[show SF.put (p::r) x v=p::SF.put r x v from aK h]
   exact if e:y=p.1 then(i_ e).trans ((i_ e).symm.trans (aK λz=>h (z.symm.trans e)).symm) else(gT e).trans (ih.trans ((gT (p:=p) (r:=r) e)▸rfl))
noncomputable def pY(F:FD)(x:Str):Bool:=match F.sc.names.lookup x with
 |some .local=>ab
 |some .cell=>F.st.contains x
 |_=>an
abbrev QF:=SF→SH→Prop
theorem Yv{hp:cO}{a c:au}{mm:Str→Option Value}{v:Option Value}(hn:hp.Ns a mm)(hc:hp.IsCell c v):c≠a:=λq=>
 hn.elim λo h=>h.elim λes h=>h.elim λep h=>aj hc λo' z3 z4=>nomatch (h.2.1.symm.trans (aY (h.1.symm.trans (q▸z3))▸z4):Data.dict es ep=.cell v)
theorem Cz{x:Str}{v:SV}{v':Value}{Q':Unit→ak→Prop}{E':Value→ak→Prop}(R:Rel G F b own ae A P m fr h s)(hv:VR P m v v')(hx:pY F x=ab)
  (c:∀s',Rel G F b own ae A P m (fr.put x v) h s'→Q' () s'):aw (aR G.prog G.w) A (storeName ae x v') Q' E' s:=by
 have qY:ae.scope.kind=.function:=R.f.sc▸R.f.kind;have put:∀{y u},(fr.put x v).lookup y=aa u→(y=x∧v=u)∨(y≠x∧fr.lookup y=aa u):=λ{y u} hy=>
  have hy:=(gj fr x v y).symm.trans hy
  if e:y=x then .inl ⟨e,aY ((aP e).symm.trans hy)⟩ else .inr ⟨e,(aK e).symm.trans hy⟩
 unfold pY at hx
 cases hl:F.sc.names.lookup x with
 |none=>rw[hl] at hx;exact cM hx
 |some k=>
  rw[hl] at hx;have jR:ae.kindOf x=aa k:=(ay (λsc:cb=>sc.names.lookup x) R.f.sc).trans hl
  cases k with
  |«local»=>
   refine aj R.f.ns λmm q1 q2=>wpAny_storeName_local jR q1 (λhh hn hs=>c _ ((R.tok (s.toks+1)).Lb (s':={s with heap:=hh,toks:=s.toks+1}) R.f.r9 hs (hn.elim λo h=>h.elim λes h=>h.elim λep h=>⟨o,h.1,λvs e=>nomatch (h.2.1.symm.trans e)⟩) rfl rfl ?_)) (qY▸rfl);have keep:∀{c w},c≠ae.locals→s.heap.IsCell c w→hh.IsCell c w:=λhc e=>e.sameBut hs hc;refine⟨R.f.sc,R.f.kind,R.f.glob,R.f.blt,R.f.r9,⟨_,hn,λy u hy jh=>(put hy).elim (λe=>⟨v',aP e.1,e.2▸hv⟩) λe=>aj (q2 y u e.2 jh) λw a b=>⟨w,(aK e.1).trans a,b⟩⟩,
    λy u hy jh=>(put hy).elim (λe=>?_) λe=>bP (R.f.mB y u e.2 jh) λce w p1 p2 p3=>⟨ce,w,p1,p2,p3.imp (λp=>⟨p.1,p.2.1,keep p.2.1 p.2.2⟩) id⟩,
    λy jh=>aj (R.f.rU y jh) λce e1 e2=>⟨ce,e1,e2.imp (λp=>xE p.2 λw hw=>⟨p.1,w,keep (Yv q1 hw) hw⟩) id⟩,
    λy hy=>vA (R.f.uh y hy) λp0 ce w p1 p2 p3 p4=>⟨p0,ce,w,p1,p2,p3,keep p3 p4⟩,R.f.apart,λa ha=>?_⟩
   ·exact jh.elim (λq=>nomatch (hl.symm.trans (e.1▸q):aa NameKind.local=aa .cell)) λq=>nomatch (hl.symm.trans (e.1▸q):aa NameKind.local=aa .free)
   ·exact if e:a=ae.locals then hn.elim λo h=>h.elim λes h=>h.elim λep h=>⟨o,e▸h.1,xi h.2.1⟩ else aj (R.f.mT a ha) λo e1 e2=>⟨o,(hs.2 a e).trans e1,e2⟩
  |cell=>
   have kQ:x∈F.st:=e9.mp hx;refine vA (R.f.uh x kQ) λ_ ce w p1 p2 p3 p4=>wpAny_storeName_cell qY jR p1 p4 λhh hn hs=>c _ (R.Lb (s':={s with heap:=hh}) p2 hs (aj hn λo e1 e2=>⟨o,e1,λvs e=>nomatch (e2.symm.trans e)⟩) rfl rfl ?_);have keep:∀{c w},c≠ce→s.heap.IsCell c w→hh.IsCell c w:=λhc e=>e.sameBut hs hc;have LS:∀{y ui},y≠x→ae.cells.lookup y=aa ui→ui≠ce:=λ{y ui} e r1 q=>e (R.f.apart x y ce kQ p1 (q▸r1)).symm;refine⟨R.f.sc,R.f.kind,R.f.glob,R.f.blt,R.f.r9,aj R.f.ns λmm q1 q2=>⟨mm,q1.sameBut hs p3.symm,λy u hy jh=>(put hy).elim (λe=>?_) λe=>q2 y u e.2 jh⟩,
    λy u hy jh=>(put hy).elim (λe=>⟨ce,v',e.1▸p1,e.2▸hv,.inl ⟨p2,p3,hn⟩⟩) λe=>bP (R.f.mB y u e.2 jh) λui w' r1 r2 r3=>⟨ui,w',r1,r2,r3.imp (λr=>⟨r.1,r.2.1,keep (LS e.1 r1) r.2.2⟩) id⟩,
    λy jh=>aj (R.f.rU y jh) λc' e1 e2=>⟨c',e1,e2.imp (λp=>xE p.2 λw hw=>if q:c'=ce then⟨p.1,_,q▸hn⟩ else⟨p.1,w,keep q hw⟩) id⟩,
    λy hy=>vA (R.f.uh y hy) λr0 ui w' r1 r2 r3 r4=>if e:y=x then⟨r0,ce,aa v',e▸p1,p2,p3,hn⟩ else⟨r0,ui,w',r1,r2,r3,keep (LS e r1) r4⟩,R.f.apart,λa ha=>?_⟩
   ·exact nomatch (hl.symm.trans (e.1▸jh):aa agb=aa .local)
   ·exact if e:a=ce then aj hn λo e1 e2=>⟨o,e▸e1,Ca e2⟩ else aj (R.f.mT a ha) λo e1 e2=>⟨o,(hs.2 a e).trans e1,e2⟩
  |_=>exact cM hx
def WAb(G:Gl)(F:FD)(b:Nat)(fr:SF)(h:SH)(t:Expr)(v:SV)(Q:QF)(X:dP):Prop:=
 ∀own ae A P m s (Q':Unit→ak→Prop) (E':Value→ak→Prop) v',Rel G F b own ae A P m fr h s→VR P m v v'→
  (∀fr' h' s' P' m',Q fr' h'→P.le P'→m.le m'→Rel G F b own ae A P' m' fr' h' s'→Q' () s')→ql G F b own ae A P m X E'→
  aw (aR G.prog G.w) A (pq t ae v') Q' E' s
abbrev WA(G:Gl)(F:FD)(b:Nat)(fr:SF)(h:SH)(t:Expr)(v:SV)(Q:QF)(X:dP):Prop:=Bx (WAb G F b fr h t v Q X)
theorem L5{x:Str}{pos:Pos}{v:SV}{Q:QF}{X:dP}(hx:pY F x=ab)(hq:Q (fr.put x v) h):WA G F b fr h (.Name x pos) v Q X:=
 .mk λown ae A P m s Q' E' v' R hv c d=>wpAny_assign_Name (Cz R hv hx λs' R'=>c _ _ _ _ _ hq .rfl .rfl R')
theorem NS{o:Expr}{a:Str}{pos:Pos}{v:SV}{Q:QF}{X:dP}
  (w:WE G F b fr h o (λu ag=>WO G F b fr ag [u,v] (bw λx y=>do Dq x a y;pure .none) (λ_ aC=>Q fr aC) (λx h=>X x fr h)) (λx h=>X x fr h)):WA G F b fr h (.Attribute o a pos) v Q X:=by
 refine .mk ?_;intro own ae A P m s Q' E' v' R hv c d;rw[assign_Attribute];refine wb (dM (w.run own ae A P m s _ _ R (λu ag u' aZ bW bU hq hP hm hu a6=>?_) d.j8));refine wb (jJ ?_);have:=hq.run own ae A bW bU aZ (λ_ s'=>Q' () s') E' [u',v'] a6 ⟨_,_,rfl,hu,_,_,rfl,hv.mono hP.t hm,rfl⟩
  (λ_ aC _ bz cD cu q a b _ bk=>c _ _ _ _ _ q (hP.trans a) (hm.trans b) bk) (d.j8.mono hP hm)
 exact wb (dM (ox (Hs this) (λ_ _ x=>PX x) λ_ _ x=>x))
theorem Ts(o i:Expr)(pos:Pos)(ae:Env)(v:Value):∃rl:Value→Value→List Value,pq (.Subscript o i pos) ae v=(do
  let ov ←ju [v] (d9 o ae)
  let iv ←ju [v,ov] (d9 i ae)
  kh pos
  ju [v,ov,iv] (ux ov iv v)
  release (rl ov iv) []):=⟨λ_ _=>_,rfl⟩
theorem Gi{o i:Expr}{pos:Pos}{v:SV}{Q:QF}{X:dP}
  (w:WE G F b fr h o (λu ag=>WE G F b fr ag i (λk aC=>WO G F b fr aC [u,k,v] (Hr λx y z=>do ux x y z;pure .none) (λ_ cK=>Q fr cK) (λx h=>X x fr h)) (λx h=>X x fr h)) (λx h=>X x fr h)):
  WA G F b fr h (.Subscript o i pos) v Q X:=by
 refine .mk ?_;intro own ae A P m s Q' E' v' R hv c d;refine xE (Ts o i pos ae v') λrl e=>?_;rw[e];refine wb (dM (w.run own ae A P m s _ _ R (λu ag u' aZ bW bU hq hP hm hu a6=>?_) d.j8));refine wb (dM (hq.run own ae A bW bU aZ _ _ a6 (λk aC k' bz cD cu h9 cQ cJ hk bk=>?_) (d.j8.mono hP hm)));refine wb (jJ ?_);have:=h9.run own ae A cD cu bz (λ_ s'=>Q' () s') E' [u',k',v'] bk ⟨_,_,rfl,hu.mono cQ.t cJ,_,_,rfl,hk,_,_,rfl,hv.mono (hP.trans cQ).t (hm.trans cJ),rfl⟩
  (λ_ aC _ bz cD cu q a b _ bk=>c _ _ _ _ _ q ((hP.trans cQ).trans a) ((hm.trans cJ).trans b) bk) (d.j8.mono (hP.trans cQ) (hm.trans cJ))
 exact wb (dM (ox (Hs this) (λ_ _ x=>PX x) λ_ _ x=>x))
noncomputable def CE(G:Gl)(F:FD)(b:Nat)(fr:SF)(h:SH)(ts:List Expr)(vs:List SV)(Q:QF)(X:dP):Prop:=
 match ts,vs with
 |[],[]=>Q fr h
 |t::ts,v::vs=>WA G F b fr h t v (λfr' h'=>CE G F b fr' h' ts vs Q X) X
 |_,_=>False
theorem XC(t:Expr)(ts:List Expr)(ae:Env):(qJ (t::ts) ae).tail=qJ ts ae:=by
 refine @wU (λt=>(qJ (t::ts) ae).tail=qJ ts ae) t ?_ ?_ ?_ ?_ ?_ ?_ ?_ ?_ ?_ ?_ ?_ ?_ ?_ ?_ ?_ ?_ ?_ ?_ ?_ ?_ ?_ ?_ ?_ ?_ ?_ ?_ ?_<;>(intros;rfl)
theorem ad7{ts:List Expr}{X:dP}{Q:QF}{Q':Unit→ak→Prop}{E':Value→ak→Prop}(ht:∀ae,(qJ ts ae)=ts.map λt=>(an,pq t ae)):
  ∀{vs:List SV} {a5:List Value} {fr:SF} {h:SH} {P:aV} {m:Mu} {s:ak},CE G F b fr h ts vs Q X→Rel G F b own ae A P m fr h s→aO P m vs a5→
  (∀fr' h' s' P' m',Q fr' h'→P.le P'→m.le m'→Rel G F b own ae A P' m' fr' h' s'→Q' () s')→ql G F b own ae A P m X E'→aw (aR G.prog G.w) A (assignInOrder (ts.map λt=>pq t ae) a5) Q' E' s:=by
 induction ts with
 |nil=>
  intro vs a5 fr h P m s w R hv c d
  cases vs with
  |nil=>exact hv▸agc (c _ _ _ _ _ w .rfl .rfl R)
  |cons v vs=>exact w.elim
 |cons t ts ih=>
  intro vs a5 fr h P m s w R hv c d
  cases vs with
  |nil=>exact w.elim
  |cons v vs=>
   refine bP hv λx r e h1 h2=>e▸PY ((show WA G F b fr h t v (λfr' h'=>CE G F b fr' h' ts vs Q X) X from w).run own ae A P m s _ _ x R h1 (λbv ag aZ bW bU hq hP hm a6=>?_) d);exact ih (λae=>(XC t ts ae).symm.trans (ay List.tail (ht ae))) hq a6 (aO.mono hP.t hm _ h2) (λfr' h' s' P' m' q a b=>c fr' h' s' P' m' q (hP.trans a) (hm.trans b)) (d.mono hP hm)
theorem Ho{ts:List Expr}{k:Nat}{pos:Pos}{vs:List SV}{Q:QF}{X:dP}(hq:F.q=ab)(ht:∀ae,(qJ ts ae)=ts.map λt=>(an,pq t ae))(hl:ts.length=vs.length)
  (w:CE G F b fr h ts vs Q X):WA G F b fr h (.Tuple ts k pos) (.tup vs) Q X:=by
 refine .mk λown ae A P m s Q' E' v' R hv c d=>oK hv λa o items n ev hh=>mv hh λhp h1 h2 h3=>bH (R.rd hp) λo' e1 e2 e3=>ev▸?_;refine wpAny_assign_Tuple (R.quiet hq) ⟨o',e1,e2.trans h1,n,e3.trans h2⟩ ?_ ?_ (λhh he=>?_)
 ·rw[ht ae,aI _,hl,h3.length];exact fQ
 ·rw[ht ae];exact List.findIdx?_eq_none_iff.mpr λx hx=>aj (bB.mp hx) λt _ e=>e▸rfl
 ·rw[ht ae,pi]
  exact ad7 ht w (R.grow (s':={s with heap:=hh}) (λa o e=>he a o (du (jI e)) e) rfl rfl) h3 c d
theorem Tl{t e:Expr}{pos:Pos}{Q:QS}{X:dP}(hs:∀ae,Dr [t] e pos.line ae=pure an)(hw:∀ae,wV [t] e ae=pure af)(ha:∀ae,(qJ [t] ae).map (·.2)=[pq t ae])
  (w:WE G F b fr h e (λv ag=>WA G F b fr ag t v (λfr' h'=>Q .next fr' h') X) (λx h=>X x fr h)):WS G F b fr h (.Assign [t] e pos) Q X:=by
 refine .mk ?_;intro own ae A P m s Q' E' R c d;refine agd (w.run own ae A P m s _ _ R (λv ag v' aZ bW bU hq hP hm hv a6=>?_) d.j8) (hs ae) (hw ae);rw[ha ae];exact hq.run own ae A bW bU aZ _ _ v' a6 hv (λfr' h' s' P' m' q a b R'=>c _ _ _ _ _ _ _ q (hP.trans a) (hm.trans b) rfl R') (d.mono hP hm)
theorem Xm{x:Str}{p pos:Pos}{op:wS}{e:Expr}{v:SV}{Q:QS}{X:dP}(hx:fr.lookup x=aa v)(hk:sW F x=ab)(hs:pY F x=ab)(hd:(x==("__debug__":Str))=an)
  (w:WE G F b fr h e (λu ag=>WO G F b fr ag [v,u] (bw (sC op)) (λr aC=>Q .next (fr.put x r) aC) (λx h=>X x fr h)) (λx h=>X x fr h)):WS G F b fr h (.AugAssign (.Name x p) op e pos) Q X:=by
 refine .mk ?_;intro own ae A P m s Q' E' R c d;refine wpAny_AugAssign_Name (NO R hx hk λv' hv=>?_);refine w.run own ae A P m s _ _ R (λu aC u' bz cD cu h9 cQ cJ hu bk=>?_) d.j8;refine h9.run own ae A cD cu bz _ _ [v',u'] bk ⟨_,_,rfl,hv.mono cQ.t cJ,_,_,rfl,hu,rfl⟩ (λr cK r' ej lI nr qW fS iu hr cW=>?_) (d.j8.mono cQ cJ);exact Cz cW hr hs λs' R'=>c _ _ _ _ _ _ _ qW (cQ.trans fS) (cJ.trans iu) rfl R'
theorem f7.find{P:aV}{m:Mu}{x:Str}{fs:List (Str×SV)}:∀{es:List dL},f7 P m fs es→
  es.any (·.refKey)=an∧(∀v,fs.lookup x=aa v→∃e,es.find? (·.key.isStr x)=aa e∧VR P m v e.val)∧(fs.lookup x=af→es.find? (·.key.isStr x)=af):=by
 induction fs with
 |nil=>exact λh=>(h:_=[])▸⟨rfl,λ_ e=>a7 e,λ_=>rfl⟩
 |cons p fs ih=>
  intro es h;refine gO h λe r z h2 h3 h4=>h2.elim λt h2=>?_;subst z;have i:=ih h4;have ek:e.key.isStr x=(p.1==x):=ay (·.isStr x) h2;have ne:x≠p.1→¬e.key.isStr x=ab:=λq z=>q (eq_of_beq (ek.symm.trans z)).symm;have er:e.refKey=an:=by unfold age;rw[h2]
  exact⟨PZ.trans ((ay (· ||_) er).trans i.1),λv ev=>if q:x=p.1 then⟨e,List.find?_cons_of_pos (ek.trans (eX.mpr q.symm)),aY ((i_ q).symm.trans ev)▸h3⟩ else aj (i.2.1 v ((gT q).symm.trans ev)) λe' a b=>⟨e',(agf (p:=λd:dL=>d.key.isStr x) (ne q)).trans a,b⟩,
   λev=>if q:x=p.1 then fu ((i_ q).symm.trans ev) else(agf (p:=λd:dL=>d.key.isStr x) (ne q)).trans (i.2.2 ((gT q).symm.trans ev))⟩
theorem f7.ZD{P:aV}{m:Mu}{x:Str}{fs:List (Str×SV)}{es:List dL}{v:SV}(h:f7 P m fs es)(e:fs.lookup x=aa v):∃v',getL x es=aa (aa v')∧VR P m v v':=aj (h.find.2.1 v e) λen a b=>⟨en.val,by unfold getL;rw[a],b⟩
theorem f7.NL{P:aV}{m:Mu}{x:Str}{fs:List (Str×SV)}{es:List dL}(h:f7 P m fs es)(e:fs.lookup x=af):getL x es=aa af:=by unfold getL;rw[h.find.2.2 e,(h.find (x:=x)).1];rfl
theorem f7.put{P:aV}{m:Mu}{x:Str}{v:SV}{v':Value}(hv:VR P m v v')(ri:Int)(t:Tok){fs:List (Str×SV)}:∀{es:List dL},f7 P m fs es→
  f7 P m (SF.put fs x v) (putL x ri (.str x t) v' es):=by
 induction fs with
 |nil=>exact λh=>(h:_=[])▸⟨_,_,rfl,⟨_,rfl⟩,hv,rfl⟩
 |cons p fs ih=>
  intro es h;refine gO h λe r z h2 h3 h4=>h2.elim λk h2=>?_;subst z;have ek:e.key.isStr x=(p.1==x):=ay (·.isStr x) h2;show f7 P m (if x=p.1 then(p.1,v)::fs else p::SF.put fs x v) (if e.key.isStr x=ab then⟨e.hash,e.key,v'⟩::r else e::putL x ri (.str x t) v' r);exact if q:x=p.1 then(aP q).symm▸n9 (P:=λl:List dL=>f7 P m ((p.1,v)::fs) l) (ek.trans (eX.mpr q.symm)) ⟨_,_,rfl,⟨k,h2⟩,hv,h4⟩
   else(aK q).symm▸nG (P:=λl:List dL=>f7 P m (p::SF.put fs x v) l) (λz=>q (eq_of_beq (ek.symm.trans z)).symm) ⟨_,_,rfl,⟨k,h2⟩,h3,ih h4⟩
theorem f7.length{P:aV}{m:Mu}{fs:List (Str×SV)}:∀{es:List dL},f7 P m fs es→es.length=fs.length:=by
 induction fs with
 |nil=>exact λh=>ay oq (h:_=[])
 |cons p fs ih=>exact λh=>gO h λe r z _ _ h4=>z▸ay (· +1) (ih h4)
theorem Rel.fY(R:Rel G F b own ae A P m fr h s):G.K.In s.heap:=λa o e=>R.bs a o (G.fY a o e)
theorem Rel.XT(R:Rel G F b own ae A P m fr h s){n:Nm}{C:au}{fs:SF}(hn:h n=aa (.inst C fs)):
  ∃ad xs k,m n=aa ad∧ad.2≠ad.1∧s.heap.get? ad.1=aa (vI C ad.2)∧s.heap.get? ad.2=aa (qI xs k)∧f7 P m fs xs∧InstAt s.heap ad.1 (vI C ad.2) C (aa (qI xs k)):=by
 obtain⟨ad,q1,q2,q3,xs,k,q4,q5⟩:=R.obj n _ hn;exact⟨ad,xs,k,q1,q2,q3,q4,q5,⟨q3,rfl,rfl,by show s.heap.get? ad.2=_;exact q4⟩⟩
@[elab_as_elim] theorem Rel.ww(R:Rel G F b own ae A P m fr h s){n:Nm}{C:au}{fs:SF}(hn:h n=aa (.inst C fs)){motive:Value→Prop}{v':Value}(hv:VR P m (.ref n) v')
  (k:∀(ad:au×au) xs kk,m n=aa ad→ad.2≠ad.1→s.heap.get? ad.1=aa (vI C ad.2)→s.heap.get? ad.2=aa (qI xs kk)→f7 P m fs xs→InstAt s.heap ad.1 (vI C ad.2) C (aa (qI xs kk))→motive (.ref ad.1)):motive v':=by
 refine uN hv λad h1=>?_;obtain⟨bT,xs,kk,q1,q2,q3,q4,q5,I⟩:=R.XT hn;obtain rfl:bT=ad:=aY (q1.symm.trans h1);exact k _ _ _ q1 q2 q3 q4 q5 I
theorem VR.handed{v:SV}{v':Value}(hv:VR P m v v')(hb:∀id,v≠.bi id):handedIn v'=ab:=by
 cases v with
 |none=>obtain rfl:=hv;rfl
 |bool c=>obtain rfl:=hv;rfl
 |int i=>refine xE hv λt bq=>?_;clear hv;subst bq;rfl
 |str i=>refine xE hv λt bq=>?_;clear hv;subst bq;rfl
 |tup vs=>refine oK hv λa o items n j3 _=>?_;clear hv;subst j3;rfl
 |ref n=>refine aj hv λad _ ax=>?_;clear hv;subst ax;rfl
 |range a c=>refine oK hv λr t u w j3 _=>?_;clear hv;subst j3;rfl
 |glob a=>obtain rfl:=hv;rfl
 |bi id=>exact bc rfl (hb id)
 |ty n=>obtain rfl:=hv;rfl
theorem Zf{n:Nm}{C:au}{fs:SF}{a:Str}{v:SV}{Q:QV}{X:QX}(hn:h n=aa (.inst C fs))(hg:zM G.K C a=ab)(hd:Ds G.K C=ab){Ck:Option Value}(ha:ie G.K (.ref C) a=aa Ck)(qm:noGet G.K Ck=ab)
  (hf:fs.lookup a=aa v) (hb:∀id,v≠.bi id) (hq:Q v h):WO G F b fr h [.ref n] (mJ λx=>m8 x a ab) Q X:=by
 refine .mk ?_;intro own ae A P m s Q' E' a5 R hv c d;refine jx hv λzx zA=>?_;refine R.ww hn zA λbT xs k h1 q2 q3 q4 q5 I=>?_;exact aj (q5.ZD hf) λv' g1 g2=>get_value R.fY I (HL hg).1 (findObj_own hd ha qm g1) (g2.handed hb) (c _ _ _ _ _ _ hq .rfl .rfl g2 (R.tok _))
theorem Vm{n:Nm}{C:au}{fs:SF}{a:Str}{v':Value}{v:SV}{Q:QV}{X:QX}(hn:h n=aa (.inst C fs))(hg:zM G.K C a=ab)(hd:Ds G.K C=ab)(ha:ie G.K (.ref C) a=aa (aa v'))
  (qm:specialIn G.K v' "__get__"=aa af) (hh:handedIn v'=ab) (hc:copiedNames.contains a=an) (hf:fs.lookup a=af) (fB:∀P m,VR P m v v') (hq:Q v h):WO G F b fr h [.ref n] (mJ λx=>m8 x a ab) Q X:=by
 refine .mk ?_;intro own ae A P m s Q' E' a5 R hv c d;refine jx hv λzx zA=>?_;refine R.ww hn zA λbT xs k h1 q2 q3 q4 q5 I=>?_;exact get_value R.fY I (HL hg).1 (findObj_cls hd ha qm hh hc (q5.NL hf)) hh (c _ _ _ _ _ _ hq .rfl .rfl (fB _ _) (R.tok _))
theorem We(e:Expr)(a:Str)(pos:Pos)(ae:Env)(hb:uy e a ae (d9 e ae)=d9 e ae):d9 (.Attribute e a pos) ae=(do
  let o ←d9 e ae
  kh pos.atName
  let r ←ju [o] (m8 o a ab)
  P0 e o r
  pure r):=by
 have:d9 (.Attribute e a pos) ae=(do
  let o ←uy e a ae (d9 e ae)
  kh pos.atName
  let r ←ju [o] (m8 o a ab)
  P0 e o r
  pure r):=rfl
 rw[this,hb]
theorem Ck{e:Expr}{a:Str}{pos:Pos}{Q:QV}{X:QX}(hb:∀ae w,uy e a ae w=w)
  (w:WE G F b fr h e (λv ag=>WO G F b fr ag [v] (mJ λx=>m8 x a ab) Q X) X):WE G F b fr h (.Attribute e a pos) Q X:=by
 refine .mk ?_;intro own ae A P m s Q' E' R c d;rw[We e a pos ae (hb _ _)];refine wb (w.run own ae A P m s _ _ R (λv ag v' aZ bW bU hq hP hm hv a6=>?_) d);refine wb (jJ (wb (dM ?_)));exact hq.run own ae A bW bU aZ _ _ [v'] a6 (aO.one hv) (λr aC r' bz cD cu q a b hr bk=>wb (P4 (aD (c _ _ _ _ _ _ q (hP.trans a) (hm.trans b) hr bk)))) (d.mono hP hm)
theorem Wm(name:Str)(ri:Int)(key v:Value)(es:List dL):(putL name ri key v es).length≤es.length+1:=by
 induction es with
 |nil=>exact ar _
 |cons e r ih=>exact AB (P:=λl:List dL=>l.length≤r.length+1+1) (λ_=>bR _) λ_=>eG ih
theorem Zh{x C dx:au}{name:Str}{tk:Tok}{v:Value}{es:List dL}{n:Nat}{r:wW→ak→Prop}(K:G.K.In s.heap)
  (I:InstAt s.heap x (vI C dx) C (aa (qI es n))) (hp:HM G.K C=ab) (ht:takerIn G.K C name=aa af) (hh:(clsIn G.K C).any (·.hasDict)=ab)
  (hl:es.any (·.refKey)=an) (hz:es.length≤1000)
  (k:r (.ok (.ret .none)) {s with heap:=s.heap.update dx (P5 name (P6 G.w.params name) (.str name s.toks) v),toks:=s.toks+1}):
  ki (aR G.prog G.w) A (.call (.builtin "object.__setattr__") ⟨[.ref x,.str name tk,v],[]⟩) r s:=by
 refine osa_open K I hp ht λbb=>?_;refine aj (any_some hh) λcd hc vw=>?_;have D:s.heap.get? dx=aa (qI es n):=I.dict;refine wb (aD (wb (wb (wpAny_loadPart I.at_ (wb ((looks_clsIn K hc).here ?_))))));rw[vw];refine aD (a:=aa dx) (wb (aD (wb ?_)));unfold nsSet;refine wb (wb (zN (aD (wb (wpAny_mkText (wb (wpAny_loadPart D ?_)))))));dsimp only;have cc:(!(es.toArray).any (·.key.isStr name) && (es.toArray).any (·.refKey))=an:=by
  rw[←agg (p:=age),hl,Bool.and_false _]
 rw[aRefKeyMayBeTheName_at _ _,cc];refine wpAny_updatePart D ?_;have D':∀ri,(s.heap.update dx (P5 name ri (.str name s.toks) v)).get? dx=aa (qI (putL name ri (.str name s.toks) v es) (putN name es n)):=λri=>by
  rw[←HN];exact lf _ D (by rw[HN];rfl)
 refine wb (wpAny_lookBehind (D' _) (pastItsLine_dict ?_) (aD k));rw[agh,sizeLine_eq];exact ah (Wm _ _ _ _ es) (ah (eG hz) aJ)
theorem Uy{n:Nm}{C:au}{fs:SF}{a:Str}{v:SV}{Q:QV}{X:QX}(hn:h n=aa (.inst C fs))(hs:ie G.K (.ref C) "__setattr__"=aa (aa (.builtin "object.__setattr__")))(hp:HM G.K C=ab)
  (ht:takerIn G.K C a=aa af) (hd:Ds G.K C=ab) (hz:fs.length≤1000) (hq:Q .none (h.set n (.inst C (fs.put a v)))):
  WO G F b fr h [.ref n,v] (bw λx y=>do Dq x a y;pure .none) Q X:=by
 refine .mk ?_;intro own ae A P m s Q' E' a5 R hv c d;refine gu hv λzx v' zA fB=>?_;refine R.ww hn zA λbT xs k h1 q2 q3 q4 q5 I=>?_;refine wb (set_plain R.fY I hs (Zh (s:={s with toks:=s.toks+1}) R.fY I hp ht hd (q5.find (x:=a)).1 (q5.length.symm▸hz) ?_));have q6:(s.heap.update bT.2 (P5 a (P6 G.w.params a) (.str a (s.toks+1)) v')).get? bT.2=aa (qI (putL a (P6 G.w.params a) (.str a (s.toks+1)) v' xs) (putN a xs k)):=by
  rw[←HN];exact lf _ q4 (by rw[HN];rfl)
 refine aD (c _ _ _ _ _ _ hq .rfl .rfl rfl ?_);refine R.turn hn h1 (λx o n1 n2 e=>?_) rfl rfl ⟨q2,?_,_,_,q6,f7.put fB _ _ q5⟩
 ·show(s.heap.update bT.2 _).get? x=_
  rw[zO _ _ (Ne.symm n2)];exact e
 ·show(s.heap.update bT.2 _).get? bT.1=_
  rw[zO _ _ q2];exact q3
def Si(G:Gl)(F:FD)(b:Nat)(fr:SF)(h:SH)(f:SV)(vs:List SV)(Q:QV)(X:QX):Prop:=
 ∀own ae A P m s (Q':Value→ak→Prop) (E':Value→ak→Prop) f' a5,Rel G F b own ae A P m fr h s→VR P m f f'→aO P m vs a5→
  l_ G F b fr own ae A P m Q Q'→g0 G F b own ae A P m fr X E'→aw (aR G.prog G.w) A (call f' a5) Q' E' s
abbrev WC(G:Gl)(F:FD)(b:Nat)(fr:SF)(h:SH)(f:SV)(vs:List SV)(Q:QV)(X:QX):Prop:=Bx (Si G F b fr h f vs Q X)
theorem jO{G:Gl}{F:FD}{b:Nat}{fr:SF}{h:SH}{x:String}{vs:List SV}{Q:QV}{X:QX}(k:∀own ae A P m s (Q':Value→ak→Prop) (E':Value→ak→Prop) a5,Rel G F b own ae A P m fr h s→aO P m vs a5→l_ G F b fr own ae A P m Q Q'→g0 G F b own ae A P m fr X E'→aw (aR G.prog G.w) A (call (.builtin x) a5) Q' E' s):WC G F b fr h (.bi x) vs Q X:=
 .mk λown ae A P m s Q' E' f' a5 R hf hv c d=>(hf:f'=_)▸k own ae A P m s Q' E' a5 R hv c d
theorem jP{G:Gl}{F:FD}{b:Nat}{fr:SF}{h:SH}{x:String}{vs:List SV}{Q:QV}{X:QX}(k:∀own ae A P m s (Q':Value→ak→Prop) (E':Value→ak→Prop) a5,Rel G F b own ae A P m fr h s→aO P m vs a5→l_ G F b fr own ae A P m Q Q'→g0 G F b own ae A P m fr X E'→aw (aR G.prog G.w) A (call (.type x) a5) Q' E' s):WC G F b fr h (.ty x) vs Q X:=
 .mk λown ae A P m s Q' E' f' a5 R hf hv c d=>(hf:f'=_)▸k own ae A P m s Q' E' a5 R hv c d
noncomputable def callable(G:Gl):SV→Bool
 |.glob a=>keepIn G.K (.ref a)
 |.bi _=>ab
 |.ty _=>ab
 |_=>an
theorem Pr{f:SV}{f':Value}(hf:callable G f=ab)(hv:VR P m f f')(hp:cO)(K:G.K.In hp):∃k,(k=Keeper.frame∨k=Keeper.machine∨k=Keeper.boundFrame)∧Looks (aR G.prog G.w) hp (keeperOf f') k:=by
 cases f with
 |glob a=>obtain rfl:=hv;exact keeps_K (f:=.ref a) hf hp K
 |bi id=>obtain rfl:=hv;exact(aU .machine (.inr (.inl rfl)) .now)
 |ty id=>obtain rfl:=hv;exact(aU .machine (.inr (.inl rfl)) .now)
 |_=>exact cM hf
theorem Mz{M:i2}{E:Value→ak→Prop}{f:Value}{args:List (Bool×Sem Value)}{Q:Args→ak→Prop}(ha:args.any (·.1)=an)
  (w:aw M A (spliced args) (λvs s'=>Q ⟨vs,[]⟩ s') E s):aw M A (evalArgs f ab args []) Q E s:=by
 cases args with
 |nil=>exact λΓ p CO=>PySem.evalArgs_none (w Γ p CO) Γ p CO
 |cons x r=>
  obtain⟨c,t⟩:=x
  cases c with
  |false=>exact Calls.evalArgs_plain w
  |true=>simp at ha
theorem Ld{f:SV}{f':Value}{first:List SV}{first':List Value}{args:List Expr}{pos:Pos}{Q:QV}{X:QX}{Q':Value→ak→Prop}{E':Value→ak→Prop}(hf:callable G f=ab)(hs:∀ae,(jv pos (gh args ae)).any (·.1)=an)
  (w:j7 G F b fr h args (λvs aC=>WC G F b fr aC f (first++vs) Q X) X) (R:Rel G F b own ae A P m fr h s) (hv:VR P m f f') (T7:aO P m first first')
  (c:l_ G F b fr own ae A P m Q Q') (d:g0 G F b own ae A P m fr X E'):
  aw (aR G.prog G.w) A (wX pos f' first' (jv pos (gh args ae)) []) Q' E' s:=by
 refine callWith_of (P:=λhp=>G.K.In hp) (by rw[hs ae];rfl) (λhp K=>Pr hf hv hp K) ?_;have body:=w.run own ae A P m s pos (λvs s'=>G.K.In s'.heap∧aw (aR G.prog G.w) A (call f' (first'++vs) []) Q' E' s') E' R (λvs aC a5 bz cD cu hq hP hm qt bk=>
  ⟨bk.fY,hq.run own ae A cD cu bz Q' E' f' _ bk (hv.mono hP.t hm) ((aO.mono hP.t hm _ T7).app qt) (c.mono hP hm) (d.mono hP hm)⟩) d
 exact Mz (hs ae) body
open Classical in
noncomputable def aV.under(P:aV)(own:List au)(hp:cO):aV:=λx=>if x∈own then hp.get? x else P x
open Classical in
noncomputable def aV.less(P:aV)(own:List au):aV:=λx=>if x∈own then af else P x
variable{F':FD}{b':Nat}{mC:List au}{bY:Env}{A':dZ}{fr':SF}{h':SH}{s':ak}
theorem uO{a:au}(ha:a∈own)(hp:cO):P.under own hp a=hp.get? a:=aP ha
theorem mq{a:au}(ha:a∉own)(hp:cO):P.under own hp a=P a:=aK ha
theorem DQ{a:au}(ha:a∈own):P.less own a=af:=aP ha
theorem nh{a:au}(ha:a∉own):P.less own a=P a:=aK ha
theorem Rel.out(R:Rel G F b own ae A P m fr h s){a:au}{o:Obj}(e:P a=aa o):a∉own:=λha=>fu (e.symm.trans (R.ownP a ha))
theorem Rel.uf(R:Rel G F b own ae A P m fr h s):P.le (P.under own s.heap):=λa o e=>(mq (R.out e) _).trans e
theorem Rel.Mq(R:Rel G F b own ae A P m fr h s){a:au}(e:s.heap.get? a=af):a∉own:=λha=>aj (R.f.mT a ha) λo z _=>fu (z.symm.trans e)
theorem Rel.Xb(R:Rel G F b own ae A P m fr h s){a:au}(e:s.heap.get? a=af):P a=af:=wT.mpr λo q=>xE (R.oU q) λsl z=>fu (z.symm.trans e)
theorem Rel.aaq(R:Rel G F b own ae A P m fr h s){n:Nm}{ad:au×au}(e:m n=aa ad):s.heap.get? ad.1≠af∧s.heap.get? ad.2≠af:=by
 cases hn:h n with
 |none=>exact a7 ((R.dom n hn).symm.trans e)
 |some so=>exact aj (R.obj n so hn) λbT e' oo=>aY (e'.symm.trans e)▸⟨λz=>xE oo.l9 λo q=>fu (q.symm.trans z),λz=>xE oo.at2 λo q=>fu (q.symm.trans z)⟩
theorem Xg{hp bV:cO}{l:List Env}(eO:List Env)(x:hp.FunFrames bV (eO++l)):hp.FunFrames bV l:=by
 induction eO with
 |nil=>exact x
 |cons e r ih=>exact ih x.2.2
theorem Rel.leave(R:Rel G F b own ae A P m fr h s)(R':Rel G F' b' mC bY A' P' m' fr' h' s')(hP:(P.under own s.heap).le P')(hm:m.le m')
  (hA:∀l l',A.frames=aa l→A'.frames=aa l'→∃eO,l'=eO++l∧∀a∈eO.filterMap (·.frame),a∈mC):
  P.le (P'.less own)∧(P'.fZ (P'.less own))∧Rel G F b own ae A (P'.less own) m' fr h' s':=by
 have le:P.le (P'.less own):=λa o e=>(nh (R.out e)).trans (hP a o ((mq (R.out e) _).trans e));have re:∀a∈own,∀o,s.heap.get? a=aa o→P' a=aa o:=λa ha o e=>hP a o ((uO ha _).trans e);have fZ:P'.fZ (P'.less own):=λa o e hd=>(nh λha=>aj (R.f.mT a ha) λo' e1 e2=>e2 (aY (e.symm.trans (re a ha o' e1))▸hd)).trans e;have sub:∀{a o},P'.less own a=aa o→P' a=aa o:=λ{a o} e=>if ha:a∈own then a7 ((DQ ha).symm.trans e) else(nh ha).symm.trans e
 have nn:∀{a},P' a=af→P'.less own a=af∧a∉own:=λ{a} ea=>
  have hn:a∉own:=λha=>aj (R.f.mT a ha) λo' e1 _=>fu ((re a ha o' e1).symm.trans ea)
  ⟨(nh hn).trans ea,hn⟩
 refine cF le fZ ⟨R'.gens,R'.os,R'.bs,λa o e=>le _ _ (R.basePR a o e),jC R.frs λl h1 _ h3 h4 _=>jC R'.frs λl' g1 g2 _ _ g5=>aj (hA l l' h1 g1) λeO z SY=>?_,
  λn so e=>aj (R'.obj n so e) λad q1 q2=>⟨ad,q1,q2.mono fZ .rfl (λ_ x=>x) λ_ x=>x⟩,R'.dom,R'.inj,λn ad e=>have q:=R'.sep n ad e;⟨(nn q.1).1,(nn q.2.1).1,(nn q.1).2,(nn q.2.1).2⟩,λa ha=>DQ ha,
  R.f.keep le hm λa ha o e=>xE (R'.oU (re a ha o e)) λsl q=>⟨_,q,rfl,rfl⟩,R.depth,R.units,R.guards,R.quiet⟩
 subst z;refine⟨l,h1,Xg eO g2,h3,λa ha=>(h4 a ha).imp id λq=>xE q λo q=>⟨o,le _ _ q⟩,λa o e=>aj (g5 a o (sub e)) λsl q1 q2=>⟨sl,q1,λhl=>q2 λjR=>?_⟩⟩;rw[sD,dw] at jR;exact jR.elim (λq=>fu ((sub e).symm.trans (R'.ownP a (SY a q)))) hl
theorem Rel.enter(R:Rel G F b own ae A P m fr h s)(hk:∀a o,s.heap.get? a=aa o→s'.heap.get? a=aa o)(hg:s'.gens=s.gens)(ho:s'.os=s.os)
  (xX:∀a∈mC,s.heap.get? a=af) (hF:FrR F' mC bY (P.under own s.heap) m fr' s'.heap)
  (hA:∀l,A.frames=aa l→∃eO,A'.frames=aa (eO++l)∧(∃e0 r,eO++l=e0::r∧e0.frame=bY.frame)∧
   ∀e∈eO,e.scope.kind≠.module∧∃L o,e.frame=aa L∧L∈mC∧s'.heap.get? L=aa o∧∀vs,o.data≠.fields vs)
  (hd:A'.depth+b'<HJ) (hu:A'.units+8*b'+8<ez) (Vf:A'.guards=A.guards) (hq:F'.q=ab→A'.handled=af):
  Rel G F' b' mC bY A' (P.under own s.heap) m fr' h s':=by
 have a6:=R.grow hk hg ho;have le:=R.uf;refine⟨a6.gens,a6.os,a6.bs,λa o e=>le _ _ (R.basePR a o e),jC a6.frs λl h1 h2 h3 h4 h5=>bH (hA l h1) λeO p1 p2 p3=>⟨eO++l,p1,?_,p2,λa ha=>?_,λa o e=>?_⟩,
  λn so e=>aj (a6.obj n so e) λad q1 q2=>⟨ad,q1,q2.mono le.t .rfl (λ_ x=>x) λ_ x=>x⟩,R.dom,R.inj,λn ad e=>have q:=R.sep n ad e;have z:=R.aaq e;⟨(mq q.2.2.1 _).trans q.1,(mq q.2.2.2 _).trans q.2.1,λha=>z.1 (xX _ ha),λha=>z.2 (xX _ ha)⟩,
  λa ha=>(mq (R.Mq (xX a ha)) _).trans (R.Xb (xX a ha)),hF,hd,hu,Vf.trans R.guards,hq⟩
 ·clear p1 p2
  induction eO with
  |nil=>exact h2
  |cons e r ih=>exact vA (p3 e (.head _)) λk1 L o k2 k3 k4 k5=>⟨k1,⟨L,o,k2,wT.mpr λo' q=>fu ((R.bs L o' q).symm.trans (xX L k3)),k4,k5⟩,ih λe he=>p3 e (.tail _ he)⟩
 ·rw[sD,dw] at ha
  refine ha.elim (λha=>aj (gQ.mp ha) λe he hf=>vA (p3 e he) λ_ L o k2 k3 _ _=>.inl (aY (k2.symm.trans hf)▸k3)) λha=>.inr ((h4 a ha).elim (λq=>aj (R.f.mT a q) λo z _=>⟨o,(uO q _).trans z⟩) λq=>xE q λo q=>⟨o,le _ _ q⟩)
 ·exact if O9:a∈own then⟨o.slots,hk _ _ ((uO O9 _).symm.trans e),λ_=>rfl⟩ else aj (h5 a o ((mq O9 _).symm.trans e)) λsl q1 q2=>⟨sl,q1,λhl=>q2 λjR=>hl (sD▸kj _ jR)⟩
noncomputable def BY(sc:cb)(ps:List Str):Bool:=
 decide (sc.kind=.function) && (sc.names.all λp=>p.2 !=.free) && !sc.isCoroutine && !sc.isGenerator && decide ((sc.names.map (·.1)).Nodup) && decide (ps.Nodup) &&
 ps.all λx=>match sc.names.lookup x with|some .local=>ab|some .cell=>ab|_=>an
structure Vc(G:Gl)(a:au)(k:Nat)(ps:List Str)(eB:List SV)(body:List bx)(sc:cb)(o:Obj)(fd:HO)(ds:List Value):Prop where
 lk:G.K.lookup a=aa o
 data:o.data=.func fd
 scope:fd.scope=sc
 body:fd.body=.stmts body
 glob:fd.globals=uw
 blt:fd.builtins=zK
 clo:fd.closure=[]
 code:G.base.CodeRec fd.code fd.qualname
 bind:∀S (vals:List Value),vals.length=k→peek G.K S (uz fd ⟨vals,[]⟩)=aa (ps.zip (vals++ds))
 ds:∀(P:aV) (m:Mu),(∀a o,G.base.get? a=aa o→P a=aa o)→aO P m eB ds
structure d0(G:Gl)(a:au)(k:Nat)(ps:List Str)(eB:List SV)(body:List bx)(sc:cb):Prop where
 at_:∃o fd ds,Vc G a k ps eB body sc o fd ds
 ok:BY sc ps=ab
 len:ps.length=k+eB.length
theorem Mw{P:aV}{m:Mu}{ps:List Str}:∀{vs:List SV} {a5:List Value},aO P m vs a5→∀{x:Str} {v:SV},(ps.zip vs).lookup x=aa v→∃v',(ps.zip a5).lookup x=aa v'∧VR P m v v':=by
 induction ps with
 |nil=>exact λ_ _ _ e=>a7 e
 |cons p ps ih=>
  intro vs a5 hv x v e
  cases vs with
  |nil=>exact a7 e
  |cons y vs=>
   refine bP hv λy' r z h1 h2=>z▸?_;rw[List.zip_cons_cons,k_] at e ⊢
   cases q:x==p with
   |true=>rw[q] at e;exact⟨y',rfl,aY e▸h1⟩
   |false=>rw[q] at e;exact ih h2 e
theorem Xv{kind:Str→Option lg}{x:Str}{v:Value}(hk:kind x=aa .local){bs:List (Str×Value)}:∀{m:Str→Option Value},(m x=aa v∧x∉bs.map (·.1))∨((bs.map (·.1)).Nodup∧bs.lookup x=aa v)→bindL kind bs m x=aa v:=by
 induction bs with
 |nil=>exact λh=>h.elim (·.1) λh=>a7 h.2
 |cons p r ih=>
  refine λ{m} h=>ih (h.elim (λh=>.inl ⟨?_,λz=>h.2 (.tail _ z)⟩) λh=>?_)
  ·exact if q:kind p.1=aa .local then n9 (P:=λf:Str→Option Value=>f x=aa v) q ((aK λe:x=p.1=>h.2 (e▸.head _)).trans h.1) else nG (P:=λf:Str→Option Value=>f x=aa v) q h.1
  ·have n:=lh.mp h.1
   have e:=h.2;rw[k_] at e
   cases q:x==p.1 with
   |true=>
    rw[q] at e;have z:=eX.mp q;exact .inl ⟨n9 (P:=λf:Str→Option Value=>f x=aa v) (z▸hk) ((aP z).trans e),z.symm▸n.1⟩
   |false=>rw[q] at e;exact .inr ⟨n.2,e⟩
theorem WN{kind:Str→Option lg}{x:Str}{v:Value}(hk:kind x≠aa .local){bs:List (Str×Value)}:∀{m:Str→Option Value},(m x=aa v∧x∉bs.map (·.1))∨((bs.map (·.1)).Nodup∧bs.lookup x=aa v)→bindC kind bs m x=aa v:=by
 induction bs with
 |nil=>exact λh=>h.elim (·.1) λh=>a7 h.2
 |cons p r ih=>
  refine λ{m} h=>ih (h.elim (λh=>.inl ⟨?_,λz=>h.2 (.tail _ z)⟩) λh=>?_)
  ·exact if q:kind p.1=aa .local then n9 (P:=λf:Str→Option Value=>f x=aa v) q h.1 else nG (P:=λf:Str→Option Value=>f x=aa v) q ((aK λe:x=p.1=>h.2 (e▸.head _)).trans h.1)
  ·have n:=lh.mp h.1
   have e:=h.2;rw[k_] at e
   cases q:x==p.1 with
   |true=>
    rw[q] at e;have z:=eX.mp q;exact .inl ⟨nG (P:=λf:Str→Option Value=>f x=aa v) (z▸hk) ((aP z).trans e),z.symm▸n.1⟩
   |false=>rw[q] at e;exact .inr ⟨n.2,e⟩
theorem Ex{x:Str}{names:List (Str×lg)}:∀{n:Nat} {acc:List (Str×au)},(names.lookup x=aa .cell∨(acc.lookup x).isSome=ab)→((gt n names acc).lookup x).isSome=ab:=by
 induction names with
 |nil=>exact λh=>h.elim (λe=>a7 e) id
 |cons p r ih=>
  intro n acc h;rw[k_] at h;show((if p.2==.cell then gt (n+1) r ((p.1,n)::acc) else gt n r acc).lookup x).isSome=ab
  cases q:x==p.1 with
  |true=>
   rw[q] at h;exact if z:(p.2==.cell)=ab then(aP z).symm▸ih (.inr (by rw[k_,q];rfl)) else(aK z).symm▸ih (.inr (h.elim (λe=>bc (eX.mpr (aY e)) z) id))
  |false=>
   rw[q] at h;exact if z:(p.2==.cell)=ab then(aP z).symm▸ih (h.imp id λe=>by rw[k_,q];exact e) else(aK z).symm▸ih h
theorem HP{α:Type}{p:Str×α}{l:List (Str×α)}(hn:(l.map (·.1)).Nodup)(hm:p∈l):l.lookup p.1=aa p.2:=by
 induction l with
 |nil=>exact cS hm
 |cons q r ih=>
  have n:=lh.mp hn;rw[k_];exact(dE.mp hm).elim (λe=>e▸by rw[qF _]) λhm=>by
   rw[k9.mpr λe:p.1=q.1=>n.1 (bB.mpr ⟨p,hm,e⟩)];exact ih n.2 hm
noncomputable def ug.val:ug→SV
 |.ret v=>v
 |_=>.none
noncomputable def iV(sc:cb):List Str:=(sc.names.filter (·.2==.cell)).map (·.1)
def CCb(G:Gl)(F:FD)(b:Nat)(fr:SF)(h:SH)(f:SV)(vs:List SV)(Q:QV):Prop:=
 ∀own ae A P m s (R':wW→ak→Prop) f' a5,Rel G F b own ae A P m fr h s→VR P m f f'→aO P m vs a5→
  (∀v h' v' s' P' m',Q v h'→P.le P'→m.le m'→VR P' m' v v'→Rel G F b own ae A P' m' fr h' s'→R' (.ok (.ret v')) s')→ki (aR G.prog G.w) A (.call f' ⟨a5,[]⟩) R' s
abbrev CC(G:Gl)(F:FD)(b:Nat)(fr:SF)(h:SH)(f:SV)(vs:List SV)(Q:QV):Prop:=Bx (CCb G F b fr h f vs Q)
theorem WZ{f:SV}{vs:List SV}{Q:QV}{X:QX}(w:CC G F b fr h f vs Q):WC G F b fr h f vs Q X:=
 .mk λown ae A P m s Q' E' f' a5 R hf hv c d=>P7 (w.run own ae A P m s _ f' a5 R hf hv λv h' v' s' P' m'=>c v h' v' s' P' m')
structure CZ(sc:cb)(ps:List Str):Prop where
 fn:sc.kind=.function
 abh:∀p∈sc.names,p.2≠.free
 co:sc.isCoroutine=an
 gen:sc.isGenerator=an
 nd:(sc.names.map (·.1)).Nodup
 VD:ps.Nodup
 kinds:∀x∈ps,sc.names.lookup x=aa .local∨sc.names.lookup x=aa .cell
theorem CZ.of{sc:cb}{ps:List Str}(ok:BY sc ps=ab):CZ sc ps:=by
 have q1:=(bO _ _).mp ok;have q2:=(bO _ _).mp q1.1;have q3:=(bO _ _).mp q2.1;have q4:=(bO _ _).mp q3.1;have q5:=(bO _ _).mp q4.1;have q6:=(bO _ _).mp q5.1;have nt:∀{c:Bool},(!c)=ab→c=an:=λ{c} h=>by cases c with|true=>exact cM h|false=>rfl
 refine⟨fC q6.1,λp hp=>bne_iff_ne.mp (dc.mp q6.2 p hp),nt q5.2,nt q4.2,fC q3.2,fC q2.2,λx hx=>?_⟩;have:=dc.mp q1.2 x hx
 cases q:sc.names.lookup x with
 |none=>rw[q] at this;exact cM this
 |some k=>rw[q] at this;cases k<;>first|exact .inl rfl|exact .inr rfl|exact cM this
theorem JN{sc:cb}{y:Str}(hc:sc.names.lookup y=aa .cell):y∈iV sc:=bB.mpr ⟨(y,.cell),m9.mpr ⟨m_ hc,rfl⟩,rfl⟩
theorem aab{sc:cb}{ps:List Str}{q:Bool}{vs:List SV}{a5:List Value}{dJ:ak}{qual:Str}{fa:Option au}{code:Value}(ok:CZ sc ps)(c7:a5.length=ps.length)(hv:aO P m vs a5)
  (he:bY=newEnv sc dJ.heap.objs.size uw (gt (dJ.heap.objs.size+1) sc.names []) qual fa code af zK)
  (x:InCallC dJ bY.locals (bindL bY.kindOf (ps.zip a5) λ_=>af) bY.cells (bindC bY.kindOf (ps.zip a5) λ_=>af) s):
  FrR ⟨sc,iV sc,q⟩ (bY.locals::(iV sc).filterMap (bY.cells.lookup ·)) bY P m (ps.zip vs) s.heap:=by
 have uP:bY.scope=sc:=he▸rfl;have IX:∀y,bY.kindOf y=sc.names.lookup y:=λy=>ay (λsc:cb=>sc.names.lookup y) uP;have nd:((ps.zip a5).map (·.1)).Nodup:=(agi (bF c7.symm):(ps.zip a5).map (·.1)=ps).symm▸ok.VD;have cell:∀{y},sc.names.lookup y=aa .cell→∃c,bY.cells.lookup y=aa c∧c∈bY.locals::(iV sc).filterMap (bY.cells.lookup ·)∧c≠bY.locals∧s.heap.IsCell c (bindC bY.kindOf (ps.zip a5) (λ_=>af) y):=λ{y} hc=>
  xE (zP.mp (Ex (n:=dJ.heap.objs.size+1) (acc:=[]) (.inl hc))) λc vQ=>by
   have vQ:bY.cells.lookup y=aa c:=he▸vQ;exact⟨c,vQ,.tail _ (gQ.mpr ⟨y,JN hc,vQ⟩),dG (x.above y c (m_ vQ)),x.cell y c vQ⟩
 have NY:∀{y},sc.names.lookup y≠aa .free:=λe=>ok.abh _ (m_ e) rfl;refine⟨uP,ok.fn,he▸rfl,he▸rfl,.head _,⟨_,x.toInCall.ns,λy v hy jh=>aj (Mw hv hy) λv' q1 q2=>⟨v',Xv ((IX y).trans jh) (.inr ⟨nd,q1⟩),q2⟩⟩,λy v hy jh=>aj (Mw hv hy) λv' q1 q2=>?_,
  λy hy=>gU (cell (hy.elim id λe=>bc e NY)) λc h1 h2 _ h4=>⟨c,h1,.inl ⟨h2,_,h4⟩⟩,λy hy=>?_,λy z c hy h1 h2=>name_of_addr x.apart (m_ h1) (m_ h2),λa ha=>?_⟩
 ·have hc:=jh.elim id λe=>bc e NY
  exact gU (cell hc) λc h1 h2 h3 h4=>⟨c,v',h1,q2,.inl ⟨h2,h3,WN (λe=>nomatch (((IX y).trans hc).symm.trans e:aa agb=aa .local)) (.inr ⟨nd,q1⟩)▸h4⟩⟩
 ·refine aj (bB.mp hy) λp hp e=>?_
  have hp:=m9.mp hp;have hc:sc.names.lookup y=aa .cell:=e▸(HP ok.nd hp.1).trans (ay aa (eq_of_beq hp.2));exact⟨hc,gU (cell hc) λc h1 h2 h3 h4=>⟨c,_,h1,h2,h3,h4⟩⟩
 ·exact(dE.mp ha).elim (λe=>x.toInCall.ns.elim λo h=>h.elim λes h=>h.elim λep h=>⟨o,e▸h.1,xi h.2.1⟩) λha=>aj (gQ.mp ha) λy _ hy=>aj (x.cell y a hy) λo q1 q2=>⟨o,q1,Ca q2⟩
theorem ad4{a:au}{k:Nat}{ps:List Str}{eB vs:List SV}{body:List bx}{sc:cb}{Q:QV}(H:d0 G a k ps eB body sc)(hk:vs.length=k)
  (w:j4 G ⟨sc,iV sc,F.q⟩ b (ps.zip (vs++eB)) h body (λf _ h'=>Q f.val h') (λ_ _ _=>False)):CC G F (b+1) fr h (.glob a) vs Q:=by
 refine .mk λown ae A P m s R' f' a5 R hf hv c=>hf▸uq H.at_ λo fd ds f=>?_;have ok:=CZ.of H.ok;have OC:=hv.app (f.ds P m R.basePR);have c7:(a5++ds).length=ps.length:=OC.length.symm.trans (cU.trans ((ay (· +eB.length) hk).trans H.len.symm));have hb:BindsTo s fd ⟨a5,[]⟩ (ps.zip (a5++ds)):=kp_binds R.fY λS=>f.bind S a5 (hv.length.symm.trans hk);have Nu:=R.depth;refine codeAny_call_function (bd (b6 _ _) Nu) (R.fY a o f.lk) f.data (f.scope▸ok.co) (f.scope▸ok.gen) f.body (f.code.keeps R.bs) (hb _ _ _ _ ?_);rw[f.scope,f.glob,f.blt,f.clo];refine wpAny_newFunctionEnv_cells ok.fn (λy hy=>(ok.kinds y.1 ((agi (bF c7.symm):(ps.zip (a5++ds)).map (·.1)=ps)▸agj (f:=(·.1)) hy)).imp id λq=>⟨q,Ex (.inl q)⟩) λbY he s' x=>⟨(G.nolimit.keeps R.bs).keeps x.toInCall.keep,codeAny_func ?_⟩;clear hb;have Jj:bY.frame=aa bY.locals:=he▸rfl;refine kc x.toInCall.same λhh tk es=>?_;have Rn:=R.enter (b':=b) (A':=A.deeper bY) (s':=s') x.toInCall.keep (es▸rfl) (es▸rfl) (λa ha=>zQ ((dE.mp ha).elim (λe=>e▸x.toInCall.fresh) λha=>aj (gQ.mp ha) λy _ hy=>cj (bd x.toInCall.fresh (x.above y a (m_ hy)))):∀a∈bY.locals::(iV sc).filterMap (bY.cells.lookup ·),s.heap.get? a=af) (aab (q:=F.q) ok c7 (OC.mono R.uf.t .rfl) he x) (λl hl=>⟨[bY],ay (ph (bY::·)) hl,⟨bY,l,rfl,rfl⟩,λe rj=>?_⟩)
  (bd (bF (uA A.depth 1 b)) Nu) (bd (show A.units+3+8*b+8≤A.units+8*(b+1)+8 from oj (ah (bF (uA A.units 3 (8*b))) (e6 (aJ:3≤8) _)) 8) R.units) rfl R.quiet
 ·refine ox (w.run _ _ _ _ _ _ _ (λ_ _=>False) Rn (λfl ew aC f' bz cD cu hq hP hm hf bk=>?_) (λ_ _ _ _ _ _ _ q=>q.elim)) (λ_ _ q=>q) (λ_ _ q=>q.elim)
  refine jF (R.leave bk hP hm λl l' hl jR=>⟨[bY],aY (jR.symm.trans (ay (ph (bY::·)) hl)),λa ha=>aj (gQ.mp ha) λe rj hf=>aY (Jj.symm.trans (bS.mp rj▸hf))▸.head _⟩) λl1 l2 cW=>?_
  cases fl with
  |ret v=>exact aj hf λv' z q=>z▸c _ _ _ _ _ _ hq l1 hm (q.mono l2 .rfl) cW
  |_=>exact hf▸c _ _ _ _ _ _ hq l1 hm rfl cW
 ·have p:bY.scope.kind≠.module∧∃L o,bY.frame=aa L∧L∈bY.locals::(iV sc).filterMap (bY.cells.lookup ·)∧s'.heap.get? L=aa o∧∀vs,o.data≠.fields vs:=
   ⟨λz=>(nomatch (ok.fn.symm.trans ((ay Scope.kind (he▸rfl:bY.scope=sc)).symm.trans z):ScopeKind.function=.module)),x.toInCall.ns.elim λo h=>h.elim λes h=>h.elim λep h=>⟨bY.locals,o,Jj,.head _,h.1,λvs e=>nomatch (h.2.1.symm.trans e)⟩⟩
  exact bS.mp rj▸p
theorem Rel.lower(R:Rel G F (b+1) own ae A P m fr h s)(A':dZ)(h1:A'.handled=A.handled)(h2:A'.depth≤A.depth+1)(h3:A'.frames=A.frames)(h4:A'.guards=A.guards)(h5:A'.units≤A.units+8):Rel G F b own ae A' P m fr h s:=
 ⟨R.gens,R.os,R.bs,R.basePR,h3.symm▸R.frs,R.obj,R.dom,R.inj,R.sep,R.ownP,R.f,bd (ah (oj h2 b) (bF (uA A.depth 1 b))) R.depth,
  bd (oj (ah (oj h5 (8*b)) (bF (uA A.units 8 (8*b)))) 8) R.units,h4.trans R.guards,λq=>h1.trans (R.quiet q)⟩
theorem Rel.Mc{A':dZ}(R:Rel G F (b+1) own ae A P m fr h s){P':aV}{m':Mu}{h':SH}{s':ak}(R':Rel G F b own ae A' P' m' fr h' s')(h3:A'.frames=A.frames):Rel G F (b+1) own ae A P' m' fr h' s':=
 ⟨R'.gens,R'.os,R'.bs,R'.basePR,h3▸R'.frs,R'.obj,R'.dom,R'.inj,R'.sep,R'.ownP,R'.f,R.depth,R.units,R.guards,R.quiet⟩
theorem call_cls{C fI:au}{n:Nm}{vs:List SV}{Q:QV}(hm:makesIn G.K C=ab)(hi:ie G.K (.ref C) "__init__"=aa (aa (.ref fI)))(hf:typeIn G.K (.ref fI)=aa (.type "function"))(hn:h n=af)
  (w:CC G F b fr (h.set n (.inst C [])) (.glob fI) (.ref n::vs) (λv h'=>v=.none∧Q (.ref n) h')):CC G F (b+1) fr h (.glob C) vs Q:=by
 refine .mk ?_;intro own ae A P m s R' f' a5 R l6 hv c;obtain rfl:=l6;obtain⟨a6,le⟩:=R.alloc hn (so:=.inst C []) (ad:=(s.heap.objs.size+1,s.heap.objs.size)) (s':={s with heap:=(s.heap.push emptyDict).push (instObj C s.heap.objs.size)})
  (λa o e=>dT _ (dT _ e)) rfl rfl (bR _) (ar _)
  ⟨du (dq _),by
   show((s.heap.push emptyDict).push (instObj C s.heap.objs.size)).get? (s.heap.objs.size+1)=_;have:=fP (s.heap.push emptyDict) (o:=instObj C s.heap.objs.size) rfl;rw[mc] at this;exact this,[],0,dT _ (fP _ rfl),rfl⟩
 have hu:∀args,(HQ "type.__call__" args).cUnits≤8:=λargs=>by
  have:(HQ "type.__call__" args).frames=0:=rfl;show 1+3*(HQ "type.__call__" args).frames≤8;exact dK _
 have bk:=a6.lower (A.under (.builtin "type.__call__" ⟨.ref C::a5,[]⟩)) rfl (by
   show A.depth+_≤_;have:(HQ "type.__call__" ⟨.ref C::a5,[]⟩).weight=1:=by rfl
   exact ar _) rfl rfl (by show A.units+_≤_;have:=hu ⟨.ref C::a5,[]⟩;exact e6 this _)
 obtain⟨hh,g,d,t,os⟩:=s;refine make_core (makes_of R.fY hm) (P8 R.fY hi) (λself=>bind_fn R.fY self hf) (.inl rfl) ?_;refine w.run own ae _ P _ _ _ _ (.ref (hh.objs.size+1)::a5) bk rfl ⟨_,_,rfl,⟨_,Mu.jb,rfl⟩,aO.mono aV.le.rfl.t le _ hv⟩ (λv h' v' s' P' m' q hP hm fB cW=>?_);obtain⟨rfl,q⟩:=q;obtain rfl:=fB;exact⟨rfl,c _ _ _ _ _ _ q hP (le.trans hm) ⟨_,hm _ _ Mu.jb,rfl⟩ (a6.Mc cW rfl)⟩
theorem call{func:Expr}{args:List Expr}{pos:Pos}{Q:QV}{X:QX}
  (sU:∀ae,d9 (.Call func args [] pos) ae=(do wX pos (←d9 func ae) [] (jv pos (gh args ae)) []))
  (hs:∀ae,(jv pos (gh args ae)).any (·.1)=an)
  (w:WE G F b fr h func (λf ag=>callable G f=ab∧j7 G F b fr ag args (λvs aC=>WC G F b fr aC f vs Q X) X) X):WE G F b fr h (.Call func args [] pos) Q X:=by
 refine .mk ?_;intro own ae A P m s Q' E' R c d;rw[sU ae];refine wb (w.run own ae A P m s _ _ R (λf ag f' aZ bW bU hq hP hm hf a6=>?_) d);exact Ld (first:=[]) (first':=[]) hq.1 hs hq.2 a6 hf rfl (c.mono hP hm) (d.mono hP hm)
def GMb(G:Gl)(F:FD)(b:Nat)(fr:SF)(h:SH)(u:SV)(name:Str)(f:SV):Prop:=
 ∀own ae A P m s (Q':Value×List Value→ak→Prop) (E':Value→ak→Prop) u' pl,Rel G F b own ae A P m fr h s→VR P m u u'→
  (∀f' t,VR P m f f'→Q' (f',[u']) {s with toks:=t})→aw (aR G.prog G.w) A (getMethod u' name pl) Q' E' s
abbrev GM(G:Gl)(F:FD)(b:Nat)(fr:SF)(h:SH)(u:SV)(name:Str)(f:SV):Prop:=Bx (GMb G F b fr h u name f)
theorem Ψ{n:Nm}{C f:au}{fs:SF}{name:Str}(hn:h n=aa (.inst C fs))(hg:zM G.K C name=ab)(hf:ie G.K (.ref C) name=aa (aa (.ref f)))(ht:isFn G.K (.ref f)=ab)
  (hl:fs.lookup name=af):GM G F b fr h (.ref n) name (.glob f):=by
 refine .mk ?_;intro own ae A P m s Q' E' u' pl R hu c;revert c;refine R.ww hn hu λbT xs k h1 q2 q3 q4 q5 I=>?_;intro c;exact method_fn R.fY I (HL hg).1 (HL hg).2 hf (eX.mp ht) (by show(lookIn name (qI xs k)).map _=_;rw[lookIn_dict _ _ _,q5.NL hl];rfl) (c _ s.toks rfl)
theorem aaa{o:Expr}{name:Str}{gE pos:Pos}{args:List Expr}{Q:QV}{X:QX}
  (sU:∀ae,∃pl,d9 (.Call (.Attribute o name gE) args [] pos) ae=(do
   let ov ←d9 o ae
   kh gE.atName
   let(f,first) ←ju [ov] (getMethod ov name pl)
   wX pos f first (jv pos (gh args ae)) []))
  (hs:∀ae,(jv pos (gh args ae)).any (·.1)=an)
  (w:WE G F b fr h o (λu ag=>∃f,callable G f=ab∧GM G F b fr ag u name f∧j7 G F b fr ag args (λvs aC=>WC G F b fr aC f (u::vs) Q X) X) X):
  WE G F b fr h (.Call (.Attribute o name gE) args [] pos) Q X:=by
 refine .mk ?_;intro own ae A P m s Q' E' R c d;refine xE (sU ae) λpl hf=>?_;rw[hf];refine wb (w.run own ae A P m s _ _ R (λu ag u' aZ bW bU hq hP hm hu a6=>?_) d);refine bH hq λf hc hg hw=>?_;clear hq;refine wb (jJ (wb (dM (hg.run own ae A bW bU aZ _ _ u' pl a6 hu (λf' t l6=>?_)))));exact Ld (first:=[u]) (first':=[u']) hc hs hw (a6.tok t) l6 (aO.one hu) (c.mono hP hm) (d.mono hP hm)
theorem Mj{e:Expr}{pos:Pos}{Q:QS}{X:dP}(hs:∀ae:Env,Dt e af pos.line ae=pure an)
  (w:WE G F b fr h e (λ_ ag=>Q .next fr ag) (λx h=>X x fr h)):WS G F b fr h (.Expr e pos) Q X:=by
 refine .mk ?_;intro own ae A P m s Q' E' R c d;have hi:interactive ae=an:=by
  unfold interactive;rw[R.f.sc,R.f.kind];rfl
 rw[exec_Expr ae e pos hi (hs ae)];refine wb (jJ (wb (w.run own ae A P m s _ _ R (λu ag u' aZ bW bU hq hP hm hu a6=>?_) d.j8)));exact wpAny_dropValue (c _ _ _ _ _ _ _ hq hP hm rfl a6)
structure fK(G:Gl)(own:List au)(P:aV)(m:Mu)(hp:cO)(T:List au):Prop where
 all:∀a∈T,P a=af∧a∉own∧(∀n ad,m n=aa ad→a≠ad.1∧a≠ad.2)∧G.base.get? a=af∧∃o,hp.get? a=aa o∧¬jX o∧∀v,o.data≠.cell v
variable{T:List au}
theorem Rel.pb(R:Rel G F b own ae A P m fr h s)(hT:fK G own P m s.heap T)(hk:∀a o,a∉T→s.heap.get? a=aa o→s'.heap.get? a=aa o)(hg:s'.gens=s.gens)(ho:s'.os=s.os):
  Rel G F b own ae A P m fr h s':=by
 have nP:∀{a o},P a=aa o→a∉T:=λ{a o} e ha=>a7 ((hT.all a ha).1.symm.trans e);have nO:∀{a},a∈own→a∉T:=λ{a} h1 ha=>(hT.all a ha).2.1 h1;exact R.upd (λe=>hk _ _ (nP e)) hg ho (λl h2 h4=>OG h2 h4 λa q o=>q.elim (λq=>hk _ _ (nO q)) λq=>q.elim λo' q=>hk _ _ (nP q))
  (λn so e=>aj (R.obj n so e) λad q1 q2=>⟨ad,q1,q2.mono aV.le.rfl.t .rfl (λo=>hk _ o λha=>((hT.all _ ha).2.2.1 n ad q1).1 rfl) λo=>hk _ o λha=>((hT.all _ ha).2.2.1 n ad q1).2 rfl⟩) R.dom (R.f.keep .rfl .rfl λa ha o e=>⟨o,hk _ _ (nO ha) e,rfl,rfl⟩)
theorem Rel.hold(R:Rel G F b own ae A P m fr h s)(hT:fK G own P m s.heap T):Rel G F b own ae A (P.under T s.heap) m fr h s∧P.le (P.under T s.heap):=by
 have le:P.le (P.under T s.heap):=λa o e=>(mq (λha=>a7 ((hT.all a ha).1.symm.trans e)) _).trans e;exact⟨⟨R.gens,R.os,R.bs,λa o e=>le _ _ (R.basePR a o e),jC R.frs λl h1 h2 h3 h4 h5=>⟨l,h1,h2,h3,λa ha=>(h4 a ha).imp id λq=>q.elim λo q=>⟨o,le _ _ q⟩,λa o e=>if ha:a∈T then⟨o.slots,(uO ha _).symm.trans e,λ_=>rfl⟩ else h5 a o ((mq ha _).symm.trans e)⟩,
  λn so e=>aj (R.obj n so e) λad q1 q2=>⟨ad,q1,q2.mono le.t .rfl (λ_ x=>x) λ_ x=>x⟩,R.dom,R.inj,λn ad e=>have q:=R.sep n ad e;⟨(mq (λha=>((hT.all _ ha).2.2.1 n ad e).1 rfl) _).trans q.1,(mq (λha=>((hT.all _ ha).2.2.1 n ad e).2 rfl) _).trans q.2.1,q.2.2⟩,
  λa ha=>(mq (λAr=>(hT.all _ Ar).2.1 ha) _).trans (R.ownP a ha),R.f.keep le .rfl λa _ o e=>⟨o,e,rfl,rfl⟩,R.depth,R.units,R.guards,R.quiet⟩,le⟩
theorem Rel.drop(R:Rel G F b own ae A P m fr h s)(hT:fK G own P m s.heap T)(R':Rel G F b own ae A P' m' fr' h' s')(hP:(P.under T s.heap).le P')(hm:m.le m'):
  P.le (P'.less T)∧P'.fZ (P'.less T)∧Rel G F b own ae A (P'.less T) m' fr' h' s'∧fK G own (P'.less T) m' s'.heap T∧∀a∈T,s'.heap.get? a=s.heap.get? a:=by
 have nT:∀{a o},P a=aa o→a∉T:=λ{a o} e ha=>a7 ((hT.all a ha).1.symm.trans e);have re:∀{a},a∈T→∃o,s.heap.get? a=aa o∧P' a=aa o∧¬jX o∧∀v,o.data≠.cell v:=λ{a} ha=>aj (hT.all a ha).2.2.2.2 λo e1 e2=>⟨o,e1,hP a o ((uO ha _).trans e1),e2⟩;have le:P.le (P'.less T):=λa o e=>(nh (nT e)).trans (hP a o ((mq (nT e) _).trans e));have fZ:P'.fZ (P'.less T):=λa o e hd=>(nh λha=>gU (re ha) λo' _ e1 e2 _=>e2 (aY (e.symm.trans e1)▸hd)).trans e;have K5:∀{a o v},P' a=aa o→o.data=.cell v→P'.less T a=aa o:=λ{a o v} e hd=>(nh λha=>gU (re ha) λo' _ e1 _ e2=>e2 v (aY (e.symm.trans e1)▸hd)).trans e;have nn:∀{a},P' a=af→a∉T:=λ{a} ea ha=>gU (re ha) λo' _ e1 _ _=>fu (e1.symm.trans ea);have frs:=jC R'.frs λl h1 h2 h3 h4 h5=>jC R.frs λAi g1 _ _ g4 _=>(⟨l,h1,h2,h3,λa ha=>g4 a (aY (h1.symm.trans g1)▸ha),h5⟩:∃l,A.frames=aa l∧s'.heap.FunFrames G.base l∧(∃e0 r,l=e0::r∧e0.frame=ae.frame)∧(∀a∈l.filterMap (·.frame),a∈own∨∃o,P a=aa o)∧∀a o,P' a=aa o→∃sl,s'.heap.get? a=aa {o with slots:=sl}∧(a∉l.filterMap (·.frame)→sl=o.slots));have ex:∀a∈T,s'.heap.get? a=s.heap.get? a:=λa ha=>jC frs λl _ _ _ h4 h5=>gU (re ha) λo q5 q6 _ _=>aj (h5 a o q6) λsl e1 e2=>
  e1.trans ((ay aa (IE o sl (e2 λhl=>(h4 a hl).elim (hT.all a ha).2.1 λz=>z.elim λo' z=>a7 ((hT.all a ha).1.symm.trans z)))).trans q5.symm)
 have X:=R'.f;exact s9 le fZ ⟨R'.gens,R'.os,R'.bs,λa o e=>le _ _ (R.basePR a o e),jC frs λl h1 h2 h3 h4 h5=>⟨l,h1,h2,h3,λa ha=>(h4 a ha).imp id λq=>q.elim λo q=>⟨o,le _ _ q⟩,λa o e=>h5 a o ((λ{a o} e=>if ha:a∈T then a7 ((DQ ha).symm.trans e) else(nh ha).symm.trans e:∀{a o},P'.less T a=aa o→P' a=aa o) e)⟩,
  λn so e=>aj (R'.obj n so e) λad q1 q2=>⟨ad,q1,q2.mono fZ .rfl (λ_ x=>x) λ_ x=>x⟩,R'.dom,R'.inj,λn ad e=>have q:=R'.sep n ad e;⟨(nh (nn q.1)).trans q.1,(nh (nn q.2.1)).trans q.2.1,q.2.2⟩,λa ha=>have q:=R'.ownP a ha;(nh (nn q)).trans q,
  ⟨X.sc,X.kind,X.glob,X.blt,X.r9,aj X.ns λmm q1 q2=>⟨mm,q1,λx v hx hl=>aj (q2 x v hx hl) λv' z1 z2=>⟨v',z1,z2.mono fZ .rfl⟩⟩,λx v hx hl=>bP (X.mB x v hx hl) λc v' q1 q2 q3=>⟨c,v',q1,q2.mono fZ .rfl,q3.imp id λq=>aj q λo z1 z2=>⟨o,K5 z1 z2,z2⟩⟩,
   λx hx=>aj (X.rU x hx) λc q1 q2=>⟨c,q1,q2.imp id λq=>ef q λo v z1 z2=>⟨o,v,K5 z1 z2,z2⟩⟩,X.uh,X.apart,X.mT⟩,R'.depth,R'.units,R'.guards,R'.quiet⟩
  ⟨λa ha=>have z:=hT.all a ha;⟨DQ ha,z.2.1,λn ad e=>have y:=R'.sep n ad e;⟨λq=>nn y.1 (q▸ha),λq=>nn y.2.1 (q▸ha)⟩,z.2.2.2.1,(ex a ha).symm▸z.2.2.2.2⟩⟩ ex
section
open AutoSeq1 (wpAny_loadPart')
variable{prog:fD}{w:cE}{E:Value→ak→Prop}
theorem XF{it t:au}{i:Nat}{items:Array Value}{x:Value}{Q:Value→ak→Prop}(hit:s.heap.IsTupleIter it t i)(ht:s.heap.IsTuple t items)(hx:items[i]? =aa x)
  (hQ:∀h',h'.IsTupleIter it t (i+1)→sB it s.heap h'→Q x {s with heap:=h'}):aw (aR prog w) A (HS (.ref it)) Q E s:=by
 refine bH (id hit) λo ho hc hd=>?_;refine zu ht λol lR _ nl vd=>?_;clear ht;unfold HS;refine wb (qK (name:=d5 "__next__") hit.typeIs F.slot_tuple_iterator_next
  (i5 F.slot_tuple_iterator_next hit.typeIs F.entry_tuple_iterator_next ?_ (F.args_tuple_iterator_next_1 _)))
 show aw _ _ (field (.ref it) 0 >>=_) _ _ s;refine wb (uB ho hd (x:=.ref t) rfl ?_);show aw _ _ (if(Du t==eH)=ab then _ else _) _ _ s;rw[aK (show ¬((Du t==eH)=ab) from iD)];show aw _ _ (field (.ref it) 1 >>=_) _ _ s;refine wb (uB ho hd (x:=.int i 0) rfl ?_);show aw _ _ (seqItems? (.ref t) >>=_) _ _ s;refine wb (wY lR vd ?_);simp only[HT,hx];refine wb (sE ho hd aJ (aD (aU x rfl (aD (hQ _ ?_ (pt ..))))));exact⟨_,lf _ ho (P9 (HU hd _)),(Dv ..).trans hc,by
  rw[HU hd _];simp[e_]⟩
theorem NX{it t:au}{i:Nat}{items:Array Value}{Q:Value→ak→Prop}(hh:A.handled=af)(hit:s.heap.IsTupleIter it t i)(ht:s.heap.IsTuple t items)(hx:items[i]? =af)
  (hE:∀h' e,P_ it s.heap h'→(∃o,h'.get? e=aa o∧o.cls=.type "StopIteration")→E (.ref e) {s with heap:=h'}):aw (aR prog w) A (HS (.ref it)) Q E s:=by
 refine bH (id hit) λo ho hc hd=>?_;refine zu ht λol lR _ nl vd=>?_;clear ht;unfold HS;refine wb (qK (name:=d5 "__next__") hit.typeIs F.slot_tuple_iterator_next
  (i5 F.slot_tuple_iterator_next hit.typeIs F.entry_tuple_iterator_next ?_ (F.args_tuple_iterator_next_1 _)))
 show aw _ _ (field (.ref it) 0 >>=_) _ _ s;refine wb (uB ho hd (x:=.ref t) rfl ?_);show aw _ _ (if(Du t==eH)=ab then _ else _) _ _ s;rw[aK (show ¬((Du t==eH)=ab) from iD)];show aw _ _ (field (.ref it) 1 >>=_) _ _ s;refine wb (uB ho hd (x:=.int i 0) rfl ?_);show aw _ _ (seqItems? (.ref t) >>=_) _ _ s;refine wb (wY lR vd ?_);simp only[HT,hx];refine wb (jK (wb (sE ho hd aJ ?_)));show aw _ _ (newExc (.type "StopIteration") [] >>=_) _ _ _;refine wb ?_;simp only[newExc,newTuple];refine wb (sF ?_ (by size_fits));refine wb (m:=Qa _ _) (qL (a:=eH) (by first|rfl|(simp only[Qa];rfl)) ?_);refine sF ?_ (by size_fits);simp only[HV];refine wb (wpAny_handled ?_)
 first|rw[show A.in1.handled=af from hh]|rw[hh]
 refine wb (aD (wpAny_throw ?_));exact hE _ _ (((pt ..).extBut.push _).push _) (aU _ (fP _ rfl) rfl)
theorem YJ(hh:A.handled=af)(it t:au)(dh:t≠it)(items:Array Value):
  Draws prog w A it [it,t] items.size (λi v=>items[i]? =aa v) (λi h=>h.IsTupleIter it t i∧h.IsTuple t items) where
 live:=λ_ _ st=>let⟨o,ho,_⟩:=st.1;⟨o,ho⟩
 frame:=λ_ _ _ st hk=>⟨st.1.at λo e=>hk it (.head _) o e,let⟨o,ho,r⟩:=st.2;⟨o,hk t (.tail _ (.head _)) o ho,r⟩⟩
 item:=λi s Q E hi st hQ=>
  XF st.1 st.2 (jr hi) λh' fU gW=>hQ _ h' s.toks (jr hi) ⟨fU,let⟨o,ho,r⟩:=st.2;⟨o,(gW.2 t dh).trans ho,r⟩⟩ gW
 done:=λs Q E st hE=>NX hh st.1 st.2 (Array.getElem?_size ..) hE
theorem ae7{i:Nat}{it t:au}{items:Array Value}(hh:A.handled=af)(hx:items[i]? =af):
  Draws prog w A it [it,t] 0 (λ_ _=>True) (λ_ h=>h.IsTupleIter it t i∧h.IsTuple t items) where
 live:=λ_ _ st=>let⟨o,ho,_⟩:=st.1;⟨o,ho⟩
 frame:=λ_ _ _ st hk=>⟨st.1.at λo e=>hk it (.head _) o e,let⟨o,ho,r⟩:=st.2;⟨o,hk t (.tail _ (.head _)) o ho,r⟩⟩
 item:=λi s Q E hi=>nomatch hi
 done:=λs Q E st hE=>NX hh st.1 st.2 hx hE
theorem Ul(l:au)(items:Array Value)(n:Nat)(dct:Option au)(sl:Array (Option Value)):
  Meets (Builtin.«enumerate.__new__» ⟨[.type "enumerate",.ref l],[]⟩) (λ_ R s=>s.heap.get? l=aa {cls:=.type "tuple",dict:=dct,data:=.seq items n,slots:=sl}∧
   R (.ok (.ret (.ref (s.heap.push {cls:=.type "tuple_iterator",data:=.fields #[.ref l,.int 0 0]}).objs.size)))
    {s with heap:=(s.heap.push {cls:=.type "tuple_iterator",data:=.fields #[.ref l,.int 0 0]}).push {cls:=.type "enumerate",data:=.fields #[.none,.bool an,.ref s.heap.objs.size,e_ 0,.none,.none]}}):=
 .of_wp λprog w A R s h=>by
  obtain⟨hp,g,d,tk,os⟩:=s;refine xA h λhl h=>?_;have sZ:=sub_enumerate;have hL:Heap.IsTuple (Shared.heap ⟨hp,g,d,tk,os⟩) l items:=⟨_,hl,rfl,n,rfl⟩
  wp_walk using HR hl
  refine wpAny_stack_any λst=>aD ?_;generalize alc _ _ _ _=b
  cases b
  ·wp_walk using HR hl,Qb hL
   exact(aU _ rfl h)
  ·wp_walk using HR hl,Qb hL
   exact(aU _ rfl h)
theorem aeg{l:au}{items:Array Value}{Q:Value→ak→Prop}(hL:s.heap.IsTuple l items)
  (h:∀h',IsEnum h' (s.heap.objs.size+1) s.heap.objs.size 0 .none→h'.IsTupleIter s.heap.objs.size l 0→h'.objs.size=s.heap.objs.size+2→
   (∀b o,s.heap.get? b=aa o→h'.get? b=aa o)→Q (.ref (s.heap.objs.size+1)) {s with heap:=h'}):
  aw (aR prog w) A (pv (.type "enumerate") [.ref l]) Q E s:=by
 obtain⟨⟨c,dct,dt,sl⟩,hl,hc,n,hd⟩:=hL
 replace hc:c=.type "tuple":=hc
 replace hd:dt=.seq items n:=hd
 subst hc hd;refine callType_new F.called_enumerate aW (F.typeCall_enumerate_1 _) (F.newCall_enumerate_1 _) (λobj=>F.args_object_init_2 obj _) F.entry_enumerate_new
  (Ul l items n dct sl) ⟨hl,?_⟩
 have hz:(s.heap.push {cls:=.type "tuple_iterator",data:=.fields #[.ref l,.int 0 0]}).objs.size=s.heap.objs.size+1:=mc ..;show _∧_;rw[hz];have he:IsEnum ((s.heap.push {cls:=.type "tuple_iterator",data:=.fields #[.ref l,.int 0 0]}).push
   {cls:=.type "enumerate",data:=.fields #[.none,.bool an,.ref s.heap.objs.size,e_ 0,.none,.none]}) (s.heap.objs.size+1) s.heap.objs.size 0 .none:=by
  have:=fP (s.heap.push {cls:=.type "tuple_iterator",data:=.fields #[.ref l,.int 0 0]})
   (o:={cls:=.type "enumerate",data:=.fields #[.none,.bool an,.ref s.heap.objs.size,e_ 0,.none,.none]}) rfl
  rw[hz] at this;exact this
 refine⟨⟨_,he,rfl⟩,h _ he ⟨_,dT _ (fP _ rfl),rfl,rfl⟩ (by rw[mc _ _,hz]) λb o x=>dT _ (dT _ x)⟩
end
inductive dm where
 |list (n:Nm)
 |tup (vs:List SV)
 |range (a:Int) (c:Nat)
 |keys (n:Nm) (len:Nat)
 |enumL (n:Nm)
 |enumT (vs:List SV)
 |str (x:Str)
def t7(hp:cO)(J:au)(P:aV)(m:Mu)(i:Nat):dm→Prop
 |.list n=>∃ad,m n=aa ad∧hp.IsListIter J ad.1 i
 |.tup vs=>∃t,VR P m (.tup vs) (.ref t)∧hp.IsTupleIter J t i
 |_=>False
def qj(k:dm)(i:Nat)(P:aV)(m:Mu)(hp:cO)(I:au)(T:List au):Prop:=∃J old,T=[I,J]∧I≠J∧IsEnum hp I J i old∧t7 hp J P m i k
def kY(k:dm)(i:Nat)(P:aV)(m:Mu)(hp:cO)(I:au)(T:List au):Prop:=
 match k with
 |.list n=>T=[I]∧t7 hp I P m i (.list n)
 |.tup vs=>T=[I]∧t7 hp I P m i (.tup vs)
 |.range a c=>T=[I]∧IsRangeIter hp I (a+i) ((c:Int) - i) 1
 |.keys n len=>T=[I]∧∃ad,m n=aa ad∧hp.IsKeyIter I ad.1 i len len
 |.enumL n=>qj (.list n) i P m hp I T
 |.enumT vs=>qj (.tup vs) i P m hp I T
 |.str x=>T=[I]∧∃t,hp.IsStrIter I "str_ascii_iterator" x t i
noncomputable def oV(es:List (SV×SV)):Bool:=es.all λp=>match p.1 with|.str _=>ab|_=>an
theorem gy.strs{w:cE}{prog:fD}{P:aV}{m:Mu}:∀{es:List (SV×SV)} {xs:List dL},gy w P m es xs→oV es=ab→
  ∃kX:List (Str×Value),uC (Dw prog w) xs kX∧es.map (·.1)=kX.map (λp=>SV.str p.1)∧(∀e∈xs,∃k,(Dw prog w).is k e.key=ab∧e.hash=(Dw prog w).hash k):=by
 intro es
 induction es with
 |nil=>intro xs h _;cases h;exact(cL ([]) .nil rfl (λe he=>nomatch he))
 |cons p es ih=>
  intro xs h ha;obtain⟨k,v⟩:=p;refine tw h λe r ax h1 h2 h3 h4=>?_;clear h;subst ax;refine bH (ih h4 (Dx.mp ha).2) λkX q1 q2 q3=>?_;have hx:∃x,k=.str x:=by
   replace ha:=(Dx.mp ha).1
   cases k with
   |str x=>exact⟨x,rfl⟩
   |_=>exact cM ha
  refine xE hx λx bq=>?_;clear hx;subst bq;refine xE h2 λt ht=>?_;clear h2;have hk:(Dw prog w).is x e.key=ab:=ht▸qF x;exact(cL ((x,e.val)::kX) (.cons hk rfl q1) (ay (SV.str x::·) q2) (Qc.mpr ⟨(aU x hk h1),q3⟩))
theorem gy.length{w:cE}{P:aV}{m:Mu}{es:List (SV×SV)}:∀{xs:List dL},gy w P m es xs→es.length=xs.length:=by
 induction es with
 |nil=>intro xs h;cases h;rfl
 |cons p es ih=>intro xs h;refine tw h λe r ax _ _ _ h4=>?_;clear h;subst ax;exact ay (· +1) (ih h4)
noncomputable def yc(o:Option cy)(f:List SV→Option SV):Option (Option SV):=match o with|some (.list vs)=>aa (f vs)|_=>af
noncomputable def Gd(o:Option cy)(f:List (SV×SV)→Option (Option SV)):Option (Option SV):=match o with|some (.dict es)=>f es|_=>af
def jA(A:Prop)(B:SV→Prop):Option (Option SV)→Prop
 |none=>False
 |some af=>A
 |some (aa v)=>B v
theorem jA.imp{A A':Prop}{B B':SV→Prop}(a:A→A')(c:∀v,B v→B' v):∀{o:Option (Option SV)},jA A B o→jA A' B' o
 |some af,w=>a w
 |some (aa v),w=>c v w
theorem MW{A:Prop}{B:SV→Prop}{o:Option cy}{f:List SV→Option SV}(w:jA A B (yc o f)):∃vs,o=aa (.list vs)∧jA A B (aa (f vs)):=
 match o,w with
 |some (.list vs),w=>(aU vs rfl w)
theorem Sk{A:Prop}{B:SV→Prop}{o:Option cy}{f:List (SV×SV)→Option (Option SV)}(w:jA A B (Gd o f)):∃es,o=aa (.dict es)∧jA A B (f es):=
 match o,w with
 |some (.dict es),w=>(aU es rfl w)
theorem Gx{A:Prop}{B:SV→Prop}{C:Prop}{P:aV}{m:Mu}{vs:List SV}{xs:Array Value}{i:Nat}{f:SV→SV}(q:aO P m vs xs.toList){o:Option SV}(ho:o=vs[i]?.map f)(w:jA A B (aa o))(e:xs[i]? =af→A→C)
  (c:∀v v',xs[i]? =aa v'→VR P m v v'→B (f v)→C):C:=by
 subst ho
 cases hv:vs[i]? with
 |none=>
  rw[hv] at w;exact e (Array.getElem?_eq_none (by rw[←fQ,←q.length];exact km.mp hv)) w
 |some v=>
  rw[hv] at w;refine aj (q.get hv) λv' hx tq=>?_;exact c v v' (jt.symm.trans hx) tq w
noncomputable def jk(k:dm)(i:Nat)(h:SH):Option (Option SV):=
 match k with
 |.list n=>yc (h n) (λvs=>vs[i]?)
 |.tup vs=>aa vs[i]?
 |.range a c=>aa (if i<c then aa (.int (a+i)) else af)
 |.keys n len=>Gd (h n) (λes=>if es.length=len∧oV es=ab then aa (es[i]?.map (·.1)) else af)
 |.enumL n=>yc (h n) (λvs=>vs[i]?.map λv=>.tup [.int i,v])
 |.enumT vs=>aa (vs[i]?.map λv=>.tup [.int i,v])
 |.str x=>aa (x.cps[i]?.map λc=>.str ⟨#[c]⟩)
noncomputable def Hw:dm→Bool
 |.enumL _=>ab
 |.enumT _=>ab
 |_=>an
inductive mQ(k:dm):Expr→Prop where
 |name {x:Str} {p:Pos} (h:Hw k=an):mQ k (.Name x p)
 |tup {es:List Expr} {n:Nat} {p:Pos}:mQ k (.Tuple es n p)
theorem t7.move{k:dm}{i:Nat}{P P':aV}{m m':Mu}{hp bV:cO}{J:au}(hP:P.fZ P')(hm:m.le m')(hJ:∀o,hp.get? J=aa o→bV.get? J=aa o)(x:t7 hp J P m i k):t7 bV J P' m' i k:=by
 cases k with
 |list n=>obtain⟨ad,h1,o,h2,h3⟩:=x;exact⟨ad,hm _ _ h1,o,hJ _ h2,h3⟩
 |tup vs=>obtain⟨t,h1,o,h2,h3⟩:=x;exact⟨t,h1.mono hP hm,o,hJ _ h2,h3⟩
 |_=>exact x
theorem qj.move{k:dm}{i:Nat}{P P':aV}{m m':Mu}{hp bV:cO}{I:au}{T:List au}(hP:P.fZ P')(hm:m.le m')(hT:∀a∈T,bV.get? a=hp.get? a)(x:qj k i P m hp I T):qj k i P' m' bV I T:=by
 refine gO x λJ old ax h0 h2 h3=>?_;clear x;subst ax;exact⟨J,old,rfl,h0,(hT I (.head _)).trans h2,h3.move hP hm λo e=>(hT J (.tail _ (.head _))).trans e⟩
theorem kY.move{k:dm}{i:Nat}{P P':aV}{m m':Mu}{hp bV:cO}{I:au}{T:List au}(hP:P.fZ P')(hm:m.le m')(hT:∀a∈T,bV.get? a=hp.get? a)(x:kY k i P m hp I T):kY k i P' m' bV I T:=by
 have hI {o} (e:T=[I]):hp.get? I=aa o→bV.get? I=aa o:=(hT I (e▸.head _)).trans
 cases k with
 |list n=>exact⟨x.1,x.2.move hP hm λo=>hI x.1⟩
 |tup vs=>exact⟨x.1,x.2.move hP hm λo=>hI x.1⟩
 |range a c=>exact⟨x.1,hI x.1 x.2⟩
 |keys n len=>obtain⟨e,ad,h1,o,h2,h3⟩:=x;exact⟨e,ad,hm _ _ h1,o,hI e h2,h3⟩
 |enumL n=>exact qj.move hP hm hT x
 |enumT vs=>exact qj.move hP hm hT x
 |str x'=>obtain⟨e,t,o,h2,h3⟩:=x;exact⟨e,t,o,hI e h2,h3⟩
variable{I:au}
theorem Rel.mG(R:Rel G F b own ae A P m fr h s){n:Nm}{vs:List SV}(hn:h n=aa (.list vs)){ad:au×au}(hm:m n=aa ad){C:Prop}(c:∀xs k,s.heap.get? ad.1=aa (E9 xs k)→aO P m vs xs.toList→C):C:=
 bH (R.obj n _ hn) λ_ q1 _ q2=>ef q2 λxs k q2 q3=>c xs k (aY (q1.symm.trans hm)▸q2) q3
theorem Rel.Ps(R:Rel G F b own ae A P m fr h s)(hT:fK G own P m s.heap T){vs:List SV}{t:au}(ub:VR P m (.tup vs) (.ref t)):∃xs,s.heap.IsTuple t xs∧aO P m vs xs.toList∧∀a∈T,t≠a:=by
 obtain⟨a,o,items,n,e,q1,q2,q3,q4⟩:=ub;obtain rfl:=Qd e;refine bH (R.rd q1) λo' z1 z2 z3=>?_;exact⟨items,⟨o',z1,z2.trans q2,n,z3.trans q3⟩,q4,λa ha e=>by subst e;exact nomatch ((hT.all t ha).1.symm.trans q1)⟩
theorem VB{M:i2}{E:Value→ak→Prop}{k:dm}{t:Expr}{v:Value}{Q:Unit→ak→Prop}(ht:mQ k t){o:Obj}{T:String}{fs:Array Value}(ho:s.heap.get? I=aa o)(hc:o.cls=.type T)(hd:o.data=.fields fs)(hp:(["enumerate","zip","dict_itemiterator","dict_reverseitemiterator","odict_iterator","itertools.zip_longest","itertools.pairwise"]:List String).contains T=an)
  (hq:Q () s):aw M A (Dy t (.ref I) v) Q E s:=by
 cases ht with
 |name _=>exact aD hq
 |tup=>
  cases v with
  |ref a=>
   refine wb (wpAny_load ho ?_);rw[hc,hd];refine(?_:aw M A (if(_ && _)=ab then _ else _) Q E s);rw[hp];exact aD hq
  |_=>exact aD hq
def Gw(G:Gl)(F:FD)(b:Nat)(own:List au)(ae:Env)(A:dZ)(P:aV)(m:Mu)(fr:SF)(h:SH)(k:dm)(i:Nat)(I:au)(T:List au)(v:SV)(Q':Value→ak→Prop):Prop:=
 ∀v' s' P',P.le P'→Rel G F b own ae A P' m fr h s'→VR P' m v v'→kY k (i+1) P' m s'.heap I T→fK G own P' m s'.heap T→Q' v' s'
theorem fK.same{P:aV}(hT:fK G own P m s.heap T){hp:cO}(x:∀a∈T,∃o,hp.get? a=aa o∧¬jX o∧∀v,o.data≠.cell v):fK G own P m hp T:=
 ⟨λa ha=>(s9 ((hT.all a ha).1) ((hT.all a ha).2.1) ((hT.all a ha).2.2.1) ((hT.all a ha).2.2.2.1) (x a ha))⟩
theorem p8{o:Obj}{vs:Array Value}(h:o.data=.fields vs):∀v,o.data≠.cell v:=λv e=>by rw[h] at e;cases e
theorem u5{T:String}{o:Obj}(hc:o.cls=.type T)(h1:T≠"tuple")(h2:T≠"range"):¬jX o:=by
 rintro(⟨e,_⟩|⟨e,_⟩)<;>rw[hc] at e<;>cases e
 ·exact h1 rfl
 ·exact h2 rfl
theorem Rel.NH(R:Rel G F b own ae A P m fr h s){n:Nm}{es:List (SV×SV)}{ad:au×au}(hn:h n=aa (.dict es))(h1:m n=aa ad)(ha:oV es=ab):
  ∃kX,kX.length=es.length∧es.map (·.1)=kX.map (λp=>SV.str p.1)∧s.heap.DictAt (Dw G.prog G.w) ad.1 kX es.length:=by
 refine OK (R.obj n _ hn) λbT q1 _ xs q2 q3 q4 _=>?_;have e:=aY (q1.symm.trans h1);subst e;refine bH (q3.strs (prog:=G.prog) ha) λkX z1 z2 z3=>?_;exact⟨kX,(aI ..).symm.trans ((ay oq z2.symm).trans (aI ..)),z2,_,xs,q2,⟨rfl,rfl,rfl⟩,rfl,λe he=>z3 e (Array.mem_toList_iff.mpr he),z1,
  wQ.mpr (ald (λhab e=>hab (ay SV.str e)) (wQ.mp (z2▸q4)))⟩
noncomputable def Cy(T:String):Bool:=!((["enumerate","zip","dict_itemiterator","dict_reverseitemiterator","odict_iterator","itertools.zip_longest","itertools.pairwise"]:List String).contains T||T=="tuple"||T=="range")
theorem yf{hp:cO}{T:String}{fs:Array Value}(p:Cy T=ab)(x:∃o,hp.get? I=aa o∧o.cls=.type T∧o.data=.fields fs):∃o,hp.get? I=aa o∧¬jX o∧∀v,o.data≠.cell v:=by
 refine bH x λo ho hc hd=>?_;clear x;refine xA (Dz.mp ((jL _).mp p)) λp1 p3=>?_;exact(cL o ho (u5 hc (λe=>bc (eX.mpr e) ((Dz.mp p1).2▸iD)) (λe=>bc (eX.mpr e) (p3▸iD))) (p8 hd))
theorem y0{k:dm}{i:Nat}{t:Expr}{v:SV}{v':Value}{Q':Value→ak→Prop}{E':Value→ak→Prop}{h':cO}{tk:Tok}{T:String}{fs:Array Value}(ht:mQ k t)(R:Rel G F b own ae A P m fr h s)(hT:fK G own P m s.heap [I])
  (hs:sB I s.heap h') (x:∃o,h'.get? I=aa o∧o.cls=.type T∧o.data=.fields fs) (hp:Cy T=ab) (w:Gw G F b own ae A P m fr h k i I [I] v Q') (hv:VR P m v v') (hI:kY k (i+1) P m h' I [I]):
  aw (aR G.prog G.w) A (Dy t (.ref I) v') (λ_ bz=>Q' v' bz) E' {s with heap:=h',toks:=tk}:=by
 have y:=yf hp x;refine bH x λo ho hc hd=>?_;clear x;exact VB (s:={s with heap:=h',toks:=tk}) ht ho hc hd (Dz.mp (Dz.mp ((jL _).mp hp)).1).1
  (w v' _ P .rfl (R.pb hT (λa o ha e=>(hs.2 a λq=>ha (q▸.head _)).trans e) rfl rfl) hv hI (hT.same λa ha=>bS.mp ha▸y))
theorem wc{Qe:ak→Prop}{h':cO}{J:au}(R:Rel G F b own ae A P m fr h s)(hT:fK G own P m s.heap T)(hJ:J∈T)(w:∀s',Rel G F b own ae A P m fr h s'→Qe s')(he:P_ J s.heap h'):Qe {s with heap:=h'}:=
 w _ (R.pb hT (λa o ha e=>he a o (λq=>ha (q▸hJ)) e) rfl rfl)
theorem KJ{kk k:dm}{i:Nat}{J t:au}{old:Value}{St:Nat→cO→Prop}{vs:List SV}{xs:Array Value}{T5:List Expr}{kt:Nat}{pos:Pos}{Qe:ak→Prop}{Q':Value→ak→Prop}{E':Value→ak→Prop}(D:Draws G.prog G.w A.in1 J [J,t] xs.size (λi v=>xs[i]? =aa v) St)
  (R:Rel G F b own ae A P m fr h s) (hT:fK G own P m s.heap [I,J]) (qk:I≠J) (Sf:I≠t) (hE:IsEnum s.heap I J i old) (kQ:St i s.heap) (en:xs[i]? =af→∀Q:Option Value→ak→Prop,(∀h',P_ J s.heap h'→Q af {s with heap:=h'})→aw (aR G.prog G.w) A (uD (.ref I)) Q E' s) (q:aO P m vs xs.toList)
  (src:∀{P' h'},P.fZ P'→St (i+1) h'→t7 h' J P' m (i+1) k) (ob:∀{j h'},St j h'→∃o,h'.get? J=aa o∧¬jX o∧∀v,o.data≠.cell v)
  (XW:∀{P' h'},qj k (i+1) P' m h' I [I,J]→kY kk (i+1) P' m h' I [I,J])
  (w:jA (∀s',Rel G F b own ae A P m fr h s'→Qe s') (λv=>Gw G F b own ae A P m fr h kk i I [I,J] v Q') (aa (vs[i]?.map λv=>.tup [.int i,v]))):
  aw (aR G.prog G.w) A (uD (.ref I)) (λr aZ=>match r with
   |none=>Qe aZ
   |some v'=>aw (aR G.prog G.w) A (Dy (.Tuple T5 kt pos) (.ref I) v') (λ_ bz=>Q' v' bz) E' aZ) E' s:=by
 refine Gx q rfl w (λhx w=>?_) λv v' hx tq w=>?_
 ·exact en hx _ λh' he=>wc R hT (.tail _ (.head _)) w he
 ·refine wpAny_pyNext_enum_itemD D hE kQ (oi.mp hx).1 qk (λe=>(dE.mp e).elim qk λe=>Sf (bS.mp e)) λx h' tk So Jd Jy Y' hsz hk=>?_
  cases aY (hx.symm.trans So)
  have bk:=R.pb (s':={s with heap:=h',toks:=tk+1}) hT (λa o ha e=>hk a o (λq=>ha (q▸.head _)) (λq=>ha (q▸.tail _ (.head _))) e) rfl rfl;refine mv (R.free (ar s.heap.objs.size)) λf1 f2 f3 f4=>?_;refine xA (bk.Kh (s:={s with heap:=h',toks:=tk+1}) Y' f1 f2 f3 f4) λcW le=>?_;refine wpAny_letOwnedTupleGo_enum (s:={s with heap:=h',toks:=tk+1}) Jd λaC NZ FM=>?_;have vG {hp:cO} (x:∃o,hp.get? I=aa o∧¬jX o∧∀v,o.data≠.cell v) (y:∃o,hp.get? J=aa o∧¬jX o∧∀v,o.data≠.cell v):fK G own (P.set s.heap.objs.size {cls:=.type "tuple",data:=.seq #[.int i tk,v']}) m hp [I,J]:=by
   refine⟨λa ha=>?_⟩;refine Bl (hT.all a ha) λp1 p2 p3 p4 o ho _=>?_;refine(s9 ((aK (du (jI ho))).trans p1) p2 p3 p4 ?_);rcases dE.mp ha with rfl|ha
   ·exact x
   ·cases bS.mp ha;exact y
  refine aj (ob Jy) λo ho Nc=>?_;have hoJ:aC.get? J=aa o:=(FM.2 J qk.symm).trans ho;exact w _ _ _ le (cW.pb (s':={s with heap:=aC,toks:=tk+1}) (vG (cL _ Jd (u5 rfl aW aW) (p8 rfl)) (aU o ho Nc)) (λa o ha e=>(FM.2 a (λq=>ha (q▸.head _))).trans e) rfl rfl)
   ⟨s.heap.objs.size,_,_,_,rfl,aP rfl,rfl,rfl,⟨_,_,rfl,⟨_,rfl⟩,_,_,rfl,tq.mono le.t .rfl,rfl⟩⟩ (XW ⟨J,v',rfl,qk,NZ,(src le.t Jy).move (λ_ _ e _=>e) .rfl λo e=>(FM.2 J qk.symm).trans e⟩) (vG ⟨_,NZ,u5 rfl aW aW,p8 rfl⟩ ⟨o,hoJ,Nc⟩)
theorem KA{k:dm}{i:Nat}{t:Expr}{Qe:ak→Prop}{Q':Value→ak→Prop}{E':Value→ak→Prop}(hq:F.q=ab)(ht:mQ k t)(R:Rel G F b own ae A P m fr h s)(hI:kY k i P m s.heap I T)(hT:fK G own P m s.heap T)
  (w:jA (∀s',Rel G F b own ae A P m fr h s'→Qe s') (λv=>Gw G F b own ae A P m fr h k i I T v Q') (jk k i h)):
  aw (aR G.prog G.w) A (uD (.ref I)) (λr aZ=>match r with
   |none=>Qe aZ
   |some v'=>aw (aR G.prog G.w) A (Dy t (.ref I) v') (λ_ bz=>Q' v' bz) E' aZ) E' s:=by
 have hh:=R.quiet hq
 cases k with
 |list n=>
  refine mP hI λcP ad h1 hit=>?_;clear hI;subst cP;refine aj (MW w) λvs hn w=>?_;refine R.mG hn h1 λxs kk q2 q3=>?_;refine Gx q3 (agk ..).symm w (λhx w=>wpAny_pyNext_list_end hh hit ⟨_,q2,rfl,kk,rfl⟩ hx λh' he=>wc R hT (.head _) w he) λv v' hx tq w=>?_;refine wpAny_pyNext_list_item hit ⟨_,q2,rfl,kk,rfl⟩ hx λh' fU hs=>?_;exact y0 ht R hT hs fU rfl w tq ⟨rfl,ad,h1,fU⟩
 |tup vs=>
  refine mP hI λcP tt ub hit=>?_;clear hI;subst cP;refine bH (R.Ps hT ub) λxs hl q _=>?_;refine Gx q (agk ..).symm w (λhx w=>wpAny_pyNext_tuple_end hh hit hl hx λh' he=>wc R hT (.head _) w he) λv v' hx tq w=>?_;refine wpAny_pyNext_tuple_item hit hl hx λh' fU hs=>?_;exact y0 ht R hT hs fU rfl w tq ⟨rfl,tt,ub,fU⟩
 |range a c=>
  refine xA hI λcP hit=>?_;clear hI;subst cP
  by_cases Ba:i<c
  ·replace w:jA _ _ (aa (if i<c then _ else _)):=w
   rw[aP Ba] at w;refine wpAny_pyNext_range_item hit (Int.sub_pos_of_lt (ib.mpr Ba)) λh' fU hs=>?_;have e2:(c:Int) - (i:Int) - 1=(c:Int) - ((i+1:Nat):Int):=Int.sub_sub ..;have u7:IsRangeIter h' I (a+((i+1:Nat):Int)) ((c:Int) - ((i+1:Nat):Int)) 1:=e2▸Int.add_assoc a i 1▸fU;exact y0 ht R hT hs (cL _ u7 rfl rfl) rfl w ⟨_,rfl⟩ ⟨rfl,u7⟩
  ·replace w:jA _ _ (aa (if i<c then _ else _)):=w
   rw[aK Ba] at w;exact wpAny_pyNext_range_end hh hit (Int.sub_nonpos_of_le (wZ.mpr (js.mp Ba))) λh' he=>wc R hT (.head _) w he
 |keys n len=>
  refine mP hI λcP ad h1 hit=>?_;clear hI;subst cP;refine aj (Sk w) λes hn w=>?_
  by_cases hc:es.length=len∧oV es=ab
  ·rw[aP hc] at w
   refine bH (R.NH hn h1 hc.2) λkX c7 z2 hD=>?_;have ZI:=hc.1;subst ZI;have hv:es[i]?.map (·.1)=kX[i]?.map (λp=>SV.str p.1):=dv.symm.trans ((ay (·[i]?) z2).trans dv);rw[hv] at w
   cases hx:kX[i]? with
   |none=>
    rw[hx] at w;exact wpAny_pyNext_dict_end hh (c7.symm▸hit) hD hx λh' he=>wc R hT (.head _) w he
   |some kv=>
    rw[hx] at w;refine wpAny_pyNext_dict_item (c7.symm▸hit) hD (k:=kv.1) (v:=kv.2) hx λkey h' hk u7 hs=>?_;refine xE (Value.isStrOf_shape hk) λtk bq=>?_;subst bq;rw[c7] at u7;exact y0 ht R hT hs u7 rfl w ⟨_,rfl⟩ ⟨rfl,ad,h1,u7⟩
  ·rw[aK hc] at w;exact w.elim
 |enumL n=>
  cases ht with
  |name e=>exact iY e
  |tup=>
   refine Ju hI λJ old ax qk hE ad h1 hit=>?_;clear hI;subst ax;refine aj (MW w) λvs hn w=>?_;refine R.mG hn h1 λxs kk q2 q3=>?_;have ne {a} (ha:a∈[I,J]):a≠ad.1:=((hT.all a ha).2.2.1 n ad h1).1;exact KJ (k:=.list n) (Draws.list (A:=A.in1) hh J ad.1 (ne (.tail _ (.head _))).symm xs) R hT qk (ne (.head _)) hE ⟨hit,_,q2,rfl,kk,rfl⟩ (λhx Q w=>wpAny_pyNext_enum_end hh hE hit ⟨_,q2,rfl,kk,rfl⟩ hx w) q3 (λ_ st=>⟨ad,h1,st.1⟩) (λst=>yf rfl st.1) id w
 |enumT vs=>
  cases ht with
  |name e=>exact iY e
  |tup=>
   refine Ju hI λJ old ax qk hE tt ub hit=>?_;clear hI;subst ax;refine bH (R.Ps hT ub) λxs hl q hp=>?_;exact KJ (k:=.tup vs) (YJ (A:=A.in1) hh J tt (hp J (.tail _ (.head _))) xs) R hT qk (hp I (.head _)).symm hE ⟨hit,hl⟩ (λhx Q w=>wpAny_pyNext_enum_endD (ae7 (A:=A.in1) hh hx) hE ⟨hit,hl⟩ w) q (λle st=>⟨tt,ub.mono le .rfl,st.1⟩) (λst=>yf rfl st.1) id w
 |str x=>
  refine B3 hI λcP tt hit=>?_;clear hI;subst cP
  cases hv:x.cps[i]? with
  |none=>
   replace w:jA _ _ (aa (x.cps[i]?.map _)):=w
   rw[hv] at w;exact wpAny_pyNext_ascii_end hh hit hv λh' he=>wc R hT (.head _) w he
  |some c=>
   replace w:jA _ _ (aa (x.cps[i]?.map _)):=w
   rw[hv] at w;refine wpAny_pyNext_ascii_item hit hv λh' fU hs=>?_;exact y0 ht R hT hs fU rfl w ⟨_,rfl⟩ ⟨rfl,tt,fU⟩
inductive zH(G:Gl)(F:FD)(b:Nat)(own:List au)(ae:Env)(A:dZ)(P:aV)(m:Mu)(k:dm)(I:au)(T:List au)(J:Nat→Nat→SF→SH→Prop)(n:Nat)(s:ak):Prop
 |mk (P':aV) (m':Mu) (fr:SF) (h:SH) (i:Nat) (hJ:J n i fr h) (hP:P.le P') (hm:m.le m') (R:Rel G F b own ae A P' m' fr h s) (hI:kY k i P' m' s.heap I T) (hT:fK G own P' m' s.heap T)
noncomputable def nX:dP:=λ_ _ _=>False
theorem tF{E':Value→ak→Prop}:ql G F b own ae A P m nX E':=λ_ _ _ _ _ _ _ q=>q.elim
theorem R2{LM:Expr}{body eZ:List bx}{pos:Pos}{Q:QS}{X:dP}(J:Nat→SF→SH→Prop)(n:Nat)(h0:J n fr h)
  (turn:∀n fr h,J n fr h→WB G F b fr h LM (λc ag=>if c then j4 G F b fr ag body (λf ew aC=>match f with
    |.next=>∃k,k<n∧J k ew aC
    |.cont=>∃k,k<n∧J k ew aC
    |.brk=>Q .next ew aC
    |.ret v=>Q (.ret v) ew aC) nX
   else j4 G F b fr ag eZ Q nX) lX):WS G F b fr h (.While LM body eZ pos) Q X:=by
 refine .mk ?_;intro own ae A P m s Q' E' R c d;refine wpAny_While ?_;refine codeAny_whileLoop (λn s'=>∃P' m' fr' h',J n fr' h'∧P.le P'∧m.le m'∧Rel G F b own ae A P' m' fr' h' s') ?_ n ⟨P,m,fr,h,h0,.rfl,.rfl,R⟩;rintro n aZ ⟨bW,bU,bv,ag,hJ,hP,hm,a6⟩;refine(turn n bv ag hJ).run own ae A bW bU aZ _ _ a6 (λt aC bz cD cu hq cQ cJ bk=>?_) (λ_ _ _ _ _ _ q=>q.elim)
 cases t with
 |true=>
  refine hq.run own ae A cD cu bz _ _ bk (λf jU cK f' ej lI nr q fS iu hf cW=>?_) tF
  cases f with
  |next=>obtain rfl:=hf;refine aj q λk hk q=>?_;exact⟨k,hk,lI,nr,jU,cK,q,(hP.trans cQ).trans fS,(hm.trans cJ).trans iu,cW⟩
  |cont=>obtain rfl:=hf;refine aj q λk hk q=>?_;exact⟨k,hk,lI,nr,jU,cK,q,(hP.trans cQ).trans fS,(hm.trans cJ).trans iu,cW⟩
  |brk=>obtain rfl:=hf;exact c _ _ _ _ _ _ _ q ((hP.trans cQ).trans fS) ((hm.trans cJ).trans iu) rfl cW
  |ret v=>refine aj hf λv' bq hv=>?_;clear hf;subst bq;exact c _ _ _ _ _ _ _ q ((hP.trans cQ).trans fS) ((hm.trans cJ).trans iu) ⟨_,rfl,hv⟩ cW
 |false=>
  exact hq.run own ae A cD cu bz _ _ bk (λf jU cK f' ej lI nr q fS iu hf cW=>c _ _ _ _ _ _ _ q ((hP.trans cQ).trans fS) ((hm.trans cJ).trans iu) hf cW) tF
def θ(G:Gl)(F:FD)(b:Nat)(fr:SF)(h:SH)(e:Expr)(Q:dm→SH→Prop)(X:QX):Prop:=
 ∀own ae A P m s (Q':Value→ak→Prop) (E':Value→ak→Prop),Rel G F b own ae A P m fr h s→
  (∀k h' I T s' P' m',Q k h'→P.le P'→m.le m'→Rel G F b own ae A P' m' fr h' s'→kY k 0 P' m' s'.heap I T→fK G own P' m' s'.heap T→Q' (.ref I) s')→
  g0 G F b own ae A P m fr X E'→aw (aR G.prog G.w) A (d9 e ae) (λx aZ=>aw (aR G.prog G.w) A (qM x) Q' E' aZ) E' s
abbrev WI(G:Gl)(F:FD)(b:Nat)(fr:SF)(h:SH)(e:Expr)(Q:dm→SH→Prop)(X:QX):Prop:=Bx (θ G F b fr h e Q X)
inductive rM(h:SH):SV→dm→Prop
 |lst {n:Nm} {vs:List SV} (hn:h n=aa (.list vs)):rM h (.ref n) (.list n)
 |dct {n:Nm} {es:List (SV×SV)} (hn:h n=aa (.dict es)) (ha:oV es=ab):rM h (.ref n) (.keys n es.length)
 |tup {vs:List SV}:rM h (.tup vs) (.tup vs)
 |str {x:Str} (hx:x.cps.all (· <128)=ab):rM h (.str x) (.str x)
 |rng {n:Nat} (hn:n<2^40):rM h (.range 0 n) (.range 0 n)
theorem YZ{n:Nat}(hn:n<2^40):agl 0 n 1=n∧agm 0 n 1=ab:=by
 have hsz:agl 0 n 1=n:=by
  show(if(0:Int) <1 then if(0:Int) <n then((n:Int) - 0-1) / 1+1 else 0 else _)=_;rw[aP aW,agn _]
  split<;>lia
 refine⟨hsz,?_⟩;have f {x:Int} (a:0≤x) (c:x≤2^40):ale x=ab:=Dx.mpr ⟨eQ (DB aW a),eQ (ago c aW)⟩;have Me:=jq n;have CN:(n:Int)≤2^40:=wZ.mpr (cj hn);unfold agm;rw[hsz,f (x:=n) Me CN];rw[aP (show(1:Int) > 0 by exact aW),show(n:Int)+(1-1)=n from agp _,f Me CN];exact HW _
theorem Rel.YN(R:Rel G F b own ae A P m fr h s){a:au}{o:Obj}(e:P a=aa o){vs:Array Value}(hd:o.data=.fields vs):s.heap.get? a=aa o:=by
 obtain⟨l,h1,h2,h3,h4,h5⟩:=R.frs;refine aj (h5 a o e) λsl e1 e2=>?_;have:a∉l.filterMap (·.frame):=λhl=>by
  refine mP (h2.mem hl) λ_ o' g1 g2=>?_;rw[e1] at g1;obtain rfl:=aY g1;exact g2 vs hd
 rw[e1,IE o sl (e2 this)]
theorem Zr{v:SV}{k:dm}{v':Value}{Q':Value→ak→Prop}{E':Value→ak→Prop}(R:Rel G F b own ae A P m fr h s)(hv:VR P m v v')(hk:rM h v k)
  (c:∀I T s',Rel G F b own ae A P m fr h s'→kY k 0 P m s'.heap I T→fK G own P m s'.heap T→Q' (.ref I) s'):aw (aR G.prog G.w) A (qM v') Q' E' s:=by
 have push {o:Obj} {T:String} {fs:Array Value} (hp:Cy T=ab) (hc:o.cls=.type T) (hd:o.data=.fields fs) (hf:o.isFreed=an) (hI:(∃o',(s.heap.push o).get? s.heap.objs.size=aa o'∧o'.cls=.type T∧o'.data=.fields fs)→kY k 0 P m (s.heap.push o) s.heap.objs.size [s.heap.objs.size]):
   Q' (.ref s.heap.objs.size) {s with heap:=s.heap.push o}:=by
  refine mv (R.free (ar s.heap.objs.size)) λf1 f2 f3 f4=>?_;have x:∃o',(s.heap.push o).get? s.heap.objs.size=aa o'∧o'.cls=.type T∧o'.data=.fields fs:=(cL o (fP _ hf) hc hd);exact c _ _ {s with heap:=s.heap.push o} (R.grow (λa o' e=>dT _ e) rfl rfl) (hI x) ⟨λa ha=>bS.mp ha▸(s9 f1 f3 f2 f4 (yf hp x))⟩
 cases hk with
 |lst hn=>
  refine aj hv λad h1 e=>?_;clear hv;subst e;refine R.mG hn h1 λxs kk q2 q3=>?_;exact Qf ⟨_,q2,rfl,kk,rfl⟩ (push (T:="list_iterator") rfl rfl rfl rfl λx=>⟨rfl,ad,h1,x⟩)
 |dct hn ha=>
  refine aj hv λad h1 e=>?_;clear hv;subst e;refine bH (R.NH hn h1 ha) λkX c7 _ hD=>?_;have XQ:(ad.1==Dn)=an:=k9.mpr λe=>by
   obtain⟨o,ho⟩:=G.BO;have h2:=R.basePR _ _ ho;rw[←e,(R.sep _ _ h1).1] at h2;exact a7 h2
  exact wpAny_pyIter_dict XQ hD (push (T:="dict_keyiterator") rfl rfl rfl rfl λx=>⟨rfl,ad,h1,c7▸x⟩)
 |tup=>
  have fB:=hv;obtain⟨a,o,items,n,e,q1,q2,q3,q4⟩:=hv;subst e;refine bH (R.rd q1) λo' z1 z2 z3=>?_;exact Qb ⟨o',z1,z2.trans q2,n,z3.trans q3⟩ (push (T:="tuple_iterator") rfl rfl rfl rfl λx=>⟨rfl,a,fB,x⟩)
 |str hx=>
  refine xE hv λt e=>?_;clear hv;subst e;exact wpAny_pyIter_ascii hx (push (T:="str_ascii_iterator") rfl rfl rfl rfl λx=>⟨rfl,t,x⟩)
 |rng hn=>
  refine oK hv λr t u w e q1=>?_;clear hv;subst e;refine xA (YZ hn) λhsz hsm=>?_;refine wpAny_pyIter_range (R.YN q1 rfl) hsm (push (T:="range_iterator") rfl rfl rfl rfl λx=>⟨rfl,?_⟩);rw[hsz];exact fP s.heap (o:={cls:=.type "range_iterator",data:=.fields #[e_ 0,e_ _,e_ 1]}) rfl
theorem Wl{e:Expr}{Q:dm→SH→Prop}{X:QX}(w:WE G F b fr h e (λv ag=>∃k,rM ag v k∧Q k ag) X):WI G F b fr h e Q X:=by
 refine .mk ?_;intro own ae A P m s Q' E' R c d;refine w.run own ae A P m s _ _ R (λv ag v' aZ bW bU hq hP hm hv a6=>?_) d;refine aj hq λk hk hq=>?_;exact Zr a6 hv hk λI T s' bk hI hT=>c k ag I T s' bW bU hq hP hm bk hI hT
theorem Yd{t iter:Expr}{body eZ:List bx}{pos:Pos}{Q:QS}{X:dP}(hq:F.q=ab)(oG:∀ae x,w0 iter ae x=pure x)
  (w:WI G F b fr h iter (λk ag=>mQ k t∧∃J:Nat→Nat→SF→SH→Prop,(∃n,J n 0 fr ag)∧
   ∀n i ew aC,J n i ew aC→jA (j4 G F b ew aC eZ Q nX) (λv=>
    WA G F b ew aC t v (λjU cK=>j4 G F b jU cK body (λf yL jZ=>match f with
     |.next=>∃k,k<n∧J k (i+1) yL jZ
     |.cont=>∃k,k<n∧J k (i+1) yL jZ
     |.brk=>Q .next yL jZ
     |.ret v=>Q (.ret v) yL jZ) nX) nX) (jk k i aC)) (λx h=>X x fr h)):WS G F b fr h (.For t iter body eZ pos) Q X:=by
 refine .mk ?_;intro own ae A P m s Q' E' R c d;refine wpAny_For (w.run own ae A P m s _ _ R (λk ag I T aZ bW bU hw hP hm a6 hI hT=>?_) d.j8) (oG ae);obtain⟨qy,J,⟨n,h0⟩,turn⟩:=hw;refine codeAny_forLoop_any (zH G F b own ae A P m k I T J) ?_ n ⟨bW,bU,fr,ag,0,h0,hP,hm,a6,hI,hT⟩;intro n bz ⟨cD,cu,ew,aC,i,hJ,cQ,cJ,bk,Hf,vG⟩;refine KA (T:=T) hq qy bk Hf vG ((turn n i ew aC hJ).imp (λtn ej cW=>?_) λv tn v' ej lI fS cW fB Hb yg=>?_)
 ·exact tn.run own ae A cD cu ej _ _ cW (λf jU cK f' ej lI nr q fS iu hf cW=>c _ _ _ _ _ _ _ q (cQ.trans fS) (cJ.trans iu) hf cW) tF
 ·refine xA (cW.hold yg) λfW le=>?_
  refine tn.run own ae A _ cu ej _ _ v' fW (fB.mono le.t .rfl) (λD9 wa xl xS wo q tc lJ kU=>?_) tF;refine q.run own ae A xS wo xl _ _ kU (λf wK rA f' tY wu qV nF ro lz hf oZ=>?_) tF;refine x9 (cW.drop yg oZ (tc.trans ro) (lJ.trans lz)) λl1 l2 rB Gq hex=>?_;have lP:=(cQ.trans fS).trans l1;have lm:=(cJ.trans lJ).trans lz;have on {k'} (q:J k' (i+1) wK rA):zH G F b own ae A P m k I T J k' tY:=⟨_,qV,wK,rA,i+1,q,lP,lm,rB,Hb.move l1.t (lJ.trans lz) hex,Gq⟩
  cases f with
  |next=>cases hf;refine aj nF λkk gl E5=>?_;clear nF;exact(aU kk gl (on E5))
  |cont=>cases hf;refine aj nF λkk gl E5=>?_;clear nF;exact(aU kk gl (on E5))
  |brk=>cases hf;exact c _ _ _ _ _ _ _ nF lP lm rfl rB
  |ret v=>refine aj hf λv' bq hv=>?_;clear hf;subst bq;exact c _ _ _ _ _ _ _ nF lP lm ⟨_,rfl,hv.mono l2 .rfl⟩ rB
theorem O_{names:List (Str×lg)}:∀{n:Nat} {acc:List (Str×au)},gt n names acc=gt n names []++acc:=by
 induction names with
 |nil=>exact rfl
 |cons p r ih=>
  intro n acc;show(if p.2==.cell then gt (n+1) r ((p.1,n)::acc) else gt n r acc)=(if p.2==.cell then gt (n+1) r [(p.1,n)] else gt n r [])++acc;exact if z:(p.2==.cell)=ab then(aP z).trans (ih.trans ((List.append_cons ..).trans (ih (acc:=[(p.1,n)])▸(aP z).symm▸rfl))) else(aK z).trans (ih.trans (ay (· ++acc) (aK z).symm))
noncomputable def jS(cells:List (Str×au)):List (Str×lg)→List (Str×au)→List (Str×au)
 |[],acc=>acc
 |(n,k)::r,acc=>if k==.free then jS cells r ((n,(cells.lookup n).getD 0)::acc) else jS cells r acc
theorem ab1{ae:Env}{f:Str×lg→List (Str×au)→Sem (ForInStep (List (Str×au)))}
  (hf:∀n k cs,f (n,k) cs=if k==.free then(do let a ←cellOf ae n;pure (.yield ((n,a)::cs))) else pure (.yield cs)) {names:List (Str×lg)}:∀{acc:List (Str×au)},
  (∀p∈names,p.2=.free→∃c,ae.cells.lookup p.1=aa c)→forIn names acc f=pure (jS ae.cells names acc):=by
 induction names with
 |nil=>exact λ_=>rfl
 |cons p r ih=>
  intro acc h;show _=pure (if p.2==.free then jS ae.cells r ((p.1,(ae.cells.lookup p.1).getD 0)::acc) else jS ae.cells r acc);rw[py,hf _ _ _];have ih {acc}:=ih (acc:=acc) λp hp=>h p (.tail _ hp)
  by_cases hk:(p.2==.free)=ab
  ·rw[aP hk,aP hk]
   refine xE (h p (.head _) (eX.mp hk)) λc hc=>?_;have e:cellOf ae p.1=pure c:=by unfold cellOf;rw[hc]
   rw[e,hc,pure_bind _ _,pure_bind _ _];exact ih
  ·rw[aK hk,aK hk,pure_bind _ _]
   exact ih
theorem Sx{ae:Env}{scope:cb}(h:∀p∈scope.names,p.2=.free→∃c,ae.cells.lookup p.1=aa c):closureFor scope ae=pure (jS ae.cells scope.names []):=
 (ay (· >>=λcs=>pure cs) (ab1 (λ_ _ _=>rfl) h)).trans (pure_bind ..)
theorem Ws{cells:List (Str×au)}{x:Str}{names:List (Str×lg)}:∀{acc:List (Str×au)},(names.lookup x=aa .free∨acc.lookup x=aa ((cells.lookup x).getD 0))→(jS cells names acc).lookup x=aa ((cells.lookup x).getD 0):=by
 induction names with
 |nil=>exact λh=>h.elim (λe=>a7 e) id
 |cons p r ih=>
  intro acc h;show((if p.2==.free then jS cells r ((p.1,(cells.lookup p.1).getD 0)::acc) else jS cells r acc).lookup x)=_;exact if e:x=p.1 then if z:(p.2==.free)=ab then(aP z).symm▸ih (.inr ((i_ (p:=(p.1,(cells.lookup p.1).getD 0)) e).trans (ay (λx=>aa ((cells.lookup x).getD 0)) e.symm))) else(aK z).symm▸ih (.inr (h.elim (λq=>bc (eX.mpr (aY ((i_ e).symm.trans q))) z) id))
   else have h:=h.imp (gT e).symm.trans id;if z:(p.2==.free)=ab then(aP z).symm▸ih (h.imp id (gT (p:=(p.1,(cells.lookup p.1).getD 0)) e).trans) else(aK z).symm▸ih h
theorem ZT{cells:List (Str×au)}{y:Str}{c:au}{names:List (Str×lg)}:∀{acc:List (Str×au)},(y,c)∈jS cells names acc→(y,c)∈acc∨(y,.free)∈names∧c=(cells.lookup y).getD 0:=by
 induction names with
 |nil=>exact .inl
 |cons p r ih=>
  intro acc h
  replace h:(y,c)∈(if p.2==.free then jS cells r ((p.1,(cells.lookup p.1).getD 0)::acc) else jS cells r acc):=h
  exact if z:(p.2==.free)=ab then(ih ((ay (λl:List (Str×au)=>(y,c)∈l) (aP z)).mp h)).elim (λq=>(dE.mp q).elim (λe=>have ee:=ay m6 e;.inr ⟨dE.mpr (.inl (jw ee (eX.mp z).symm)),(ay Dk e).trans (ay (λy=>(cells.lookup y).getD 0) ee.symm)⟩) .inl) λq=>.inr ⟨.tail _ q.1,q.2⟩
   else(ih ((ay (λl:List (Str×au)=>(y,c)∈l) (aK z)).mp h)).imp id λq=>⟨.tail _ q.1,q.2⟩
theorem abp{x:Str}{names:List (Str×lg)}:∀{n:Nat} {acc:List (Str×au)},(∀p∈names,x=p.1→p.2≠.cell)→(gt n names acc).lookup x=acc.lookup x:=by
 induction names with
 |nil=>exact λ_=>rfl
 |cons p r ih=>
  intro n acc h;show((if p.2==.cell then gt (n+1) r ((p.1,n)::acc) else gt n r acc).lookup x)=_;have ih {n acc}:=ih (n:=n) (acc:=acc) λp hp=>h p (.tail _ hp);exact if z:(p.2==.cell)=ab then(aP z).symm▸ih.trans (gT λe=>h p (.head _) e (eX.mp z)) else(aK z).symm▸ih
noncomputable def tQ(sc:cb):Str×lg→Str×lg:=λ(n,k)=>if(k==.free && sc.kind==.function && sc.names.lookup n==aa .cell) then(n,.cell) else(n,k)
noncomputable def B_(scope sc:cb):cb:={scope with names:=scope.names.map (tQ sc)}
noncomputable def da(scope:cb)(F:FD):FD:=⟨B_ scope F.sc,iV scope,F.q⟩
noncomputable def gX(scope:cb)(fr:SF):SF:=fr.filter λp=>scope.names.lookup p.1==aa .free
noncomputable def qo(scope:cb)(F:FD):Bool:=
 decide (scope.kind=.function) && decide ((scope.names.map (·.1)).Nodup) &&
 scope.names.all λp=>p.2 !=.free||(match F.sc.names.lookup p.1 with|some .cell=>ab|some .free=>ab|_=>an)
structure Cd(scope:cb)(F:FD):Prop where
 fn:scope.kind=.function
 nd:(scope.names.map (·.1)).Nodup
 fr:∀p∈scope.names,p.2=.free→F.sc.names.lookup p.1=aa .cell∨F.sc.names.lookup p.1=aa .free
theorem Cd.of{scope:cb}{F:FD}(ok:qo scope F=ab):Cd scope F:=by
 have q:=(bO _ _).mp ok;have q1:=(bO _ _).mp q.1;refine⟨fC q1.1,fC q1.2,λp hp e=>?_⟩;have:=(Bool.or_eq_true_iff.mp (dc.mp q.2 p hp)).resolve_left λz=>bne_iff_ne.mp z e
 cases q:F.sc.names.lookup p.1 with
 |none=>rw[q] at this;exact cM this
 |some k=>rw[q] at this;cases k<;>first|exact .inl rfl|exact .inr rfl|exact cM this
theorem adt(sc:cb)(p:Str×lg):(tQ sc p).1=p.1∧((tQ sc p).2=p.2∨p.2=.free∧(tQ sc p).2=.cell):=
 match p with
 |(n,k)=>AB (P:=λq:Str×lg=>q.1=n∧(q.2=k∨k=.free∧q.2=.cell)) (λz=>⟨rfl,.inr ⟨eX.mp ((bO _ _).mp ((bO _ _).mp z).1).1,rfl⟩⟩) λ_=>⟨rfl,.inl rfl⟩
theorem LO{sc:cb}{x:Str}{names:List (Str×lg)}:(names.map (tQ sc)).lookup x=names.lookup x∨names.lookup x=aa .free∧(names.map (tQ sc)).lookup x=aa .cell:=by
 induction names with
 |nil=>exact .inl rfl
 |cons p r ih=>
  have k:=adt sc p;exact if h:x=p.1 then have e:=h.trans k.1.symm;k.2.imp (λq=>(i_ e).trans ((ay aa q).trans (i_ h).symm)) λq=>⟨(i_ h).trans (ay aa q.1),(i_ e).trans (ay aa q.2)⟩
   else have e:x≠(tQ sc p).1:=λe=>h (e.trans k.1);ih.imp (λq=>(gT e).trans (q.trans (gT h).symm)) λq=>⟨(gT h).trans q.1,(gT e).trans q.2⟩
theorem Go{scope:cb}{x:Str}{v:SV}(hx:(gX scope fr).lookup x=aa v):scope.names.lookup x=aa .free∧fr.lookup x=aa v:=by
 induction fr with
 |nil=>exact a7 hx
 |cons p r ih=>
  replace hx:w4 x (List.filter (λp=>scope.names.lookup p.1==aa .free) (p::r))=aa v:=hx
  rw[HX] at hx;exact if hp:(scope.names.lookup p.1==aa .free)=ab then
    have hx:=(ay (w4 x) (aP hp)).symm.trans hx
    if e:x=p.1 then⟨(ay (scope.names.lookup ·) e).trans (eq_of_beq hp),(i_ e).trans ((i_ e).symm.trans hx)⟩ else have q:=ih ((gT e).symm.trans hx);⟨q.1,(gT e).trans q.2⟩
   else
    have q:=ih ((ay (w4 x) (aK hp)).symm.trans hx)
    ⟨q.1,(gT λe=>hp (eX.mpr (e▸q.1))).trans q.2⟩
theorem aev{M:i2}{E:Value→ak→Prop}{scope:cb}{cl:List (Str×au)}{e:Expr}{it acc:Value}{wh:Option (Value→Sem Unit)}{Q:Value→ak→Prop}
  (h:∀bY,bY=({scope:=relabel scope ae,locals:=s.heap.objs.size,globals:=ae.globals,cells:=gt (s.heap.objs.size+1) scope.names cl,qual:=ae.qual,func:=af,code:=ae.code,frame:=ae.frame,builtins:=ae.builtins}:Env)→
   ki M A (.compStart e 0 it acc bY) (HY M A E wh Q acc bY.locals) {s with heap:=HZ (s.heap.push {cls:=.type "dict",data:=.dict #[]}) scope.names}):
  aw M A (newFunctionEnv scope ae.globals cl [] ae.qual af .none (aa ae)) (λPE nH=>ki M A (.compStart e 0 it acc {PE with scope:=relabel scope ae}) (HY M A E wh Q acc PE.locals) nH) E s:=by
 have k:=h _ rfl;rw[←mc s.heap {cls:=.type "dict",data:=.dict #[]}] at k;exact wb (Qg (wb (wpAny_layCells _ (λ_ _ _=>rfl) _ _ _ _ (wb (aD (aD k))))))
theorem Rel.Up(R:Rel G F b own ae A P m fr h s){scope:cb}(ok:Cd scope F)
  (he:bY={scope:=relabel scope ae,locals:=s.heap.objs.size,globals:=ae.globals,cells:=gt (s.heap.objs.size+1) scope.names (jS ae.cells scope.names []),qual:=ae.qual,func:=af,code:=ae.code,frame:=ae.frame,builtins:=ae.builtins}):
  ∃mC,Rel G (da scope F) b mC bY A (P.under own s.heap) m (gX scope fr) h {s with heap:=HZ (s.heap.push {cls:=.type "dict",data:=.dict #[]}) scope.names}∧
   (∀a∈mC,s.heap.get? a=af)∧bY.locals∈mC:=by
 have hL:bY.locals=s.heap.objs.size:=he▸rfl;have cs:=cellsFrom_ok scope.names (s.heap.push {cls:=.type "dict",data:=.dict #[]}) (s.heap.objs.size+1) [] ⟨λ_ _ hm=>cS hm,.nil⟩ (bF (mc ..).symm);rw[mc] at cs;have ly:=(Heap.Ns.new s.heap (.type "dict")).keeps (Qh scope.names _);have cells:bY.cells=gt (s.heap.objs.size+1) scope.names (jS ae.cells scope.names []):=he▸rfl;have kn:∀{p},p∈scope.names→scope.names.lookup p.1=aa p.2:=λhp=>HP ok.nd hp;have cN:∀{y},y∈iV scope→scope.names.lookup y=aa .cell:=λhy=>aj (bB.mp hy) λp hp e=>have hp:=m9.mp hp;e▸(kn hp.1).trans (ay aa (eq_of_beq hp.2));have cA:∀{x},scope.names.lookup x=aa .cell→∃c,bY.cells.lookup x=aa c∧(x,c)∈gt (s.heap.objs.size+1) scope.names []:=λ{x} e=>xE (zP.mp (Ex (n:=s.heap.objs.size+1) (acc:=[]) (.inl e))) λc hc=>
  ⟨c,(ay (w4 x) (cells.trans O_)).trans (List.lookup_append.trans (ay (λo:Option au=>o.or (w4 x (jS ae.cells scope.names []))) hc)),m_ hc⟩
 have cB:∀{x},scope.names.lookup x=aa .free→bY.cells.lookup x=aa ((ae.cells.lookup x).getD 0):=λ{x} e=>
  (ay (w4 x) cells).trans ((abp λp hp z q=>nomatch (aY (e.symm.trans ((ay (scope.names.lookup ·) z).trans (kn hp)))).trans q).trans (Ws (.inl e)))
 have cC:∀{y c},bY.cells.lookup y=aa c→(y,c)∈gt (s.heap.objs.size+1) scope.names []∨(scope.names.lookup y=aa .free∧c=(ae.cells.lookup y).getD 0):=λ{y c} e=>
  (dw.mp (cells.trans O_▸m_ e)).imp id λq=>(ZT q).elim (λq=>cS q) λq=>⟨kn q.1,q.2⟩
 have ou:∀{x},scope.names.lookup x=aa .free→∃c,ae.cells.lookup x=aa c∧c<s.heap.objs.size∧∃o v,P.under own s.heap c=aa o∧o.data=.cell v:=λ{x} e=>aj (R.f.rU x (ok.fr _ (m_ e) rfl)) λc hc k=>⟨c,hc,
  k.elim (λk=>k.2.elim λv q=>aj q λo q1 q2=>⟨jI q1,o,v,(uO k.1 _).trans q1,q2⟩) λk=>ef k λo v q1 q2=>⟨xE (R.oU q1) λsl z=>jI z,o,v,R.uf _ _ q1,q2⟩⟩
 have iw:∀{x c},scope.names.lookup x=aa .cell→bY.cells.lookup x=aa c→(x,c)∈gt (s.heap.objs.size+1) scope.names []:=λ{x c} e h=>aj (cA e) λc' h1 h2=>aY (h1.symm.trans h)▸h2;have ow:∀{a},a∈bY.locals::(iV scope).filterMap (bY.cells.lookup ·)→a=s.heap.objs.size∨∃y,(y,a)∈gt (s.heap.objs.size+1) scope.names []:=λha=>(dE.mp ha).imp (·.trans hL) λha=>aj (gQ.mp ha) λy hy e=>⟨y,iw (cN hy) e⟩;have hf:∀a∈bY.locals::(iV scope).filterMap (bY.cells.lookup ·),s.heap.get? a=af:=λa ha=>zQ ((ow ha).elim (λe=>bF e.symm) λha=>ha.elim λy hy=>gg (cs.empty y a hy).2);have mo:∀{x c},scope.names.lookup x=aa .cell→bY.cells.lookup x=aa c→c∈bY.locals::(iV scope).filterMap (bY.cells.lookup ·):=λ{x c} e h=>.tail _ (gQ.mpr ⟨x,JN e,h⟩);have rb:∀{x k},scope.names.lookup x=aa k→(B_ scope F.sc).names.lookup x=aa k∨k=.free∧(B_ scope F.sc).names.lookup x=aa .cell:=λe=>LO.imp (·.trans e) λq=>⟨aY (e.symm.trans q.1),q.2⟩;refine⟨_,R.enter (λa o e=>Qh _ _ a o (dT _ e)) rfl rfl hf
  ⟨(ay Env.scope he).trans (ay (B_ scope) R.f.sc),ok.fn,(ay Env.globals he).trans R.f.glob,(ay Env.builtins he).trans R.f.blt,.head _,⟨_,hL▸ly,λx v hx hl=>xA (Go hx) λq1 _=>?_⟩,λx v hx hl=>xA (Go hx) λq1 q2=>?_,λx hx=>?_,λx hx=>?_,λx y c hx h1 h2=>?_,λa ha=>?_⟩
  (λl hl=>⟨[],hl,jC R.frs λl0 g1 _ g3 _ _=>aY (g1.symm.trans hl)▸ef g3 λe0 l' z q=>⟨e0,l',z,q.trans (ay Env.frame he).symm⟩,λe rj=>cS rj⟩) R.depth R.units rfl R.quiet,hf,.head _⟩
 ·exact(rb q1).elim (λe=>nomatch e.symm.trans hl) λe=>nomatch e.2.symm.trans hl
 ·exact bP (R.f.mB x v q2 (ok.fr _ (m_ q1) rfl)) λc v' z1 z2 z3=>⟨c,v',(cB q1).trans (ay (λo:Option au=>aa (o.getD 0)) z1),z2.mono R.uf.t .rfl,.inr (z3.elim (λy=>aj y.2.2 λo y1 y2=>⟨o,(uO y.1 _).trans y1,y2⟩) λy=>aj y λo y1 y2=>⟨o,R.uf _ _ y1,y2⟩)⟩
 ·have qn:=λq:scope.names.lookup x=aa .free=>bH (ou q) λc hc _ k=>(⟨c,(cB q).trans (ay (λo:Option au=>aa (o.getD 0)) hc),.inr k⟩:∃c,bY.cells.lookup x=aa c∧((c∈bY.locals::(iV scope).filterMap (bY.cells.lookup ·)∧∃v,(HZ (s.heap.push {cls:=.type "dict",data:=.dict #[]}) scope.names).IsCell c v)∨∃o v,P.under own s.heap c=aa o∧o.data=.cell v))
  have mB:=λq:scope.names.lookup x=aa .cell=>aj (cA q) λc hc k=>(⟨c,hc,.inl ⟨mo q hc,af,(cs.empty _ _ k).1⟩⟩:∃c,bY.cells.lookup x=aa c∧((c∈bY.locals::(iV scope).filterMap (bY.cells.lookup ·)∧∃v,(HZ (s.heap.push {cls:=.type "dict",data:=.dict #[]}) scope.names).IsCell c v)∨∃o v,P.under own s.heap c=aa o∧o.data=.cell v));exact(LO (sc:=F.sc) (x:=x) (names:=scope.names)).elim (λe=>hx.elim (λq=>mB (e.symm.trans q)) λq=>qn (e.symm.trans q)) λe=>qn e.1
 ·have e:=cN hx
  exact⟨(rb e).elim id λe=>e.2,aj (cA e) λc h1 h2=>xA (cs.empty _ _ h2) λq1 q2=>⟨c,af,h1,mo e h1,hL▸dG q2,q1⟩⟩
 ·have m1:=iw (cN hx) h1
  exact(cC h2).elim (λm2=>name_of_addr cs.apart m1 m2) λq=>bH (ou q.1) λako hc lt _=>bc (bI (q.2.trans (ay (λo:Option au=>o.getD 0) hc)▸lt) (gg (cs.empty _ _ m1).2)) (fo _)
 ·exact(ow ha).elim (λe=>Hh ly λo es ep q1 q2 _=>⟨o,e▸q1,xi q2⟩) λq=>q.elim λy hy=>aj (cs.empty y a hy).1 λo q1 q2=>⟨o,q1,Ca q2⟩
noncomputable def A8(elt:Expr)(gens:List dC)(scope:cb)(pos:Pos)(d:Nat)(acc:Value)(ae:Env)(K:Sem lj):Sem lj:=
 match gens[d+1]? with
 |some g'=>do
  let x ←d9 g'.iter ae
  kh g'.iter.pos
  let x ←if g'.is_async !=0 then foldedIterable g'.iter x else w0 g'.iter ae x
  let _ ←runOwn (.compStart (.ListComp elt gens scope pos) (d+1) (←ju [x] (if g'.is_async !=0 then asyncIter x else qM x)) acc ae) ae
  K
 |none=>do
  (do let _ ←pv (.builtin "list.append") [acc,←d9 elt ae])
  K
noncomputable def lM(gens:List dC):Bool:=gens.all λg=>g.is_async==0
theorem N9{gens:List dC}{d:Nat}{g:dC}(hg:gens[d]? =aa g)(ho:lM gens=ab):g.is_async=0:=eq_of_beq (dc.mp ho g (bN hg))
theorem wp_turn{M:i2}{A:dZ}{E:Value→ak→Prop}{s:ak}{elt:Expr}{gens:List dC}{scope:cb}{pos:Pos}{d:Nat}{g:dC}{it acc:Value}{ae:Env}{Q:lj→ak→Prop}(hg:gens[d]? =aa g)(ho:lM gens=ab)
  (h:aw M A (uD it) (λr aZ=>match r with
   |none=>Q (.done .next) aZ
   |some v=>aw M A (Dy g.target it v) (λ_ bz=>aw M A (pq g.target ae v) (λ_ ej=>aw M A (forIn g.ifs ab (λc r=>if r=ab then do let ok ←isTrue c ae (d9 c ae);pure (H0 ok) else pure (H0 r)))
     (λok nH=>aw M A (if ok=ab then A8 elt gens scope pos d acc ae (again (.compLoop (.ListComp elt gens scope pos) d it acc ae)) else again (.compLoop (.ListComp elt gens scope pos) d it acc ae)) Q E nH) E ej) E bz) E aZ) E s):
  aw M A (compTurn (.ListComp elt gens scope pos) d it acc ae) Q E s:=by
 obtain⟨t,i,ifs,a⟩:=g;obtain rfl:a=0:=(N9 hg ho)
 delta compTurn
 dsimp only;rw[hg];refine wb (jJ (wb (ox h (λr aZ ag=>?_) λ_ _ x=>x)))
 cases r with
 |none=>exact aD ag
 |some v=>exact wb (ox ag (λ_ bz aC=>wb (ox aC (λ_ ej cK=>wb (ox cK (λok nH jZ=>jZ) λ_ _ x=>x)) λ_ _ x=>x)) λ_ _ x=>x)
variable{elt:Expr}{gens:List dC}{scope:cb}{pos:Pos}{acc:Nm}{d:Nat}
def V4(G:Gl)(F:FD)(b:Nat)(fr:SF)(h:SH)(elt:Expr)(gens:List dC)(scope:cb)(pos:Pos)(acc:Nm)(d:Nat)(k:dm)(i:Nat)(Q:QF):Prop:=
 ∀own ae A P m s I T (R':wW→ak→Prop) ad,Rel G F b own ae A P m fr h s→kY k i P m s.heap I T→fK G own P m s.heap T→m acc=aa ad→
  (∀fr' h' s' P' m',Q fr' h'→P.le P'→m.le m'→Rel G F b own ae A P' m' fr' h' s'→R' (.ok .next) s')→ki (aR G.prog G.w) A (.compLoop (.ListComp elt gens scope pos) d (.ref I) (.ref ad.1) ae) R' s
abbrev C9(G:Gl)(F:FD)(b:Nat)(fr:SF)(h:SH)(elt:Expr)(gens:List dC)(scope:cb)(pos:Pos)(acc:Nm)(d:Nat)(k:dm)(i:Nat)(Q:QF):Prop:=Bx (V4 G F b fr h elt gens scope pos acc d k i Q)
def aa4(G:Gl)(F:FD)(b:Nat)(fr:SF)(h:SH)(elt:Expr)(gens:List dC)(scope:cb)(pos:Pos)(acc:Nm)(d:Nat)(Q:QF):Prop:=
 ∀own ae A P m s (K:Sem lj) (Q':lj→ak→Prop) (E':Value→ak→Prop) ad,Rel G F b own ae A P m fr h s→m acc=aa ad→
  (∀fr' h' s' P' m',Q fr' h'→P.le P'→m.le m'→Rel G F b own ae A P' m' fr' h' s'→aw (aR G.prog G.w) A K Q' E' s')→aw (aR G.prog G.w) A (A8 elt gens scope pos d (.ref ad.1) ae K) Q' E' s
abbrev y9(G:Gl)(F:FD)(b:Nat)(fr:SF)(h:SH)(elt:Expr)(gens:List dC)(scope:cb)(pos:Pos)(acc:Nm)(d:Nat)(Q:QF):Prop:=Bx (aa4 G F b fr h elt gens scope pos acc d Q)
def Hx(G:Gl)(F:FD)(b:Nat)(fr:SF)(h:SH)(ifs:List Expr)(Q:Bool→SH→Prop):Prop:=match ifs with
 |[]=>Q ab h
 |[c]=>WB G F b fr h c Q lX
 |_=>False
theorem qr{E':Value→ak→Prop}:g0 G F b own ae A P m fr lX E':=λ_ _ _ _ _ _ q=>q.elim
theorem O0{n:Nm}{vs:List SV}{v:SV}{v':Value}{ad:au×au}{Q':Value→ak→Prop}{E':Value→ak→Prop}(R:Rel G F b own ae A P m fr h s)(hn:h n=aa (.list vs))(hm:m n=aa ad)(hv:VR P m v v')(hz:vs.length≤cR)
  (c:∀s',Rel G F b own ae A P m fr (h.set n (.list (vs++[v]))) s'→Q' .none s'):aw (aR G.prog G.w) A (pv (.builtin "list.append") [.ref ad.1,v']) Q' E' s:=by
 refine R.mG hn hm λxs kk q2 q3=>?_;refine wpAny_list_append_plain (items:=xs) ⟨kk,q2⟩ (λh' hl hs=>c _ (hl.elim λS9 jR=>aj (R.obj n _ hn) λτ z1 z2=>
  R.turn hn hm (λa o n1 n2 e=>(hs.2 a n1).trans e) rfl rfl ⟨aY (z1.symm.trans hm)▸z2.1,xs.push v',S9,jR,(H3 (xs:=xs) (x:=v')).symm▸q3.app (aO.one hv)⟩)) (fQ▸q3.length▸hz)
theorem Kv{k:dm}{i:Nat}{Q':Value→ak→Prop}{E':Value→ak→Prop}(R:Rel G F b own ae A P m fr h s)(hI:kY k i P m s.heap I T)(hq:Q' (.ref I) s):aw (aR G.prog G.w) A (qM (.ref I)) Q' E' s:=by
 have en {k} (hI:qj k i P m s.heap I T):aw (aR G.prog G.w) A (qM (.ref I)) Q' E' s:=by
  refine gO hI λJ old _ _ hE _=>?_;clear hI;exact agq hE hq
 cases k with
 |list n=>refine mP hI λ_ ad _ hit=>?_;clear hI;exact wpAny_pyIter_listiter hit hq
 |tup vs=>refine mP hI λ_ t _ hit=>?_;clear hI;exact wpAny_pyIter_tupleiter hit hq
 |range a c=>exact wpAny_pyIter_rangeiter hI.2 hq
 |keys n len=>refine mP hI λ_ ad _ hit=>?_;clear hI;exact wpAny_pyIter_keyiter hit hq
 |enumL n=>exact en hI
 |enumT n=>exact en hI
 |str x=>refine B3 hI λ_ t hit=>?_;clear hI;exact wpAny_pyIter_striter_ascii hit hq
theorem NE{g:dC}(hg:gens[d]? =aa g)(ho:lM gens=ab){it pT:Value}{R':wW→ak→Prop}
  (h0:ki (aR G.prog G.w) A (.compLoop (.ListComp elt gens scope pos) d it pT ae) R' s)
  (h1:aw (aR G.prog G.w) A (qM it) (λzy s'=>ki (aR G.prog G.w) A (.compLoop (.ListComp elt gens scope pos) d zy pT ae) R' s') (notedBy (aR G.prog G.w) A ae λx s'=>R' (.error x) s') s):
  ki (aR G.prog G.w) A (.compStart (.ListComp elt gens scope pos) d it pT ae) R' s:=by
 have ha:g.is_async=0:=by
  have:=dc.mp ho g (bN hg)
  simpa using this
 refine Qi ?_;have e:(aR G.prog G.w).den (.compStart (.ListComp elt gens scope pos) d it pT ae)=((compStart (.ListComp elt gens scope pos) d it pT ae).onRaise (λx=>do H4 x ae;kh theWindowsPlace)):=by
  cases d<;>rfl
 rw[e];show aw _ A _ _ _ s;refine wpAny_notedAt ?_;unfold compStart clausesOf;rw[hg];simp only[Option.elim_some,ha,show((0:Int) !=0)=an from rfl,Bool.false_eq_true,if_false];refine wb (zN (wpAny_ite ?_))
 split
 ·exact wb (aD (aD (Qj rfl h0)))
 ·exact wb (jK (wb (jJ (wb (ox h1 (λzy s' h'=>aD (Qj rfl h')) λ_ _ x=>x)))))
theorem Zm{Q:QF}(hd:gens[d+1]? =af)(w:WE G F b fr h elt (λv ag=>∃vs,ag acc=aa (.list vs)∧vs.length≤cR∧Q fr (ag.set acc (.list (vs++[v])))) lX):y9 G F b fr h elt gens scope pos acc d Q:=by
 refine .mk λown ae A P m s K Q' E' ad R hm c=>?_;unfold A8;rw[hd];exact wb (wb (w.run own ae A P m s _ _ R (λv ag v' aZ bW bU hq hP xf hv a6=>bH hq λvs h1 h2 h3=>wb (O0 a6 h1 (xf _ _ hm) hv h2 λs' R'=>aD (c _ _ _ _ _ h3 hP xf R'))) qr))
theorem Yj{g':dC}{Q:QF}(hd:gens[d+1]? =aa g')(ho:lM gens=ab)(oG:∀ae x,w0 g'.iter ae x=pure x)
  (w:WI G F b fr h g'.iter (λk ag=>C9 G F b fr ag elt gens scope pos acc (d+1) k 0 Q) lX):y9 G F b fr h elt gens scope pos acc d Q:=by
 refine .mk λown ae A P m s K Q' E' ad R hm c=>?_;unfold A8;rw[hd];obtain⟨t,it,ifs,a⟩:=g';obtain rfl:a=0:=(N9 hd ho);refine wb (ox (w.run own ae A P m s (λit aZ=>aw (aR G.prog G.w) A (runOwn (.compStart (.ListComp elt gens scope pos) (d+1) it (.ref ad.1) ae) ae) (λ_ bz=>aw (aR G.prog G.w) A K Q' E' bz) E' aZ) E' R (λk ag I T aZ bW bU hq hP xf a6 hI hT=>?_) qr) (λx aZ ag=>?_) λ_ _ x=>x)
 ·have rT:ki (aR G.prog G.w) A (.compLoop (.ListComp elt gens scope pos) (d+1) (.ref I) (.ref ad.1) ae) (λr s'=>match r with|.ok f=>aw (aR G.prog G.w) A K Q' E' s'|.error e=>cameBackBy (aR G.prog G.w) A ae E' e s') aZ:=
   hq.run own ae A bW bU aZ I T _ ad a6 hI hT (xf _ _ hm) λfr' h' s' P' m' q a b R'=>c _ _ _ _ _ q (hP.trans a) (xf.trans b) R'
  exact wpAny_runOwn (NE hd ho rT (Kv a6 hI rT))
 ·exact wb (jJ (wb (qL (oG ae x) (wb (dM (ox ag (λit bz aC=>wb aC) λ_ _ x=>x))))))
theorem afk{ifs:List Expr}{Qt:Bool→SH→Prop}{Q':Bool→ak→Prop}{E':Value→ak→Prop}(q:Hx G F b fr h ifs Qt)(R:Rel G F b own ae A P m fr h s)
  (c:∀t h' s' P' m',Qt t h'→P.le P'→m.le m'→Rel G F b own ae A P' m' fr h' s'→Q' t s'):
  aw (aR G.prog G.w) A (forIn ifs ab (λc r=>if r=ab then do let ok ←PySem.isTrue c ae (d9 c ae);pure (H0 ok) else pure (H0 r))) Q' E' s:=
 match ifs,q with
 |[],q=>wpAny_tests_nil (c _ _ _ _ _ q .rfl .rfl R)
 |[_],q=>wpAny_tests_one (q.run own ae A P m s _ _ R (λt rA tY wu qV nF ro lz oZ=>c _ _ _ _ _ nF ro lz oZ) qr)
theorem RA{g:dC}{k:dm}{i:Nat}{Q:QF}(hg:gens[d]? =aa g)(ho:lM gens=ab)(hq:F.q=ab)(qy:mQ k g.target)(J:Nat→Nat→SF→SH→Prop)(n:Nat)(h0:J n i fr h)
  (turn:∀n i ew aC,J n i ew aC→jA (Q ew aC) (λv=>
    WA G F b ew aC g.target v (λjU cK=>Hx G F b jU cK g.ifs (λc jZ=>if c then y9 G F b jU jZ elt gens scope pos acc d (λD9 wa=>∃k,k<n∧J k (i+1) D9 wa)
      else ∃k,k<n∧J k (i+1) jU jZ)) nX) (jk k i aC)):C9 G F b fr h elt gens scope pos acc d k i Q:=by
 refine .mk ?_;intro own ae A P m s I T R' ad R hI hT hm c;have e:∀it pT,(aR G.prog G.w).den (.compLoop (.ListComp elt gens scope pos) d it pT ae)=((compTurn (.ListComp elt gens scope pos) d it pT ae).onRaise (λx=>do H4 x ae;theTreesLotGoes x)):=λit pT=>by
  cases d<;>rfl
 refine codeAny_loop rfl (zH G F b own ae A P m k I T J) (λn bz=>?_) n ⟨P,m,fr,h,i,h0,.rfl,.rfl,R,hI,hT⟩;intro⟨cD,cu,ew,aC,i,hJ,cQ,cJ,bk,Hf,vG⟩;rw[e _ _];show aw _ A _ _ _ bz;refine wpAny_noted ?_;have stop:∀{s'},(∃k',k'<n∧zH G F b own ae A P m k I T J k' s')→aw (aR G.prog G.w) A (again (.compLoop (.ListComp elt gens scope pos) d (.ref I) (.ref ad.1) ae)) (λfin s'=>match fin with
   |.done f=>R' (.ok f) s'
   |.again c'=>c'=.compLoop (.ListComp elt gens scope pos) d (.ref I) (.ref ad.1) ae∧∃k',k'<n∧zH G F b own ae A P m k I T J k' s') (notedBy (aR G.prog G.w) A ae λe s'=>R' (.error e) s') s':=λq=>aD ⟨rfl,q⟩
 refine wp_turn hg ho (KA (T:=T) hq qy bk Hf vG ((turn n i ew aC hJ).imp (λtn ej cW=>c _ _ _ _ _ tn cQ cJ cW) λv tn v' ej lI fS cW fB Hb yg=>?_));refine xA (cW.hold yg) λfW le=>tn.run own ae A _ cu ej _ _ v' fW (fB.mono le.t .rfl) (λD9 wa xl xS wo q tc lJ kU=>?_) tF;have fin {wK rA tY wu qV} (q:∃k',k'<n∧J k' (i+1) wK rA) (ro:xS.le wu) (lz:wo.le qV) (oZ:Rel G F b own ae A wu qV wK rA tY):=stop (s':=tY)
  (aj q λkk hk TY=>x9 (cW.drop yg oZ (tc.trans ro) (lJ.trans lz)) λl1 l2 rB Gq hex=>⟨kk,hk,_,qV,wK,rA,i+1,TY,(cQ.trans fS).trans l1,(cJ.trans lJ).trans lz,rB,Hb.move l1.t (lJ.trans lz) hex,Gq⟩)
 refine afk q kU λt rA tY wu qV nF ro lz oZ=>?_
 cases t with
 |true=>exact(show y9 G F b _ _ _ _ _ _ _ _ _ from nF).run own ae A wu qV tY _ _ _ ad oZ (lz _ _ (lJ _ _ (cJ _ _ hm))) λfr' h' s' P' m' q a b Z3=>fin q (ro.trans a) (lz.trans b) Z3
 |false=>exact fin nF ro lz oZ
noncomputable instance:DecidableEq SV
 |.str x,.str y=>decidable_of_iff (x=y) ⟨ay _,SV.str.inj⟩
 |_,_=>Classical.propDecidable _
mutual
noncomputable def SV.data:Nat→SV→Bool
 |_,.none=>ab
 |_,.int _=>ab
 |_,.str _=>ab
 |n+1,.tup vs=>eK n vs
 |_,_=>an
noncomputable def eK:Nat→List SV→Bool
 |_,[]=>ab
 |n,v::vs=>SV.data n v && eK n vs
end
theorem sL{n:Nat}:∀{vs:List SV},eK n vs=ab↔∀v∈vs,SV.data n v=ab
 |[]=>⟨λ_=>nofun,λ_=>rfl⟩
 |v::vs=>(bO _ _▸Iff.rfl:(SV.data n v && eK n vs)=ab↔_).trans ((and_congr_right λ_=>sL (vs:=vs)).trans Qc.symm)
theorem DR{n:Nat}:∀{vs:List SV},SV.keys n vs=ab↔∀v∈vs,SV.key n v=ab
 |[]=>⟨λ_=>nofun,λ_=>rfl⟩
 |v::vs=>(bO _ _▸Iff.rfl:(SV.key n v && SV.keys n vs)=ab↔_).trans ((and_congr_right λ_=>DR (vs:=vs)).trans Qc.symm)
theorem p7{n:Nat}{k:SV}{C:Prop}(h:SV.key n k=ab)(ci:∀i,k=.int i→C)(cs:∀i,k=.str i→C)(ct:∀vs q,n=q+1→k=.tup vs→(∀v∈vs,SV.key q v=ab)→C):C:=by
 cases k with
 |int i=>exact ci i rfl
 |str i=>exact cs i rfl
 |tup vs=>
  cases n with
  |zero=>exact cM h
  |succ n=>exact ct vs n rfl rfl (DR.mp h)
 |_=>cases n<;>exact cM h
theorem sM{n:Nat}:∀{v:SV},SV.key n v=ab→SV.data n v=ab:=by
 induction n with
 |zero=>intro v h;exact p7 h (λi e=>e▸rfl) (λi e=>e▸rfl) λ_ _ e=>nomatch e
 |succ n ih=>intro v h;exact p7 h (λi e=>e▸rfl) (λi e=>e▸rfl) λvs q e e' k=>by cases e;subst e';exact sL.mpr λv hv=>ih (k v hv)
theorem VR.kinds{x:SV}{v:Value}{n:Nat}{C:SV→Value→Prop}(hx:VR P m x v)(dx:SV.data n x=ab)(c0:C .none .none)(ci:∀i t,C (.int i) (.int i t))(cs:∀i t,C (.str i) (.str i t))
  (ct:∀xs a o items k q,n=q+1→(∀v∈xs,SV.data q v=ab)→P a=aa o→o.cls=.type "tuple"→o.data=.seq items k→aO P m xs items.toList→C (.tup xs) (.ref a)):C x v:=by
 cases x with
 |none=>cases hx;exact c0
 |int i=>refine xE hx λt bq=>?_;clear hx;subst bq;exact ci i t
 |str i=>refine xE hx λt bq=>?_;clear hx;subst bq;exact cs i t
 |tup xs=>
  obtain⟨a,o,items,k,rfl,h1,h2,h3,h4⟩:=hx
  cases n with
  |zero=>exact cM dx
  |succ n=>exact ct xs a o items k n rfl (sL.mp dx) h1 h2 h3 h4
 |_=>cases n<;>exact cM dx
theorem Rel.oc(R:Rel G F b own ae A P m fr h s){vs:List SV}{v:Value}(hv:VR P m (.tup vs) v):∃a items,v=.ref a∧s.heap.IsTuple a items∧aO P m vs items.toList:=by
 obtain⟨a,o,items,n,rfl,h2,h3,h4,h5⟩:=hv;refine bH (R.rd h2) λo' q1 q2 q3=>?_;exact⟨a,items,rfl,⟨o',q1,q2.trans h3,n,q3.trans h4⟩,h5⟩
theorem aO.size{vs:List SV}{xs:Array Value}(h:aO P m vs xs.toList):vs.length=xs.size:=by rw[h.length,fQ]
theorem aO.at{vs:List SV}{xs:Array Value}(h:aO P m vs xs.toList){j:Nat}(hj:j<xs.size):∃x,vs[j]? =aa x∧VR P m x xs[j]:=by
 have hl:j<vs.length:=h.size▸hj;refine aj (h.get (fb hl)) λw q1 q2=>?_
 cases q1.symm.trans (jt.trans (jr hj))
 exact(aU (vs[j]) (fb hl) q2)
theorem Ed(x y:List SV):decide (x=y)=((bo (min x.length y.length)).all (λj=>decide (x[j]? =y[j]?)) && x.length==y.length):=by
 by_cases h:x=y
 ·subst h
  exact(eQ rfl).trans (Dx.mpr ⟨dc.mpr λj _=>eQ rfl,qF _⟩).symm
 ·refine(i0 h).trans (DC.mpr λe=>h ?_).symm
  refine xA (Dx.mp e) λe1 e2=>?_;have e2:=eq_of_beq e2;refine agr λj=>?_;rcases Qk j x.length with hj|hj
  ·exact fC (dc.mp e1 j (dR.mpr (Nat.lt_min.mpr ⟨hj,e2▸hj⟩)))
  ·exact(md hj).trans (md (e2▸hj)).symm
theorem aO.inj{xs:List SV}(ih:∀x∈xs,∀y v,VR P m x v→VR P m y v→∀k,SV.data k y=ab→x=y){k:Nat}:∀{ys:List SV} {vs:List Value},aO P m xs vs→aO P m ys vs→(∀y∈ys,SV.data k y=ab)→xs=ys:=by
 induction xs with
 |nil=>
  intro ys vs hx hy _
  cases hx
  cases ys with
  |nil=>rfl
  |cons y ys=>refine ef hy λ_ _ e _=>?_;clear hy;exact wy e
 |cons x xs il=>
  intro ys vs hx hy dy;refine bP hx λv r ax h1 h2=>?_;clear hx;subst ax
  cases ys with
  |nil=>cases hy
  |cons y ys=>
   refine bP hy λ_ _ e h3 h4=>?_;clear hy
   cases e
   rw[ih x dA y v h1 h3 k (dy y dA),il (λx hx=>ih x (eT _ hx)) h2 h4 λy hy=>dy y (eT _ hy)]
theorem VR.Z7(n:Nat):∀{x:SV} {v:Value},VR P m x v→SV.data n x=ab→∀y,VR P m y v→∀k,SV.data k y=ab→x=y:=by
 have base {n:Nat} {x:SV} {v:Value} (hx:VR P m x v) (dx:SV.data n x=ab) (ct:∀xs a o items k q,n=q+1→(∀v∈xs,SV.data q v=ab)→P a=aa o→o.data=.seq items k→aO P m xs items.toList→
   ∀ys rR l k,P a=aa o→(∀v∈ys,SV.data k v=ab)→o.data=.seq rR l→aO P m ys rR.toList→xs=ys):∀y,VR P m y v→∀k,SV.data k y=ab→x=y:=by
  refine hx.kinds (C:=λx v=>∀y,VR P m y v→∀k,SV.data k y=ab→x=y) dx ?_ (λi t=>?_) (λi t=>?_) λxs a o items k q e d h1 _ h3 h4=>?_<;>intro y hy j dy
  ·exact hy.kinds (C:=λy v=>v=.none→.none=y) dy (λ_=>rfl) (λ_ _=>nofun) (λ_ _=>nofun) (λ_ _ _ _ _ _ _ _ _ _ _ _=>nofun) rfl
  ·exact hy.kinds (C:=λy v=>v=.int i t→.int i=y) dy nofun (λ_ _ e=>by cases e;rfl) (λ_ _=>nofun) (λ_ _ _ _ _ _ _ _ _ _ _ _=>nofun) rfl
  ·exact hy.kinds (C:=λy v=>v=.str i t→.str i=y) dy nofun (λ_ _=>nofun) (λ_ _ e=>by cases e;rfl) (λ_ _ _ _ _ _ _ _ _ _ _ _=>nofun) rfl
  ·refine hy.kinds (C:=λy v=>v=.ref a→.tup xs=y) dy nofun (λ_ _=>nofun) (λ_ _=>nofun) (λys a' o' rR l q' _ dy p1 _ p3 p4 e'=>?_) rfl
   cases e'
   cases h1.symm.trans p1
   exact ay SV.tup (ct xs a o items k q e d h1 h3 h4 ys rR l q' h1 dy p3 p4)
 induction n with
 |zero=>intro x v hx dx;exact base hx dx λ_ _ _ _ _ _ e=>nomatch e
 |succ n il=>
  intro x v hx dx;refine base hx dx λxs a o items k q e d _ h3 h4 ys rR l j _ dy p3 p4=>?_
  cases e
  cases h3.symm.trans p3
  exact h4.inj (λx hx y v h1 h2 k dk=>il h1 (d x hx) y h2 k dk) p4 dy
theorem VR.inj(x:SV){y:SV}{v:Value}{n k:Nat}(hx:VR P m x v)(hy:VR P m y v)(dx:SV.data n x=ab)(dy:SV.data k y=ab):x=y:=hx.Z7 n dx y hy k dy
open PySem.SeqAt in
theorem Rel.we(R:Rel G F b own ae A P m fr h s)(n:Nat):∀{A':dZ} {x y:SV} {v u:Value},VR P m x v→VR P m y u→SV.data n x=ab→SV.data n y=ab→A'.units+n<ez→EqAt A' s v u (decide (x=y)):=by
 have no {A':dZ} {x y:SV} {v u:Value} (e:EqAt A' s v u an) (ne:x≠y):EqAt A' s v u (decide (x=y)):=by rw[i0 ne];exact e
 have fj {A':dZ} {x y:SV} {v u:Value} (e:EqAt A' s v u ab) (ne:x=y):EqAt A' s v u (decide (x=y)):=by rw[eQ ne];exact e
 have tu {a:au} {o:Obj} {items:Array Value} {k:Nat} (h1:P a=aa o) (h2:o.cls=.type "tuple") (h3:o.data=.seq items k):s.heap.IsTuple a items:=by
  refine bH (R.rd h1) λo' q1 q2 q3=>?_;exact⟨o',q1,q2.trans h2,k,q3.trans h3⟩
 have Ll {n:Nat} {A':dZ} {x y:SV} {v u:Value} (hx:VR P m x v) (hy:VR P m y u) (dx:SV.data n x=ab) (dy:SV.data n y=ab) (hu:A'.units<ez)
   (tt:∀xs ys a c ia ic q,n=q+1→(∀v∈xs,SV.data q v=ab)→(∀v∈ys,SV.data q v=ab)→VR P m (.tup xs) (.ref a)→VR P m (.tup ys) (.ref c)→s.heap.IsTuple a ia→s.heap.IsTuple c ic→aO P m xs ia.toList→aO P m ys ic.toList→
    EqAt A' s (.ref a) (.ref c) (decide (SV.tup xs=SV.tup ys))):EqAt A' s v u (decide (x=y)):=by
  refine hx.kinds (C:=λx v=>EqAt A' s v u (decide (x=y))) dx ?_ (λi t=>?_) (λi t=>?_) λxs a o items k q e d h1 h2 h3 h4=>?_
  ·exact hy.kinds (C:=λy u=>EqAt A' s .none u (decide (.none=y))) dy (fj (.same _) rfl) (λj t'=>no (.none_int j t') (nomatch ·)) (λj t'=>no (.none_str j t') (nomatch ·)) λys c o items k q e d h1 h2 h3 h4=>no (.none_tuple (tu h1 h2 h3) hu) (nomatch ·)
  ·refine hy.kinds (C:=λy u=>EqAt A' s (.int i t) u (decide (.int i=y))) dy (no (.int_none i t) (nomatch ·)) (λj t'=>?_) (λj t'=>no (.int_str i t j t') (nomatch ·)) λys c o items k q e d h1 h2 h3 h4=>no (.int_tuple i t (tu h1 h2 h3) hu) (nomatch ·)
   have e:=EqAt.int_int (A:=A') (s:=s) i t j t'
   by_cases z:i=j
   ·exact fj (eX.mpr z▸e) (z▸rfl)
   ·exact no (k9.mpr z▸e) λw=>z (by cases w;rfl)
  ·refine hy.kinds (C:=λy u=>EqAt A' s (.str i t) u (decide (.str i=y))) dy (no (.str_none i t) (nomatch ·)) (λj t'=>no (.str_int i t j t') (nomatch ·)) (λj t'=>?_) λys c o items k q e d h1 h2 h3 h4=>no (.str_tuple i t (tu h1 h2 h3) hu) (nomatch ·)
   have e:=EqAt.str_str (A:=A') (s:=s) i t j t'
   by_cases z:i=j
   ·exact fj (eX.mpr z▸e) (z▸rfl)
   ·exact no (k9.mpr z▸e) λw=>z (by obtain rfl:=Mine.Internal.SV.str.inj w;rfl)
  ·exact hy.kinds (C:=λy u=>EqAt A' s (.ref a) u (decide (.tup xs=y))) dy (no (.tuple_none (tu h1 h2 h3) hu) (nomatch ·)) (λj t'=>no (.tuple_int j t' (tu h1 h2 h3) hu) (nomatch ·)) (λj t'=>no (.tuple_str j t' (tu h1 h2 h3) hu) (nomatch ·))
    λys c o' rR k' q' e' d' p1 p2 p3 p4=>tt xs ys a c items rR q e d (by cases e.symm.trans e';exact d') ⟨a,o,items,k,rfl,h1,h2,h3,h4⟩ ⟨c,o',rR,k',rfl,p1,p2,p3,p4⟩ (tu h1 h2 h3) (tu p1 p2 p3) h4 p4
 induction n with
 |zero=>intro A' x y v u hx hy dx dy hu;exact Ll hx hy dx dy hu λ_ _ _ _ _ _ _ e=>nomatch e
 |succ n ih=>
  intro A' x y v u hx hy dx dy hu;refine Ll hx hy dx dy (bd (b6 _ _) hu) λxs ys a c ia ic q e dx dy vx vy ha hc nE nU=>?_
  cases e
  by_cases JT:a=c
  ·subst JT
   exact fj (.same _) (vx.inj _ vy (n:=n+1) (k:=n+1) (sL.mpr dx) (sL.mpr dy))
  ·have e:decide (SV.tup xs=SV.tup ys)=((bo (min ia.size ic.size)).all (λj=>decide (xs[j]? =ys[j]?)) && ia.size==ic.size):=by
    rw[←nE.size,←nU.size,←Ed];exact mY.mpr ⟨λh=>by cases h;rfl,ay _⟩
   rw[e];refine EqAt.of_refs JT (RcAt.tuples ha hc (bd (b6 _ _) hu) λj h1 h2=>?_);refine aj (nE.at h1) λx q1 q2=>?_;refine aj (nU.at h2) λy p1 p2=>?_;rw[(mY.mpr (by rw[q1,p1];exact⟨aY,ay _⟩):decide (xs[j]? =ys[j]?)=decide (x=y))];exact ih q2 p2 (dx x (bN q1)) (dy y (bN p1)) (by show A'.units+1+n<ez;exact bd (bF (wN _ _)) ‹_›)
section
section
theorem Rel.room(R:Rel G F b own ae A P m fr h s):A.units+8<ez:=bd (oj (b6 _ _) 8) R.units
theorem AQ{α:Type}{M:i2}{A:dZ}{E:Value→ak→Prop}{Q:α→ak→Prop}{s:ak}{c:Bool}{x y:Sem α}(e:c=ab)(w:aw M A x Q E s):aw M A (if c=ab then x else y) Q E s:=by subst e;exact w
theorem mD{α:Type}{M:i2}{A:dZ}{E:Value→ak→Prop}{Q:α→ak→Prop}{s:ak}{c:Bool}{x y:Sem α}(e:c=an)(w:aw M A y Q E s):aw M A (if c=ab then x else y) Q E s:=by subst e;exact w
theorem Tu(w:cE)(l:List SV):Be w l=l.map (bZ w):=by
 induction l with
 |nil=>rfl
 |cons x r ih=>exact ay (bZ w x::·) ih
theorem adw{E:Value→ak→Prop}{A:dZ}{Q:Array Int→ak→Prop}{f:Value→Array Int→Sem (ForInStep (Array Int))}(hf:∀v r,f v r=(do let y ←pyHash v;pure (.yield (r.push y)))){left:List SV}:
  ∀{rest:List Value} {r:Array Int} {s:ak},aO P m left rest→(∀k∈left,∀{v:Value} {s':ak} {Q':Int→ak→Prop},s'.heap=s.heap→VR P m k v→(∀t,Q' (bZ G.w k) {s' with toks:=t})→aw (aR G.prog G.w) A (pyHash v) Q' E s')→
  (∀r' t,r'.toList=r.toList++left.map (bZ G.w)→Q r' {s with toks:=t})→aw (aR G.prog G.w) A (forIn rest r f) Q E s:=by
 induction left with
 |nil=>exact λ{_ r s} h _ hq=>h▸aD (hq r s.toks (gP _).symm)
 |cons k left ih=>
  intro rest r s h hk hq;refine bP h λv rest e h1 h2=>e▸?_;rw[py,hf _ _];exact wb (wb (hk k (.head _) rfl h1 λt=>aD (ih h2 (λk' dY=>hk k' (.tail _ dY)) λr' t' e=>hq r' t' (e.trans (by rw[H3,wR _ _ _];rfl)))))
theorem Rel.hash(E:Value→ak→Prop)(n:Nat):∀{A:dZ} {s:ak} {k:SV} {v:Value} {Q:Int→ak→Prop},A.units+n<ez→VR P m k v→
  (∀a o,P a=aa o→∃o',s.heap.get? a=aa o'∧o'.cls=o.cls∧o'.data=o.data)→SV.key n k=ab→(∀t,Q (bZ G.w k) {s with toks:=t})→aw (aR G.prog G.w) A (pyHash v) Q E s:=by
 induction n with
 |zero=>
  exact λ{A s k v Q} hu hv hP hk hq=>p7 hk (λi e=>xE (e▸hv:VR P m (.int i) v) λt z=>z▸ags ((e▸hq:∀t,Q (bZ G.w (.int i)) {s with toks:=t}) _)) (λi e=>xE (e▸hv:VR P m (.str i) v) λt z=>z▸agt ((e▸hq:∀t,Q (bZ G.w (.str i)) {s with toks:=t}) _)) λvs q e=>nomatch e
 |succ n ih=>
  refine λ{A s k v Q} hu hv hP hk hq=>p7 hk (λi e=>xE (e▸hv:VR P m (.int i) v) λt z=>z▸ags ((e▸hq:∀t,Q (bZ G.w (.int i)) {s with toks:=t}) _)) (λi e=>xE (e▸hv:VR P m (.str i) v) λt z=>z▸agt ((e▸hq:∀t,Q (bZ G.w (.str i)) {s with toks:=t}) _)) λvs q e e' E6=>?_;subst e';refine oK hv λa o items q' ev h=>mv h λh2 h3 h4 h5=>bH (hP a o h2) λo' ho hc hd=>ev▸?_;have hT:s.TypeIs (.ref a) "tuple":=⟨o',ho,hc.trans h3⟩;unfold pyHash;unfold pyHashByItsType;refine wb (wpAny_cRoomFor_or (.inr (bd (b6 _ _) hu)) (wb (qN hT F.slot_tuple_hash.lookup ?_)));show aw _ _ (if(aa (H5 "tuple.__hash__")==aa eH)=ab then _ else _) Q E s;refine dU (by rw[agu _];rfl) (wb (qN hT F.slot_tuple_hash.lookup ?_));show aw _ _ (callSpecialIfBoundUnlessNone? (.ref a) "__hash__" _ >>=_) Q E s;refine wb (wpAny_callSpecialIfBoundUnlessNone?_slot hT F.slot_tuple_hash (i5 F.slot_tuple_hash hT F.entry_tuple_hash ?_ (F.args_tuple_hash_1 _)));show aw _ _ (Ql (.ref a) >>=_) _ _ s;refine wb (wpAny_tupleItemsOf ho (hd.trans h4) (wb ?_));rw[←H6];refine adw (λ_ _=>rfl) h5 (λk dY v s' Q' hs hv hq=>ih (A:=A.in1) (bd (bF (Dj _ _)) hu) hv (hs▸hP) ((DD e).symm▸E6 k dY) hq) λr t e=>?_;show aw _ _ (retInt (Dm r.toList)) _ _ _;refine wpAny_ret_mkInt ?_;rw[e];show aw _ _ (if(decide (-(2:Int)^63≤Dm (vs.map (bZ G.w))) && decide (Dm (vs.map (bZ G.w)) <2^63))=ab then _ else _) Q E _;have hq:∀t,Q (PU (Dm (vs.map (bZ G.w)))) {s with toks:=t}:=Tu G.w vs▸(show ∀t,Q (NV (Be G.w vs)) {s with toks:=t} from hq);unfold PU at hq;exact jM (λhr=>aD (by have:=hq;rw[aP hr] at this;exact this _)) λhr=>wb (jK (aD (by have:=hq;rw[aK hr] at this;exact this _)))
theorem EK{α β:Type}{A:dZ}{E:Value→ak→Prop}{Q:β→ak→Prop}{b:β}{f:α→β→Sem (ForInStep β)}{rest:List α}
  (h:∀v∈rest,∀{Q':ForInStep β→ak→Prop},Q' (.yield b) s→aw (aR G.prog G.w) A (f v b) Q' E s) (hq:Q b s):aw (aR G.prog G.w) A (forIn rest b f) Q E s:=by
 induction rest with
 |nil=>exact aD hq
 |cons v rest ih=>
  rw[py];exact wb (h v dA (ih λw hw=>h w (eT _ hw)))
theorem aO.back{l:List SV}:∀{rest:List Value},aO P m l rest→∀v∈rest,∃k∈l,VR P m k v:=by
 induction l with
 |nil=>exact λh v hv=>cS (h▸hv)
 |cons k l ih=>exact λh v hv=>bP h λx r e h1 h2=>(dE.mp (e▸hv:v∈x::r)).elim (λz=>⟨k,.head _,z.symm▸h1⟩) λz=>aj (ih h2 v z) λk' a b=>⟨k',.tail _ a,b⟩
theorem Bb{E:Value→ak→Prop}{A:dZ}{n:Nat}{v:Value}{Q:Bool→ak→Prop}(h:carriedByValue v=ab)(hq:Q ab s):aw (aR G.prog G.w) A (H7 n v) Q E s:=(eqIsQuiet_byValue _ h).symm▸aD hq
theorem IF(E:Value→ak→Prop)(R:Rel G F b own ae A P m fr h s)(n:Nat):∀{A:dZ} {k:SV} {v:Value} {Q:Bool→ak→Prop},VR P m k v→
  SV.key n k=ab→Q ab s→aw (aR G.prog G.w) A (H7 n v) Q E s:=by
 induction n with
 |zero=>exact λ{A k v Q} hv hk hq=>p7 hk (λi e=>xE (e▸hv:VR P m (.int i) v) λt z=>Bb (z▸rfl) hq) (λi e=>xE (e▸hv:VR P m (.str i) v) λt z=>Bb (z▸rfl) hq) λvs q e=>nomatch e
 |succ n ih=>
  refine λ{A k v Q} hv hk hq=>p7 hk (λi e=>xE (e▸hv:VR P m (.int i) v) λt z=>Bb (z▸rfl) hq) (λi e=>xE (e▸hv:VR P m (.str i) v) λt z=>Bb (z▸rfl) hq) λvs q e e' E6=>?_;subst e';refine bP (R.oc hv) λa items ev hT h5=>ev▸zu hT λo ho hc q hd=>?_;have hT:s.TypeIs (.ref a) "tuple":=⟨o,ho,hc⟩;unfold H7;refine wb (qN hT PySem.F.slot_tuple_eq.lookup ?_);show aw _ _ (H8 (.ref a) (.type "tuple") >>=_) _ _ s;refine wb (w5 hT agv (wb (wY ho hd (wb ?_))));show aw _ _ (forIn items _ _) _ _ s;rw[←H6];exact EK (λv hv Q' fR=>aj (h5.back v hv) λk' dY fB=>wb (ih fB ((DD e).symm▸E6 k' dY) (aD fR))) (aD hq)
theorem ajj{n:Nat}:∀{k:Nat} {v:SV},n≤k→SV.key n v=ab→SV.key k v=ab:=by
 induction n with
 |zero=>exact λ{k v} _ h=>p7 h (λi e=>e▸rfl) (λi e=>e▸rfl) λvs q e=>nomatch e
 |succ n ih=>
  refine λ{k v} hl h=>p7 h (λi e=>e▸rfl) (λi e=>e▸rfl) λvs q e e' hk=>e'▸?_
  cases k with
  |zero=>exact bc hl (agw _)
  |succ k=>
   exact DR.mpr λv hv=>ih (H9 hl) ((DD e).symm▸hk v hv)
theorem gy.at{w:cE}{es:List (SV×SV)}:∀{xs:List dL} {j:Nat} {e:dL},gy w P m es xs→xs[j]? =aa e→∃k v,es[j]? =aa (k,v)∧e.hash=bZ w k∧VR P m k e.key∧VR P m v e.val:=by
 induction es with
 |nil=>exact λh q=>a7 (h▸q)
 |cons p es ih=>
  intro xs j e h q;refine tw h λe' r z h1 h2 h3 h4=>?_;subst z
  cases j with
  |zero=>exact aY q▸⟨p.1,p.2,rfl,h1,h2,h3⟩
  |succ j=>exact ih h4 q
theorem Rd{es:List (SV×SV)}(hn:(es.map (·.1)).Nodup){i j:Nat}{k v v':SV}(hi:es[i]? =aa (k,v))(hj:es[j]? =aa (k,v')):i=j:=
 (Qm (by rw[aI _];exact(cV.mp hi).1) hn).mp ((dv.trans (ay (ph m6) hi)).trans (dv.trans (ay (ph m6) hj)).symm)
theorem O6{β:Type}{A:dZ}{E:Value→ak→Prop}{Q:β→ak→Prop}(c:Prop){hit:Nat→Prop}{f:Nat→β→Sem (ForInStep β)}{b:β}{d b':Nat→β}{rest:List Nat}(nd:rest.Nodup)
  (step:∀x∈rest,∀{Q':ForInStep β→ak→Prop},(¬hit x→Q' (.yield b) s)→(hit x→Q' (.done (d x)) s∧(c→Q' (.yield (b' x)) s))→aw (aR G.prog G.w) A (f x b) Q' E s)
  (KV:c→∀x∈rest,∀y∈rest,y≠x→hit x→∀{Q':ForInStep β→ak→Prop},Q' (.yield (b' x)) s→aw (aR G.prog G.w) A (f y (b' x)) Q' E s)
  (no:(∀x∈rest,¬hit x)→Q b s) (fj:∀x∈rest,hit x→Q (d x) s∧(c→Q (b' x) s)):aw (aR G.prog G.w) A (forIn rest b f) Q E s:=by
 induction rest with
 |nil=>exact aD (no nofun)
 |cons x rest ih=>
  rw[py];have m {y}:y∈rest→y∈x::rest:=eT _;refine wb (step x dA (λh=>ih nd.of_cons (λy hy=>step y (m hy)) (λcc y hy z hz=>KV cc y (m hy) z (m hz)) (λhn=>no λy hy=>?_) λy hy=>fj y (m hy)) λh=>⟨aD (fj x dA h).1,λcc=>?_⟩)
  ·rcases dE.mp hy with rfl|hy
   ·exact h
   ·exact hn y hy
  ·exact EK (λy hy Q' hq=>KV cc x dA y (m hy) (λe=>(lh.mp nd).1 (e▸hy)) h hq) ((fj x dA h).2 cc)
theorem aaz{α:Type}{A:dZ}{E:Value→ak→Prop}{Q:α→ak→Prop}{v:Value}{c:Bool}{u:Str→Sem α}{r:Sem α}(h:∀i t,v=.str i t→c=ab→aw (aR G.prog G.w) A (u i) Q E s)(hr:aw (aR G.prog G.w) A r Q E s):
  aw (aR G.prog G.w) A (match v with|.str i _=>if c=ab then u i else r|_=>r) Q E s:=by
 cases v with
 |str i t=>exact jM (h i t rfl) λ_=>hr
 |_=>exact hr
theorem Tm{α:Type}{A:dZ}{E:Value→ak→Prop}{Q:α→ak→Prop}{v:Value}{c:Bool}{u r:Sem α}(h:¬c=ab)(hr:aw (aR G.prog G.w) A r Q E s):
  aw (aR G.prog G.w) A (match v with|.ref _=>if c=ab then u else r|_=>r) Q E s:=by
 cases v with
 |ref a=>exact jM (λe=>bc e h) λ_=>hr
 |_=>exact hr
theorem T4(R:Rel G F b own ae A P m fr h s){α:Type}{A':dZ}{E:Value→ak→Prop}{Q:α→ak→Prop}{f:Bool→Sem α}{c:Bool}{k:SV}{v:Value}{stored:List Value}(hv:VR P m k v)(hk:SV.key 6 k=ab)(hs:∀v'∈stored,∃k',VR P m k' v'∧SV.key 6 k'=ab)
  (hq:aw (aR G.prog G.w) A' (f an) Q E s):aw (aR G.prog G.w) A' (if c=ab then pure an >>=f else tableMayTell v stored >>=f) Q E s:=by
 have quiet {E:Value→ak→Prop} {v':Value} {k':SV} {Q:Bool→ak→Prop} (fB:VR P m k' v') (dY:SV.key 6 k'=ab) (hq:Q ab s):aw (aR G.prog G.w) A' (H7 8 v') Q E s:=IF E R 8 fB (ajj aJ dY) hq;refine jM (λ_=>wb (aD hq)) λ_=>wb ?_;unfold tableMayTell;refine jM (λ_=>aD hq) λ_=>wb (quiet hv hk (wb (EK (λv' fB Q' fR=>?_) (aD hq))));refine aj (hs v' fB) λk' z1 z2=>?_;exact wb (quiet z1 z2 (aD fR))
structure DA(w:cE)(P:aV)(m:Mu)(s:ak)(n:Nm)(es:List (SV×SV))(ad:au×au)(xs:Array dL):Prop where
 mn:m n=aa ad
 e:ad.2=ad.1
 o:s.heap.get? ad.1=aa (zD xs es.length)
 ent:gy w P m es xs.toList
 nd:(es.map (·.1)).Nodup
 keys:∀k∈es.map (·.1),SV.key 6 k=ab
 sys:(ad.1==Dn)=an
variable{w:cE}{n:Nm}{es:List (SV×SV)}{ad:au×au}{xs:Array dL}{k:SV}{v:Value}
theorem DA.size(D:DA w P m s n es ad xs):es.length=xs.size:=by
 have:=D.ent.length
 rwa [fQ] at this
theorem DA.tok(D:DA w P m s n es ad xs)(t:Nat):DA w P m {s with toks:=t} n es ad xs:=⟨D.mn,D.e,D.o,D.ent,D.nd,D.keys,D.sys⟩
theorem DA.at(D:DA w P m s n es ad xs){j:Nat}{e:dL}(q:xs[j]? =aa e){C:Prop}(c:∀k' v',es[j]? =aa (k',v')→e.hash=bZ w k'→VR P m k' e.key→SV.key 6 k'=ab→C):C:=
 gO (D.ent.at (jt.trans q)) λk' v' q1 q2 q3 _=>c k' v' q1 q2 q3 (D.keys k' (bB.mpr ⟨_,bN q1,rfl⟩))
theorem DA.of(D:DA w P m s n es ad xs){j:Nat}{p:SV}(q:es[j]? =aa (k,p)){C:Prop}(c:∀e,xs[j]? =aa e→e.hash=bZ w k→VR P m k e.key→C):C:=by
 have g:=jr (D.size▸(cV.mp q).1:j<xs.size);exact D.at g λk' v' q1 q2 q3 _=>have z:=(gi (aY (q.symm.trans q1))).1;c _ g (q2.trans (ay (bZ w) z.symm)) (z.symm▸q3)
noncomputable abbrev Co(xs:Array dL)(h:Int):List Nat:=placesWithHash xs.size (λi=>xs[i]?.map (·.hash)) h
theorem Br{h:Int}{x:Nat}(hx:x∈Co xs h){C:Prop}(c:∀e,xs[x]? =aa e→(e.hash==h)=ab→C):C:=by
 have z:=m9.mp hx;have g:=jr (dR.mp z.1);exact c _ g ((ay (λo:Option dL=>o.map (·.hash)==aa h) g).symm.trans z.2)
theorem DA.pl(D:DA w P m s n es ad xs){j:Nat}{p:SV}(q:es[j]? =aa (k,p)):j∈Co xs (bZ w k):=
 D.of q λe q1 q2 _=>m9.mpr ⟨dR.mpr (oi.mp q1).1,(ay (λo:Option dL=>o.map (·.hash)==aa (bZ w k)) q1).trans (eX.mpr (ay aa q2))⟩
theorem IN{h:Int}:(Co xs h).Nodup:=alf _ HE
theorem IT{i:Str}{t:Tok}(hv:VR P m k (.str i t))(hk:SV.key 6 k=ab):k=.str i:=
 p7 hk (λj e=>xE (e▸hv:VR P m (.int j) _) λt' (z:Value.str i t=.int j t')=>nomatch z) (λj e=>xE (e▸hv:VR P m (.str j) _) λ_ z=>e.trans (ay SV.str (Value.str.inj z).1.symm)) λvs q _ e _=>oK (e▸hv:VR P m (.tup vs) _) λa _ _ _ (z:Value.str i t=.ref a) _=>nomatch z
theorem WW{i:Str}(hv:VR P m (.str i) v):v.isStr i=ab:=xE hv λt e=>e▸qF i
theorem XH{i:Str}(hv:VR P m k v)(hk:SV.key 6 k=ab)(hi:v.isStr i=ab):k=.str i:=by
 cases v with
 |str x t=>exact(IT hv hk).trans (ay SV.str (eX.mp hi))
 |_=>exact cM hi
section
variable{E:Value→ak→Prop}{Q:Option Nat→ak→Prop}(R:Rel G F b own ae A P m fr h s)(hu:A'.units+7<ez)(D:DA G.w P m s n es ad xs)(hv:VR P m k v)(gl:SV.key 6 k=ab)
include R hu D hv gl
theorem BC{x:Nat}{e:dL}(q:xs[x]? =aa e){Q:Bool→ak→Prop}(fj:∀p,es[x]? =aa (k,p)→Q ab s)(no:(¬∃p,es[x]? =aa (k,p))→Q an s):aw (aR G.prog G.w) A' (eqBool e.key v) Q E s:=
 D.at q λk' p q1 _ q3 q5=>R.we 6 q3 hv (sM q5) (sM gl) (oy hu) _ _ _ _ (if z:k'=k then(eQ z).symm▸fj p (z▸q1) else(i0 z).symm▸no λw=>xE w λp' w=>z (gi (aY (q1.symm.trans w))).1)
theorem afb(sP:(∀(j:Nat) (p:SV),es[j]? ≠aa (k,p))→Q af s)(rX:∀(j:Nat) (p:SV),es[j]? =aa (k,p)→Q (aa j) s){i:Str}{t:Tok}(ev:v=.str i t):aw (aR G.prog G.w) A' (foundByValue ad.1 v xs i) Q E s:=by
 have ks:=IT (ev▸hv) gl;unfold foundByValue
 cases hf:xs.findIdx? (λe=>e.key.isStr i) with
 |none=>exact aD (sP λj p hj=>D.of hj λe q1 _ q3=>bc (WW (ks▸q3)) (DC.mp (Array.findIdx?_eq_none_iff.mp hf e (agx q1))))
 |some j=>
  refine(Array.findIdx?_eq_some_iff_getElem.mp hf).elim λhlt hi=>?_;have q:=jr hlt;dsimp only;rw[q];refine wb (qO D.o rfl (wb (BC R hu D hv gl q (λp y=>wb (qO D.o rfl (mD (mX _) (wb (jK (aD (rX j p y))))))) λn=>(n ?_).elim)));exact D.at q λk' v' q1 _ q3 q5=>⟨v',(XH q3 q5 hi.1).trans ks.symm▸q1⟩
theorem aco(sP:(∀(j:Nat) (p:SV),es[j]? ≠aa (k,p))→Q af s)(rX:∀(j:Nat) (p:SV),es[j]? =aa (k,p)→Q (aa j) s):aw (aR G.prog G.w) A' (dictWalkPlain ad.1 v (bZ G.w k) xs (Co xs (bZ G.w k))) Q E s:=by
 unfold dictWalkPlain;refine wb (O6 False (hit:=λx=>∃p,es[x]? =aa (k,p)) (d:=λx=>(aa (aa x),())) (b':=λx=>(aa (aa x),())) IN (λx hx Q' no fj=>Br hx λe q hh=>?_) nofun (λhz=>aD (sP λj p q=>hz j (D.pl q) ⟨p,q⟩)) λx hx w=>xE w λp hp=>⟨aD (rX x p hp),nofun⟩);rw[q];exact(AQ hh (wb (qO D.o rfl (wb (BC R hu D hv gl q (λp y=>wb (qO D.o rfl (mD (mX _) (wb (jK (aD (fj ⟨p,y⟩).1)))))) λn=>wb (qO D.o rfl (mD (mX _) (wb (jK (aD (no n)))))))))))
theorem Ke(sP:(∀(j:Nat) (p:SV),es[j]? ≠aa (k,p))→Q af s)(rX:∀(j:Nat) (p:SV),es[j]? =aa (k,p)→Q (aa j) s):aw (aR G.prog G.w) A' (dictFind ad.1 v (bZ G.w k)) Q E s:=by
 unfold dictFind;refine dM (wb (H_ D.o rfl (aaz (λi t ev aj7=>afb R hu D hv gl sP rX ev) (jM (λ_=>aco R hu D hv gl sP rX) λ_=>Tm ?_ (T4 R hv gl ?_ ?_)))))
 ·rw[←agg,propext agy]
  exact λw=>aj w λe jc hc=>xE (uE jc) λj hj=>D.at (jt.symm.trans hj) λk' _ _ q2 q3 q5=>
   have hc:=(bO _ _).mp hc
   bne_iff_ne.mp hc.2 (VR.inj k' (eq_of_beq hc.1▸q3) hv (sM q5) (sM gl)▸q2)
 ·exact λv' fB=>aj (gQ.mp fB) λx hx hi=>Br hx λe q _=>D.at q λk' _ _ _ q3 q5=>⟨k',aY ((ay (ph (·.key)) q).symm.trans hi)▸q3,q5⟩
 ·refine mD rfl (wb (O6 True (hit:=λx=>∃p,es[x]? =aa (k,p)) (d:=λx=>(aa (aa x),af)) (b':=λx=>(af,aa x)) IN (λx hx Q' no fj=>Br hx λe q hh=>?_) (λ_ x hx y hy ne hz Q' hq=>Br hy λe q hh=>?_) (λhz=>aD (sP λj p q=>hz j (D.pl q) ⟨p,q⟩)) λx hx w=>xE w λp hp=>⟨aD (rX x p hp),λ_=>aD (rX x p hp)⟩))
  ·rw[q]
   exact(AQ hh (wb (qO D.o rfl (wb (BC R hu D hv gl q (λp y=>wb (qO D.o rfl (mD (mX _) (AQ rfl (mD rfl (wb (jK (jM (λ_=>aD (fj ⟨p,y⟩).1) λ_=>aD ((fj ⟨p,y⟩).2 trivial))))))))) λn=>wb (qO D.o rfl (mD (mX _) (mD rfl (wb (jK (mD rfl (aD (no n)))))))))))))
  ·rw[q]
   exact(AQ hh (wb (qO D.o rfl (wb (BC R hu D hv gl q (λp' bV=>xE hz λp hp=>bc (Rd D.nd bV hp) ne) λn=>wb (qO D.o rfl (mD (mX _) (mD rfl (wb (jK (mD rfl (aD hq))))))))))))
end
end
end
noncomputable def bj:List (SV×SV)→SV→SV→List (SV×SV)
 |[],k,v=>[(k,v)]
 |(k',v')::r,k,v=>if k'=k then(k',v)::r else(k',v')::bj r k v
theorem Pz(p:SV×SV)(r:List (SV×SV))(k v:SV):bj (p::r) k v=if p.1=k then(p.1,v)::r else p::bj r k v:=rfl
theorem u4{p:SV×SV}{r:List (SV×SV)}{x:SV}(e:x=p.1):(p::r).lookup x=aa p.2:=e▸afy
theorem sR{p:SV×SV}{r:List (SV×SV)}{x:SV}(e:x≠p.1):(p::r).lookup x=r.lookup x:=by
 rw[k_,k9.mpr e]
theorem adr{es:List (SV×SV)}{k v p:SV}:∀{j:Nat},(es.map (·.1)).Nodup→es[j]? =aa (k,p)→bj es k v=es.set j (k,v):=by
 induction es with
 |nil=>exact λ_ h=>a7 h
 |cons q r ih=>
  intro j hn h
  cases j with
  |zero=>
   obtain rfl:q=(k,p):=aY h;exact aP rfl
  |succ j=>exact(aK λe:q.1=k=>(lh.mp hn).1 (bB.mpr ⟨_,bN (show r[j]? =_ from h),e.symm⟩)).trans (ay (q::·) (ih (lh.mp hn).2 h))
theorem Ja{es:List (SV×SV)}{k v:SV}(hn:k∉es.map (·.1)):bj es k v=es++[(k,v)]:=by
 induction es with
 |nil=>rfl
 |cons q r ih=>exact(aK λe:q.1=k=>hn (e▸.head _)).trans (ay (q::·) (ih λz=>hn (.tail _ z)))
theorem KS{es:List (SV×SV)}{k v:SV}:(bj es k v).map (·.1)=if k∈es.map (·.1) then es.map (·.1) else es.map (·.1)++[k]:=by
 induction es with
 |nil=>exact(aK DE).symm
 |cons q r ih=>
  rw[Pz]
  by_cases e:q.1=k
  ·rw[aP e]
   exact(aP (e▸.head _)).symm
  ·rw[aK e]
   refine(ay (q.1::·) ih).trans ?_;exact if z:k∈r.map (·.1) then(ay (q.1::·) (aP z)).trans (aP (.tail _ z)).symm else(ay (q.1::·) (aK z)).trans (aK λy=>(dE.mp y).elim (λy=>e y.symm) z).symm
theorem wH{es:List (SV×SV)}{k v:SV}(x:SV):x∈(bj es k v).map (·.1)↔x=k∨x∈es.map (·.1):=by
 rw[KS];exact if z:k∈es.map (·.1) then(aP z).symm▸⟨.inr,λy=>y.elim (λy=>y▸z) id⟩ else(aK z).symm▸dw.trans ((or_congr_right bS).trans or_comm)
theorem o9{es:List (SV×SV)}{k v:SV}(hn:(es.map (·.1)).Nodup):((bj es k v).map (·.1)).Nodup:=by
 rw[KS];exact if z:k∈es.map (·.1) then(aP z).symm▸hn else(aK z).symm▸lq.mpr ⟨hn,ko _ _,λa ha c hc e=>z (bS.mp hc▸e▸ha)⟩
theorem fw{es:List (SV×SV)}{k v:SV}(x:SV):(bj es k v).lookup x=if x=k then aa v else es.lookup x:=by
 induction es with
 |nil=>exact if e:x=k then(u4 (p:=(k,v)) e).trans (aP e).symm else(sR (p:=(k,v)) e).trans (aK e).symm
 |cons q r ih=>
  rw[Pz]
  by_cases e:q.1=k
  ·rw[aP e]
   exact if y:x=q.1 then(u4 (p:=(q.1,v)) y).trans (aP (y.trans e)).symm else(sR (p:=(q.1,v)) y).trans ((sR y).symm.trans (aK λz=>y (z.trans e.symm)).symm)
  ·rw[aK e]
   exact if y:x=q.1 then(u4 y).trans ((u4 y).symm.trans (aK λz=>e (y.symm.trans z)).symm) else(sR y).trans (ih.trans ((sR (p:=q) (r:=r) y)▸rfl))
theorem lW{es:List (SV×SV)}{k:SV}:es.lookup k=af↔k∉es.map (·.1):=by
 induction es with
 |nil=>exact⟨λ_ z=>cS z,λ_=>rfl⟩
 |cons q r ih=>exact if y:k=q.1 then⟨λz=>fu ((u4 y).symm.trans z),λz=>bc (y▸.head _) z⟩ else(sR (p:=q) (r:=r) y)▸ih.trans ⟨λz w=>(dE.mp w).elim y z,λz w=>z (.tail _ w)⟩
theorem ZL{es:List (SV×SV)}{k p:SV}:∀{j:Nat},(es.map (·.1)).Nodup→es[j]? =aa (k,p)→es.lookup k=aa p:=by
 induction es with
 |nil=>exact λ_ h=>a7 h
 |cons q r ih=>
  intro j hn h
  cases j with
  |zero=>
   obtain rfl:q=(k,p):=aY h;exact u4 rfl
  |succ j=>exact(sR λe:k=q.1=>(lh.mp hn).1 (bB.mpr ⟨_,bN (show r[j]? =_ from h),e⟩)).trans (ih (lh.mp hn).2 h)
@[elab_as_elim] theorem Q6{P:aV}{m:Mu}{x y z:SV}{l:List Value}{C:List Value→Prop}(hv:aO P m [x,y,z] l)(k:∀x' y' z',VR P m x x'→VR P m y y'→VR P m z z'→C [x',y',z']):C l:=
 bP hv λx' r e hx hr=>e▸gu (motive:=λr=>C (x'::r)) hr λy' z' hy hz=>k x' y' z' hx hy hz
theorem DA.ty{w:cE}{n:Nm}{es:List (SV×SV)}{ad:au×au}{xs:Array dL}(D:DA w P m s n es ad xs):s.TypeIs (.ref ad.1) "dict":=⟨_,D.o,rfl⟩
theorem Rel.dictAt(R:Rel G F b own ae A P m fr h s){n:Nm}{es:List (SV×SV)}(hn:h n=aa (.dict es)):
  ∃ad xs,DA G.w P m s n es ad xs:=
 OK (R.obj n _ hn) λad h1 h2 xs h3 h4 h5 h6=>⟨ad,xs,h1,h2,h3,h4,h5,h6,k9.mpr λe=>xE G.BO λo ho=>fu ((R.basePR _ _ ho).symm.trans (e▸(R.sep _ _ h1).1))⟩
@[elab_as_elim] theorem pH{n:Nm}{u:Value}{C:Value→Prop}(hu:VR P m (.ref n) u)(R:Rel G F b own ae A P m fr h s){es:List (SV×SV)}(hn:h n=aa (.dict es))(k:∀ad xs,DA G.w P m s n es ad xs→C (.ref ad.1)):C u:=
 kc (R.dictAt hn) λad xs D=>aj hu λbT hm e=>e▸aY (D.mn.symm.trans hm)▸k ad xs D
theorem Rel.Jo(R:Rel G F b own ae A P m fr h s)(t:Nat):∀a o,P a=aa o→∃o',({s with toks:=t}:ak).heap.get? a=aa o'∧o'.cls=o.cls∧o'.data=o.data:=
 λa o e=>R.rd e
theorem KX{es:List (SV×SV)}{k:SV}(qm:∀(j:Nat) p,es[j]? ≠aa (k,p)):k∉es.map (·.1):=λhx=>
 aj (bB.mp hx) λp hp hk=>xE (uE hp) λj hj=>qm j p.2 (hj.trans (ay aa (jw hk rfl)))
theorem yH{E:Value→ak→Prop}{n:Nm}{es:List (SV×SV)}{k:SV}{v:Value}{ad:au×au}{xs:Array dL}{Q:Option Value→ak→Prop}(R:Rel G F b own ae A P m fr h s)(hu:A'.units+7<ez)
  (D:DA G.w P m s n es ad xs) (hv:VR P m k v) (gl:SV.key 6 k=ab) (c1:∀x y t,es.lookup k=aa x→VR P m x y→Q (aa y) {s with toks:=t}) (c2:∀t,es.lookup k=af→Q af {s with toks:=t}):aw (aR G.prog G.w) A' (sG ad.1 v) Q E s:=by
 unfold sG;refine dM (wb (Rel.hash E 6 (oy hu) hv (R.Jo s.toks) gl λt=>wb (Ke (R.tok t) hu (D.tok t) hv gl (λqm=>aD (c2 _ (lW.mpr (KX qm)))) λj p hj=>?_)));refine wb (H_ (s:={s with toks:=t}) D.o rfl (aD ?_));have hlt:j<xs.size:=D.size▸(cV.mp hj).1;have g:=jr hlt;rw[g];exact gO (D.ent.at (jt.trans g)) λk' v' q1 q2 q3 q4=>c1 p _ t (ZL D.nd hj) ((gi (aY (hj.symm.trans q1))).2▸q4)
theorem gy.set{w:cE}{es:List (SV×SV)}{k p x:SV}{y:Value}:∀{xs:List dL} {j:Nat},gy w P m es xs→es[j]? =aa (k,p)→VR P m x y→gy w P m (es.set j (k,x)) (xs.modify j λe=>{e with val:=y}):=by
 induction es with
 |nil=>exact λ_ q=>a7 q
 |cons q es ih=>
  intro xs j h z hv;refine tw h λe' r e h1 h2 h3 h4=>?_
  cases j with
  |zero=>exact(gi (aY z)).1▸e▸⟨_,_,rfl,h1,h2,hv,h4⟩
  |succ j=>exact e▸⟨_,_,rfl,h1,h2,h3,ih h4 z hv⟩
theorem gy.snoc{w:cE}{es:List (SV×SV)}{k x:SV}{e:dL}(h1:e.hash=bZ w k)(h2:VR P m k e.key)(h3:VR P m x e.val):∀{xs:List dL},gy w P m es xs→gy w P m (es++[(k,x)]) (xs++[e]):=by
 induction es with
 |nil=>exact λh=>by obtain rfl:=h;exact⟨_,_,rfl,h1,h2,h3,rfl⟩
 |cons q es ih=>exact λh=>tw h λe' r z g1 g2 g3 g4=>z▸⟨_,_,rfl,g1,g2,g3,ih g4⟩
theorem adc{E:Value→ak→Prop}{n:Nm}{es:List (SV×SV)}{k x:SV}{v y:Value}{ad:au×au}{xs:Array dL}{Q:Unit→ak→Prop}(R:Rel G F b own ae A P m fr h s)(hu:A'.units+7<ez)
  (hn:h n=aa (.dict es)) (D:DA G.w P m s n es ad xs) (hv:VR P m k v) (gl:SV.key 6 k=ab) (hx:VR P m x y) (hz:es.length≤cR)
  (c:∀s',Rel G F b own ae A P m fr (h.set n (.dict (bj es k x))) s'→Q () s'):aw (aR G.prog G.w) A' (dictSet ad.1 v y) Q E s:=by
 have go:∀(s':ak) {GO:Array dL} {es':List (SV×SV)},sB ad.1 s.heap s'.heap→s'.gens=s.gens→s'.os=s.os→bj es k x=es'→s'.heap.get? ad.1=aa (zD GO es'.length)→gy G.w P m es' GO.toList→Q () s':=λs' _ _ hs hg ho e g E=>
  c s' (R.turn hn D.mn (λa o n1 n2 q=>(hs.2 a n1).trans q) hg ho ⟨D.e,_,e▸g,e▸E,(o9 D.nd:((bj es k x).map (·.1)).Nodup),(λz hz=>((wH z).mp hz).elim (λe=>e▸gl) (D.keys z):∀z∈(bj es k x).map (·.1),SV.key 6 z=ab)⟩)
 unfold dictSet;refine dM (wb (Rel.hash E 6 (oy hu) hv (R.Jo s.toks) gl λt=>?_));unfold dictSetHashed;refine dM (wb (Ke (R.tok t) hu (D.tok t) hv gl (λqm=>?_) λj p hj=>?_))
 ·refine wb (jK (wpAny_updateDictKeys (s:={s with toks:=t}) (hz:=D.size▸hz) D.o rfl (go _ (pt ..) rfl rfl (Ja (KX qm)) ((lf _ D.o (agz (Obj.data_mapDictKeys (o:=zD xs es.length) rfl _))).trans ?_) (by rw[H3];exact gy.snoc (e:=⟨bZ G.w k,v,y⟩) rfl hv hx D.ent))))
  rw[cU];rfl
 ·exact wb (jK (wb (wpAny_updateDict (s:={s with toks:=t}) D.o rfl (wpAny_point (go _ (pt ..) rfl rfl (adr D.nd hj) ((lf _ D.o (agz (Obj.data_mapDict (o:=zD xs es.length) rfl _))).trans (by rw[List.length_set];rfl)) (by rw[Array.toList_modify];exact D.ent.set hj hx))))))
theorem Rel.fresh(R:Rel G F b own ae A P m fr h s){a:au}(ha:s.heap.get? a=af):
  P a=af∧(∀n ad,m n=aa ad→a≠ad.1∧a≠ad.2)∧a∉own∧G.base.get? a=af:=by
 have no:∀{o},s.heap.get? a≠aa o:=λe=>fu (e.symm.trans ha);refine oW (wT.mpr λo e=>xE (R.oU e) λ_ q=>no q) (λn ad e=>?_) (λho=>aj (R.f.mT a ho) λo q _=>no q) (wT.mpr λo e=>no (R.bs a o e))
 cases q:h n with
 |none=>exact a7 ((R.dom n q).symm.trans e)
 |some so=>
  refine aj (R.obj n so q) λbT z1 z2=>?_;have:=aY (z1.symm.trans e);exact xE z2.l9 λo1 p1=>xE z2.at2 λo2 p2=>⟨λz=>no ((z.trans (ay m6 this.symm))▸p1),λz=>no ((z.trans (ay Dk this.symm))▸p2)⟩
theorem Rel.newExc(R:Rel G F b own ae A P m fr h s){hp:cO}{e:au}{cls:String}(N:ag0 s.heap hp e cls)(t:Nat):
  Rel G F b own ae A P m fr h {s with heap:=hp,toks:=t}∧At G.base hp P m own e cls:=
 mv (R.fresh N.new) λq1 q2 q3 q4=>bP N.there λob t' p1 p2 p3=>⟨R.grow N.keeps rfl rfl,⟨ob,_,p1,p2,p3,rfl⟩,q4,q1,q2,q3⟩
theorem To{n:Nm}{es:List (SV×SV)}{k v:SV}{Q:QV}{X:QX}(hn:h n=aa (.dict es))(hk:SV.key 6 k=ab)(hl:es.lookup k=aa v)(hq:Q v h):WO G F b fr h [.ref n,k] (bw i6) Q X:=by
 refine .mk λown ae A P m s Q' E' a5 R hv c d=>gu hv λu kv hu jf=>pH hu R hn λad xs D=>?_;show aw _ _ (i6 (.ref ad.1) kv) _ _ _;unfold i6;refine dM (wb (zR D.ty aW (wb (qK (name:=d5 "__getitem__") D.ty DF (i5 DF D.ty ag1 ?_ (ag2 _ _))))));show aw _ _ (sG ad.1 kv >>=_) _ _ s;exact wb (yH R (show A.units+1+7<ez from R.room) D jf hk (λx y t e hy=>aD ⟨y,rfl,aD (c.here hq (aY (e.symm.trans hl)▸hy) (R.tok t))⟩) λt e=>a7 (e.symm.trans hl))
theorem Zo{n:Nm}{es:List (SV×SV)}{k:SV}{Q:QV}{X:QX}(hF:F.q=ab)(hn:h n=aa (.dict es))(hk:SV.key 6 k=ab)(hl:es.lookup k=af)(hx:X "KeyError" h):WO G F b fr h [.ref n,k] (bw i6) Q X:=by
 refine .mk λown ae A P m s Q' E' a5 R hv c d=>gu hv λu kv hu jf=>pH hu R hn λad xs D=>?_;show aw _ _ (i6 (.ref ad.1) kv) _ _ _;unfold i6;refine dM (wb (zR D.ty aW (wb (qK (name:=d5 "__getitem__") D.ty DF (i5 DF D.ty ag1 ?_ (ag2 _ _))))));show aw _ _ (sG ad.1 kv >>=_) _ _ s;refine wb (yH R (show A.units+1+7<ez from R.room) D jf hk (λx y t e hy=>fu (e.symm.trans hl)) λt e=>?_);show aw _ _ (Ia ad.1 kv >>=_) _ _ _;refine wb (Ib D.sys (wb (uF (s:={s with toks:=t}) D.ty ?_)));show aw _ _ (if(zS "dict" !=zS "dict")=ab then _ else _) _ _ _;exact dU rfl (wb (jK (wpAny_raise_newExc (A:=A.in1) plainExc_KeyError (R.quiet hF) λh' e N=>xA (R.newExc N t) λR' x=>d _ _ e _ P m hx .rfl .rfl x R')))
theorem EH{u:SV}{T:String}{name:Str}{id:String}(pa:PlainAttrs T)(slot:Slot T name id)(sS:uG (.builtin id)=pure (.type "method_descriptor"))
  (hT:∀own ae A P m s u',Rel G F b own ae A P m fr h s→VR P m u u'→s.TypeIs u' T∧∀a,u'=.ref a→∃o,s.heap.get? a=aa o∧o.dict=af):GM G F b fr h u name (.bi id):=
 .mk λown ae A P m s Q' E' u' pl R hu c=>xA (hT own ae A P m s u' R hu) λt1 t2=>getMethod_builtin t1 pa slot sS t2 (c _ s.toks rfl)
theorem ac2{n:Nm}{es:List (SV×SV)}{name:Str}{id:String}(hn:h n=aa (.dict es))(slot:Slot "dict" name id)(sS:uG (.builtin id)=pure (.type "method_descriptor")):GM G F b fr h (.ref n) name (.bi id):=
 EH PySem.F.plainAttrs_dict slot sS λown ae A P m s u' R hu=>pH hu R hn λad xs D=>⟨D.ty,λa e=>Qd e▸⟨_,D.o,rfl⟩⟩
theorem FN{n:Nm}{vs:List SV}{name:Str}{id:String}(hn:h n=aa (.list vs))(slot:Slot "list" name id)(sS:uG (.builtin id)=pure (.type "method_descriptor")):GM G F b fr h (.ref n) name (.bi id):=
 EH PySem.F.plainAttrs_list slot sS λown ae A P m s u' R hu=>aj hu λad hm e=>R.mG hn hm λxs k h3 h4=>
  e▸⟨⟨_,h3,rfl⟩,λa e=>Qd e▸⟨_,h3,rfl⟩⟩
theorem Tz{x:Str}{name:Str}{id:String}(slot:Slot "str" name id)(sS:uG (.builtin id)=pure (.type "method_descriptor")):GM G F b fr h (.str x) name (.bi id):=
 EH PySem.F.plainAttrs_str slot sS λown ae A P m s u' R hu=>xE hu λt e=>e▸⟨rfl,λa e=>nomatch e⟩
theorem Jg{n:Nm}{es:List (SV×SV)}{k:SV}{Q:QV}{X:QX}(hn:h n=aa (.dict es))(hk:SV.key 6 k=ab)(hq:Q ((es.lookup k).getD .none) h):WC G F b fr h (.bi "dict.get") [.ref n,k] Q X:=by
 have hq:∀r,es.lookup k=r→Q (r.getD .none) h:=λr e=>e▸hq;refine .mk λown ae A P m s Q' E' f' a5 R hf hv c d=>hf▸gu hv λu kv hu jf=>pH hu R hn λad xs D=>i5 Ic D.ty Qn ?_ (PySem.F.args_dict_get_2 _ _);show aw _ _ (sG ad.1 kv >>=_) _ _ s;refine wb (yH R (show A.units+1+7<ez from R.room) D jf hk (λx y t e hy=>aD ⟨y,rfl,c.here (hq _ e) hy (R.tok t)⟩) λt e=>?_);show aw _ _ (Ia ad.1 kv >>=_) _ _ _;exact wb (Ib D.sys (aD ⟨.none,rfl,c.here (hq _ e) rfl (R.tok t)⟩))
theorem VG{n:Nm}{es:List (SV×SV)}{k z:SV}{Q:QV}{X:QX}(hn:h n=aa (.dict es))(hk:SV.key 6 k=ab)(hq:Q ((es.lookup k).getD z) h):WC G F b fr h (.bi "dict.get") [.ref n,k,z] Q X:=by
 have hq:∀r,es.lookup k=r→Q (r.getD z) h:=λr e=>e▸hq;refine .mk λown ae A P m s Q' E' f' a5 R hf hv c d=>hf▸Q6 hv λu kv zv hu jf hz=>pH hu R hn λad xs D=>i5 Ic D.ty Qn ?_ (ag3 _ _ _);show aw _ _ (sG ad.1 kv >>=_) _ _ s;refine wb (yH R (show A.units+1+7<ez from R.room) D jf hk (λx y t e hy=>aD ⟨y,rfl,c.here (hq _ e) hy (R.tok t)⟩) λt e=>?_);show aw _ _ (Ia ad.1 kv >>=_) _ _ _;exact wb (Ib D.sys (aD ⟨zv,rfl,c.here (hq _ e) hz (R.tok t)⟩))
theorem Jf{E:Value→ak→Prop}{n:Nm}{es:List (SV×SV)}{k:SV}{v:Value}{ad:au×au}{xs:Array dL}{Q:Bool→ak→Prop}(R:Rel G F b own ae A P m fr h s)
  (D:DA G.w P m s n es ad xs) (jf:VR P m k v) (hk:SV.key 6 k=ab) (c:∀t,Q (es.lookup k).isSome {s with toks:=t}):aw (aR G.prog G.w) A (contains (.ref ad.1) v) Q E s:=by
 unfold contains;refine dM (wb (qN D.ty slot_dict_contains.lookup ?_));show aw _ _ (if(aa (H5 "dict.__contains__")==aa eH)=ab then _ else _) _ E s;refine dU (by rw[agu _];rfl) (wb (wpAny_callSpecialUnlessNone?_slot (name:=d5 "__contains__") D.ty ag4
  (i5 ag4 D.ty entry_dict_contains ?_ (args_dict_contains _ _))))
 show aw _ _ (sG ad.1 v >>=_) _ _ s;refine wb (yH R (show A.units+1+7<ez from R.room) D jf hk (λx y t e hy=>?_) λt e=>?_)
 ·show aw _ _ (Ie (.bool ab)) _ _ _
  exact aD ⟨_,rfl,HK (by have:=c t;rw[e] at this;exact this)⟩
 ·show aw _ _ (alg ad.1 v >>=_) _ _ _
  exact wb (wpAny_pendingKey_other D.sys (aD ⟨_,rfl,HK (by have:=c t;rw[e] at this;exact this)⟩))
theorem TU{n:Nm}{es:List (SV×SV)}{k:SV}{Q:QV}{X:QX}(hn:h n=aa (.dict es))(hk:SV.key 6 k=ab)(hq:Q (.bool (es.lookup k).isSome) h):WO G F b fr h [k,.ref n] (bw (c5 .In)) Q X:=by
 refine .mk λown ae A P m s Q' E' a5 R hv c d=>gu hv λkv u jf hu=>pH hu R hn λad xs D=>?_;show aw _ _ (do return ag5 (←contains (.ref ad.1) kv)) _ _ s;exact wb (Jf R D jf hk λt=>aD (c.here hq rfl (R.tok t)))
theorem Vv{n:Nm}{es:List (SV×SV)}{k:SV}{Q:QV}{X:QX}(hn:h n=aa (.dict es))(hk:SV.key 6 k=ab)(hq:Q (.bool (!(es.lookup k).isSome)) h):WO G F b fr h [k,.ref n] (bw (c5 .NotIn)) Q X:=by
 refine .mk λown ae A P m s Q' E' a5 R hv c d=>gu hv λkv u jf hu=>pH hu R hn λad xs D=>?_;show aw _ _ (do return ag5 (!(←contains (.ref ad.1) kv))) _ _ s;exact wb (Jf R D jf hk λt=>aD (c.here hq rfl (R.tok t)))
theorem Ph{n:Nm}{es:List (SV×SV)}{k v:SV}{Q:QV}{X:QX}(hn:h n=aa (.dict es))(hk:SV.key 6 k=ab)(hz:es.length≤cR)(hq:Q .none (h.set n (.dict (bj es k v)))):
  WO G F b fr h [.ref n,k,v] (Hr λx y z=>do ux x y z;pure .none) Q X:=by
 refine .mk λown ae A P m s Q' E' a5 R hv c d=>Q6 hv λu kv xv hu jf Eu=>pH hu R hn λad xs D=>?_;show aw _ _ (do ux (.ref ad.1) kv xv;pure eH) _ _ _;refine wb ?_;unfold ux;refine dM (wb (zR D.ty aW (wb (qK (name:=d5 "__setitem__") D.ty ag6
  (i5 ag6 D.ty entry_dict_setitem ?_ (args_dict_setitem _ _ _))))))
 show aw _ _ (alh "__setitem__" ⟨[.ref ad.1,kv,xv],[]⟩ >>=_) _ _ s;refine wb (wpAny_notOrdered_dict D.ty ?_);show aw _ _ (dictSet ad.1 kv xv >>=_) _ _ s;exact wb (adc R (show A.units+1+7<ez from R.room) hn D jf hk Eu hz λs' R'=>aD ⟨.none,rfl,aD (aD (c.here hq rfl R'))⟩)
theorem aeb{E:Value→ak→Prop}{Q:Value→ak→Prop}{n:Nm}{es:List (SV×SV)}{ad:au×au}{xs:Array dL}(D:DA G.w P m s n es ad xs)(hz:es.length<2^62)(k:∀t u,Q (.int es.length t) {s with toks:=u}):
  aw (aR G.prog G.w) A (runValue (.builtin "len" ⟨[.ref ad.1],[]⟩)) Q E s:=by
 refine Qo (w6 entry_len ?_);rw[zT plain_len _];unfold Builtin.«len»;refine wb (m:=oneArg "len" _) (aD (wb (m:=Qp (.ref ad.1) (d5 "__len__")) (qK (name:=d5 "__len__") D.ty ag7
  (i5 ag7 D.ty PySem.F.entry_dict_len ?_ (PySem.F.args_dict_len_1 _)))))
 show aw _ _ (dictSize ad.1 >>=_) _ _ s;unfold dictSize;refine wb (wb (H_ D.o rfl (aD ?_)));show aw _ _ (ali ad.1 >>=_) _ _ s;refine wb (wpAny_pendingCount_other D.sys (wpAny_ret_mkInt (wb (dM (aD (wb (wpAny_letGo ?_)))))));have e0:((xs.size:Nat):Int)+((0:Nat):Int)=(es.length:Int):=(agp _).trans (ay Nat.cast D.size.symm);rw[e0];show aw _ _ (if(es.length:Int) <0 then _ else _) _ _ _;refine dU (i0 (qG.mpr (jq _))) ?_;show aw _ _ (if(es.length:Int)≥2^63 then _ else _) _ _ _;exact dU (i0 (Int.not_le.mpr (sv (ib.mpr hz) aW))) (wb (wpAny_mkInt (aD (k _ _))))
theorem acv{n:Nm}{es:List (SV×SV)}{Q:Bool→SH→Prop}{X:QX}(hn:h n=aa (.dict es))(nY:es.length<2^62)(hq:Q (!es.isEmpty) h):WT G F b fr h (.ref n) Q X:=by
 refine .mk λown ae A P m s Q' E' v' R hv c d=>pH hv R hn λad xs D=>?_;have dh:((es.length:Int) !=0)=!es.isEmpty:=by cases es<;>rfl
 unfold zL;refine wb (wpAny_callSpecial?_none (name:=d5 "__bool__") D.ty noBool_dict (wb (qN (name:=d5 "__len__") D.ty PySem.F.slot_dict_len.lookup ?_)));exact wb (aeb D nY λt u=>aD (dh▸c _ _ _ P m hq .rfl .rfl (R.tok u)))
theorem Tx{pos:Pos}{Q:QV}{X:QX}{n:Nm}(hn:h n=af)(hq:Q (.ref n) (h.set n (.dict []))):WE G F b fr h (.Dict [] [] pos) Q X:=by
 refine .mk λown ae A P m s Q' E' R c d=>?_;show aw _ _ (do kh pos;newDict) _ _ _;refine wb (jJ (wb (Qg (aD ?_))));refine xA (R.alloc hn (so:=.dict []) (ad:=(s.heap.objs.size,s.heap.objs.size)) (s':={s with heap:=s.heap.push {cls:=.type "dict",data:=.dict #[]}})
  (λa o e=>dT _ e) rfl rfl (ar _) (ar _) ⟨rfl,#[],fP _ rfl,rfl,.nil,λ_ h=>cS h⟩) λbk le=>?_
 exact c _ _ _ _ _ _ hq .rfl le ⟨_,Mu.jb,rfl⟩ bk
section
open PyProof.Rows (IsTup)
def BL(G:Gl)(a:au)(vs:List SV):Prop:=∃xs,G.base.IsList a xs∧∀(P:aV) (m:Mu),(∀a o,G.base.get? a=aa o→P a=aa o)→aO P m vs xs.toList
inductive de(G:Gl)(h:SH):SV→List SV→Prop
 |own {n:Nm} {vs:List SV} (hn:h n=aa (.list vs)):de G h (.ref n) vs
 |base {a:au} {vs:List SV} (hb:BL G a vs):de G h (.glob a) vs
inductive GI(G:Gl)(h:SH):SV→Prop
 |lst {u:SV} {vs:List SV} (hl:de G h u vs):GI G h u
 |dict {n:Nm} {es:List (SV×SV)} (hn:h n=aa (.dict es)):GI G h (.ref n)
 |tup {vs:List SV}:GI G h (.tup vs)
 |str {x:Str}:GI G h (.str x)
theorem Rel.jd(R:Rel G F b own ae A P m fr h s){u:SV}{vs:List SV}(hl:de G h u vs){u':Value}(hu:VR P m u u'):∃a xs,u'=.ref a∧s.heap.IsList a xs∧aO P m vs xs.toList:=by
 cases hl with
 |own hn=>
  refine aj hu λad hm ax=>?_;clear hu;subst ax;refine R.mG hn hm λxs k h3 h4=>?_;exact⟨_,xs,rfl,⟨_,h3,rfl,_,rfl⟩,h4⟩
 |base hb=>
  obtain rfl:=hu;obtain⟨xs,⟨o,h1,h2,k,h3⟩,h4⟩:=hb;exact⟨_,xs,rfl,⟨o,R.bs _ _ h1,h2,k,h3⟩,h4 P m R.basePR⟩
theorem Rel.rY(R:Rel G F b own ae A P m fr h s){vs:List SV}{u':Value}(hu:VR P m (.tup vs) u'):∃a xs,u'=.ref a∧IsTup s.heap a xs∧aO P m vs xs.toList:=by
 obtain⟨a,xs,rfl,⟨o,h1,h2,k,h3⟩,h4⟩:=R.oc hu;exact⟨a,xs,rfl,⟨o,h1,h2,k,h3⟩,h4⟩
theorem Ox(R:Rel G F b own ae A P m fr h s){u:SV}{u':Value}(hg:GI G h u)(hu:VR P m u u'){Q:Bool→ak→Prop}{E:Value→ak→Prop}(hq:Q an s):aw (aR G.prog G.w) A (getitemInPython u') Q E s:=by
 have go:∀{T id:String},s.TypeIs u' T→Slot T "__getitem__" id→aw (aR G.prog G.w) A (getitemInPython u') Q E s:=λhT sl=>by
  rw[getitemInPython_of_ne hT.not_modules];exact wb (qN hT sl.lookup (aD hq))
 cases hg with
 |lst hl=>refine bP (R.jd hl hu) λa xs ax hl _=>?_;subst ax;exact go hl.typeIs slot_list_getitem
 |dict hn=>
  exact kc (R.dictAt hn) λad xs D=>aj hu λbT hm e=>go (e▸aY (D.mn.symm.trans hm)▸D.ty) DF
 |tup=>refine bP (R.rY hu) λa xs ax ht _=>?_;subst ax;exact go ht.typeIs DG
 |str=>refine xE hu λt bq=>?_;clear hu;subst bq;exact go (T:="str") rfl PySem.F.slot_str_getitem
theorem B7{wA slice:Expr}{pos:Pos}{Q:QV}{X:QX}(hs:∀o i,subscripted slice an o i=operate [o,i] (i6 o i))
  (w:WE G F b fr h wA (λu ag=>WE G F b fr ag slice (λk aC=>GI G aC u∧WO G F b fr aC [u,k] (bw i6) Q X) X) X):WE G F b fr h (.Subscript wA slice pos) Q X:=by
 refine .mk ?_;intro own ae A P m s Q' E' R c d;rw[eval_Subscript _ _ _];refine wb (w.run own ae A P m s _ _ R (λu ag u' aZ bW bU hq hP hm hu a6=>?_) d);refine wb (dM (hq.run own ae A bW bU aZ _ _ a6 (λk aC k' bz cD cu h9 cQ cJ hk bk=>?_) (d.mono hP hm)));refine xA h9 λg ZU=>?_;clear h9;refine wb (jJ (wb (Ox bk g (hu.mono cQ.t cJ) ?_)));rw[hs _ _];refine wb (Qq (ZU.run own ae A cD cu bz _ _ [u',k'] bk ⟨_,_,rfl,hu.mono cQ.t cJ,_,_,rfl,hk,rfl⟩ (λv cK v' ej lI nr qW fS iu hv cW=>?_) (d.mono (hP.trans cQ) (hm.trans cJ))));exact wb (P4 (aD (c _ _ _ _ _ _ qW ((hP.trans cQ).trans fS) ((hm.trans cJ).trans iu) hv cW)))
theorem Ec{j n:Nat}(h:j<n):oz (j:Int) n=aa j:=by
 show(if(decide (0≤(if(j:Int) <0 then(j:Int)+n else j)) && decide ((if(j:Int) <0 then(j:Int)+n else j) <n))=ab then aa (if(j:Int) <0 then(j:Int)+n else j).toNat else af)=aa j;rw[show(if(j:Int) <0 then(j:Int)+n else j)=j from aK (qG.mpr (jq j))];exact aP ((bO _ _).mpr ⟨eQ (jq j),eQ (ib.mpr h)⟩)
theorem Zz{n:Nat}:oz (-1) (n+1)=aa n:=by
 show(if(decide (0≤(-1+((n+1:Nat):Int))) && decide ((-1+((n+1:Nat):Int)) < ((n+1:Nat):Int)))=ab then aa (-1+((n+1:Nat):Int)).toNat else af)=aa n;rw[show(-1+((n+1:Nat):Int))=n from(ay (-1+·) (Int.add_comm (n:Int) 1)).trans (Int.neg_add_cancel_left 1 (n:Int))];exact aP ((bO _ _).mpr ⟨eQ (jq n),eQ (ib.mpr (dq n))⟩)
theorem R1{k:Int}{n j:Nat}(hj:oz k n=aa j):(0≤k∧k.toNat=j∧k<n)∨(k<0∧-(n:Int)≤k∧(k+n).toNat=j):=by
 unfold oz at hj;simp only at hj
 by_cases hk:k<0
 ·rw[aP hk] at hj
  split at hj
  ·rename_i q
   simp only[bO,decide_eq_true_eq] at q;exact .inr (cF hk (Int.sub_nonneg.mp (by rw[Int.sub_neg _ _];exact q.1)) (aY hj))
  ·exact a7 hj
 ·rw[aK hk] at hj
  split at hj
  ·rename_i q
   simp only[bO,decide_eq_true_eq] at q;exact .inl (cF q.1 (aY hj) q.2)
  ·exact a7 hj
theorem Ι{u:SV}{vs:List SV}{i:Int}{j:Nat}{v:SV}{Q:QV}{X:QX}(hl:de G h u vs)(AX:-(2^63)≤i)(yA:i<2^63)(hj:oz i vs.length=aa j)(hv:vs[j]? =aa v)(hq:Q v h):
  WO G F b fr h [u,.int i] (bw i6) Q X:=by
 refine .mk ?_;intro own ae A P m s Q' E' a5 R d7 c d;refine gu d7 λu' i' hu zB=>?_
 first|refine nc zB λt=>?_|refine pG zB λt=>?_
 refine bP (R.jd hl hu) λa xs ax hL hX=>?_;subst ax;refine aj (hX.get hv) λx hx Cb=>?_;rw[hX.size] at hj;have sV:xs[j]? =aa x:=by simpa using hx
 show aw _ _ (i6 (.ref a) (.int i t)) _ _ _;rcases R1 hj with⟨h1,h2,h3⟩|⟨h1,h2,h3⟩
 ·exact wpAny_getItem_list hL h1 yA (by rw[h2];exact sV) (c.here hq Cb R)
 ·exact wpAny_getItem_list_neg hL h1 h2 AX (by rw[h3];exact sV) (c.here hq Cb R)
theorem JB{vs:List SV}{i:Int}{j:Nat}{v:SV}{Q:QV}{X:QX}(AX:-(2^63)≤i)(yA:i<2^63)(hj:oz i vs.length=aa j)(hv:vs[j]? =aa v)(hq:Q v h):
  WO G F b fr h [.tup vs,.int i] (bw i6) Q X:=by
 refine .mk ?_;intro own ae A P m s Q' E' a5 R d7 c d;refine gu d7 λu' i' hu zB=>?_
 first|refine nc zB λt=>?_|refine pG zB λt=>?_
 refine bP (R.rY hu) λa xs ax hL hX=>?_;subst ax;refine aj (hX.get hv) λx hx Cb=>?_;rw[hX.size] at hj;exact alj hL AX yA hj (by simpa using hx) (c.here hq Cb R)
theorem ZC{u:SV}{vs:List SV}{Q:Bool→SH→Prop}{X:QX}(hl:de G h u vs)(nY:vs.length<2^62)(hq:Q (!vs.isEmpty) h):WT G F b fr h u Q X:=by
 refine .mk ?_;intro own ae A P m s Q' E' v' R hv c d;refine bP (R.jd hl hv) λa xs ax hL hX=>?_;subst ax;have e:(!xs.isEmpty)=!vs.isEmpty:=by
  unfold ag8;rw[←hX.size]
  cases vs<;>rfl
 refine wpAny_truthy_list hL (by rw[←hX.size];exact vU nY) ?_;rw[e];exact c _ _ _ P m hq .rfl .rfl (R.tok _)
theorem δ{vs:List SV}{Q:Bool→SH→Prop}{X:QX}(nY:vs.length<2^62)(hq:Q (!vs.isEmpty) h):WT G F b fr h (.tup vs) Q X:=by
 refine .mk ?_;intro own ae A P m s Q' E' v' R hv c d;refine bP (R.rY hv) λa xs ax hL hX=>?_;subst ax;have e:(!xs.isEmpty)=!vs.isEmpty:=by
  unfold ag8;rw[←hX.size]
  cases vs<;>rfl
 refine alk hL (by rw[←hX.size];exact vU nY) ?_;rw[e];exact c _ _ _ P m hq .rfl .rfl (R.tok _)
theorem X1{u:SV}{vs:List SV}{Q:QV}{X:QX}(hl:de G h u vs)(nY:vs.length<2^62)(hq:Q (.int vs.length) h):WC G F b fr h (.bi "len") [u] Q X:=by
 first|refine jO ?_|refine jP ?_
 intro own ae A P m s Q' E' a5 R hv c d;refine jx hv λu' hu=>?_;refine bP (R.jd hl hu) λa xs ax hL hX=>?_;subst ax;refine Calls.call_len_list hL (by rw[←hX.size];exact vU nY) ?_;rw[←hX.size];exact c.here hq ⟨_,rfl⟩ (R.tok _)
theorem aaf{vs:List SV}{Q:QV}{X:QX}(nY:vs.length<2^62)(hq:Q (.int vs.length) h):WC G F b fr h (.bi "len") [.tup vs] Q X:=by
 first|refine jO ?_|refine jP ?_
 intro own ae A P m s Q' E' a5 R hv c d;refine jx hv λu' hu=>?_;refine bP (R.rY hu) λa xs ax hL hX=>?_;subst ax;refine alm hL (by rw[←hX.size];exact vU nY) ?_;rw[←hX.size];exact c.here hq ⟨_,rfl⟩ (R.tok _)
theorem VV{vs:List SV}{xs:Array Value}(hX:aO P m vs xs.toList)(x:SV)(e:Value→Bool)(he:∀(j:Nat) (v:SV) (y:Value),vs[j]? =aa v→xs[j]? =aa y→e y=decide (v=x)):xs.any e=decide (x∈vs):=by
 rw[propext Qr,decide_eq_true_eq,propext Array.any_eq_true]
 constructor
 ·rintro⟨i,hi,hq⟩
  refine aj (hX.at hi) λv q1 q2=>?_;rw[he i v _ q1 (jr hi),decide_eq_true_eq] at hq;exact hq▸bN q1
 ·intro hm
  refine xE (uE hm) λj hj=>?_;refine aj (hX.get hj) λy q1 q2=>?_;have q1:xs[j]? =aa y:=by simpa using q1
  obtain⟨ff,e'⟩:=oi.mp q1;refine⟨j,ff,?_⟩;rw[e',he j x y hj q1];simp
theorem Rel.Mn(R:Rel G F b own ae A P m fr h s){vs:List SV}{xs:Array Value}{x:SV}{x':Value}(hX:aO P m vs xs.toList)(hx:VR P m x x')(hd:eK 6 vs=ab)(yZ:SV.data 6 x=ab):
  ∃e:Value→Bool,(∀y,y∈xs→SeqAt.EqAt A.in1 s y x' (e y))∧xs.any e=decide (x∈vs):=by
 classical
 rw[sL] at hd;have key:∀y,y∈xs→∃v,v∈vs∧VR P m v y:=λy hy=>by
  obtain⟨j,hj,rfl⟩:=Array.mem_iff_getElem.mp hy;refine aj (hX.at hj) λv q1 q2=>?_;exact(aU v (bN q1) q2)
 refine(aU (λy=>if hy:y∈xs then decide (ag9 (key y hy)=x) else an) (λy hy=>?_) ?_)
 ·refine xA (Qs (key y hy)) λk1 k2=>?_
  simp only[hy,dif_pos];exact R.we 6 k2 hx (hd _ k1) yZ (by show A.units+1+6<ez;have:=R.room;exact cj ‹_›)
 ·refine VV hX x _ λj v y hv hy=>?_
  have hm:y∈xs:=agx hy;refine xA (Qs (key y hm)) λk1 k2=>?_;simp only[hm,dif_pos];refine aj (hX.get hv) λy' q1 q2=>?_;have q1:xs[j]? =aa y':=by simpa using q1
  rw[hy] at q1;obtain rfl:=aY q1;rw[VR.inj _ k2 q2 (hd _ k1) (hd _ (bN hv))]
theorem Uh{u:SV}{vs:List SV}{x:SV}{Q:QV}{X:QX}(hl:de G h u vs)(hd:eK 6 vs=ab)(yZ:SV.data 6 x=ab)(hq:Q (.bool (decide (x∈vs))) h):WO G F b fr h [x,u] (bw (c5 .In)) Q X:=by
 refine .mk ?_;intro own ae A P m s Q' E' a5 R d7 c d;refine gu d7 λx' u' hx hu=>?_;refine bP (R.jd hl hu) λa xs ax hL hX=>?_;subst ax;refine aj (R.Mn hX hx hd yZ) λe he ha=>?_;refine SeqAt.in_listAt e hL he ?_;rw[ha];exact c.here hq rfl R
theorem ε{u:SV}{vs:List SV}{x:SV}{Q:QV}{X:QX}(hl:de G h u vs)(hd:eK 6 vs=ab)(yZ:SV.data 6 x=ab)(hq:Q (.bool (!decide (x∈vs))) h):WO G F b fr h [x,u] (bw (c5 .NotIn)) Q X:=by
 refine .mk ?_;intro own ae A P m s Q' E' a5 R d7 c d;refine gu d7 λx' u' hx hu=>?_;refine bP (R.jd hl hu) λa xs ax hL hX=>?_;subst ax;refine aj (R.Mn hX hx hd yZ) λe he ha=>?_;refine SeqAt.notIn_listAt e hL he ?_;rw[ha];exact c.here hq rfl R
end
section
open PyProof.Rows (IsTup)
theorem aO.drop{P:aV}{m:Mu}:∀{x:List SV} {v:List Value} (k:Nat),aO P m x v→aO P m (x.drop k) (v.drop k)
 |x,v,0,h=>h
 |[],_,k+1,h=>by obtain rfl:=h;exact rfl
 |x::xs,_,k+1,h=>by refine bP h λw r ax h2 h3=>?_;clear h;subst ax;exact aO.drop k h3
theorem aO.take{P:aV}{m:Mu}:∀{x:List SV} {v:List Value} (k:Nat),aO P m x v→aO P m (x.take k) (v.take k)
 |x,v,0,h=>rfl
 |[],_,k+1,h=>by obtain rfl:=h;exact rfl
 |x::xs,_,k+1,h=>by refine bP h λw r ax h2 h3=>?_;clear h;subst ax;exact⟨w,_,rfl,h2,aO.take k h3⟩
theorem aO.set{P:aV}{m:Mu}{y:SV}{z:Value}(hy:VR P m y z):∀{x:List SV} {v:List Value} (k:Nat),aO P m x v→aO P m (x.set k y) (v.set k z)
 |[],_,k,h=>by obtain rfl:=h;exact rfl
 |x::xs,_,0,h=>by refine bP h λw r ax h2 h3=>?_;clear h;subst ax;exact⟨z,r,rfl,hy,h3⟩
 |x::xs,_,k+1,h=>by refine bP h λw r ax h2 h3=>?_;clear h;subst ax;exact⟨w,_,rfl,h2,aO.set hy k h3⟩
theorem aO.erase{P:aV}{m:Mu}:∀{x:List SV} {v:List Value} (k:Nat),aO P m x v→aO P m (x.eraseIdx k) (v.eraseIdx k)
 |[],_,k,h=>by obtain rfl:=h;exact rfl
 |x::xs,_,0,h=>by refine bP h λw r ax h2 h3=>?_;clear h;subst ax;exact h3
 |x::xs,_,k+1,h=>by refine bP h λw r ax h2 h3=>?_;clear h;subst ax;exact⟨w,_,rfl,h2,aO.erase k h3⟩
theorem aO.insert{P:aV}{m:Mu}{y:SV}{z:Value}(hy:VR P m y z){x:List SV}{v:List Value}(k:Nat)(h:aO P m x v):aO P m (x.take k++y::x.drop k) (v.take k++z::v.drop k):=
 aO.app (aO.take k h) ⟨z,_,rfl,hy,aO.drop k h⟩
theorem Vi{n:Nm}{vs:List SV}{v:SV}{Q:QV}{X:QX}(hn:h n=aa (.list vs))(hz:vs.length≤cR)(hq:Q .none (h.set n (.list (vs++[v])))):WC G F b fr h (.bi "list.append") [.ref n,v] Q X:=by
 first|refine jO ?_|refine jP ?_
 intro own ae A P m s Q' E' a5 R hv c d;refine gu hv λu v' zA fB=>?_;refine uN zA λad hm=>?_;exact O0 R hn hm fB hz λs' R'=>c.here hq rfl R'
theorem Rel.Bj(R:Rel G F b own ae A P m fr h s){n:Nm}{vs gF:List SV}{ad:au×au}{xs:Array Value}{k:Nat}(hn:h n=aa (.list vs))(hm:m n=aa ad)(hx:s.heap.get? ad.1=aa (E9 xs k))(f:Array Value→Array Value)
  (hv:aO P m gF (f xs).toList) (t:Nat):Rel G F b own ae A P m fr (h.set n (.list gF)) {s with heap:=s.heap.update ad.1 (mh f),toks:=t}:=by
 have hs:sB ad.1 s.heap (s.heap.update ad.1 (mh f)):=pt ..;refine R.mG hn hm λGO k' h3 h4=>?_;have he:ad.2=ad.1:=by
  refine bH (R.obj n _ hn) λτ z1 z2 _=>?_;exact aY (z1.symm.trans hm)▸z2
 refine R.turn (s':={s with heap:=s.heap.update ad.1 (mh f),toks:=t}) hn hm (λa o n1 n2 e=>(hs.2 a n1).trans e) rfl rfl ⟨he,f xs,_,IsL.update hx f,hv⟩
theorem U3{n:Nm}{vs:List SV}{v:SV}{Q:QV}{X:QX}(hn:h n=aa (.list (vs++[v])))(hz:vs.length<cR)(hq:Q v (h.set n (.list vs))):WC G F b fr h (.bi "list.pop") [.ref n] Q X:=by
 first|refine jO ?_|refine jP ?_
 intro own ae A P m s Q' E' a5 R hv c d;refine jx hv λu zA=>?_;refine uN zA λad hm=>?_;refine R.mG hn hm λxs k h3 h4=>?_;have hsz:=h4.size;rw[cU,zU] at hsz;refine aj (h4.get (i:=vs.length) (y:=v) (by simp)) λy q1 q2=>?_;have hy:xs[xs.size-1]? =aa y:=by rw[←hsz,Qu _ _];simpa using q1
 refine Qv Qw ⟨_,h3,rfl⟩ aha (PySem.F.args_list_pop_1 _) (aln ad.1 xs k y hy (ah (bF hsz.symm) (sH hz))) ⟨h3,c.here hq q2 (R.Bj hn hm h3 _ ?_ _)⟩;rw[←hsz,Qu _ _,ahb,dif_pos (lr (bF hsz)),ahc];have:=h4.erase vs.length
 rwa [show(vs++[v]).eraseIdx vs.length=vs by rw[List.eraseIdx_append_of_length_le (ar _) _];simp] at this
theorem Wu{n:Nm}{vs:List SV}{v:SV}{Q:QV}{X:QX}(hn:h n=aa (.list (v::vs)))(hz:vs.length<cR)(hq:Q v (h.set n (.list vs))):WC G F b fr h (.bi "list.pop") [.ref n,.int 0] Q X:=by
 first|refine jO ?_|refine jP ?_
 intro own ae A P m s Q' E' a5 R hv c d;refine gu hv λu z zA zB=>?_;refine uN zA λad hm=>?_
 first|refine nc zB λt=>?_|refine pG zB λt=>?_
 refine R.mG hn hm λxs k h3 h4=>?_;have hsz:=h4.size;rw[iE] at hsz;refine aj (h4.get (i:=0) (y:=v) rfl) λy q1 q2=>?_;refine Qv Qw ⟨_,h3,rfl⟩ aha (PySem.F.args_list_pop_2 _ _) (alo ad.1 xs k 0 t 0 y (Qx aW aW) (seqIndex_of aW (hsz▸ib.mpr (dK _))) (by simpa using q1) (ah (bF hsz.symm) (sH hz))) ⟨h3,c.here hq q2 (R.Bj hn hm h3 _ ?_ _)⟩;rw[ahb,dif_pos (lr (ah (lu _ _) (bF hsz))),ahc];exact h4.erase 0
theorem Xa{n:Nm}{vs:List SV}{v:SV}{i:Nat}{Q:QV}{X:QX}(hn:h n=aa (.list vs))(hz:vs.length≤cR)(hi:i≤vs.length)(hq:Q .none (h.set n (.list (vs.take i++v::vs.drop i)))):
  WC G F b fr h (.bi "list.insert") [.ref n,.int i,v] Q X:=by
 first|refine jO ?_|refine jP ?_
 intro own ae A P m s Q' E' a5 R hv c d;refine ID hv λ_ _ v' zA zB fB=>?_;refine uN zA λad hm=>?_;refine nc zB λt=>?_;refine R.mG hn hm λxs k h3 h4=>?_;have hsz:=h4.size;have hL:cR<2^60:=bg;obtain⟨x,hx⟩:∃x:Int,x=(i:Int):=⟨_,rfl⟩;rw[←hx];have hfi:ahd x=ab:=Qx (hx▸jq i) (hx▸vU (bd hi (bd hz bg)));have h0:¬(!ahd x)=ab:=by rw[hfi];exact iD
 have tj:xs.size≤cR:=by rw[←hsz];exact hz
 refine Qv ahe ⟨_,h3,rfl⟩ PySem.F.entry_list_insert (PySem.F.args_list_insert_3 _ _ _) (alp ad.1 xs k x t v' h0 tj) ⟨h3,?_⟩;refine c.here hq rfl (R.Bj hn hm h3 _ ?_ _);have e:(if x<0 then(x+(xs.size:Int)).toNat else min x.toNat xs.size)=i:=by
  rw[aK (hx▸qG.mpr (jq i)),hx];exact sA (ah hi (bF hsz))
 rw[e];have:=h4.insert fB i
 simpa [(na (by simp):List.take (xs.size-i) (List.drop i xs.toList)=List.drop i xs.toList)] using this
theorem ach{u w:SV}{vs ws:List SV}{n:Nm}{Q:QV}{X:QX}(hu:de G h u vs)(hw:de G h w ws)(hz:vs.length+ws.length≤cR)(hn:h n=af)(hq:Q (.ref n) (h.set n (.list (vs++ws)))):
  WO G F b fr h [u,w] (bw (m7 .Add)) Q X:=by
 refine .mk ?_;intro own ae A P m s Q' E' a5 R d7 c d;refine gu d7 λu' w' kM FF=>?_;refine bP (R.jd hu kM) λa xs ax hl hX=>?_;subst ax;refine bP (R.jd hw FF) λAd ys ax hb hY=>?_;subst ax;obtain⟨⟨cls,dd,data,sl⟩,ho,hc,k,hd⟩:=id hl;obtain⟨⟨aj8,Vr,data2,sl2⟩,q8,rH,k2,ya⟩:=id hb;simp only at hc hd rH ya;subst hc hd rH ya;refine concat_meets ⟨_,ho,rfl⟩ ⟨_,q8,rfl⟩ noFill_list_add seq_list_add PySem.F.slot_list_add PySem.F.entry_list_add (PySem.F.args_list_add_2 _ _) (alq a Ad xs ys k k2 dd Vr sl sl2 (by rw[←hX.size,←hY.size];exact hz)) (cF ho q8 ?_);obtain⟨bk,le⟩:=R.alloc hn (so:=.list (vs++ws)) (ad:=(s.heap.objs.size,s.heap.objs.size)) (s':={s with heap:=s.heap.push {cls:=.type "list",data:=.seq (xs++ys)}})
  (λa o e=>dT _ e) rfl rfl (ar _) (ar _) ⟨rfl,_,0,fP _ rfl,by
   rw[ahf];exact aO.mono aV.le.rfl.t (Aa (R.dom n hn)) _ (hX.app hY)⟩
 exact c _ _ _ _ _ _ hq .rfl le ⟨_,Mu.jb,rfl⟩ bk
theorem Yp{u:SV}{vs:List SV}{n:Nm}{Q:QV}{X:QX}(hu:de G h u vs∨u=.tup vs)(hz:vs.length≤cR)(hn:h n=af)(hq:Q (.ref n) (h.set n (.list vs))):WC G F b fr h (.ty "list") [u] Q X:=by
 first|refine jO ?_|refine jP ?_
 intro own ae A P m s Q' E' a5 R hv c d;refine jx hv λu' kM=>?_;have fin:∀{a:au} {o:Obj} {T:String} {xs:Array Value} {k:Nat},T="list"∨T="tuple"→s.heap.get? a=aa o→o.cls=.type T→o.data=.seq xs k→aO P m vs xs.toList→aw (aR G.prog G.w) A (pv (.type "list") [.ref a]) Q' E' s:=by
  intro a o T xs k hT ho hc hd hX;refine call_list_seq (hsz:=by rw[←hX.size];exact hz) a hT ho hc hd λh' c' hk hg=>?_;obtain⟨bk,le⟩:=R.alloc hn (so:=.list vs) (ad:=(s.heap.objs.size,s.heap.objs.size)) (s':={s with heap:=h'})
   hk rfl rfl (ar _) (ar _) ⟨rfl,xs,c',hg,aO.mono aV.le.rfl.t (Aa (R.dom n hn)) _ hX⟩
  exact c _ _ _ _ _ _ hq .rfl le ⟨_,Mu.jb,rfl⟩ bk
 rcases hu with hu|rfl
 ·obtain⟨a,xs,rfl,⟨o,ho,hc,k,hd⟩,hX⟩:=R.jd hu kM
  exact fin (.inl rfl) ho hc hd hX
 ·obtain⟨a,xs,rfl,⟨o,ho,hc,k,hd⟩,hX⟩:=R.rY kM
  exact fin (.inr rfl) ho hc hd hX
end
section
open PyProof.Rows (IsTup)
open PySem.SeqAt (EqAt RcAt)
open PySem.SeqAt (RcNeAt)
theorem Rel.Je(R:Rel G F b own ae A P m fr h s){n:Nat}{xs ys:List SV}{ia ic:Array Value}(nE:aO P m xs ia.toList)(nU:aO P m ys ic.toList)(dx:eK n xs=ab)(dy:eK n ys=ab)(hu:A'.units+n<ez):
  ∀j (h1:j<ia.size) (h2:j<ic.size),EqAt A' s ia[j] ic[j] (decide (xs[j]? =ys[j]?)):=λj h1 h2=>
 aj (nE.at h1) λx q1 q2=>aj (nU.at h2) λy p1 p2=>
  (mY.mpr (by rw[q1,p1,Option.some.injEq _ _]):decide (xs[j]? =ys[j]?)=decide (x=y)).symm▸R.we n q2 p2 ((sL.mp dx) x (bN q1)) ((sL.mp dy) y (bN p1)) hu
theorem xZ{n:Nat}{k:SV}{C:Prop}(h:SV.data (n+1) k=ab)(c0:k=.none→C)(ci:∀i,k=.int i→C)(cs:∀i,k=.str i→C)(ct:∀vs,k=.tup vs→eK n vs=ab→C):C:=by
 cases k with
 |none=>exact c0 rfl
 |int i=>exact ci i rfl
 |str i=>exact cs i rfl
 |tup vs=>exact ct vs rfl h
 |_=>exact bc h iD
theorem Rel.Ks(R:Rel G F b own ae A P m fr h s){x y:SV}{v u:Value}(hx:VR P m x v)(hy:VR P m y u)(dx:SV.data 6 x=ab)(dy:SV.data 6 y=ab):
  RcAt A s v u (decide (x=y))∧RcNeAt A s v u (!decide (x=y)):=by
 have hu:A.units<ez:=bd (b6 _ _) R.room;have no:∀{x y:SV} {v u:Value},RcAt A s v u an→RcNeAt A s v u ab→x≠y→RcAt A s v u (decide (x=y))∧RcNeAt A s v u (!decide (x=y)):=λ{x y v u} a b ne=>(i0 ne).symm▸⟨a,b⟩;have fj:∀{t:Bool} {x y:SV} {v u:Value},RcAt A s v u t→RcNeAt A s v u (!t)→(t=ab↔x=y)→RcAt A s v u (decide (x=y))∧RcNeAt A s v u (!decide (x=y)):=λ{t x y v u} a b ne=>(show t=decide (x=y) from Qr.mpr (ne.trans h_.symm))▸⟨a,b⟩;refine xZ dx (λe=>?_) (λi e=>?_) (λi e=>?_) λxs e UJ=>?_<;>subst e
 ·obtain rfl:=hx
  refine xZ dy (λe=>?_) (λj e=>?_) (λj e=>?_) λys e Bo=>?_<;>subst e
  ·obtain rfl:=hy;exact fj (t:=ab) .none_none .none_none ⟨λ_=>rfl,λ_=>rfl⟩
  ·exact xE hy λt' e=>e▸no (.none_int j t') (.none_int j t') nofun
  ·exact xE hy λt' e=>e▸no (.none_str j t') (.none_str j t') nofun
  ·exact bP (R.oc hy) λa items e hb _=>e▸no (.none_tuple hb hu) (.none_tuple hb hu) nofun
 ·refine xE hx λt e=>e▸?_
  refine xZ dy (λe=>?_) (λj e=>?_) (λj e=>?_) λys e Bo=>?_<;>subst e
  ·obtain rfl:=hy;exact no (.int_none i t) (.int_none i t) nofun
  ·exact xE hy λt' e=>e▸fj (.int_int i t j t') (.int_int i t j t') (eX.trans ⟨ay SV.int,SV.int.inj⟩)
  ·exact xE hy λt' e=>e▸no (.int_str i t j t') (.int_str i t j t') nofun
  ·exact bP (R.oc hy) λa items e hb _=>e▸no (.int_tuple i t hb hu) (.int_tuple i t hb hu) nofun
 ·refine xE hx λt e=>e▸?_
  refine xZ dy (λe=>?_) (λj e=>?_) (λj e=>?_) λys e Bo=>?_<;>subst e
  ·obtain rfl:=hy;exact no (.str_none i t) (.str_none i t) nofun
  ·exact xE hy λt' e=>e▸no (.str_int i t j t') (.str_int i t j t') nofun
  ·exact xE hy λt' e=>e▸fj (.str_str i t j t') (.str_str i t j t') (eX.trans ⟨ay SV.str,SV.str.inj⟩)
  ·exact bP (R.oc hy) λa items e hb _=>e▸no (.str_tuple i t hb hu) (.str_tuple i t hb hu) nofun
 ·refine bP (R.oc hx) λa ia e ha nE=>e▸?_
  refine xZ dy (λe=>?_) (λj e=>?_) (λj e=>?_) λys e Bo=>?_<;>subst e
  ·obtain rfl:=hy;exact no (.tuple_none ha hu) (.tuple_none ha hu) nofun
  ·exact xE hy λt' e=>e▸no (.tuple_int j t' ha hu) (.tuple_int j t' ha hu) nofun
  ·exact xE hy λt' e=>e▸no (.tuple_str j t' ha hu) (.tuple_str j t' ha hu) nofun
  ·refine bP (R.oc hy) λc ic e hc nU=>e▸?_
   have z:=R.Je (A':=A.in1) nE nU UJ Bo (bd (e6 (aJ:1+5≤8) A.units) R.room);refine fj (RcAt.tuples ha hc hu z) (RcNeAt.tuples ha hc hu z) ?_;rw[←nE.size,←nU.size,←Ed,propext h_];exact⟨ay SV.tup,SV.tup.inj⟩
theorem YW{x y:SV}{Q:QV}{X:QX}(dx:SV.data 6 x=ab)(dy:SV.data 6 y=ab)(hq:Q (.bool (decide (x=y))) h):WO G F b fr h [x,y] (bw (c5 .Eq)) Q X:=.mk λown ae A P m s Q' E' a5 R d7 c d=>gu d7 λv u hx hy=>(R.Ks hx hy dx dy).1 _ _ _ _ (c.here hq rfl R)
theorem acb{x y:SV}{Q:QV}{X:QX}(dx:SV.data 6 x=ab)(dy:SV.data 6 y=ab)(hq:Q (.bool (!decide (x=y))) h):WO G F b fr h [x,y] (bw (c5 .NotEq)) Q X:=.mk λown ae A P m s Q' E' a5 R d7 c d=>gu d7 λv u hx hy=>(R.Ks hx hy dx dy).2 _ _ _ _ (c.here hq rfl R)
theorem Rel.UC(R:Rel G F b own ae A P m fr h s){u w:SV}{vs ws:List SV}{u' w':Value}(hu:de G h u vs)(hw:de G h w ws)(kM:VR P m u u')(FF:VR P m w w')(dx:eK 6 vs=ab)(dy:eK 6 ws=ab):
  RcAt A s u' w' (decide (vs=ws))∧RcNeAt A s u' w' (!decide (vs=ws)):=by
 have CG:A.units<ez:=bd (b6 _ _) R.room;refine bP (R.jd hu kM) λa ia e ha nE=>e▸bP (R.jd hw FF) λc ic e hc nU=>e▸?_
 by_cases hsz:ia.size=ic.size
 ·have z:=R.Je (A':=A.in1) nE nU dx dy (bd (e6 (aJ:1+6≤8) A.units) R.room)
  have e:decide (vs=ws)=(bo ia.size).all (λj=>decide (vs[j]? =ws[j]?)):=by
   rw[Ed _ _,nE.size,nU.size,←hsz,Nat.min_self _,qF _,Ig _]
  rw[e];exact⟨RcAt.lists ha hc hsz CG z,RcNeAt.lists ha hc hsz CG z⟩
 ·have hb:(ia.size !=ic.size)=ab:=bne_iff_ne.mpr hsz
  rw[i0 λe=>hsz (nE.size.symm.trans ((ay oq e).trans nU.size))];exact⟨RcAt.lists_lengths ha hc hb CG,RcNeAt.lists_lengths ha hc hb CG⟩
theorem U7{u w:SV}{vs ws:List SV}{Q:QV}{X:QX}(hu:de G h u vs)(hw:de G h w ws)(dx:eK 6 vs=ab)(dy:eK 6 ws=ab)(hq:Q (.bool (!decide (vs=ws))) h):WO G F b fr h [u,w] (bw (c5 .NotEq)) Q X:=.mk λown ae A P m s Q' E' a5 R d7 c d=>gu d7 λv u hx hy=>(R.UC hu hw hx hy dx dy).2 _ _ _ _ (c.here hq rfl R)
theorem Va{u:SV}{vs:List SV}{Q:QV}{X:QX}(hu:de G h u vs)(hz:vs.length≤cR)(hq:Q (.tup vs) h):WC G F b fr h (.ty "tuple") [u] Q X:=by
 refine .mk λown ae A P m s Q' E' f' a5 R hf hv c d=>hf▸jx hv λu' kM=>bP (R.jd hu kM) λa xs e hL hX=>e▸call_tuple_list (hsz:=hX.size▸hz) hL λh' hk=>?_;refine bH ((R.grow hk rfl rfl:Rel G F b own ae A P m fr h {s with heap:=h'}).Ei hX) λP' le bk hv=>?_;rw[ahg] at bk;exact c _ _ _ _ P' m hq le .rfl hv bk
noncomputable def fh(vs:List SV)(lo hi:Option Int):List SV:=(vs.drop (lo.elim 0 (fE vs.length))).take (hi.elim vs.length (fE vs.length) - lo.elim 0 (fE vs.length))
theorem B5{n j:Nat}:fE n (j:Int)=min j n:=by
 unfold fE;rw[show(if(j:Int) <0 then(j:Int)+n else j)=j from aK (qG.mpr (jq j))];exact if h:j≤n then(ay (λz:Int=>(max 0 z).toNat) (ahh (wZ.mpr h))).trans ((ay Ih (Qy (jq j))).trans (sA h).symm)
  else(ay (λz:Int=>(max 0 z).toNat) (Int.min_eq_right (wZ.mpr (Ii h)))).trans ((ay Ih (Qy (jq n))).trans (Ij (Ii h)).symm)
def xK(G:Gl)(F:FD)(b:Nat)(fr:SF)(h:SH)(e:Option Expr)(Q:Option Int→SH→Prop)(X:QX):Prop:=match e with
 |none=>Q af h
 |some e=>WE G F b fr h e (λv h'=>∃i,v=.int i∧Q (aa i) h') X
theorem aO.slice{vs:List SV}{xs:Array Value}(hX:aO P m vs xs.toList)(lo hi:Option Int):aO P m (fh vs lo hi) (slicePick xs lo hi af).toList:=by
 rw[slicePick_plain _ _ _,fh,hX.size];exact(hX.drop _).take _
theorem M8{e:Option Expr}{Q:Option Int→SH→Prop}{X:QX}{Q':Value→ak→Prop}{E':Value→ak→Prop}(w:xK G F b fr h e Q X)(R:Rel G F b own ae A P m fr h s)(d:g0 G F b own ae A P m fr X E')
  (c:∀i h' v' s' P' m',Q i h'→P.le P'→m.le m'→zV v' i→Rel G F b own ae A P' m' fr h' s'→Q' v' s'):aw (aR G.prog G.w) A (evalPart e ae) Q' E' s:=by
 cases e with
 |none=>rw[evalPart_none _];exact aD (c _ _ _ _ _ _ w .rfl .rfl .none R)
 |some e=>
  refine w.run own ae A P m s _ _ R (λv ag v' aZ bW bU hq hP hm hv a6=>?_) d;obtain⟨i,rfl,hq⟩:=hq;obtain⟨t,rfl⟩:=hv;exact c _ _ _ _ _ _ hq hP hm (.int ..) a6
theorem AJ(i:Int)(n:Nat):(if i<0 then max (i+(n:Int)) 0 else min i (n:Int))=((fE n i:Nat):Int):=by
 rw[clipAt_cast _ _];exact if h:i<0 then(aP h).trans ((Int.max_comm _ _).trans (ay (max 0) (((ay (min · (n:Int)) (aP h)).trans (ahh (Int.add_le_of_le_sub_right ((Int.sub_self (n:Int)).symm▸ahi h)))).symm)))
  else(aK h).trans (((Qy (Int.le_min.mpr ⟨qG.mp h,jq n⟩)).symm).trans (ay (λx=>max 0 (min x (n:Int))) (aK h).symm))
theorem ac9(lo hi:Option Int)(n:Nat):Ik lo hi 1 (n:Int)=(((lo.elim 0 (fE n):Nat):Int),((hi.elim n (fE n):Nat):Int)):=by
 cases lo with
 |none=>cases hi with
  |none=>rfl
  |some i=>exact jw rfl (AJ i n)
 |some j=>cases hi with
  |none=>exact jw (AJ j n) rfl
  |some i=>exact jw (AJ j n) (AJ i n)
theorem VN(a c:Nat):ahj (a:Int) (c:Int) 1=c-a:=by
 show(if(a:Int) <c then((c:Int) - a-1) / 1+1 else 0:Int).toNat=_;exact if h:(a:Int) <c then(ay Ih ((aP h).trans ((ay (· +1) (agn _)).trans (ahk _ _)))).trans (Int.toNat_sub c a)
  else(ay Ih (aK h)).trans (Nat.sub_eq_zero_of_le (wZ.mp (qG.mp h))).symm
theorem Mk{E:Value→ak→Prop}{v:Value}{k:Option Int}{Q:Option Int→ak→Prop}(hp:zV v k)(hq:Q k s):aw (aR G.prog G.w) A (alr v) Q E s:=by
 cases hp with
 |none=>exact ahl hq
 |int i t=>exact als hq
theorem adi{E:Value→ak→Prop}{sl:au}{n:Nat}{vl vu:Value}{lo hi:Option Int}{Q:Int×Int×Nat→ak→Prop}(hs:s.heap.IsSliceOf sl vl vu .none)(pl:zV vl lo)(pu:zV vu hi)
  (hq:Q (((lo.elim 0 (fE n):Nat):Int),1,hi.elim n (fE n) - lo.elim 0 (fE n)) s):aw (aR G.prog G.w) A (ahm (.ref sl) (pure (n:Int))) Q E s:=by
 refine bH (id hs) λos s6 Oz kC=>?_;unfold ahm alt;refine wb (wb (uB s6 kC (x:=vl) rfl (wb (uB s6 kC (x:=vu) rfl (wb (uB s6 kC (x:=.none) rfl (aD (wb (ahl ?_)))))))));show aw _ _ (if((1:Int)==0)=ab then _ else _) _ _ s;refine dU rfl (wb (Mk pl (wb (Mk pu (wb (aD ?_))))));show aw _ _ (pure ((Ik lo hi 1 (n:Int)).1,(1:Int),ahj (Ik lo hi 1 (n:Int)).1 (Ik lo hi 1 (n:Int)).2 1)) _ _ s;rw[ac9 _ _ _];exact aD ((VN _ _).symm▸hq)
theorem WU(xs:Array Value)(a c:Nat):((bo (c-a)).filterMap λ(k:Nat)=>xs[((a:Int)+(k:Int)*1).toNat]?).toArray=((xs.toList.drop a).take (c-a)).toArray:=by
 have e:(λ(k:Nat)=>xs[((a:Int)+(k:Int)*1).toNat]?)=λk=>xs[a+k]? :=funext λk=>ay (λi:Nat=>xs[i]?) ((ay (λz:Int=>((a:Int)+z).toNat) (Int.mul_one _)).trans (HT (a+k)));have:=pick_run xs a (c-a);rw[List.filterMap_map] at this;rw[e];exact ay List.toArray this
theorem Vt{E:Value→ak→Prop}{t sl:au}{xs:Array Value}{vs:List SV}{vl vu:Value}{lo hi:Option Int}{Q:Value→ak→Prop}(R:Rel G F b own ae A P m fr h s)(ht:IsTup s.heap t xs)(hX:aO P m vs xs.toList)(hs:s.heap.IsSliceOf sl vl vu .none)(pl:zV vl lo)(pu:zV vu hi)(hz:vs.length≤cR)
  (hv:VR P m (.tup vs) (.ref t)) (c:∀v' s' P',P.le P'→VR P' m (.tup (fh vs lo hi)) v'→Rel G F b own ae A P' m fr h s'→Q v' s'):aw (aR G.prog G.w) A (i6 (.ref t) (.ref sl)) Q E s:=by
 refine bH (id hs) λos s6 Oz kC=>?_;have hp:fh vs lo hi=(vs.drop (lo.elim 0 (fE xs.size))).take (hi.elim xs.size (fE xs.size) - lo.elim 0 (fE xs.size)):=hX.size▸rfl;rw[hp] at c;unfold i6;refine dM (wb (zR ht.typeIs aW (wb (qK (name:=d5 "__getitem__") ht.typeIs DG
  (i5 DG ht.typeIs ahn ?_ (aho _ _))))))
 show aw _ _ (Ql (.ref t) >>=_) _ _ s;refine wb (alu ht (wb (uF ⟨os,s6,Oz⟩ (pz rfl (wb (adi hs pl pu ?_))))));generalize lo.elim 0 (fE xs.size)=a at c ⊢;generalize hi.elim xs.size (fE xs.size)=e at c ⊢;clear pl pu hp;show aw _ _ (if((a:Int)==0 && (1:Int)==1 && (e-a)==xs.size)=ab then _ else _) _ _ s;refine jM (λhw=>?_) λhw=>?_
 ·have hw:=(bO _ _).mp hw
  have ha:a=0:=w7 (eq_of_beq ((bO _ _).mp hw.1).1);have ev:(vs.drop a).take (e-a)=vs:=by rw[eq_of_beq hw.2,ha,←hX.size];exact zW
  rw[ev] at c;exact wb (wb (uF ht.typeIs (aD (wb (jK (aD ⟨_,rfl,aD (c (.ref t) s P .rfl hv R)⟩))))))
 ·rw[WU _ _ _]
  refine wb (m:=alv _) (sF (aD ⟨_,rfl,aD ?_⟩) ?_)
  ·refine bH (R.Ei ((hX.drop a).take (e-a))) λP' le bk qt=>?_
   exact c _ _ P' le qt bk
  ·show Array.size _≤cR
   rw[agh];exact ah (List.length_take_le' _ _) (ah (bF zX) (ah (ku _ _) (ah (bF (fQ.trans hX.size.symm)) hz)))
def SL(G:Gl)(h:SH)(u:SV)(lo hi:Option Int)(Q:QV):Prop:=
 (∃vs,u=.tup vs∧vs.length≤cR∧Q (.tup (fh vs lo hi)) h)∨∃vs,de G h u vs∧vs.length≤cR∧∃n,h n=af∧Q (.ref n) (h.set n (.list (fh vs lo hi)))
theorem zn{wA:Expr}{lo hi:Option Expr}{p pos:Pos}{Q:QV}{X:QX}
  (w:WE G F b fr h wA (λu ag=>xK G F b fr ag lo (λi aC=>xK G F b fr aC hi (λj cK=>SL G cK u i j Q) X) X) X):
  WE G F b fr h (.Subscript wA (.Slice lo hi af p) pos) Q X:=by
 refine .mk ?_;intro own ae A P m s Q' E' R c d;rw[eval_Subscript _ _ _];refine wb (w.run own ae A P m s _ _ R (λu ag u' aZ bW bU hq hP hm hu a6=>?_) d);refine wb (dM (wpAny_Slice (M8 hq a6 (d.mono hP hm) λi aC vl bz cD cu h9 cQ cJ pl bk=>M8 h9 bk (d.mono (hP.trans cQ) (hm.trans cJ)) λj cK vu ej lI nr qW fS iu pu cW=>?_)));rw[evalPart_none _];refine aD ?_;have BA:=hu.mono (cQ.trans fS).t (cJ.trans iu);have fW:Rel G F b own ae A lI nr fr cK {ej with heap:=ej.heap.push {cls:=.type "slice",data:=.fields #[vl,vu,.none]}}:=cW.grow (λa o e=>dT _ e) rfl rfl;have g:GI G cK u:=by
  rcases qW with⟨vs,rfl,_⟩|⟨vs,hl,_⟩
  ·exact .tup
  ·exact .lst hl
 have fin:∀{v':Value} {s':ak} {P' m'} {v:SV} {h':SH},Q v h'→lI.le P'→nr.le m'→VR P' m' v v'→Rel G F b own ae A P' m' fr h' s'→aw (aR G.prog G.w) A (do P0 wA u' v';pure v') Q' E' s':=λhq a e hv R'=>
  wb (P4 (aD (c _ _ _ _ _ _ hq (((hP.trans cQ).trans fS).trans a) (((hm.trans cJ).trans iu).trans e) hv R')))
 refine wb (jJ (wb (Ox fW g BA (wb (Qq ?_)))));rcases qW with⟨vs,rfl,hz,hq⟩|⟨vs,hl,hz,n,hn,hq⟩
 ·refine bP (fW.rY BA) λt xs ax ht hX=>?_;subst ax
  exact Vt fW ht hX (ahp ..) pl pu hz BA λv' s' P' le hv R'=>fin hq le .rfl hv R'
 ·refine bP (fW.jd hl BA) λa xs ax hL hX=>?_;subst ax
  refine wpAny_getItem_list_slice hL (ahp ..) pl pu .none (by simp) ?_ (by rw[←hX.size];exact hz);obtain⟨kU,le⟩:=fW.alloc hn (so:=.list (fh vs i j)) (ad:=(ej.heap.objs.size+1,ej.heap.objs.size+1)) (s':={ej with heap:=(ej.heap.push {cls:=.type "slice",data:=.fields #[vl,vu,.none]}).push {cls:=.type "list",data:=.seq (slicePick xs i j af)}})
   (λa o e=>dT _ e) rfl rfl (by rw[mc _ _];exact ar _) (by rw[mc _ _];exact ar _) ⟨rfl,_,0,by rw[←mc ej.heap _];exact fP _ rfl,by
    exact aO.mono aV.le.rfl.t (Aa (fW.dom n hn)) _ (hX.slice i j)⟩
  rw[mc _ _];exact fin hq .rfl le ⟨_,Mu.jb,rfl⟩ kU
end
noncomputable def Aw(y x:Str):Bool:=!(Builtin.Str.occurrences x y 0 x.length 1).isEmpty
variable{Q:QV}{X:QX}
theorem y5{f:Value→Value→Sem Value}{x y r:Int}(hf:∀(M:fD) (w:cE) (A:dZ) (E:Value→ak→Prop) (s:ak) (t u:Tok) (Q:Value→ak→Prop),(∀t' k,Q (.int r t') {s with toks:=k})→aw (aR M w) A (f (.int x t) (.int y u)) Q E s)
  (hq:Q (.int r) h):WO G F b fr h [.int x,.int y] (bw f) Q X:=by
 refine .mk ?_;intro own ae A P m s Q' E' a5 R d7 c d;obtain⟨v,r,rfl,⟨t,rfl⟩,u,r',rfl,⟨t',rfl⟩,rfl⟩:=d7;exact hf _ _ _ _ _ _ _ _ λt' k=>c.here hq ⟨_,rfl⟩ (R.tok k)
theorem Sr{x y:Int}(hq:Q (.int (x+y)) h):WO G F b fr h [.int x,.int y] (bw (m7 .Add)) Q X:=y5 (λ_ _ _ _ _ _ _ _ k=>P.add_int (k _ _)) hq
theorem acw{x y:Int}(hq:Q (.int (x+y)) h):WO G F b fr h [.int x,.int y] (bw (sC .Add)) Q X:=y5 (λ_ _ _ _ _ _ _ _ k=>P.iadd_int (k _ _)) hq
theorem adx{x y:Int}(hq:Q (.int (x-y)) h):WO G F b fr h [.int x,.int y] (bw (m7 .Sub)) Q X:=y5 (λ_ _ _ _ _ _ _ _ k=>P.sub_int (k _ _)) hq
theorem aad{x y:Int}(hq:Q (.int (x-y)) h):WO G F b fr h [.int x,.int y] (bw (sC .Sub)) Q X:=y5 (λ_ _ _ _ _ _ _ _ k=>P.isub_int (k _ _)) hq
theorem R9{x y:Int}(hy:0<y)(hq:Q (.int (x % y)) h):WO G F b fr h [.int x,.int y] (bw (m7 .Mod)) Q X:=by
 refine y5 (λ_ _ _ _ _ _ _ _ k=>AutoIntOps.mod_1 (by simp;exact ahq hy) ?_) hq;rw[Int.fmod_eq_emod_of_nonneg _ (ahi hy)];exact k _ _
theorem He{f:Value→Value→Sem Value}{x y:Int}{r:Bool}(hf:∀(M:fD) (w:cE) (A:dZ) (E:Value→ak→Prop) (s:ak) (t u:Tok) (Q:Value→ak→Prop),Q (.bool r) s→aw (aR M w) A (f (.int x t) (.int y u)) Q E s)
  (hq:Q (.bool r) h):WO G F b fr h [.int x,.int y] (bw f) Q X:=by
 refine .mk ?_;intro own ae A P m s Q' E' a5 R d7 c d;obtain⟨v,r,rfl,⟨t,rfl⟩,u,r',rfl,⟨t',rfl⟩,rfl⟩:=d7;exact hf _ _ _ _ _ _ _ _ (c.here hq rfl R)
theorem abw{x y:Int}(hq:Q (.bool (decide (x<y))) h):WO G F b fr h [.int x,.int y] (bw (c5 .Lt)) Q X:=He (λ_ _ _ _ _ _ _ _ k=>P.lt_int k) hq
theorem Ω{x y:Int}(hq:Q (.bool (decide (x > y))) h):WO G F b fr h [.int x,.int y] (bw (c5 .Gt)) Q X:=He (λ_ _ _ _ _ _ _ _ k=>P.gt_int k) hq
theorem Uc{x y:Int}(hq:Q (.bool (decide (x≥y))) h):WO G F b fr h [.int x,.int y] (bw (c5 .GtE)) Q X:=He (λ_ _ _ _ _ _ _ _ k=>P.ge_int k) hq
noncomputable def isNone:SV→Bool
 |.none=>ab
 |_=>an
noncomputable def l8:SV→Bool
 |.bi _=>an
 |_=>ab
theorem RD{v:SV}{v':Value}(hv:VR P m v v')(hb:l8 v=ab):plainIs v' .none=ab∧(v'==eH)=isNone v:=by
 cases v with
 |none=>obtain rfl:=hv;exact⟨rfl,rfl⟩
 |bool c=>obtain rfl:=hv;exact⟨rfl,rfl⟩
 |int i=>refine xE hv λt bq=>?_;clear hv;subst bq;exact⟨rfl,rfl⟩
 |str i=>refine xE hv λt bq=>?_;clear hv;subst bq;exact⟨rfl,rfl⟩
 |tup vs=>refine oK hv λa _ _ _ j3 _=>?_;clear hv;subst j3;exact⟨rfl,rfl⟩
 |ref n=>refine aj hv λa _ ax=>?_;clear hv;subst ax;exact⟨rfl,rfl⟩
 |range a c=>refine oK hv λr _ _ _ j3 _=>?_;clear hv;subst j3;exact⟨rfl,rfl⟩
 |glob a=>obtain rfl:=hv;exact⟨rfl,rfl⟩
 |bi id=>exact cM hb
 |ty n=>obtain rfl:=hv;exact⟨rfl,rfl⟩
theorem Vl{v:SV}(hb:l8 v=ab)(hq:Q (.bool (!isNone v)) h):WO G F b fr h [v,.none] (bw (c5 .IsNot)) Q X:=by
 refine .mk ?_;intro own ae A P m s Q' E' a5 R d7 c d;refine gu d7 λv' u hv hu=>?_;obtain rfl:=hu;refine xA (RD hv hb) λh1 h2=>?_;refine wpAny_isNot_plain h1 ?_;rw[h2];exact c.here hq rfl R
theorem ab4{x y:Str}(hq:Q (.bool (Aw y x)) h):WO G F b fr h [.str y,.str x] (bw (c5 .In)) Q X:=by
 refine .mk ?_;intro own ae A P m s Q' E' a5 R d7 c d;obtain⟨v,r,rfl,⟨t,rfl⟩,u,r',rfl,⟨t',rfl⟩,rfl⟩:=d7;exact PySem.P.in_str (c.here hq rfl R)
theorem Ru{x:Str}(nY:x.length<2^62)(hq:Q (.int x.length) h):WC G F b fr h (.bi "len") [.str x] Q X:=by
 first|refine jO ?_|refine jP ?_
 intro own ae A P m s Q' E' a5 R hv c d;refine jx hv λu' zA=>?_
 first|refine nc zA λt=>?_|refine pG zA λt=>?_
 exact PySem.P.len_str (Ms nY) (c.here hq ⟨_,rfl⟩ (R.tok _))
theorem ady{x:Str}{i:Int}{ch:Nat}(AX:-(2^63)≤i)(yA:i<2^63)(hc:(oz i x.length).bind (x.cps[·]?)=aa ch)(hq:Q (.str ⟨#[ch]⟩) h):WO G F b fr h [.str x,.int i] (bw i6) Q X:=by
 refine .mk ?_;intro own ae A P m s Q' E' a5 R d7 c d;obtain⟨v,r,rfl,⟨t,rfl⟩,u,r',rfl,⟨t',rfl⟩,rfl⟩:=d7;refine PySem.P.getItem_str (by simp;lia) hc (c.here hq ⟨_,rfl⟩ (R.tok _))
theorem UU{i:Int}{Q:Bool→SH→Prop}(hq:Q (i !=0) h):WT G F b fr h (.int i) Q X:=by
 refine .mk ?_;intro own ae A P m s Q' E' v' R hv c d;refine xE hv λt bq=>?_;clear hv;subst bq;exact ahr (c _ _ _ P m hq .rfl .rfl R)
theorem Zi{prog:fD}{w:cE}{A:dZ}{E:Value→ak→Prop}{s:ak}{n:Int}{t:Tok}{Q:Value→ak→Prop}
  (h:Q (.ref s.heap.objs.size) {s with heap:=s.heap.push {cls:=.type "range",data:=.fields #[.int 0 s.toks,.int n t,.int 1 (s.toks+1)]},toks:=s.toks+1+1}):
  aw (aR prog w) A (pv (.type "range") [.int n t]) Q E s:=
 callType_new F.called_range aW (F.typeCall_range_1 _) (F.newCall_range_1 _) (λobj=>F.initArgs_range_1 obj _) F.entry_range_new
  (AutoRange.range___new___type_int_0 n t (by rw[pA _ _];kernel_rfl)) ⟨⟨_,fP _ rfl,rfl⟩,h⟩
theorem Sz{n:Int}(hq:Q (.range 0 n) h):WC G F b fr h (.ty "range") [.int n] Q X:=by
 first|refine jO ?_|refine jP ?_
 intro own ae A P m s Q' E' a5 R hv c d;refine jx hv λu' zA=>?_
 first|refine nc zA λt=>?_|refine pG zA λt=>?_
 refine Zi ?_;refine xA (R.IW {cls:=.type "range",data:=.fields #[.int 0 s.toks,.int n t,.int 1 (s.toks+1)]} rfl) λbk le=>?_;exact c _ _ _ _ _ m hq le .rfl ⟨_,s.toks,t,s.toks+1,rfl,aP rfl⟩ (bk.tok _)
noncomputable def rI:SV→Option Bool
 |.none=>aa an
 |.bool c=>aa c
 |.int i=>aa (i !=0)
 |_=>af
theorem Sd{prog:fD}{w:cE}{E:Value→ak→Prop}{v:SV}{v':Value}{c:Bool}{Q:Bool→ak→Prop}(hv:VR P m v v')(hc:rI v=aa c)(hq:Q c s):aw (aR prog w) A (zL v') Q E s:=by
 cases v with
 |none=>obtain rfl:=hv;(first|exact a7 hc|obtain rfl:=aY hc);exact aD hq
 |bool c=>obtain rfl:=hv;(first|exact a7 hc|obtain rfl:=aY hc);exact HK hq
 |int i=>refine xE hv λt bq=>?_;clear hv;subst bq;(first|exact a7 hc|obtain rfl:=aY hc);exact ahr hq
 |_=>(first|exact a7 hc|obtain rfl:=aY hc)
theorem aal{vs:List SV}{ts:List Bool}{xs:Array Value}(hX:aO P m vs xs.toList)(ht:vs.map rI=ts.map aa):
  TruthOf G.prog G.w A' (λi v=>xs[i]? =aa v) (λi=>ts.getD i an):=by
 intro i v s Q E hi hq;obtain⟨hj,e⟩:=oi.mp hi;refine aj (hX.at hj) λx q1 q2=>?_;rw[e] at q2;have h1:(vs.map rI)[i]? =aa (rI x):=by rw[dv,q1];rfl
 rw[ht] at h1;simp only[dv] at h1
 cases h2:ts[i]? with
 |none=>rw[h2] at h1;(first|exact a7 h1|obtain rfl:=aY h1)
 |some c=>
  rw[h2] at h1;simp at h1;refine Sd q2 h1.symm ?_;have:ts.getD i an=c:=by unfold List.getD;rw[h2];rfl
  rw[←this];exact hq
theorem JX:∀(ts:List Bool),(bo ts.length).all (λi=>ts.getD i an)=ts.all id
 |[]=>rfl
 |t::ts=>by
  rw[iE,Qz,DH,ahs,DH,←JX ts];rfl
theorem OY:∀(ts:List Bool),(bo ts.length).any (λi=>ts.getD i an)=ts.any id
 |[]=>rfl
 |t::ts=>by
  rw[iE,Qz,PZ,aht,PZ,←OY ts];rfl
theorem JV(R:Rel G F b own ae A P m fr h s)(hF:F.q=ab){u:SV}{u':Value}{vs:List SV}{ts:List Bool}(hl:de G h u vs)(hu:VR P m u u')(ht:vs.map rI=ts.map aa){Q':Value→ak→Prop}{E':Value→ak→Prop}(all:Bool)
  (c:∀s',Rel G F b own ae A P m fr h s'→Q' (.bool (if all then ts.all id else ts.any id)) s'):aw (aR G.prog G.w) A (pv (.builtin (if all then "all" else "any")) [u']) Q' E' s:=by
 refine bP (R.jd hl hu) λa xs ax hL hX=>?_;subst ax;have hsz:ts.length=xs.size:=by
  rw[←hX.size];have:=ay oq ht
  simpa using this.symm
 have it:∀{Q:Value→ak→Prop},(∀I h',h'.IsListIter I a 0→h'.IsList a xs→a≠I→(∀b o,b≠I→s.heap.get? b=aa o→h'.get? b=aa o)→s.heap.get? I=af→Q (.ref I) {s with heap:=h'})→aw (aR G.prog G.w) A.in1 (qM (.ref a)) Q E' s:=by
  intro Q hQ;have hI:s.heap.get? s.heap.objs.size=af:=zQ (ar _);have dh:a≠s.heap.objs.size:=λe=>by refine aj hL λo ho _=>?_;clear hL;rw[e,hI] at ho;exact a7 ho
  exact Qf hL (hQ _ _ ⟨_,fP _ rfl,rfl,rfl⟩ (let⟨o,e1,e2⟩:=hL;⟨o,dT _ e1,e2⟩) dh (λb o _ e=>dT _ e) hI)
 have tr:=λA'=>aal (G:=G) (A':=A') hX ht
 cases all with
 |true=>
  refine call_all_walk (it λI h' h1 h2 dh hk hI=>?_);refine⟨I,_,_,_,_,_,_,rfl,QA (A:=A.in1) (R.quiet hF) I a dh xs,⟨h1,h2⟩,tr _,λmF tk FV=>?_⟩;rw[←hsz,JX _];refine c _ (R.grow (s':={s with heap:=mF,toks:=tk}) (λb o e=>?_) rfl rfl);have:b≠I:=λe'=>by rw[e',hI] at e;exact a7 e
  exact FV b o (by simpa using this) (hk b o this e)
 |false=>
  refine call_any_walk (it λI h' h1 h2 dh hk hI=>?_);refine⟨I,_,_,_,_,_,_,rfl,QA (A:=A.in1) (R.quiet hF) I a dh xs,⟨h1,h2⟩,tr _,λmF tk FV=>?_⟩;rw[←hsz,OY _];refine c _ (R.grow (s':={s with heap:=mF,toks:=tk}) (λb o e=>?_) rfl rfl);have:b≠I:=λe'=>by rw[e',hI] at e;exact a7 e
  exact FV b o (by simpa using this) (hk b o this e)
theorem XA{u:SV}{vs:List SV}{ts:List Bool}(hF:F.q=ab)(hl:de G h u vs)(ht:vs.map rI=ts.map aa)(hq:Q (.bool (ts.all id)) h):WC G F b fr h (.bi "all") [u] Q X:=by
 first|refine jO ?_|refine jP ?_
 intro own ae A P m s Q' E' a5 R hv c d;refine jx hv λu' hu=>?_;exact JV R hF hl hu ht ab λs' R'=>c.here hq rfl R'
theorem RT{u:SV}{vs:List SV}{ts:List Bool}(hF:F.q=ab)(hl:de G h u vs)(ht:vs.map rI=ts.map aa)(hq:Q (.bool (ts.any id)) h):WC G F b fr h (.bi "any") [u] Q X:=by
 first|refine jO ?_|refine jP ?_
 intro own ae A P m s Q' E' a5 R hv c d;refine jx hv λu' hu=>?_;exact JV R hF hl hu ht an λs' R'=>c.here hq rfl R'
theorem YS{n:Nm}{C:au}{fs:SF}{Q:Bool→SH→Prop}(hn:h n=aa (.inst C fs))(hs:ie G.K (.ref C) "__bool__"=aa af)(hl:ie G.K (.ref C) "__len__"=aa af)(hq:Q ab h):WT G F b fr h (.ref n) Q X:=by
 refine .mk ?_;intro own ae A P m s Q' E' v' R hv c d;refine R.ww hn hv λbT xs k h1 q2 q3 q4 q5 I=>?_;unfold zL;refine wb (m:=Qp (.ref bT.1) (d5 "__bool__")) (wb (wb (I.type.here ((P8 R.fY hs).here (aD ?_)))));refine wb (wb (I.type.here ((P8 R.fY hl).here ?_)));exact aD (c _ _ _ P m hq .rfl .rfl R)
theorem SK{n:Nm}{C f:au}{fs:SF}(hn:h n=aa (.inst C fs))(hs:ie G.K (.ref C) "__len__"=aa (aa (.ref f)))(hf:isFn G.K (.ref f)=ab)
  (w:CC G F b fr h (.glob f) [.ref n] (λv h'=>∃i:Nat,v=.int i∧i<2^62∧Q (.int i) h')):WC G F (b+1) fr h (.bi "len") [.ref n] Q X:=by
 first|refine jO ?_|refine jP ?_
 intro own ae A P m s Q' E' a5 R hv c d;refine jx hv λu' zA=>?_;refine R.ww hn zA λbT xs k h1 q2 q3 q4 q5 I=>?_;refine ahu kind_len plain_len entry_len (args_len1 _) ?_;unfold Builtin.«len»;refine wb (m:=oneArg "len" _) (aD ?_);refine wb (m:=Qp (.ref bT.1) (d5 "__len__")) (special_fn R.fY I hs (eX.mp hf) (P7 (w.run own ae A.in1 P m s _ _ _ (R.lower A.in1 rfl (bR _) rfl rfl (by show A.units+1≤_;exact e6 aJ _):Rel G F b own ae A.in1 P m fr h s) rfl (aO.one ⟨bT,h1,rfl⟩) λv h' v' s' P' m' hq hP hm hv R'=>?_)));obtain⟨i,rfl,hi,hq⟩:=hq;obtain⟨t,rfl⟩:=hv;refine wb (dM (aD ?_));refine wb (wpAny_letGo ?_);show aw _ _ (if(i:Int) <0 then _ else _) _ _ _;rw[aK (qG.mpr (jq _))];show aw _ _ (if(i:Int)≥2^63 then _ else _) _ _ _;rw[aK (Ms hi)];refine wb (wpAny_mkInt (aD (aU _ rfl ?_)));exact c _ _ _ _ _ _ hq hP hm ⟨_,rfl⟩ ((R.Mc R' rfl).tok _)
theorem VW{f:SV}{f':Value}{args:List Expr}{pos:Pos}{K:List SV→SH→Prop}{X:QX}{Q':Value→ak→Prop}{E':Value→ak→Prop}(hf:callable G f=ab)(hs:∀ae,(jv pos (gh args ae)).any (·.1)=an)
  (w:j7 G F b fr h args K X) (R:Rel G F b own ae A P m fr h s) (hv:VR P m f f') (d:g0 G F b own ae A P m fr X E')
  (c:∀vs aC a5 bz cD cu,K vs aC→P.le cD→m.le cu→aO cD cu vs a5→Rel G F b own ae A cD cu fr aC bz→aw (aR G.prog G.w) A (pv f' a5) Q' E' bz):
  aw (aR G.prog G.w) A (wX pos f' [] (jv pos (gh args ae)) []) Q' E' s:=by
 refine callWith_of (P:=λhp=>G.K.In hp) (by rw[hs ae];rfl) (λhp K=>Pr hf hv hp K) ?_;have body:=w.run own ae A P m s pos (λvs s'=>G.K.In s'.heap∧aw (aR G.prog G.w) A (pv f' ([]++vs) []) Q' E' s') E' R (λvs aC a5 bz cD cu hq hP hm qt bk=>
  ⟨bk.fY,c vs aC a5 bz cD cu hq hP hm qt bk⟩) d
 exact Mz (hs ae) body
inductive C4(G:Gl)(h:SH):List SV→dm→Prop
 |lst {n:Nm} {vs:List SV} (hn:h n=aa (.list vs)):C4 G h [.ref n] (.enumL n)
 |tup {vs:List SV}:C4 G h [.tup vs] (.enumT vs)
theorem ZP{func:Expr}{args:List Expr}{pos:Pos}{Q:dm→SH→Prop}(sU:∀ae,d9 (.Call func args [] pos) ae=(do wX pos (←d9 func ae) [] (jv pos (gh args ae)) []))
  (hs:∀ae,(jv pos (gh args ae)).any (·.1)=an)
  (w:WE G F b fr h func (λf ag=>f=.ty "enumerate"∧j7 G F b fr ag args (λvs aC=>∃k,C4 G aC vs k∧Q k aC) X) X):WI G F b fr h (.Call func args [] pos) Q X:=by
 refine .mk ?_;intro own ae A P m s Q' E' R c d;rw[sU ae];refine wb (w.run own ae A P m s _ _ R (λf ag f' aZ bW bU hq hP hm hf a6=>?_) d);obtain⟨rfl,hq⟩:=hq;refine VW (f:=.ty "enumerate") rfl hs hq a6 hf (d.mono hP hm) λvs aC a5 bz cD cu hk cQ cJ hv bk=>?_;obtain rfl:f'=.type "enumerate":=hf;obtain⟨k,hk,hq⟩:=hk;have fin {J e:au} {h':cO} {T:String} {fs:Array Value} (hE:IsEnum h' e J 0 .none) (hk:∀b o,bz.heap.get? b=aa o→h'.get? b=aa o) (hI:kY k 0 cD cu h' e [e,J]) (he:bz.heap.get? e=af) (hJ:bz.heap.get? J=af) (x:∃o,h'.get? J=aa o∧o.cls=.type T∧o.data=.fields fs) (hp:Cy T=ab):
   aw (aR G.prog G.w) A (qM (.ref e)) Q' E' {bz with heap:=h'}:=by
  refine agq hE (c _ _ _ _ {bz with heap:=h'} _ _ hq (hP.trans cQ) (hm.trans cJ) (bk.grow (s':={bz with heap:=h'}) hk rfl rfl) hI ⟨λa ha=>?_⟩);rcases dE.mp ha with rfl|ha
  ·obtain⟨q1,q2,q3,q4⟩:=bk.fresh he
   exact(th q1 q3 q2 q4 _ hE (u5 rfl aW aW) (p8 rfl))
  ·cases bS.mp ha
   obtain⟨q1,q2,q3,q4⟩:=bk.fresh hJ;exact(s9 q1 q3 q2 q4 (yf hp x))
 have LF:bz.heap.get? bz.heap.objs.size=af:=zQ (ar _);have rx:bz.heap.get? (bz.heap.objs.size+1)=af:=zQ (bR _);have dh:bz.heap.objs.size+1≠bz.heap.objs.size:=ahv _
 cases hk with
 |lst hn=>
  refine jx hv λu' zA=>?_;refine uN zA λad uU=>?_;refine bk.mG hn uU λxs kk q2 q3=>?_;exact call_enumerate_list ⟨_,q2,rfl,kk,rfl⟩ λh' hE hit hsz hk=>fin hE hk ⟨_,_,rfl,dh,hE,ad,uU,hit⟩ rx LF hit rfl
 |tup=>
  refine jx hv λu' hu=>?_;obtain⟨a,xs,rfl,ht,hX⟩:=bk.oc hu;exact aeg ht λh' hE hit hsz hk=>fin hE hk ⟨_,_,rfl,dh,hE,a,hu,hit⟩ rx LF hit rfl
def FW(G:Gl)(F:FD)(b:Nat)(fr:SF)(h:SH)(elt:Expr)(gens:List dC)(scope:cb)(pos:Pos)(iter:Expr)(Q:QV)(X:QX):Prop:=
 WI G F b fr h iter (λk ag=>∃acc,ag acc=af∧C9 G (da scope F) b (gX scope fr) (ag.set acc (.list [])) elt gens scope pos acc 0 k 0 (λ_ aC=>Q (.ref acc) aC)) X
theorem T9{g:dC}{gs:List dC}(h:g.is_async=0):QB (g::gs)=an:=by cases g;exact ay (λx:Int=>x !=0) h
theorem Sc{g:dC}{gs:List dC}:firstIter (g::gs) ae=d9 g.iter ae:=by cases g;rfl
theorem OI{elt:Expr}{g:dC}{gs:List dC}{scope:cb}{pos:Pos}{Q:QV}{X:QX}{wh:Option (Value→Sem Unit)}{Q':Value→ak→Prop}{E':Value→ak→Prop}
  (hg:lM (g::gs)=ab) (ok:qo scope F=ab) (oG:∀ae x,w0 g.iter ae x=pure x) (w:FW G F b fr h elt (g::gs) scope pos g.iter Q X)
  (R:Rel G F b own ae A P m fr h s) (d:g0 G F b own ae A P m fr X E')
  (c:∀v aC v' bz cD cu C,Q v aC→P.le cD→m.le cu→VR cD cu v v'→Rel G F b own ae A cD cu fr aC bz→fK G own cD cu bz.heap [C]→(∃mm,bz.heap.Ns C mm)→HY (aR G.prog G.w) A E' wh Q' v' C (.ok .next) bz):
  aw (aR G.prog G.w) A (comprehension (.ListComp elt (g::gs) scope pos) scope ae (firstIterPos (g::gs) pos) (newList []) (QB (g::gs)) (firstIter (g::gs) ae) wh) Q' E' s:=by
 have K:=Cd.of ok;rw[T9 (eq_of_beq (dc.mp hg g (.head _))),Sc];refine wpAny_comprehension_free (e:=.ListComp elt (g::gs) scope pos) rfl (oG ae) (Sx λp hp hk=>aj (R.f.rU p.1 (K.fr p hp hk)) λc hc _=>⟨c,hc⟩) K.fn (λx hx e=>(HP K.nd hx).trans (ay aa e)) ?_;refine w.run own ae A P m s _ _ R (λk ag I T aZ bW bU hq hP hm a6 hI hT=>aj hq λacc EW hC=>?_) d;refine xA (a6.alloc EW (so:=.list []) (ad:=(aZ.heap.objs.size,aZ.heap.objs.size)) (s':={aZ with heap:=aZ.heap.push {cls:=.type "list",data:=.seq #[]}})
  (λa o e=>dT _ e) rfl rfl (ar _) (ar _) ⟨rfl,#[],0,fP _ rfl,rfl⟩) λbk le=>sF (aev λbY he=>?_)
 refine bH (bk.Up K he) λmC cW uo yV=>?_;have keep:=λ{a o} (e:aZ.heap.get? a=aa o)=>Qh scope.names _ a o (dT {cls:=.type "dict",data:=.dict #[]} (dT {cls:=.type "list",data:=.seq #[]} e));have nO:=bk.Mq (uo _ yV);have rT:=hC.run mC _ A _ _ _ I T (HY (aR G.prog G.w) A E' wh Q' (.ref aZ.heap.objs.size) bY.locals) (aZ.heap.objs.size,aZ.heap.objs.size) cW
  (hI.move bk.uf.t le λa ha=>Bl (hT.all a ha) λ_ _ _ _ o ho _=>(keep ho).trans ho.symm)
  ⟨λa ha=>Bl (hT.all a ha) λt1 t2 t3 t4 o ho t5=>⟨(mq t2 _).trans t1,λhx=>fu ((dT _ ho).symm.trans (uo a hx)),λn ad e=>if z:n=acc then aY ((aP z).symm.trans e)▸⟨du (jI ho),du (jI ho)⟩ else t3 n ad ((aK z).symm.trans e),t4,o,keep ho,t5⟩⟩
  Mu.jb λfr' jZ nH FS Hk hq TK HA fW=>jF (bk.leave fW TK HA λl l' h1 h2=>⟨[],aY (h2.symm.trans h1),λa ha=>cS ha⟩) λl1 l2 kU=>fW.f.ns.elim λmm ly=>c _ jZ _ nH (FS.less own) Hk _ hq (hP.trans l1) ((hm.trans le).trans HA) ⟨_,HA _ _ Mu.jb,rfl⟩ kU
   ⟨λa ha=>(bS.mp ha).symm▸Hh ly.1 λo es ep q1 q2 _=>⟨(nh nO).trans (fW.ownP _ yV),nO,λn ad e=>have z:=fW.sep n ad e;⟨λq=>z.2.2.1 (q▸yV),λq=>z.2.2.2 (q▸yV)⟩,
    wT.mpr λo z=>fu ((fW.basePR _ _ z).symm.trans (fW.ownP _ yV)),o,q1,xi q2,λv e=>nomatch q2.symm.trans e⟩⟩ ⟨mm,ly.1⟩
 exact NE (d:=0) (g:=g) rfl hg rT (Kv cW (hI.move bk.uf.t le λa ha=>Bl (hT.all a ha) λ_ _ _ _ o ho _=>(keep ho).trans ho.symm) rT)
theorem MS{elt:Expr}{g:dC}{gs:List dC}{scope:cb}{pos:Pos}(hg:lM (g::gs)=ab)(ok:qo scope F=ab)(oG:∀ae x,w0 g.iter ae x=pure x)
  (w:FW G F b fr h elt (g::gs) scope pos g.iter Q X):WE G F b fr h (.ListComp elt (g::gs) scope pos) Q X:=by
 refine .mk ?_;intro own ae A P m s Q' E' R c d;rw[eval_ListComp];refine OI hg ok oG w R d λv aC v' bz cD cu C hq hP hm hv bk hT ly=>?_;exact xE ly λmm ly=>⟨mm,ly,λh' hs=>c v aC v' _ cD cu hq hP hm hv (bk.pb (s':={bz with heap:=h'}) hT (λa o ha e=>(hs.2 a λz=>ha (bS.mpr z)).trans e) rfl rfl)⟩
noncomputable def G_(sc:cb)(x:Str)(p:Pos)(scope:cb)(cpos:Pos):Bool:=sc.names.lookup x==aa .local && p.line==cpos.line && !(scope.names.any λ(n,k)=>n==x && (k==.local||k==.cell))
theorem RJ(R:Rel G F b own ae A P m fr h s){x:Str}{p:Pos}{elt:Expr}{gens:List dC}{scope:cb}{cpos:Pos}{line:Nat}:
  Dt (.ListComp elt gens scope cpos) (aa (.Name x p)) line ae=pure (G_ F.sc x p scope cpos):=by
 have hk:ae.blockKind=.function:=by
  unfold Env.blockKind;rw[R.f.sc,R.f.kind];rfl
 unfold Dt G_;simp only[hk,PV,R.f.sc];rfl
theorem Ss{x:Str}{p pos:Pos}{elt:Expr}{g:dC}{gs:List dC}{scope:cb}{cpos:Pos}{Q:QS}{X:dP}(hg:lM (g::gs)=ab)(ok:qo scope F=ab)(oG:∀ae x,w0 g.iter ae x=pure x)(hx:pY F x=ab)
  (w:FW G F b fr h elt (g::gs) scope cpos g.iter (λv ag=>Q .next (fr.put x v) ag) (λy h=>X y fr h)):WS G F b fr h (.Assign [.Name x p] (.ListComp elt (g::gs) scope cpos) pos) Q X:=by
 refine .mk ?_;intro own ae A P m s Q' E' R c d;have e:=RJ R (x:=x) (p:=p) (elt:=elt) (gens:=g::gs) (scope:=scope) (cpos:=cpos) (line:=pos.line);have put:=λ{v aC}=>L5 (G:=G) (b:=b) (pos:=p) (X:=X) (Q:=λfr' h'=>fr'=fr.put x v∧h'=aC) hx ⟨rfl,rfl⟩
 cases Kl:G_ F.sc x p scope cpos with
 |false=>
  refine agd ((MS hg ok oG w).run own ae A P m s _ _ R (λv ag v' aZ bW bU hq hP hm hv a6=>?_) d.j8) (e.trans (ay pure Kl)) rfl;exact put.run own ae A bW bU aZ _ _ v' a6 hv (λfr' h' s' P' m' q a b R'=>c .next (fr.put x v) ag .next _ _ _ hq (hP.trans a) (hm.trans b) rfl (q.1▸q.2▸R')) (d.mono hP hm)
 |true=>
  rw[exec_Assign_Name_used _ _ _ _ (e.trans (ay pure Kl))];refine wb (jJ (wb ?_));show aw _ _ (do let _ ←comprehension (.ListComp elt (g::gs) scope cpos) scope ae (firstIterPos (g::gs) cpos) (newList []) (QB (g::gs)) (firstIter (g::gs) ae) (aa (pq (.Name x p) ae))) _ _ _;refine wb ?_;refine OI hg ok oG w R d.j8 λv aC v' bz cD cu C hq hP hm hv bk hT ly=>oK ly λmm o es ep n1 n2=>xA (bk.hold hT) λcW le=>?_;refine put.run own ae A _ cu bz _ _ v' cW (hv.mono le.t .rfl) (λfr' h' s' P' m' q a b' R'=>?_) (d.mono (hP.trans le) hm);exact x9 (bk.drop hT R' a b') λl1 l2 kU Xz hex=>⟨mm,⟨o,es,ep,(hex C (.head _)).trans n1,n2⟩,λh' hs=>aD (aD (c .next (fr.put x v) aC .next _ _ _ hq (hP.trans l1) (hm.trans b') rfl (q.1▸q.2▸kU.pb (s':={s' with heap:=h'}) Xz (λa o ha e=>(hs.2 a λz=>ha (bS.mpr z)).trans e) rfl rfl)))⟩
theorem Rel.slots(R:Rel G F b own ae A P m fr h s){l:List Env}(hl:A.frames=aa l){hp:cO}(hs:Heap.SlotsOnly (l.filterMap (·.frame)) s.heap hp)(t:Nat):
  Rel G F b own ae A P m fr h {s with heap:=hp,toks:=t}:=by
 obtain⟨Ai,h1,h2,h3,h4,h5⟩:=R.frs;obtain rfl:=aY (h1.symm.trans hl);have AU:∀n ad,m n=aa ad→ad.1∉Ai.filterMap (·.frame)∧ad.2∉Ai.filterMap (·.frame):=λn ad e=>by
  refine mv (R.sep n ad e) λq1 q2 q3 q4=>?_;refine⟨λz=>?_,λz=>?_⟩
  ·rcases h4 _ z with w|⟨o,w⟩
   ·exact q3 w
   ·rw[q1] at w;exact a7 w
  ·rcases h4 _ z with w|⟨o,w⟩
   ·exact q4 w
   ·rw[q2] at w;exact a7 w
 refine⟨R.gens,R.os,λa o e=>?_,R.basePR,⟨Ai,h1,h2.of_slotsOnly hs,h3,h4,λa o e=>?_⟩,λn so e=>?_,R.dom,R.inj,R.sep,R.ownP,R.f.keep .rfl .rfl λa _ o e=>?_,R.depth,R.units,R.guards,R.quiet⟩
 ·exact(hs.2.1 a λz=>by have:=(h2.mem z).1;rw[e] at this;exact fu this).trans (R.bs a o e)
 ·refine aj (h5 a o e) λsl e1 e2=>?_
  refine xE (hs.2.2 a _ e1) λZg e3=>?_;refine(aU Zg e3 (λz=>?_));have:=hs.2.1 a z;rw[e1] at this;have:=ay (λo=>o.map (·.slots)) (e3.symm.trans this);simp at this;exact this.trans (e2 z)
 ·refine aj (R.obj n so e) λad q1 q2=>?_
  refine xA (AU n ad q1) λn1 n2=>?_;exact(aU ad q1 (q2.mono aV.le.rfl.t Mu.le.rfl (λo e=>(hs.2.1 _ n1).trans e) (λo e=>(hs.2.1 _ n2).trans e)))
 ·refine xE (hs.2.2 a o e) λsl e'=>?_
  exact(cL _ e' rfl rfl)
structure vN(G:Gl)(own:List au)(P:aV)(m:Mu)(hp:cO)(e tb:au)(x:String):Prop where
 free:fK G own P m hp [e,tb]
 at_:∃oe vs to vf,hp.get? e=aa oe∧oe.cls=.type x∧oe.data=.fields vs∧vs[1]? =aa (.ref tb)∧hp.get? tb=aa to∧to.cls=.type "traceback"∧to.data=.fields vf∧3<vf.size
 ne:e≠tb
theorem vN.move{hp bV:cO}{e tb:au}{x:String}(N:vN G own P m hp e tb x)(hT:fK G own P' m' bV [e,tb])(hk:∀a∈[e,tb],bV.get? a=hp.get? a):vN G own P' m' bV e tb x:=by
 obtain⟨oe,vs,to,vf,h1,h2,h3,h4,h5,h6⟩:=N.at_;exact⟨hT,⟨oe,vs,to,vf,(hk e dA).trans h1,h2,h3,h4,(hk tb (.tail _ (.head _))).trans h5,h6⟩,N.ne⟩
theorem yz{o:Obj}{x:String}{vs:Array Value}(hc:o.cls=.type x)(hx:x≠"tuple"∧x≠"range")(hd:o.data=.fields vs):¬jX o:=u5 hc hx.1 hx.2
theorem aej(R:Rel G F b own ae A P m fr h s){e:au}{x:String}(hx:x≠"tuple"∧x≠"range")(N:At G.base s.heap P m own e x){Q:Unit→ak→Prop}{E:Value→ak→Prop}
  (c:∀s' tb,Rel G F b own ae A P m fr h s'→vN G own P m s'.heap e tb x→Q () s'):aw (aR G.prog G.w) A (H4 (.ref e) ae) Q E s:=by
 obtain⟨oe,vs,he,u8,hd,h1⟩:=N.obj;have hsz:1<vs.size:=(oi.mp h1).1;obtain⟨l,l1,l2,⟨e0,l',rfl,l3⟩,l4,l5⟩:=R.frs;refine gO l2.2.1 λL oL f1 f2 f3 f4=>?_;unfold H4;simp only[(l3▸f1:ae.frame=aa L)];refine wb (uB he hd h1 ?_);rw[aK aW];unfold PySem.frameOf;refine wb (wb (wpAny_frameEnvs l1 ?_));rw[(by simp[List.dropWhile,l3]:((e0::l').dropWhile λx=>x.frame !=ae.frame)=e0::l')];unfold frameObject;refine wb (wb (wpAny_readyFrames_fun l2 λag Ob=>aD ?_));rw[f1];refine aD ?_;refine wb (wpAny_entryPlaceOf λpl p9=>?_);unfold EntryCells.newEntry newFields;refine wb (sF ?_ (p9.sizeOk5 _ _ _ _ _));have a6:=R.slots l1 Ob s.toks;have ZN:e∉(e0::l').filterMap (·.frame):=λz=>by
  refine mP (l2.mem z) λ_ o ho hn=>?_;rw[he] at ho;obtain rfl:=aY ho;exact hn vs hd
 have KW:ag.get? e=aa oe:=(Ob.2.1 e ZN).trans he;have Hy:=dT (h:=ag) {cls:=.type "traceback",dict:=af,data:=.fields ([eH,.ref L,.none,e_ L,.none]++(if pl.isEmpty then uH 6 eH else pl)).toArray} KW;refine sE Hy hd hsz ?_;have KR:ag.objs.size≠e:=dG (jI KW);have pO:=HU hd (·.setIfInBounds 1 (Du ag.objs.size));have bk:Rel G F b own ae A P m fr h {s with heap:=ag.push {cls:=.type "traceback",dict:=af,data:=.fields ([eH,.ref L,.none,e_ L,.none]++(if pl.isEmpty then uH 6 eH else pl)).toArray}}:=
  a6.grow (s':={s with heap:=ag.push {cls:=.type "traceback",dict:=af,data:=.fields ([eH,.ref L,.none,e_ L,.none]++(if pl.isEmpty then uH 6 eH else pl)).toArray}}) (λa o e=>dT _ e) rfl rfl
 have YY:fK G own P m (ag.push {cls:=.type "traceback",dict:=af,data:=.fields ([eH,.ref L,.none,e_ L,.none]++(if pl.isEmpty then uH 6 eH else pl)).toArray}) [e]:=⟨λa ha=>by
  obtain rfl:a=e:=by simpa using ha
  exact(th N.oU N.own N.mu N.base oe Hy (yz u8 hx hd) (p8 hd))⟩
 have yv:sB e (ag.push {cls:=.type "traceback",dict:=af,data:=.fields ([eH,.ref L,.none,e_ L,.none]++(if pl.isEmpty then uH 6 eH else pl)).toArray}) _:=pt (f:=uI (·.setIfInBounds 1 (.ref ag.objs.size))) ..;have uj:=(yv.2 ag.objs.size KR).trans (fP ag rfl);refine mv (a6.free (s:={s with heap:=ag,toks:=s.toks}) (ar ag.objs.size)) λg1 g2 g3 g4=>?_;have rx:=lf (uI (·.setIfInBounds 1 (.ref ag.objs.size))) Hy (P9 pO);refine c _ ag.objs.size (bk.pb (s':={s with heap:=(ag.push {cls:=.type "traceback",dict:=af,data:=.fields ([eH,.ref L,.none,e_ L,.none]++(if pl.isEmpty then uH 6 eH else pl)).toArray}).update e (uI (·.setIfInBounds 1 (.ref ag.objs.size)))}) YY (λa o ha ea=>(yv.2 a (by simpa using ha)).trans ea) rfl rfl) ⟨⟨λa ha=>?_⟩,⟨_,_,_,_,rx,(Dv ..).trans u8,pO,by simp[hsz],uj,rfl,rfl,by exact aJ⟩,Ne.symm KR⟩;rcases dE.mp ha with rfl|ha
 ·exact(th N.oU N.own N.mu N.base _ rx (yz ((Dv ..).trans u8) hx pO) (p8 pO))
 ·obtain rfl:a=ag.objs.size:=by simpa using ha
  exact(th g1 g3 g2 g4 _ uj (yz rfl aW rfl) (p8 rfl))
theorem I6(R:Rel G F b own ae A P m fr h s){e tb:au}{x:String}(hx:x≠"tuple"∧x≠"range")(N:vN G own P m s.heap e tb x){Q:Unit→ak→Prop}{E:Value→ak→Prop}
  (c:∀s',Rel G F b own ae A P m fr h s'→vN G own P m s'.heap e tb x→Q () s'):aw (aR G.prog G.w) A' (setFlight (.ref e) af) Q E s:=by
 obtain⟨oe,vs,to,vf,h1,h2,h3,h4,h5,h6,h7,h8⟩:=N.at_;refine wpAny_setFlight_none h1 h3 h4 h5 h7 h8 ?_;have yv:sB tb s.heap _:=pt (f:=uI (·.setIfInBounds 3 .none)) ..;have pO:=HU h7 (·.setIfInBounds 3 eH);have pd:=lf (uI (·.setIfInBounds 3 eH)) h5 (P9 pO);have rx:=(yv.2 e N.ne).trans h1;refine c _ (R.pb (s':={s with heap:=s.heap.update tb (uI (·.setIfInBounds 3 .none))}) N.free (λa o ha ea=>(yv.2 a (λz=>ha (by simp[z]))).trans ea) rfl rfl) ⟨⟨λa ha=>?_⟩,⟨_,_,_,_,rx,h2,h3,h4,pd,(Dv ..).trans h6,pO,by simpa using h8⟩,N.ne⟩;have base:=N.free.all a ha;rcases dE.mp ha with rfl|ha
 ·exact(th base.1 base.2.1 base.2.2.1 base.2.2.2.1 _ rx (yz h2 hx h3) (p8 h3))
 ·obtain rfl:a=tb:=by simpa using ha
  exact(th base.1 base.2.1 base.2.2.1 base.2.2.2.1 _ pd (yz ((Dv ..).trans h6) aW pO) (p8 pO))
noncomputable def FD.loud(F:FD):FD:={F with q:=an}
theorem Rel.mark(R:Rel G F b own ae A P m fr h s)(x:Option Value):Rel G F.loud b own ae (A.mark x) P m fr h s:=
 ⟨R.gens,R.os,R.bs,R.basePR,R.frs,R.obj,R.dom,R.inj,R.sep,R.ownP,⟨R.f.sc,R.f.kind,R.f.glob,R.f.blt,R.f.r9,R.f.ns,R.f.mB,R.f.rU,R.f.uh,R.f.apart,R.f.mT⟩,R.depth,R.units,R.guards,λq=>by exact cM q⟩
theorem Rel.unmark{aau:aV}{ael:Mu}{ey:SF}{aA:SH}{dJ:ak}{x:Option Value}(Cx:Rel G F b own ae A aau ael ey aA dJ)(R:Rel G F.loud b own ae (A.mark x) P m fr h s):Rel G F b own ae A P m fr h s:=
 ⟨R.gens,R.os,R.bs,R.basePR,R.frs,R.obj,R.dom,R.inj,R.sep,R.ownP,⟨R.f.sc,R.f.kind,R.f.glob,R.f.blt,R.f.r9,R.f.ns,R.f.mB,R.f.rU,R.f.uh,R.f.apart,R.f.mT⟩,Cx.depth,Cx.units,Cx.guards,Cx.quiet⟩
def XM(G:Gl)(x:String)(c:SV)(r:Bool):Prop:=
 ∀{F b own ae A P m fr h s} (A':dZ) (Q:Bool→ak→Prop) (E:Value→ak→Prop) (v':Value) (e:au),Rel G F b own ae A P m fr h s→VR P m c v'→s.TypeIs (.ref e) x→Q r s→aw (aR G.prog G.w) A' (excMatches (.ref e) v') Q E s
theorem abz{x T:String}{r:Bool}(Fh:lv (.type T) (.type "BaseException")=pure ab)(xr:lv (.type ((Manifest.find? T).elim "type" λx=>x.metatype)) (.type "tuple")=pure an)
  (sZ:lv (.type x) (.type T)=pure r):XM G x (.ty T) r:=by
 intro F b own ae A P m fr h s A' Q E v' e R hv hT hq;obtain rfl:=hv;exact wpAny_excMatches_type hT Fh xr sZ hq
theorem LW{body:List bx}{t:Expr}{wF:bx}{vg:List bx}{BQ pos:Pos}{Q:QS}{X:dP}
  (w:j4 G F b fr h body Q (λx bv ag=>(x≠"tuple"∧x≠"range")∧WE G F.loud b bv ag t (λc aC=>XM G x c ab∧j4 G F.loud b bv aC (wF::vg) Q nX) lX)):
  WS G F b fr h (.Try body [.ExceptHandler (aa t) af (wF::vg) BQ] [] [] pos) Q X:=by
 refine .mk ?_;intro own ae A P m s Q' E' R c d;refine wpAny_Try_except (w.run own ae A P m s _ _ R (λf bv ag f' aZ bW bU hq hP hm hf a6=>?_) (λx bv ag e aZ bW bU hq hP hm N a6=>?_))
 ·cases f with
  |next=>obtain rfl:=hf;exact wpAny_execs_nil (c _ _ _ _ _ _ _ hq hP hm rfl a6)
  |brk=>obtain rfl:=hf;exact c _ _ _ _ _ _ _ hq hP hm rfl a6
  |cont=>obtain rfl:=hf;exact c _ _ _ _ _ _ _ hq hP hm rfl a6
  |ret v=>refine aj hf λv' bq hv=>?_;clear hf;subst bq;exact c _ _ _ _ _ _ _ hq hP hm ⟨v',rfl,hv⟩ a6
 ·refine xA hq λhx hq=>?_
  refine aej a6 hx N λbz tb bk ad9=>I6 bk hx ad9 λej cW G8=>?_;refine wpAny_handleBy_cons (codeAny_handlers_test ?_) (by intro q;cases q);refine xA (cW.hold G8.free) λfW le=>?_;refine hq.run own ae (A.mark (aa (.ref e))) _ bU ej _ _ (fW.mark _) (λcv aC c' xl xS wo AR tc lJ hc kU=>?_) qr;refine xA AR λhX hw=>?_;clear AR;refine x9 (cW.drop G8.free (cW.unmark kU) tc lJ) λl1 l2 oZ aez hex=>?_;have I1:=G8.move aez hex;have HC:xl.TypeIs (.ref e) x:=by
   obtain⟨oe,vs,to,vf,h1,h2,_⟩:=I1.at_;exact⟨oe,h1,h2⟩
  refine hX _ _ _ c' e kU hc HC ?_;simp only[if_true];refine codeAny_handlers_suite (I6 oZ hx I1 λS8 rB ajr=>?_);exact hw.run own ae (A.mark (aa (.ref e))) _ wo S8 _ _ (rB.mark _) (λf ew cK f' ake aka ajm Za acy aa6 hf η=>c _ _ _ _ _ _ _ Za ((hP.trans l1).trans acy) ((hm.trans lJ).trans aa6) hf (rB.unmark η)) tF
theorem MB{M:i2}{A:dZ}{E:Value→ak→Prop}{s:ak}{T:String}{Q:Bool→ak→Prop}(Fh:lv (.type T) (.type "BaseException")=pure ab)(h:Q ab s):aw M A (isExcClass (.type T)) Q E s:=
 wb (qL (a:=ab) rfl (pz rfl (qL Fh h)))
theorem LZ{G:Gl}{x T U:String}{r q:Bool}(hT:lv (.type T) (.type "BaseException")=pure ab)(hU:lv (.type U) (.type "BaseException")=pure ab)
  (h1:lv (.type x) (.type T)=pure r) (h2:lv (.type x) (.type U)=pure q):XM G x (.tup [.ty T,.ty U]) (r||q):=by
 intro F b own ae A P m fr h s A' Q E v' e R hv HC hq;obtain⟨a,xs,rfl,⟨o,ho,hc,n,hd⟩,hX⟩:=R.oc hv;have e1:xs.toList=[.type T,.type U]:=bP hX λv1 r1 e1 FY h=>bP h λv2 r2 e2 ET e3=>e1.trans (congr (ay DI FY) (e2.trans (congr (ay DI ET) e3)));refine wb (w5 ⟨o,ho,hc⟩ agv (pz rfl (wb (wY ho hd (wb (aD (wb ?_)))))));rw[ahw,e1,py];refine wb (wb (MB hT (dU rfl (aD ?_))));refine(?_:aw _ _ (forIn [zS U] PUnit.unit _) _ _ _);rw[py];refine wb (wb (MB hU (dU rfl (aD (aD ?_)))));refine wb (uF HC (wb ?_));rw[py];refine wb (wb (qL h1 ?_))
 cases r with
 |true=>exact pz rfl (aD (aD (aD hq)))
 |false=>
  refine dU rfl (aD ?_);refine(?_:aw _ _ (forIn [zS U] (af,()) _) _ _ _);rw[py];refine wb (wb (qL h2 ?_))
  cases q with
  |true=>exact pz rfl (aD (aD (aD hq)))
  |false=>exact dU rfl (aD (aD (aD hq)))
theorem Eg:lv (.type "KeyError") (.type "BaseException")=pure ab:=by rw[pA _ _];kernel_rfl
theorem M1:lv (.type "IndexError") (.type "BaseException")=pure ab:=by rw[pA _ _];kernel_rfl
theorem Kd:lv (.type "KeyError") (.type "KeyError")=pure ab:=by rw[pA _ _];kernel_rfl
theorem Ym:lv (.type "KeyError") (.type "IndexError")=pure an:=by rw[pA _ _];kernel_rfl
theorem V8:lv (.type "IndexError") (.type "KeyError")=pure an:=by rw[pA _ _];kernel_rfl
theorem Υ:lv (.type "IndexError") (.type "IndexError")=pure ab:=by rw[pA _ _];kernel_rfl
theorem Xn{G:Gl}:XM G "KeyError" (.ty "KeyError") ab:=abz Eg (by rw[pA _ _];kernel_rfl) Kd
theorem aen{G:Gl}:XM G "IndexError" (.tup [.ty "IndexError",.ty "KeyError"]) ab:=LZ M1 Eg Υ V8
theorem Y9{G:Gl}:XM G "KeyError" (.tup [.ty "IndexError",.ty "KeyError"]) ab:=LZ M1 Eg Ym Kd
theorem Uo{o e:Expr}{a:Str}{Ah pos:Pos}{op:wS}{Q:QS}{X:dP}
  (w:WE G F b fr h o (λu ag=>WO G F b fr ag [u] (mJ λx=>m8 x a ab) (λv aC=>WE G F b fr aC e (λy cK=>WO G F b fr cK [v,y] (bw (sC op)) (λr jZ=>WO G F b fr jZ [u,r] (bw λx y=>do Dq x a y;pure .none) (λ_ wa=>Q .next fr wa) lX) lX) lX) lX) lX):
  WS G F b fr h (.AugAssign (.Attribute o a Ah) op e pos) Q X:=by
 refine .mk ?_;intro own ae A P m s Q' E' R c d;have UV:exec (.AugAssign (.Attribute o a Ah) op e pos) ae=(do
  kh pos
  let ov ←d9 o ae
  let new ←ju [ov] do
   kh Ah.atName
   let old ←m8 ov a ab
   let v ←ju [old] (d9 e ae)
   kh pos
   operate [old,v] (sC op old v)
  kh Ah.atName
  ju [new,ov] (Dq ov a new)
  release [new,ov] []
  pure .next):=rfl
 rw[UV];refine wb (jJ (wb (w.run own ae A P m s _ _ R (λu ag u' aZ bW bU hq hP hm hu a6=>?_) qr)));refine wb (dM (wb (jJ (wb (hq.run own ae A bW bU aZ _ _ [u'] a6 (aO.one hu) (λv aC v' bz cD cu h9 cQ cJ hv bk=>?_) qr)))));refine wb (dM (h9.run own ae A cD cu bz _ _ bk (λy cK y' ej lI nr qW fS iu hy cW=>?_) qr));refine wb (jJ (Qq (qW.run own ae A lI nr ej _ _ [v',y'] cW ⟨_,_,rfl,hv.mono fS.t iu,_,_,rfl,hy,rfl⟩ (λr jZ r' nH FS Hk abc Nl Oj hr fW=>?_) qr)));have:=abc.run own ae A FS Hk nH (λ_ s'=>aw (aR G.prog G.w) A (do release [r',u'] [];pure Flow.next) Q' E' s') E' [u',r'] fW ⟨_,_,rfl,(hu.mono ((cQ.trans fS).trans Nl).t ((cJ.trans iu).trans Oj)),_,_,rfl,hr,rfl⟩ (λz wa z' xl xS wo AR tc lJ hz kU=>?_) qr
 ·refine wb (jJ (wb (dM ?_)))
  exact Hs this
 ·exact wb (PX (aD (c _ _ _ _ _ _ _ AR ((((hP.trans cQ).trans fS).trans Nl).trans tc) ((((hm.trans cJ).trans iu).trans Oj).trans lJ) rfl kU)))
section
open SetTable
theorem Vz{v:SV}(h:z_ v=ab)(n:Nat):SV.key n v=ab:=by cases v<;>simp_all [z_,SV.key]
theorem tV{v:SV}(h:fc v=ab)(n:Nat):SV.key (n+1) v=ab:=by
 cases v<;>simp[fc] at h
 show SV.keys n _=ab;exact DR.mpr λx hx=>Vz (h x hx) n
theorem cr.at{w:cE}:∀{vs:List SV} {es:List (Int×Value)} {i:Nat} {v:SV},cr w P m vs es→vs[i]? =aa v→∃e,es[i]? =aa e∧e.1=bZ w v∧VR P m v e.2
 |[],_,i,v,_,e=>a7 (List.getElem?_nil.symm.trans e)
 |v::vs,_,0,x,h,e=>by refine gO h λy r ax h1 h2 _=>?_;clear h;subst ax;obtain rfl:=aY e;exact(cL y rfl h1 h2)
 |v::vs,_,i+1,x,h,e=>by refine gO h λy r ax _ _ h3=>?_;clear h;subst ax;exact cr.at (i:=i) h3 e
theorem cr.length{w:cE}:∀{vs:List SV} {es:List (Int×Value)},cr w P m vs es→vs.length=es.length
 |[],_,h=>by obtain rfl:=h;rfl
 |v::vs,_,h=>by refine gO h λy r ax _ _ h3=>?_;clear h;subst ax;exact ay HF (cr.length h3)
theorem cr.at'{w:cE}{vs:List SV}{es:List (Int×Value)}{i:Nat}{e:Int×Value}(H:cr w P m vs es)(he:es[i]? =aa e):∃v,vs[i]? =aa v∧e.1=bZ w v∧VR P m v e.2:=by
 have hl:=(cV.mp he).1;rw[←H.length] at hl;refine bH (H.at (fb hl)) λe' q1 q2 q3=>?_;rw[he] at q1;obtain rfl:=aY q1;exact(cL _ (fb hl) q2 q3)
theorem cr.app{w:cE}:∀{vs a5:List SV} {es es':List (Int×Value)},cr w P m vs es→cr w P m a5 es'→cr w P m (vs++a5) (es++es')
 |[],_,_,_,h,h'=>by obtain rfl:=h;exact h'
 |v::vs,_,_,_,h,h'=>by refine gO h λy r ax h1 h2 h3=>?_;clear h;subst ax;exact⟨y,_,rfl,h1,h2,cr.app h3 h'⟩
theorem cr.take{w:cE}:∀{vs:List SV} {es:List (Int×Value)} (k:Nat),cr w P m vs es→cr w P m (vs.take k) (es.take k)
 |vs,es,0,h=>rfl
 |[],_,k+1,h=>by obtain rfl:=h;exact rfl
 |v::vs,_,k+1,h=>by refine gO h λy r ax h1 h2 h3=>?_;clear h;subst ax;exact⟨y,_,rfl,h1,h2,cr.take k h3⟩
theorem cr.drop{w:cE}:∀{vs:List SV} {es:List (Int×Value)} (k:Nat),cr w P m vs es→cr w P m (vs.drop k) (es.drop k)
 |vs,es,0,h=>h
 |[],_,k+1,h=>by obtain rfl:=h;exact rfl
 |v::vs,_,k+1,h=>by refine gO h λy r ax h1 h2 h3=>?_;clear h;subst ax;exact cr.drop k h3
theorem cr.ins{w:cE}{vs:List SV}{es:List (Int×Value)}{v:SV}{x:Value}{k:Nat}(H:cr w P m vs es)(hv:VR P m v x):cr w P m (kJ vs k v) (kJ es k (bZ w v,x)):=
 cr.app (H.take k) ⟨_,_,rfl,rfl,hv,H.drop k⟩
theorem cr.mapIdx{w:cE}{vs:List SV}{es:List (Int×Value)}(H:cr w P m vs es):∀(l:List Nat),(∀i∈l,i<vs.length)→cr w P m (l.filterMap (vs[·]?)) (l.filterMap (es[·]?))
 |[],_=>rfl
 |i::l,hl=>by
  refine bH (H.at (fb (hl i dA))) λe q1 q2 q3=>?_;rw[qP,qP,q1,fb (hl i dA)];exact⟨e,_,rfl,q2,q3,cr.mapIdx H l λj hj=>hl j (eT _ hj)⟩
theorem afm{α:Type}(l:List α)(p:Nat)(x:α):(kJ l p x).Perm (x::l):=by
 unfold kJ;have:=List.perm_middle (l₁:=l.take p) (a:=x) (l₂:=l.drop p)
 rwa [PO] at this
theorem Rel.setAt(R:Rel G F b own ae A P m fr h s){n:Nm}{vs:List SV}(hn:h n=aa (.set vs)):
  ∃ad es k t,m n=aa ad∧ad.2=ad.1∧s.heap.get? ad.1=aa (gC es k t)∧f_ t (es.toList.map (·.1))∧cr G.w P m vs es.toList∧vs.Nodup∧(∀v∈vs,fc v=ab)∧t.led=!(G.w.params.followText "set-order"):=by
 obtain⟨ad,q1,q2,es,k,t,q3⟩:=R.obj n _ hn;exact⟨ad,es,k,t,q1,q2,q3⟩
theorem oH.fits{t:c9}{hs:List Int}(T:oH t hs)(h:hs.length≤t.mask):t.fits hs.length=ab:=by
 unfold SetTable.fits ahx;have:=T.len;rw[fQ] at this;simp[T.BM,this,h]
theorem f_.fits{t:c9}{es:Array (Int×Value)}(T:f_ t (es.toList.map (·.1))):t.fits es.size=ab:=by
 have:=T.1.fits (cj (ahy (bd (pB _ (aJ (n:=3) (m:=5))) T.2)))
 rwa [aI,fQ] at this
theorem Ga{α β:Type}{M:i2}{E:Value→ak→Prop}{f:α→β→Sem (ForInStep β)}{p:α→Prop}{I:β→Prop}{Q:β→ak→Prop}{l:List α}{z:β}(hl:∀x∈l,p x)(hz:I z)(fin:∀z,I z→Q z s)
  (turn:∀x z,p x→I z→∀Q':ForInStep β→ak→Prop,(∀z,I z→Q' (.yield z) s)→(∀z,Q z s→Q' (.done z) s)→aw M A' (f x z) Q' E s):aw M A' (forIn l z f) Q E s:=by
 induction l generalizing z with
 |nil=>exact aD (fin _ hz)
 |cons x l ih=>rw[py];exact wb (turn x z (hl x (.head _)) hz _ (λz hz=>ih (λy hy=>hl y (.tail _ hy)) hz) λz hz=>aD hz)
theorem Mo{v:SV}{y:Value}{C:Value→Prop}(ci:∀i t,C (.int i t))(cs:∀x t,C (.str x t))(ha:z_ v=ab)(hv:VR P m v y):C y:=by
 cases v with
 |int i=>exact xE hv λt e=>e▸ci i t
 |str x=>exact xE hv λt e=>e▸cs x t
 |_=>exact bc ha iD
theorem aO.all{p:SV→Prop}:∀{vs:List SV} {xs:List Value},aO P m vs xs→(∀v∈vs,p v)→∀y∈xs,∃v,p v∧VR P m v y
 |[],_,h,_=>by obtain rfl:=h;exact λy hy=>bc hy DE
 |v::vs,_,h,hp=>by
  refine bP h λx xs e h1 h2=>?_;subst e;exact λy hy=>(dE.mp hy).elim (λe=>(aU v (hp v (.head _)) (e▸h1))) (aO.all h2 (λu hu=>hp u (.tail _ hu)) y)
theorem Gr(R:Rel G F b own ae A P m fr h s){x:SV}{x':Value}(hf:fc x=ab)(hx:VR P m x x'){C:Value→Prop}
  (k:∀a o items q,s.heap.get? a=aa o→o.data=.seq items q→s.TypeIs (.ref a) "tuple"→(∀y∈items.toList,∃v,z_ v=ab∧VR P m v y)→C (.ref a)):C x':=by
 cases x with
 |tup vs=>
  obtain⟨a,items,rfl,⟨o,ho,hc,q,hd⟩,h5⟩:=R.oc hx;exact k a o items q ho hd ⟨o,ho,hc⟩ (h5.all λv hv=>dc.mp hf v hv)
 |_=>exact bc hf iD
theorem OU{M:i2}{E:Value→ak→Prop}{x:SV}{x':Value}{k:Nat}(R:Rel G F b own ae A P m fr h s)(hf:fc x=ab)(hx:VR P m x x'){Q:Bool→ak→Prop}(hq:Q an s):
  aw M A' (DK (k+1) x') Q E s:=by
 refine Gr (C:=λy=>aw M A' (DK (k+1) y) Q E s) R hf hx λa o items q ho hd hT hi=>?_;unfold DK;refine wb (uF hT ?_);refine pz rfl (wb (aD ?_));refine dU rfl ?_;refine wb (wY ho hd ?_);refine wb ?_;rw[←H6];refine Ga hi (I:=λr=>r.1=af) rfl (λz hz=>?_) λy z ⟨v,hv,hy⟩ hz Q' k1 _=>?_
 ·obtain⟨r1,r2⟩:=z
  obtain rfl:r1=af:=hz;exact aD hq
 ·have:DK k y=pure an:=Mo (C:=λy=>DK k y=pure an) (λi t=>by cases k<;>rfl) (λi t=>by cases k<;>rfl) hv hy
  rw[this];exact wb (aD (dU rfl (aD (k1 _ rfl))))
theorem Xy{E:Value→ak→Prop}(R:Rel G F b own ae A P m fr h s){x:SV}{x':Value}(hf:fc x=ab)(hx:VR P m x x'){Q:Bool→ak→Prop}(hq:Q an s)
  (l:List Value) (hl:∀y∈l,∃v,fc v=ab∧VR P m v y):aw (aR G.prog G.w) A' (ahz x' l) Q E s:=by
 refine wb (Ga hl (I:=λr=>r.1=af) rfl (λz hz=>?_) λy z ⟨v,hv,hy⟩ hz Q' k1 _=>?_)
 ·obtain⟨r1,r2⟩:=z
  obtain rfl:r1=af:=hz;exact aD hq
 ·refine jM (λ_=>aD (k1 _ rfl)) λ_=>?_
  exact wb (IF E R 8 hx (tV hf 7) (dU rfl (wb (IF E R 8 hy (tV hv 7) (dU rfl (wb (OU R hf hx (dU rfl (wb (OU R hv hy (dU rfl (aD (k1 _ rfl)))))))))))))
theorem ac0{l:List Nat}(hr:np l){i j p:Nat}(hi:l[i]? =aa p)(hj:l[j]? =aa p):i=j:=by
 obtain⟨a,ea⟩:=cV.mp hi;obtain⟨c,ec⟩:=cV.mp hj;have:=PM.mp hr;rcases HD i j with q|q|q
 ·exact bc (this i j a c q) (by rw[ea,ec];exact fo _)
 ·exact q
 ·exact bc (this j i c a q) (by rw[ea,ec];exact fo _)
structure ni(w:cE)(P:aV)(m:Mu)(s:ak)(ad:au)(vs:List SV)(es:Array (Int×Value))(ep:Nat)(t:c9)(x:SV)(x':Value):Prop where
 ho:s.heap.get? ad=aa (gC es ep t)
 T:f_ t (es.toList.map (·.1))
 H:cr w P m vs es.toList
 fl:∀v∈vs,fc v=ab
 f:fc x=ab
 x:VR P m x x'
noncomputable def uj(es:Array (Int×Value))(i:Nat):Int:=(es[i]?.map (·.1)).getD 0
def OL(t:c9)(es:Array (Int×Value))(hx:Int)(p:Probe)(r:Met):Prop:=∀f:Nat→Int,f=uj es→t.probe f hx p=aa r
def Bh(t:c9)(vs:List SV)(x:SV)(hx:Int)(k:Nat):Prop:=∀n,n<k→∃(i:Nat) (v:SV),t.place.toList[i]? =aa (bn t.mask hx n).j∧vs[i]? =aa v∧v≠x
variable{E:Value→ak→Prop}{Q:SetFound→ak→Prop}{ad:au}{es:Array (Int×Value)}{ep:Nat}{t:c9}{x':Value}{hx:Int}{lV:Bool}{fuel i j:Nat}{sf:Option Probe}{next:Probe}{c:Int}{a:au}
theorem VX(ho:s.heap.get? ad=aa (gC es ep t))(Bq:t.fits es.size=ab)(gw:decide (t.gaveWay=ab)=an)(hp:OL t es hx (sf.getD (t.probeStart hx)) (.empty j af))(hq:Q (.free j an) s):
  aw (aR G.prog G.w) A' (Il ad x' hx lV (fuel+1) sf) Q E s:=by
 refine wb (kw ho rfl Bq (dU gw ?_));rw[hp]
 ·exact aD hq
 ·rfl
theorem XO(t:c9):t.sameMemory t.moves t.mask=aa ab:=aP (qF _)
theorem aav(a:au):isSame (.ref a) (.ref a)=pure ab:=by unfold isSame;simp
theorem wp_led{α:Type}{M:i2}{Q:α→ak→Prop}{c:Prop}[Decidable c]{x y:Sem α}(f:aw M A' y Q E s→aw M A' x Q E s)(h:aw M A' y Q E s):aw M A' (if c then x else y) Q E s:=
 jM (λ_=>f h) λ_=>h
theorem Tb{same:Bool}(ho:s.heap.get? ad=aa (gC es ep t))(Bq:t.fits es.size=ab)(gw:decide (t.gaveWay=ab)=an)(hp:OL t es hx (sf.getD (t.probeStart hx)) (.candidate j i next))(hs:t.slot j=.live i)(he:es[i]? =aa (c,.ref a))
  (quiet:∀{Q':Bool→ak→Prop},Q' an s→aw (aR G.prog G.w) A' (ahz x' ((es.filter (·.1==hx)).toList.map (·.2))) Q' E s) (XR:∀{Q':Bool→ak→Prop},Q' same s→aw (aR G.prog G.w) A' (eqBool (.ref a) x') Q' E s)
  (fj:same=ab→Q (.there (if lV then af else aa i)) s) (no:same=an→aw (aR G.prog G.w) A' (Il ad x' hx lV fuel (aa next)) Q E s):
  aw (aR G.prog G.w) A' (Il ad x' hx lV (fuel+1) sf) Q E s:=by
 refine wb (kw ho rfl Bq (dU gw ?_));rw[hp]
 rotate_left
 ·rfl
 refine wp_led (λk=>wb (quiet (dU rfl k))) ?_;rw[he];refine wb (dM (XR (wb (kw ho rfl Bq ?_))));refine jM (λe=>?_) λe=>?_
 ·obtain⟨rfl,rfl⟩:=(bO _ _).mp e
  exact aD (fj rfl)
 ·simp only[XO,if_true,hs,he,aav]
  refine wb (wb (aD (aD ?_)))
  cases same with
  |true=>
   cases lV with
   |true=>exact bc rfl e
   |false=>exact(aD (fj rfl):aw _ _ (pure (SetFound.there (aa i))) Q E s)
  |false=>exact no rfl
theorem KH{t:c9}{vs:List SV}{x v:SV}{hx:Int}{n i:Nat}(B:Bh t vs x hx n)(hp:t.place.toList[i]? =aa (bn t.mask hx n).j)(hv:vs[i]? =aa v)(ne:v≠x):Bh t vs x hx (n+1):=λn' hn=>
 (Nat.lt_succ_iff_lt_or_eq.mp hn).elim (B n') λe=>e▸(mr i v hp hv ne)
theorem Bh.taken{t:c9}{vs:List SV}{x:SV}{hx:Int}{n n':Nat}(B:Bh t vs x hx n)(hn:n'<n):(bn t.mask hx n').j∈t.place.toList:=by
 refine ef (B n' hn) λi v e _=>?_;exact qH.mpr ⟨i,e⟩
variable{w:cE}{vs:List SV}{x:SV}{n:Nat}
theorem ni.val(S:ni w P m s ad vs es ep t x x')(hp:t.place.toList[i]? =aa n){C:Prop}(k:∀e v,es[i]? =aa e→uj es i=e.1→vs[i]? =aa v→e.1=bZ w v→VR P m v e.2→C):C:=by
 have hl:=(cV.mp hp).1;rw[S.T.1.len,aI] at hl;have he:=fb hl;refine bH (S.H.at' he) λv a c d=>?_;have rj:=jt.symm.trans he;exact k _ v rj (by unfold uj;rw[rj];rfl) a c d
theorem ni.abg(S:ni w P m s ad vs es ep t x x')(B:Bh t vs x (bZ w x) n)(nf:(bn t.mask (bZ w x) n).j∉t.place.toList):x∉vs:=λjc=>by
 refine xE (qH.mp jc) λi hi=>?_;refine bH (S.H.at hi) λe e1 e2 _=>?_;refine aj (S.T.1.path i e.1 (dv.trans (ay _ e1))) λn0 p1 p2=>?_;rw[e2] at p1 p2;rcases HD n0 n with q|q|q
 ·refine bP (B n0 q) λi' v r1 r2 r3=>?_
  rw[ac0 S.T.1.rise r1 p1,hi] at r2;exact r3 (aY r2).symm
 ·exact nf (qH.mpr ⟨i,q▸p1⟩)
 ·exact nf (p2 n q)
theorem DW{u:SV}{u':Value}(hu:fc u=ab)(hv:VR P m u u'):∃a,u'=.ref a:=by
 cases u with
 |tup vs=>exact kc hv λa o hv=>kc hv λitems q hv=>⟨a,hv.1⟩
 |_=>exact bc hu iD
theorem ni.turns(S:ni w P m s ad vs es ep t x x'):10*turns t.mask≤100000∧decide (t.gaveWay=ab)=an:=by
 unfold SetTable.gaveWay;rcases S.T.1.mask with e|e<;>rw[e]<;>exact⟨by exact aJ,rfl⟩
theorem My{E:Value→ak→Prop}(R:Rel G F b own ae A P m fr h s)(S:ni G.w P m s ad vs es ep t x x')(lV:Bool)(hu:A'.units+1<ez){Q:SetFound→ak→Prop}
  (h1:∀i:Nat,vs[i]? =aa x→Q (.there (if lV then af else aa i)) s)
  (h2:x∉vs→∀n,(bn t.mask (bZ G.w x) n).j∉t.place.toList→(∀n',n'<n→(bn t.mask (bZ G.w x) n').j∈t.place.toList)→Q (.free (bn t.mask (bZ G.w x) n).j an) s)
  {N:Nat} (hN:(bn t.mask (bZ G.w x) N).j∉t.place.toList) (lN:N<10*turns t.mask):
  ∀(fuel k:Nat) (sf:Option Probe),sf.getD (t.probeStart (bZ G.w x))=bn t.mask (bZ G.w x) k→k≤N→N<k+fuel→Bh t vs x (bZ G.w x) k→aw (aR G.prog G.w) A' (Il ad x' (bZ G.w x) lV fuel sf) Q E s
 |0,k,_,_,a,c,_=>bc c (js.mpr a)
 |fuel+1,k,sf,kQ,n1,n2,hb=>by
  refine Δ S.T.1 (uj es) (bZ G.w x) (I:=λn=>k≤n∧Bh t vs x (bZ G.w x) n) (λn i B hp ne=>⟨c8 B.1,S.val hp λe v _ a hv c _=>KH B.2 hp hv λq=>ne (a.trans (c.trans (q▸rfl)))⟩) hN _ k n1 (bI lN (lu _ _)) ⟨ar _,hb⟩ (λn B e nf=>?_) λn i B pe hp hh=>?_
  ·exact VX S.ho S.T.fits S.turns.2 (λf hf=>by rw[hf,kQ];exact e) (h2 (S.abg B.2 nf) n nf λn'=>B.2.taken)
  ·refine S.val hp λe v he ha hv hc hr=>?_
   have fv:=S.fl v (bN hv);refine xE (DW fv hr) λa ea=>?_;refine Tb S.ho S.T.fits S.turns.2 (λf hf=>by rw[hf,kQ];exact pe) (KG S.T.1.rise (jt.symm.trans hp)) (he.trans (ay aa (jw rfl ea)):es[i]? =aa (e.1,.ref a)) (λhq=>Xy R S.f S.x hq _ λy hy=>?_)
    (λhq=>Rel.we R 1 (ea▸hr) S.x (sM (tV fv 0)) (sM (tV S.f 0)) hu _ _ _ _ hq) (λq=>h1 i (fC q▸hv)) λq=>?_
   ·refine aj (bB.mp hy) λe he ax=>?_;subst ax
    rw[Array.toList_filter,m9] at he;refine xE (qH.mp he.1) λi' qz=>?_;refine bH (S.H.at' qz) λu u1 u2 u3=>?_;exact(aU u (S.fl u (bN u1)) u3)
   ·have B':=KH B.2 hp hv (sk q)
    exact My R S lV hu h1 h2 hN lN fuel (n+1) _ rfl (js.mp λq=>hN (B'.taken q):n+1≤N) (bI n2 (ah (bF (wN k fuel).symm) (oj (eG B.1) fuel))) B'
theorem Kc{E:Value→ak→Prop}(R:Rel G F b own ae A P m fr h s)(S:ni G.w P m s ad vs es ep t x x')(lV:Bool)(hu:A'.units+1<ez){Q:SetFound→ak→Prop}
  (h1:∀i:Nat,vs[i]? =aa x→Q (.there (if lV then af else aa i)) s)
  (h2:x∉vs→∀n,(bn t.mask (bZ G.w x) n).j∉t.place.toList→(∀n',n'<n→(bn t.mask (bZ G.w x) n').j∈t.place.toList)→Q (.free (bn t.mask (bZ G.w x) n).j an) s):
  aw (aR G.prog G.w) A' (setSearch ad x' (bZ G.w x) lV) Q E s:=by
 refine aj (S.T.adn (bZ G.w x)) λN lN hN=>?_;exact My R S lV hu h1 h2 hN lN 100000 0 af rfl (b_ _) (bI lN (ah S.turns.1 (lu _ _))) λ_ q=>bc q (m5 _)
end
section
open SetTable
theorem SH.jb{n:Nm}{o:cy}(hn:h n=aa o):h.set n o=h:=by
 funext x
 unfold SH.set
 by_cases e:x=n
 ·subst e;rw[aP rfl,hn]
 ·rw[aK e]
theorem iF{n:Nm}{o o':cy}:(h.set n o).set n o'=h.set n o':=by
 funext x
 unfold SH.set
 by_cases e:x=n
 ·rw[aP e,aP e]
 ·rw[aK e,aK e,aK e]
theorem aS{n:Nm}{o:cy}:(h.set n o) n=aa o:=aP rfl
theorem aq{n x:Nm}{o:cy}(e:x≠n):(h.set n o) x=h x:=aK e
theorem UF{E:Value→ak→Prop}(R:Rel G F b own ae A P m fr h s){x:SV}{x':Value}(hf:fc x=ab)(hx:VR P m x x'){Q:Bool→ak→Prop}(hq:∀r,Q r s)(k:Nat):
  aw (aR G.prog G.w) A' (zY (k+1) x') Q E s:=by
 refine Gr (C:=λy=>aw (aR G.prog G.w) A' (zY (k+1) y) Q E s) R hf hx λa o items q ho hd hT hi=>?_;unfold zY;refine wb (qN hT PySem.F.slot_tuple_hash.lookup (wb (wY ho hd (wb ?_))));rw[ahw,←H6];refine Ga hi (I:=λ_=>True) trivial (λz _=>?_) λy z ⟨v,hv,hy⟩ _ Q' k1 k2=>?_
 ·obtain⟨r1,r2⟩:=z
  cases r1<;>exact aD (hq _)
 ·have:∃r,zY k y=pure r:=Mo (C:=λy=>∃r,zY k y=pure r) (λi t=>by cases k<;>exact⟨_,rfl⟩) (λi t=>by cases k<;>exact⟨_,rfl⟩) hv hy
  refine xE this λr hr=>?_;rw[hr];exact wb (aD (jM (λ_=>aD (k2 _ (aD (hq _)))) λ_=>aD (k1 _ trivial)))
theorem Rel.ab9(R:Rel G F b own ae A P m fr h s){n:Nm}{vs gF:List SV}{ad:au×au}{gL:Array (Int×Value)}{k:Nat}{gG:c9}(hn:h n=aa (.set vs))(hm:m n=aa ad){hp:cO}
  (hs:sB ad.1 s.heap hp) (ho:hp.get? ad.1=aa (gC gL k gG)) (T:f_ gG (gL.toList.map (·.1))) (H:cr G.w P m gF gL.toList) (qZ:gF.Nodup) (iy:∀v∈gF,fc v=ab) (f8:gG.led=!(G.w.params.followText "set-order")):
  Rel G F b own ae A P m fr (h.set n (.set gF)) {s with heap:=hp}:=by
 refine bH (R.obj n _ hn) λbT q1 q2 _=>?_;obtain rfl:bT=ad:=aY (q1.symm.trans hm);exact R.turn (s':={s with heap:=hp}) hn hm (λa o n1 n2 e=>(hs.2 a n1).trans e) rfl rfl ⟨q2,gL,k,gG,ho,T,H,qZ,iy,f8⟩
theorem getD_map{α β:Type}(f:α→β)(l:List α)(i:Nat)(d:α):(l.map f).getD i (f d)=f (l.getD i d):=by
 rw[pn,pn,dv];exact(Option.getD_map f d _)
theorem G9{α:Type}(dd:α){l:List α}:∀{o:List Nat},(∀i∈o,i<l.length)→o.filterMap (l[·]?)=o.map (l.getD · dd)
 |[],_=>rfl
 |i::o,h=>by
  have hi:=h i (.head _);exact(List.filterMap_cons_some (fb hi)).trans (congr (ay DI (pn.trans (ay (PT · dd) (fb hi))).symm) (G9 dd λj hj=>h j (.tail _ hj)))
structure LI(w:cE)(P:aV)(m:Mu)(vs:List SV)(x:SV)(n:Nat)(t:c9)(gF:List SV)(gL:Array (Int×Value))(gG:c9):Prop where
 W:oH gG (gL.toList.map (·.1))
 H:cr w P m gF gL.toList
 pm:gF.Perm (x::vs)
 mask:gG.mask=t.mask
 led:gG.led=t.led
 size:gL.size=n+1
theorem ada{α β:Type}(f:α→β)(l:List α)(p:Nat)(a:α):(kJ l p a).map f=kJ (l.map f) p (f a):=by
 unfold kJ;rw[dN,sI,Im,zZ]
theorem L_{w:cE}{ad:au}{vs:List SV}{es:Array (Int×Value)}{ep:Nat}{t:c9}{x:SV}{x':Value}{n:Nat}(S:ni w P m s ad vs es ep t x x')
  (Db:(bn t.mask (bZ w x) n).j∉t.place.toList) (CT:∀n',n'<n→(bn t.mask (bZ w x) n').j∈t.place.toList) (pl:Bool):
  ∃gF,LI w P m vs x es.size t gF (Io es (t.put (bn t.mask (bZ w x) n).j).2 (bZ w x,x')) {(t.put (bn t.mask (bZ w x) n).j).1 with plain:=pl}:=by
 refine mv (Su S.T.1 Db CT pl) λp1 p2 p3 W=>?_;have xQ:(Io es _ _).toList=kJ es.toList _ _:=af6 es (below t.place (bn t.mask (bZ w x) n).j) (bZ w x,x');rw[p2];refine⟨_,?_,xQ▸S.H.ins S.x,afm _ _ _,p3,rfl,?_⟩
 ·rw[xQ]
  exact ada (·.1) es.toList _ (bZ w x,x')▸W
 ·rw[←fQ,xQ]
  exact FL _ _ _
theorem VA{E:Value→ak→Prop}{ad:au}{vs:List SV}{es:Array (Int×Value)}{ep:Nat}{t:c9}(ho:s.heap.get? ad=aa (gC es ep t))(W:oH t (es.toList.map (·.1)))(H:cr G.w P m vs es.toList)(h5:es.size=5)(h7:t.mask=7){Q:Unit→ak→Prop}
  (k:∀ti pZ xB,f_ pZ (ti.toList.map (·.1))→cr G.w P m xB ti.toList→xB.Perm vs→pZ.led=t.led→Q () {s with heap:=s.heap.update ad (uJ ti pZ)}):aw (aR G.prog G.w) A' (setRelay ad 20) Q E s:=by
 have hl:(es.map (·.1)).size≤31:=by rw[Ip,h5];exact aJ
 have hf:t.fits es.size=ab:=by
  have:=W.fits (by rw[aI _,fQ,h5,h7];exact aJ)
  rwa [aI,fQ] at this
 refine tw (aed (mask:=31) (.inr rfl) t.finger (t.movedTo 31) t.led t.plain (es.map (·.1)) hl) λpZ iS g1 g2 X9 g3 g4=>?_;have hlt:∀i∈iS.toList,i<es.toList.length:=λi hi=>by
  have:=g3.mem_iff.mp hi;rw[Ip] at this;exact dR.mp this
 have fe:=G9 (0,eH) hlt;have Hz:(iS.filterMap (es[·]?)).toList=iS.toList.map (es.toList.getD · (0,eH)):=by
  rw[←fe,Array.toList_filterMap];exact ay (uK · _) (funext λi=>jt.symm)
 have AH:(iS.filterMap (es[·]?)).size=es.size:=by
  rw[←fQ,Hz,aI _,g3.length_eq,dS,Ip]
 have En:cr G.w P m (iS.toList.filterMap (vs[·]?)) (iS.filterMap (es[·]?)).toList:=by
  rw[Hz,←fe];exact H.mapIdx iS.toList λi hi=>H.length▸hlt i hi
 have g4':(iS.filterMap (es[·]?)).toList.map (·.1)=iS.toList.map λi=>(es.map (·.1)).toList.getD i 0:=by
  rw[Hz,pi,ah0];exact ay (Iq · _) (funext λi=>(getD_map (·.1) es.toList i (0,eH)).symm)
 have pm:=g3.filterMap (vs[·]?);rw[Ip,←fQ,←H.length,ah1] at pm;have K:=k (iS.filterMap (es[·]?)) pZ (iS.toList.filterMap (vs[·]?)) ⟨by rw[g4'];exact g4,by rw[aI _,fQ,AH,g2,h5];exact bg⟩ En pm X9;have abn:t.relaid (es.map (·.1)) 20=aa (pZ,iS):=g1;refine wb (kw ho rfl hf (dU aW (wb ?_)));rw[abn];refine(?_:aw _ _ (if((iS.filterMap (es[·]?)).size !=es.size)=ab then _ else _) _ _ _);generalize iS.filterMap (es[·]?)=ti at AH K;refine dU (by rw[AH,mX _];rfl) (aD (ah2 ho rfl K ?_));rw[AH,h5];exact aJ
theorem RZ{E:Value→ak→Prop}(R:Rel G F b own ae A P m fr h s){x:SV}{x':Value}(hf:fc x=ab)(hx:VR P m x x'){c:Bool}{α:Type}{K:Bool→Sem α}{Q:α→ak→Prop}(hq:∀r,aw (aR G.prog G.w) A' (K r) Q E s):
  aw (aR G.prog G.w) A' (if c then zY 8 x' >>=K else pure ab >>=K) Q E s:=jM (λ_=>wb (UF R hf hx hq 7)) λ_=>wb (aD (hq _))
theorem Xu{t:c9}{hs:List Int}(T:oH t hs):t.tooFull=decide (hs.length*5≥t.mask*3):=by
 unfold tooFull ahx;rw[T.BM,←fQ,T.len];rfl
theorem RC{a:Nat}(h1:a*5<7*3)(h2:(a+1)*5≥7*3):a=4:=qQ (eS (ahy (a:=5) (i4 h1 bg))) (js.mp λq=>bc (ah h2 (qR 5 (sH q))) aW)
theorem aet{E:Value→ak→Prop}(R:Rel G F b own ae A P m fr h s){n:Nm}{vs:List SV}{ad:au×au}(hn:h n=aa (.set vs))(hm:m n=aa ad){x:SV}{x':Value}(hf:fc x=ab)(hx:VR P m x x')
  (hz:vs.length<18) (hu:A'.units+1<ez) {Q:Bool→ak→Prop}
  (c:∀hp a5 r,(a5.Nodup∧∀y,y∈a5↔y=x∨y∈vs)→Rel G F b own ae A P m fr (h.set n (.set a5)) {s with heap:=hp}→(∀a o,a≠ad.1→s.heap.get? a=aa o→hp.get? a=aa o)→Q r {s with heap:=hp}):
  aw (aR G.prog G.w) A' (setAddHashed ad.1 x' (bZ G.w x)) Q E s:=by
 obtain⟨bT,es,ep,t,uU,h2,ho,T,H,qZ,iy,f8⟩:=R.setAt hn;obtain rfl:bT=ad:=aY (uU.symm.trans hm);have S:ni G.w P m s bT.1 vs es ep t x x':=⟨ho,T,H,iy,hf,hx⟩;have uP:decide (byScan x' es=ab)=an:=by refine xE (DW hf hx) λa bq=>?_;subst bq;rfl
 have I8:es.size<18:=by rw[←fQ,←H.length];exact hz
 have fin:∀{gF gL gG IP hp} (r:Bool),f_ gG (gL.toList.map (·.1))→cr G.w P m gF gL.toList→gF.Perm (x::vs)→x∉vs→gG.led=t.led→sB bT.1 s.heap hp→hp.get? bT.1=aa (gC gL IP gG)→Q r {s with heap:=hp}:=
  λ{gF gL gG IP hp} r VJ ζ pm vL ld sb za=>by
   have nd:=pm.nodup_iff.mpr (lh.mpr ⟨vL,qZ⟩);have mem:∀y,y∈gF↔y=x∨y∈vs:=λy=>pm.mem_iff.trans dE;exact c hp gF r ⟨nd,mem⟩ (R.ab9 hn hm sb za VJ ζ nd (λv hv=>((mem v).mp hv).elim (λe=>e▸hf) (iy v)) (ld.trans f8)) λa o ha e=>(sb.2 a ha).trans e
 refine dM (wb (m:=setState bT.1) (kw ho rfl T.fits (dU uP (wb (Kc R S ab hu (λi hi=>?_) λvL k Db CT=>?_)))))
 ·refine aD (c s.heap vs an ⟨qZ,λy=>⟨.inr,λq=>q.elim (λe=>e▸bN hi) id⟩⟩ ?_ λa o _ e=>e)
  rw[SH.jb hn];exact R
 ·have I:∀r:Bool,∃gF,LI G.w P m vs x es.size t gF (Io es (t.put (bn t.mask (bZ G.w x) k).j).2 (bZ G.w x,x')) (if r=ab then(t.put (bn t.mask (bZ G.w x) k).j).1 else{(t.put (bn t.mask (bZ G.w x) k).j).1 with plain:=an}):=λr=>by
   cases r with
   |true=>exact L_ S Db CT _
   |false=>exact L_ S Db CT _
  refine wb (kw ho rfl T.fits ?_);dsimp only;generalize t.put (bn t.mask (bZ G.w x) k).j=tp at I ⊢
  cases tp with
  |mk t1 p1=>
  refine RZ R hf hx λr=>?_;have I:=I r;dsimp only at I ⊢;generalize Io es p1 (bZ G.w x,x')=gL at I ⊢;generalize (if r=ab then t1 else{t1 with plain:=an})=gG at I ⊢;refine xE I λgF I=>?_;have s1:=pt s.heap bT.1 (uJ gL gG);have za:(s.heap.update bT.1 (uJ gL gG)).get? bT.1=aa (gC gL (ep+1) gG):=lf (uJ gL gG) ho rfl;have Fq:=Xu I.W;have room:=T.2;rw[aI,fQ] at room Fq;refine wb (ah2 ho rfl ?_ (I.size▸ah I8 aJ));refine jM (λq=>?_) λq=>?_
  ·have q:gL.size*5≥gG.mask*3:=fC (Fq.symm.trans q)
   rw[I.mask,I.size] at q;have h7:t.mask=7:=T.1.mask.elim id λe=>by
    rw[e] at q;exact bc (ah q (qR 5 (eG (eS I8)))) aW
   rw[h7] at q room;have h4:=RC room q;rw[h4];refine wb (VA (s:={s with heap:=s.heap.update bT.1 (uJ gL gG)}) za I.W I.H (I.size.trans (h4▸rfl)) (I.mask.trans h7) λti pZ xB W7 En pm ld=>aD ?_);have s2:=pt (s.heap.update bT.1 (uJ gL gG)) bT.1 (uJ ti pZ);exact fin ab W7 En (pm.trans I.pm) vL (ld.trans I.led) ⟨s2.1.trans s1.1,λa ha=>(s2.2 a ha).trans (s1.2 a ha)⟩ (lf (uJ ti pZ) za rfl)
  ·refine aD (fin ab ⟨I.W,?_⟩ I.H I.pm vL I.led s1 za)
   rw[aI _,fQ];exact Nat.not_le.mp λz=>q (Fq.trans (eQ z))
end
section
open SetTable
theorem Yr{I a:au}{xs:Array Value}{l U:List SV}{n:Nm}{ad:au×au}{R':wW→ak→Prop}(hh:A'.in1.handled=af)(hu:A'.in1.units+2<ez)(dh:a≠I)(hm:m n=aa ad)(ha:a≠ad.1)(hI:I≠ad.1)
  (hX:aO P m l xs.toList) (iy:∀v∈l,fc v=ab) (hU:U.length<18) (s8:∀v∈l,v∈U)
  (hT:∀hp:cO,(∃i,hp.IsListIter I a i)→fK G own P m hp [I]):
  ∀(k i:Nat) (s:ak) (vs:List SV),i+k=xs.size→Rel G F b own ae A P m fr (h.set n (.set vs)) s→s.heap.IsListIter I a i→s.heap.IsList a xs→vs.Nodup→(∀y,y∈vs↔y∈l.take i)→
   (∀hp tk a5,Rel G F b own ae A P m fr (h.set n (.set a5)) {s with heap:=hp,toks:=tk}→a5.Nodup→(∀y,y∈a5↔y∈l)→R' (.ok (.ret .none)) {s with heap:=hp,toks:=tk})→
   ki (aR G.prog G.w) A' (.builtin "set.update.loop" ⟨[.ref ad.1,.ref I],[]⟩) R' s:=by
 have W:=QA (prog:=G.prog) (w:=G.w) (A:=A'.in1) hh I a dh xs;intro k
 induction k with
 |zero=>
  intro i s vs hk R h1 h2 qZ Aq hR;obtain rfl:i=xs.size:=hk;refine w6 ah3 ?_;rw[zT QC _];show aw _ A'.in1 (uD (.ref I) >>=_) _ _ s;refine wb (W.done s _ _ ⟨h1,h2⟩ λhp tk dY=>?_);show aw _ A'.in1 (Ie eH) _ _ _;refine aD (hR hp tk vs (R.pb (s':={s with heap:=hp,toks:=tk}) (hT _ ⟨_,h1⟩) (λa o ha e=>dY a o ha e) rfl rfl) qZ λy=>?_);rw[propext (Aq y),na (bF (hX.size:l.length=xs.size))]
 |succ k ih=>
  intro i s vs hk R h1 h2 qZ Aq hR;have hlt:i<xs.size:=hk▸qS (dK k);refine w6 ah3 ?_;rw[zT QC _];show aw _ A'.in1 (uD (.ref I) >>=_) _ _ s;refine wb (W.item i s _ _ hlt ⟨h1,h2⟩ λv hp tk hP kQ dY=>?_);refine aj (hX.at hlt) λx NR OB=>?_;have hv:xs[i]? =aa v:=hP;rw[jr hlt] at hv;obtain rfl:=aY hv;have hf:=iy x (bN NR);have a6:=R.pb (s':={s with heap:=hp,toks:=tk}) (hT _ ⟨_,h1⟩) (λa o ha e=>dY a o ha e) rfl rfl;show aw _ A'.in1 (ju [xs[i]] (setAdd ad.1 xs[i]) >>=_) _ _ _;refine wb (dM ?_);unfold setAdd;refine dM ?_;refine wb (Rel.hash _ 1 (cj ‹_›) OB (λa o e=>a6.rd e) (tV hf 0) λt=>?_);refine aet (s:={s with heap:=hp,toks:=t}) (a6.tok t) aS hm hf OB (bd (fO qZ λy hy=>s8 y (DL ((Aq y).mp hy))) hU:vs.length<18) (cj ‹_›) λbV a5 r d7 bk An=>?_;rw[iF] at bk;refine aD ⟨Ir QC _,ih (i+1) _ a5 ((wN i k).trans hk) bk (kQ.1.at λo e=>An _ o hI e) (kQ.2.at λo e=>An _ o ha e) d7.1 (λy=>?_) λac7 Ud xB=>hR ac7 Ud xB⟩;rw[propext (d7.2 y),propext (Aq y),jN,NR,propext dw];exact or_comm.trans (or_congr .rfl bS.symm)
theorem φ{n:Nm}{ad:au×au}{I a:au}(R:Rel G F b own ae A P m fr h s)(hI:s.heap.objs.size≤I):∀hp:cO,(∃i,hp.IsListIter I a i)→fK G own P m hp [I]:=by
 rintro hp ⟨i,o,e1,e2,e3⟩;refine⟨λx hx=>?_⟩;obtain rfl:x=I:=by simpa using hx
 refine mv (R.free hI) λp1 p2 p3 p4=>?_;exact(th p1 p3 p2 p4 o e1 (u5 e2 aW aW) (λv e=>by rw[e3] at e;cases e))
theorem Yq{Q₁:Value→ak→Prop}{E:Value→ak→Prop}{prog:fD}{w:cE}(args:List Value)(ha:args=[]∨∃x,args=[x])
  (k:Q₁ (.ref s.heap.objs.size) {s with heap:=s.heap.push {cls:=.type "set",dict:=af,data:=.set #[] 0 (.fresh 0 0 (!(w.params.followText "set-order")))}}):
  ki (aR prog w) A (.call (.builtin "set.__new__") ⟨.type "set"::args,[]⟩) (wants Q₁ E) s:=by
 refine Qi ?_;show aw _ A.in1 (do ah4 "set.__new__" ⟨.type "set"::args,[]⟩;again (.builtin "set.__new__" ⟨.type "set"::args,[]⟩)) _ _ s;have hc:ah4 "set.__new__" ⟨.type "set"::args,[]⟩=pure ():=by
  rcases ha with rfl|⟨x,rfl⟩
  ·exact PySem.F.newCall_set_0
  ·exact PySem.F.newCall_set_1 x
 refine wb (qL hc (aD ⟨Ir ah5 _,w6 PySem.F.entry_set_new ?_⟩));rw[zT ah5 _];unfold Builtin.«set.__new__» alw;have sZ:=QD;obtain⟨hp,g,d,tk,os⟩:=s;rcases ha with rfl|⟨x,rfl⟩
 all_goals
  wp_walk
  refine zN (aD ?_);simp only[newObj];refine wb (Qg (aD ?_));exact aD k
noncomputable def xe(led:Bool):Obj:={cls:=.type "set",dict:=af,data:=.set #[] 0 (.fresh 0 0 led)}
theorem MR{M:i2}{c:Code}{p:Value→ak→Prop}{E:Value→ak→Prop}{R:wW→ak→Prop}(w:ki M A c (wants p E) s)(k:∀v s',p v s'→R (.ok (.ret v)) s')(e:∀x s',E x s'→R (.error x) s'):ki M A c R s:=
 codeAny_mono w λr s' hr=>by
  cases r with
  |error x=>exact e x s' hr
  |ok f=>cases f with
   |ret v=>exact k v s' hr
   |_=>exact hr.elim
theorem Lg{n:Nm}{args:List Value}(ha:args=[]∨∃x,args=[x])(hct:checkTypeCall "set" ⟨args,[]⟩=pure ())(R:Rel G F b own ae A P m fr h s)(hn:h n=af){Q':Value→ak→Prop}{E':Value→ak→Prop}
  (k:∀(aZ:ak) (led:Bool),Rel G F b own ae A P (m.set n (s.heap.objs.size,s.heap.objs.size)) fr (h.set n (.set [])) aZ→m.le (m.set n (s.heap.objs.size,s.heap.objs.size))→aZ.heap.get? s.heap.objs.size=aa (xe led)→(∀a o,s.heap.get? a=aa o→aZ.heap.get? a=aa o)→aZ.heap.objs.size=s.heap.objs.size+1→
   ki (aR G.prog G.w) A.in1 (.call (.builtin "set.__init__") ⟨[.ref s.heap.objs.size]++args,[]⟩) (wants (λr bz=>r=.none∧Q' (.ref s.heap.objs.size) bz) E') aZ):
  aw (aR G.prog G.w) A (pv (.type "set") args []) Q' E' s:=by
 obtain⟨c',tl,akc⟩:=PySem.F.called_set.mro;have aj9:=PySem.F.called_set.made;have sZ:=PySem.F.called_set.sub;have h1:=PySem.F.called_set.notType;have h2:=PySem.F.called_set.canCreate;have hli:=PySem.F.called_set.init.lookup;have hbi:=PySem.F.called_set.init.bind (.ref s.heap.objs.size);obtain⟨a6,le⟩:=R.alloc hn (so:=.set []) (ad:=(s.heap.objs.size,s.heap.objs.size)) (s':={s with heap:=s.heap.push (xe (!(G.w.params.followText "set-order")))})
  (λa o e=>dT _ e) rfl rfl (ar _) (ar _)
  ⟨rfl,#[],0,.fresh 0 0 (!(G.w.params.followText "set-order")),fP _ rfl,⟨⟨rfl,.nil,rfl,.inl rfl,λp hp=>bc hp DE,λi h hi=>nomatch hi⟩,(bg:0*5<7*3)⟩,rfl,.nil,λv hv=>bc hv DE,rfl⟩
 have hT:QE {s with heap:=s.heap.push (xe (!(G.w.params.followText "set-order")))} (.ref s.heap.objs.size) "set":=⟨_,fP _ rfl,rfl⟩;have K:=k _ _ a6 le (fP _ rfl) (λa o e=>dT _ e) (mc _ _);refine P7 (Qi ?_);refine(?_:aw _ _ (callAny (.type "set") _) _ _ _);refine aD ⟨Code.quiet_builtin _ (by decide +kernel),w6 PySem.F.entry_type_call ?_⟩;rw[Around.under_plain (weight_type_call_type "set" args []) rfl]
 repeat (any_goals (first|assumption|wp_step))
 clear a6 k;generalize Sm:s.heap.push (xe (!(G.w.params.followText "set-order")))=hp at hT K;refine MR (Yq (E:=E') (Q₁:=λobj aZ=>obj=.ref s.heap.objs.size∧aZ={s with heap:=hp}) args ha (Sm▸⟨rfl,rfl⟩)) (λv aZ hr=>?_) λ_ _ hr=>hr;obtain⟨rfl,rfl⟩:=hr
 repeat (any_goals (first|assumption|wp_step))
 refine MR K (λv bz hr=>?_) λ_ _ hr=>hr;obtain⟨rfl,hq⟩:=hr
 repeat (any_goals (first|assumption|wp_step))
theorem RO{E':Value→ak→Prop}{Q₁:Value→ak→Prop}{l U:List SV}{n:Nm}{S a:au}{items:Array Value}(R:Rel G F b own ae A P m fr (h.set n (.set [])) s)(hF:F.q=ab)(hm:m n=aa (S,S)){led:Bool}(hs:s.heap.get? S=aa (xe led))(hl:s.heap.IsList a items)(hX:aO P m l items.toList)(ha:a<S)(hS:S<s.heap.objs.size)
  (iy:∀v∈l,fc v=ab) (hU:U.length<18) (s8:∀v∈l,v∈U)
  (k:∀hp tk a5,Rel G F b own ae A P m fr (h.set n (.set a5)) {s with heap:=hp,toks:=tk}→a5.Nodup→(∀y,y∈a5↔y∈l)→Q₁ .none {s with heap:=hp,toks:=tk}):
  ki (aR G.prog G.w) A.in1 (.call (.builtin "set.__init__") ⟨[.ref S]++[.ref a],[]⟩) (wants Q₁ E') s:=by
 have akj:=R.units;have Wa:A.in1.in1.in1.handled=af:=R.quiet hF;have Vq:A.in1.in1.in1.units+2<ez:=by simp;lia
 have gW:s.heap.get? S=aa {cls:=.type "set",dict:=af,data:=.set #[] 0 (.fresh 0 0 led)}:=hs;have hT:s.TypeIs (.ref S) "set":=⟨_,hs,rfl⟩;have hsz:(s.heap.push {cls:=.type "list_iterator",data:=.fields #[.ref a,.int 0 0]}).objs.size=s.heap.objs.size+1:=mc _ _;have bk:=R.grow (s':={s with heap:=s.heap.push {cls:=.type "list_iterator",data:=.fields #[.ref a,.int 0 0]}}) (λa o e=>dT _ e) rfl rfl;refine ah6 PySem.F.called_set.init.plain ah7 (check_set_init_1 hT ?_);refine zu (id hl) λol lR u8 nl vd=>?_;obtain⟨aju,akk,akl,aj4⟩:=ol;simp only at u8 vd;subst u8;subst vd;have akq:=PySem.F.sub_list_set;have akm:=PySem.F.sub_list_frozenset;have dh:(zS "list"==zS "dict")=an:=aW;unfold Builtin.«set.__init__» noKeywords alx;generalize hPI:qM=PI
 wp_walk
 subst hPI;refine Qf hl ?_;refine wb (Qo ?_);exact Yr (U:=U) (n:=n) (ad:=(S,S)) Wa Vq (du (i4 ha hS)) hm (du ha) (dG hS) hX iy hU s8 (φ (n:=n) (ad:=(0,0)) R (ar _)) items.size 0 _ [] (mZ _) bk ⟨_,fP _ rfl,rfl,rfl⟩ (hl.push _) .nil (λy=>.rfl) λhp tk a5 cW h3 h4=>aD (aD (k hp tk a5 cW h3 h4))
theorem Rv{u:SV}{l U:List SV}{n:Nm}{Q:QV}{X:QX}(hF:F.q=ab)(hu:de G h u l)(iy:∀v∈l,fc v=ab)(hU:U.length<18)(s8:∀v∈l,v∈U)(hn:h n=af)
  (hq:∀vs:List SV,vs.Nodup→(∀y,y∈vs↔y∈l)→Q (.ref n) (h.set n (.set vs))):WC G F b fr h (.ty "set") [u] Q X:=by
 first|refine jO ?_|refine jP ?_
 intro own ae A P m s Q' E' a5 R hv c d;refine jx hv λu' kM=>?_;refine bP (R.jd hu kM) λa items ax hl hX=>?_;subst ax;refine Lg (.inr ⟨_,rfl⟩) (PySem.F.typeCall_set_1 _) R hn λaZ led a6 le hs keep hsz=>?_;refine aj hl λol lR hd=>?_;exact RO a6 hF Mu.jb hs ⟨ol,keep _ _ lR,hd⟩ (aO.mono aV.le.rfl.t le _ hX) (jI lR) (hsz▸dq _) iy hU s8 λhp tk a5 cW h3 h4=>⟨rfl,c _ _ _ _ _ _ (hq a5 h3 h4) .rfl le ⟨_,Mu.jb,rfl⟩ cW⟩
end
section
open SetTable
theorem abv{M:i2}{src:Source}{n:Nat}{Q:Nat→ak→Prop}{E:Value→ak→Prop}(hn:n≠0)(k:∀i d,i<n→Q i {s with drawn:=d}):aw M A (choose src n) Q E s:=
 λ_ _ _=>⟨hn,k _ _ (Dg _ (oh hn))⟩
theorem Md{α:Type}{l:List α}:∀{i:Nat} (hi:i<l.length),(l[i]::l.eraseIdx i).Perm l:=by
 induction l with
 |nil=>exact λhi=>bc hi (m5 _)
 |cons x l ih=>exact λ{i} hi=>by cases i with
  |zero=>exact .refl _
  |succ i=>exact(List.Perm.swap x _ _).trans ((ih (Is hi)).cons x)
theorem Rel.un(R:Rel G F b own ae A P m fr h s){k:Nat}(hk:k≤8:=by decide):A.units+k<ez:=bd (ah (e6 hk _) (oj (b6 _ _) 8)) R.units
theorem KQ{α:Type}{l:List α}{i n:Nat}(hi:i<l.length)(h:l.length≤n+1):(l.eraseIdx i).length≤n:=ah (bF (List.length_eraseIdx_of_lt hi)) (QG h)
theorem L4{α:Type}{M:i2}{E:Value→ak→Prop}(n:Nat):∀(xs:List α) (s:ak) {Q:List α→ak→Prop},xs.length≤n→(∀ys d,ys.Perm xs→Q ys {s with drawn:=d})→aw M A (drawOrder n xs) Q E s:=by
 induction n with
 |zero=>exact λxs s Q h k=>aD (k [] s.drawn (ah8 (It.mp h)▸.nil))
 |succ n ih=>
  intro xs s Q h k
  cases xs with
  |nil=>exact aD (k [] s.drawn .nil)
  |cons x xs=>
   refine wb (abv (z0 _) λi d hi=>?_);rw[fb hi];exact wb (ih _ _ (KQ hi h) λys d' hp=>aD (k _ d' ((List.Perm.cons _ hp).trans (Md hi))))
theorem Lo{α:Type}(next:Nat→Nat)(fuel:Nat):∀(k:Nat) (left:List α) (out:Array α),left.length≤fuel→(ah9 next fuel k left out).toList.Perm (out.toList++left):=by
 induction fuel with
 |zero=>exact λk left out h=>ah8 (It.mp h)▸(gP _).symm▸.refl _
 |succ fuel ih=>
  intro k left out h;show(match left[next k % left.length]? with|some x=>ah9 next fuel (k+1) (left.eraseIdx (next k % left.length)) (out.push x)|none=>out).toList.Perm _
  cases e:left[next k % left.length]? with
  |none=>
   cases left with
   |nil=>exact(gP _).symm▸.refl _
   |cons x r=>exact bc (Dg _ (dK _)) (js.mpr (km.mp e))
  |some x=>
   refine(cV.mp e).elim λhi hx=>(ih (k+1) _ _ (KQ hi h)).trans ?_;rw[H3,wR _ _ _];exact List.Perm.append_left _ (hx▸Md hi)
variable{w:cE}{prog:fD}
theorem A_{E:Value→ak→Prop}{Q:Bool→ak→Prop}(k:Q (w.params.followText "set-order") s):aw (aR prog w) A setsByText Q E s:=wb (zN (aD k))
theorem aea{E:Value→ak→Prop}{ad:au×au}{es:Array (Int×Value)}{ep:Nat}{t:c9}(ho:s.heap.get? ad.1=aa (gC es ep t))(T:f_ t (es.toList.map (·.1)))(f8:t.led=!(G.w.params.followText "set-order"))
  {Q:Array (Int×Value)→ak→Prop} (k:∀(ys:Array (Int×Value)) d,ys.toList.Perm es.toList→Q ys {s with drawn:=d}):aw (aR G.prog G.w) A' (setWalk ad.1) Q E s:=by
 refine wb (kw ho rfl T.fits (wb (A_ ?_)));refine jM (λ_=>wb (zN (aD (k _ s.drawn (Lo _ es.size 0 es.toList #[] (ar _)))))) λhb=>jM (λ_=>wb (L4 es.size es.toList s (ar _) λys d hp=>aD (k _ d hp))) λ_=>
  wb (m:=do if !t.led && es.size > 1 then Do "set:maker-not-led") (dU (f8.trans (ay not (DC.mpr hb))▸rfl) (aD (aD (k es s.drawn (.refl _)))))
theorem Rel.drawn(R:Rel G F b own ae A P m fr h s)(d):Rel G F b own ae A P m fr h {s with drawn:=d}:=R.grow (s':={s with drawn:=d}) (λa o e=>e) rfl rfl
theorem TD{E:Value→ak→Prop}(R:Rel G F b own ae A P m fr h s){ad:au×au}{vs:List SV}{es:Array (Int×Value)}{ep:Nat}{t:c9}(ho:s.heap.get? ad.1=aa (gC es ep t))
  (T:f_ t (es.toList.map (·.1))) (H:cr G.w P m vs es.toList) (iy:∀v∈vs,fc v=ab) {x:SV} {x':Value} (hf:fc x=ab) (hx:VR P m x x') (hu:A'.units+1<ez) {Q:Option Nat→ak→Prop}
  (k:∀r:Option Nat,(r.isSome=ab↔x∈vs)→Q r s):aw (aR G.prog G.w) A' (setFind ad.1 x' (bZ G.w x)) Q E s:=by
 have uP:decide (byScan x' es=ab)=an:=by refine xE (DW hf hx) λa bq=>?_;subst bq;rfl
 exact wb (m:=setState ad.1) (kw ho rfl T.fits (dU uP (wb (Kc R (⟨ho,T,H,iy,hf,hx⟩:ni G.w P m s ad.1 vs es ep t x x') an hu (λi hi=>aD (k _ ⟨λ_=>bN hi,λ_=>rfl⟩)) λvL n _ _=>aD (k _ ⟨λe=>bc e iD,λe=>bc e vL⟩)))))
theorem VI:Iu table "set.__ne__"=aa Builtin.«frozenset.__ne__»:=
 QH (id':="frozenset.__ne__") (by kernel_rfl) rfl (by decide +kernel) (by kernel_rfl)
theorem aar:lv (.type "set") (.type "frozenset")=pure an:=by rw[pA _ _];kernel_rfl
theorem U2{M:i2}{E:Value→ak→Prop}{x y:Value}{Q:Value×Value→ak→Prop}(hq:Q (x,y) s):aw M A (aia "__ne__" ⟨[x,y],[]⟩) Q E s:=aD hq
theorem TO{M:i2}{E:Value→ak→Prop}{x:Value}{Q:Bool→ak→Prop}(hT:s.TypeIs x "set")(hq:Q ab s):aw M A (aly x) Q E s:=
 wb (w5 hT QD (aD hq))
theorem afa{M:i2}{E:Value→ak→Prop}{x y:Value}{Q:Bool→ak→Prop}(hT:s.TypeIs x "set")(hq:Q an s):aw M A (H8 x (.type "frozenset") <&&> H8 y (.type "frozenset")) Q E s:=
 wb (w5 hT aar (aD hq))
theorem zE{E:Value→ak→Prop}{prog:fD}{w:cE}{a:au}{es:Array (Int×Value)}{ep:Nat}{t:c9}(ho:s.heap.get? a=aa (gC es ep t))(hf:t.fits es.size=ab){Q:Nat→ak→Prop}(hq:Q es.size s):
  aw (aR prog w) A (alz a) Q E s:=wb (wb (kw ho rfl hf (aD (aD hq))))
theorem Pm{E:Value→ak→Prop}{prog:fD}{w:cE}{a:au}{es:Array (Int×Value)}{ep:Nat}{t:c9}(ho:s.heap.get? a=aa (gC es ep t))(hf:t.fits es.size=ab){Q:Array (Int×Value)→ak→Prop}(hq:Q es s):
  aw (aR prog w) A (setEntries a) Q E s:=wb (kw ho rfl hf (aD hq))
theorem cr.mem{w:cE}{vs:List SV}{es:List (Int×Value)}(H:cr w P m vs es):∀e∈es,∃v∈vs,e.1=bZ w v∧VR P m v e.2:=λe he=>
 xE (qH.mp he) λi hi=>aj (H.at' hi) λv v1 v2=>⟨v,bN v1,v2⟩
structure xM(G:Gl)(P:aV)(m:Mu)(s:ak)(a:au)(vs:List SV)(es:Array (Int×Value))(ep:Nat)(t:c9):Prop where
 ho:s.heap.get? a=aa (gC es ep t)
 T:f_ t (es.toList.map (·.1))
 H:cr G.w P m vs es.toList
 nd:vs.Nodup
 fl:∀v∈vs,fc v=ab
 led:t.led=!(G.w.params.followText "set-order")
theorem Rel.OD(R:Rel G F b own ae A P m fr h s){n:Nm}{ad:au×au}{vs:List SV}(hn:h n=aa (.set vs))(hm:m n=aa ad):∃es ep t,xM G P m s ad.1 vs es ep t:=
 aj (R.obj n _ hn) λbT q1 q2=>aY (q1.symm.trans hm)▸q2.2.elim λes z=>z.elim λk z=>z.elim λt z=>⟨es,k,t,z.1,z.2.1,z.2.2.1,z.2.2.2.1,z.2.2.2.2.1,z.2.2.2.2.2⟩
theorem YA{E:Value→ak→Prop}(R:Rel G F b own ae A P m fr h s){x:SV}{x':Value}(hf:fc x=ab)(hx:VR P m x x'){Q:Bool→ak→Prop}(hq:Q an s):aw (aR G.prog G.w) A' (QI x') Q E s:=
 Gr (C:=λy=>aw (aR G.prog G.w) A' (QI y) Q E s) R hf hx λa o items q ho hd hT hi=>wb (qN hT PySem.F.slot_tuple_eq.lookup (aD ((aW:(aa (H5 "tuple.__eq__")==aa (H5 "object.__eq__"))=an)▸hq)))
theorem aam{α β:Type}{M:i2}{E:Value→ak→Prop}{f:α→β→Sem (ForInStep β)}{p:α→Prop}{I:β→Prop}{Q:β→ak→Prop}{l:List α}{z:β}(hz:I z)(fin:(∀x∈l,p x)→∀z,I z→Q z s)
  (turn:∀x∈l,∀z,I z→∀Q':ForInStep β→ak→Prop,(p x→∀z,I z→Q' (.yield z) s)→(∀z,Q z s→Q' (.done z) s)→aw M A' (f x z) Q' E s):aw M A' (forIn l z f) Q E s:=by
 induction l generalizing z with
 |nil=>exact aD (fin (λ_ h=>cS h) _ hz)
 |cons x l ih=>rw[py];exact wb (turn x (.head _) z hz _ (λhp z hz=>ih hz (λh=>fin λy hy=>(dE.mp hy).elim (· ▸hp) (h y)) λy hy=>turn y (.tail _ hy)) λz hz=>aD hz)
variable{E:Value→ak→Prop}{a a':au}{vs ws:List SV}{es es':Array (Int×Value)}{ep DZ:Nat}{t t':c9}
theorem XS(R:Rel G F b own ae A P m fr h s)(S:xM G P m s a vs es ep t)(S':xM G P m s a' ws es' DZ t')
  {Q:List (Int×Value)→ak→Prop} (k:∀(ys:List (Int×Value)) d,ys.Perm es.toList→Q ys {s with drawn:=d}):aw (aR G.prog G.w) A' (al0 a a') Q E s:=by
 refine wb (Pm S.ho S.T.fits (wb (Pm S'.ho S'.T.fits (wb ?_))));have all:∀x∈es.toList++es'.toList,∃v,fc v=ab∧VR P m v x.2:=λx hx=>(dw.mp hx).elim (λq=>bH (S.H.mem x q) λv v1 _ v3=>⟨v,S.fl v v1,v3⟩) λq=>bH (S'.H.mem x q) λv v1 _ v3=>⟨v,S'.fl v v1,v3⟩;generalize es.toList++es'.toList=l at all
 cases l with
 |nil=>exact aD (aD (k _ s.drawn (.refl _)))
 |cons x r=>
  refine aj (all x (.head _)) λv v1 v2=>?_;rw[py];exact wb (wb (m:=QI x.2) (YA R v1 v2 (pz rfl (wb (m:=al1 a) (wb (aea (ad:=(a,a)) S.ho S.T S.led λys d hp=>aD (aD (aD (aD (k _ d hp))))))))))
theorem Uu(R:Rel G F b own ae A P m fr h s)(S:xM G P m s a vs es ep t)(S':xM G P m s a' ws es' DZ t')
  (hu:A'.units+1<ez) (hsz:es.size=es'.size) {id:String} {Q:Bool→ak→Prop} (k:∀(r:Bool) d,(r=ab↔∀y,y∈vs→y∈ws)→Q r {s with drawn:=d}):aw (aR G.prog G.w) A' (al2 id a a') Q E s:=by
 refine wb (zE S.ho S.T.fits (wb (zE S'.ho S'.T.fits (dU (i0 (hsz▸fo _)) (wb (QJ S.ho rfl S.T.fits (wb (XS R S S' λys d hp=>wb ?_))))))));refine aam (s:={s with drawn:=d}) (I:=λr=>r.1=af) (p:=λe=>∃v∈ws,VR P m v e.2∧fc v=ab) rfl (λal z hz=>?_) λe he z hz Q' k1 k2=>?_
 ·obtain⟨r1,r2⟩:=z
  obtain rfl:r1=af:=hz;exact aD (k ab d ⟨λ_ y hy=>xE (qH.mp hy) λi hi=>bH (S.H.at hi) λe q1 q2 q3=>bH (al e (hp.mem_iff.mpr (bN q1))) λv v1 v2 v3=>
   VR.inj y q3 v2 (sM (tV (S.fl y hy) 0)) (sM (tV v3 0))▸v1,λ_=>rfl⟩)
 ·refine bH (S.H.mem e (hp.mem_iff.mp he)) λv v1 v2 v3=>wb (dM ?_)
  rw[v2];refine TD (ad:=(a',a')) (s:={s with drawn:=d}) (R.drawn d) S'.ho S'.T S'.H S'.fl (S.fl v v1) v3 hu λr q_=>?_
  cases r with
  |none=>exact pz rfl (aD (k2 _ (aD (k an d ⟨λq=>cM q,λq=>cM (q_.mpr (q v v1))⟩))))
  |some i=>exact dU rfl (wb (m:=al3 id a ep) (wb (QJ (s:={s with drawn:=d}) S.ho rfl S.T.fits (dU (by rw[mX _];rfl) (aD (aD (k1 ⟨v,q_.mp rfl,v3,S.fl v v1⟩ _ rfl)))))))
theorem Zx{n n':Nm}{vs ws:List SV}{Q:QV}{X:QX}(hn:h n=aa (.set vs))(pX:h n'=aa (.set ws))(hq:∀r:Bool,(r=ab↔∀y,y∈vs↔y∈ws)→Q (.bool (!r)) h):
  WO G F b fr h [.ref n,.ref n'] (bw (c5 .NotEq)) Q X:=by
 refine .mk λown ae A P m s Q' E' a5 R d7 c d=>bP d7 λv r z1 hv hr=>bP hr λu r' z2 hu z3=>aj hv λad hm z4=>aj hu λbT uU z5=>?_;subst z1;subst z2;subst z3;subst z4;subst z5;refine uq (R.OD hn hm) λes ep t S=>uq (R.OD pX uU) λes' DZ t' S'=>?_;have hT:s.TypeIs (.ref ad.1) "set":=⟨_,S.ho,rfl⟩;have Ar:s.TypeIs (.ref bT.1) "set":=⟨_,S'.ho,rfl⟩;have LN:∀(r:Bool) (dr:_),(r=ab↔∀y,y∈vs↔y∈ws)→Q' (.bool (!r)) {s with drawn:=dr}:=λr dr hr=>c _ _ _ _ _ _ (hq r hr) .rfl .rfl rfl (R.drawn dr);have Lq:vs.length=ws.length↔es.size=es'.size:=(S.H.length.trans fQ)▸(S'.H.length.trans fQ)▸.rfl;refine wpAny_richCompare_same_room (op:=.NotEq) hT Ar aib (i5 aib hT VI ?_ (PySem.F.args_set_ne_2 _ _)) (R.un (k:=0));refine wb (m:=aia "__ne__" ⟨[.ref ad.1,.ref bT.1],[]⟩) (U2 (wb (TO Ar ?_)));refine wb (m:=aic (.ref ad.1)) (aD (wb (m:=aic (.ref bT.1)) (aD ?_)));refine wb (zE S.ho S.T.fits (wb (zE S'.ho S'.T.fits (wb ?_))));refine jM (λz=>?_) λz=>?_
 ·refine aD (aD ⟨_,rfl,λx=>(nomatch x),LN an s.drawn ⟨λq=>cM q,λq=>?_⟩⟩)
  exact bc (Lq.mp ((HH S.nd S'.nd).mpr q).length_eq) (bne_iff_ne.mp z)
 ·have hsz:es.size=es'.size:=Decidable.of_not_not λq=>z (bne_iff_ne.mpr q)
  refine wb (afa hT (Uu R S S' (R.un (k:=2)) hsz λr d hr=>?_));refine aD ⟨_,rfl,λx=>(nomatch x),LN r d (hr.trans ⟨λq y=>⟨q y,λhy=>Dh λhn=>?_⟩,λq y=>(q y).mp⟩)⟩;exact bc (ah (fO (lh.mpr ⟨hn,S.nd⟩) λz hz=>(dE.mp hz).elim (λe=>e▸hy) (q z)) (bF (Lq.mpr hsz).symm)) (Nat.not_succ_le_self _)
end
section
open SetTable
theorem BG:Slot "set_iterator" "__next__" "set_iterator.__next__":=
 .of (owner:="set_iterator") (n:="__next__") (by rw[typeLookup_type _ _,aid];kernel_rfl) (by decide +kernel) (by decide +kernel) (by decide +kernel)
  (.inl (by decide +kernel)) (by rw[pA _ _];kernel_rfl)
theorem MJ:Slot "set_iterator" "__iter__" "set_iterator.__iter__":=
 .of (owner:="set_iterator") (n:="__iter__") (by rw[typeLookup_type _ _,aid];kernel_rfl) (by decide +kernel) (by decide +kernel) (by decide +kernel)
  (.inl (by decide +kernel)) (by rw[pA _ _];kernel_rfl)
theorem U1:Iu table "set_iterator.__next__"=aa Builtin.«set_iterator.__next__»:=entryFor_of_tree (by kernel_rfl)
theorem abb(a:Value):argsOk "set_iterator.__next__" ⟨[a],[]⟩:=by unfold argsOk;kernel_rfl
theorem Z5:Iu table "set.__iter__"=aa Builtin.«frozenset.__iter__»:=
 QH (id':="frozenset.__iter__") (by kernel_rfl) rfl (by decide +kernel) (by kernel_rfl)
theorem abf:Iu table "set_iterator.__iter__"=aa Builtin.«dict_keyiterator.__iter__»:=
 QH (id':="dict_keyiterator.__iter__") (by kernel_rfl) rfl (by decide +kernel) (by kernel_rfl)
theorem Wn(a:Value):argsOk "set_iterator.__iter__" ⟨[a],[]⟩:=by unfold argsOk;kernel_rfl
def WM(w:cE)(a:au)(es:Array (Int×Value))(ep:Nat)(t:c9)(ord:List (Int×Value))(slot i:Nat):Prop:=
 (w.params.followText "set-order"=ab∧ord=(pickOrder (w.params.setOrder a ep) es).toList)∨(w.params.followText "set-order"=an∧(!t.plain && decide (es.size > 1))=an∧below t.place slot=i∧ord=es.toList)
def WD(hp:cO)(I tp:au)(es:Array (Int×Value))(ord:List (Int×Value)):Prop:=
 tp≠I∧∃ks:List Nat,hp.get? tp=aa {cls:=.type "tuple",data:=.seq (ks.map λ(k:Nat)=>e_ k).toArray}∧ks.length=ord.length∧∀(i k:Nat),ks[i]? =aa k→∃e,es[k]? =aa e∧ord[i]? =aa e
noncomputable def td(a:au)(es:Array (Int×Value))(ep i:Nat)(first:Value):Obj:={cls:=.type "set_iterator",data:=.fields #[first,e_ (i:Int),.ref a,e_ (es.size:Int),e_ (ep:Int)]}
structure SI(w:cE)(I tp a:au)(es:Array (Int×Value))(ep:Nat)(t:c9)(ord:List (Int×Value))(i:Nat)(hp:cO):Prop where
 set:hp.get? a=aa (gC es ep t)
 it:(∃slot:Nat,hp.get? I=aa (td a es ep i (e_ slot))∧WM w a es ep t ord slot i)∨(hp.get? I=aa (td a es ep i (.ref tp))∧WD hp I tp es ord)
variable{w:cE}{tp a:au}{es:Array (Int×Value)}{ep:Nat}{t:c9}{ord:List (Int×Value)}{i:Nat}
theorem Vk{xs:Array Nat}(hr:np xs.toList){i p:Nat}(h:xs[i]? =aa p):below xs (p+1)=i+1:=by
 have B:=Bm (xs:=xs) (p+1) hr;rcases HD (below xs (p+1)) (i+1) with q|q|q
 ·exact bc (B.hi i p h (eS q)) (mi (dq p))
 ·exact q
 ·have g:=jr (bI q B.le)
  exact bc (B.lo _ _ g q) (ma (hr.lt h g (dq i)))
theorem U6{E:Value→ak→Prop}{prog:fD}(ho:s.heap.get? a=aa (gC es ep t))(T:f_ t (es.toList.map (·.1)))(hb:w.params.followText "set-order"=ab){Q:Array (Int×Value)→ak→Prop}(k:Q (pickOrder (w.params.setOrder a ep) es) s):aw (aR prog w) A (setWalk a) Q E s:=by
 unfold setWalk;refine wb (kw ho rfl T.fits (wb (A_ ?_)));exact pz (eQ hb) (wb (zN (aD k)))
theorem RE{E:Value→ak→Prop}{prog:fD}(S:SI w I tp a es ep t ord i s.heap)(T:f_ t (es.toList.map (·.1)))(f8:t.led=!(w.params.followText "set-order")){slot:Nat}{Q:Option (Value×Nat)→ak→Prop}
  (W:WM w a es ep t ord slot i) (k1:∀e y_,ord[i]? =aa e→WM w a es ep t ord y_ (i+1)→Q (aa (e.2,y_)) s) (k2:ord[i]? =af→Q af s):aw (aR prog w) A (setNext a slot i ep) Q E s:=by
 unfold setNext;refine wb (kw S.set rfl T.fits (wb (A_ ?_)));rcases W with W|W
 ·refine pz (eQ W.1) (dU (by rw[mX _];rfl) (wb (U6 S.set T W.1 (aD ?_))))
  have e:(pickOrder (w.params.setOrder a ep) es)[i]? =ord[i]? :=W.2▸jt.symm;rw[e]
  cases q:ord[i]? with
  |none=>exact k2 q
  |some e=>exact k1 e slot q (.inl W)
 ·refine dU (by rw[W.1];rfl) (dU (i0 λe=>iD (W.2.1.symm.trans e)) (wb (m:=do if !t.led && !es.isEmpty then Do "set:maker-not-led") (dU (by rw[f8,W.1];rfl) (aD (aD ?_)))))
  have c7:t.place.size=es.size:=fQ.symm.trans (T.1.len.trans (aI _|>.trans fQ));have e:es[below t.place slot]? =ord[i]? :=by rw[W.2.2.1,W.2.2.2,jt]
  rw[e,W.2.2.1]
  cases q:ord[i]? with
  |none=>exact k2 q
  |some e=>
   have hi:i<t.place.size:=c7▸(cV.mp (W.2.2.2▸q)).1;have g:=jr hi;rw[g];exact k1 e _ q (.inr (oW W.1 W.2.1 (Vk T.1.rise g) W.2.2.2))
theorem WD.move{hp bV:cO}(W:WD hp I tp es ord)(ht:∀o,tp≠I→hp.get? tp=aa o→bV.get? tp=aa o):WD bV I tp es ord:=⟨W.1,aj W.2 λks h1 h2=>⟨ks,ht _ W.1 h1,h2⟩⟩
theorem SI.move{hp bV:cO}(S:SI w I tp a es ep t ord i hp)(h:∀b∈[I,a,tp],∀o,hp.get? b=aa o→bV.get? b=aa o):SI w I tp a es ep t ord i bV:=
 ⟨h a (.tail _ (.head _)) _ S.set,S.it.imp (λx=>aj x λslot q1 q2=>⟨slot,h I (.head _) _ q1,q2⟩) λx=>⟨h I (.head _) _ x.1,x.2.move λo _=>h tp (.tail _ (.tail _ (.head _))) o⟩⟩
theorem SI.ty(S:SI w I tp a es ep t ord i s.heap):s.TypeIs (.ref I) "set_iterator":=S.it.elim (λx=>aj x λ_ q _=>⟨_,q,rfl⟩) λx=>⟨_,x.1,rfl⟩
theorem XE{prog:fD}{E:Value→ak→Prop}{Q:lj→ak→Prop}(hh:A.handled=af)(k:∀e hp,(∀b o,s.heap.get? b=aa o→hp.get? b=aa o)→QE {s with heap:=hp} e "StopIteration"→E e {s with heap:=hp}):
  aw (aR prog w) A (do HV (←newExc (.type "StopIteration") []):Sem lj) Q E s:=by
 refine wb ?_;unfold newExc newTuple;refine wb (sF (wb (m:=Qa _ _) (qL (a:=eH) rfl (sF ?_ (by size_fits)))) (by size_fits));unfold HV;refine wb (wpAny_handled (hh.symm▸wb (aD (wpAny_throw ?_))));exact k _ _ (λb o q=>dT _ (dT _ q)) ⟨_,fP _ rfl,rfl⟩
theorem ZB{E:Value→ak→Prop}{prog:fD}{Q:lj→ak→Prop}(rE:a≠I)(hh:A.handled=af)(T:f_ t (es.toList.map (·.1)))(f8:t.led=!(w.params.followText "set-order"))(S:SI w I tp a es ep t ord i s.heap)
  (k1:∀e,ord[i]? =aa e→∀hp,SI w I tp a es ep t ord (i+1) hp→(∀b o,b≠I→s.heap.get? b=aa o→hp.get? b=aa o)→Q (.done (.ret e.2)) {s with heap:=hp})
  (k2:ord[i]? =af→∀e hp,(∀b o,b≠I→s.heap.get? b=aa o→hp.get? b=aa o)→QE {s with heap:=hp} e "StopIteration"→E e {s with heap:=hp}):
  aw (aR prog w) A (Builtin.«set_iterator.__next__» ⟨[.ref I],[]⟩) Q E s:=by
 have lD:∀{hp:cO} {f:Obj→Obj} b o,b≠I→hp.get? b=aa o→(hp.update I f).get? b=aa o:=λb o hb q=>(zO _ _ (Ne.symm hb)).trans q;have stop:∀{hp:cO},ord[i]? =af→(∀b o,b≠I→s.heap.get? b=aa o→hp.get? b=aa o)→aw (aR prog w) A (do HV (←newExc (.type "StopIteration") []):Sem lj) Q E {s with heap:=hp}:=λ{hp} hn q=>
  XE (s:={s with heap:=hp}) hh λe bV q' ty=>k2 hn e bV (λb o hb h=>q' b o (q b o hb h)) ty
 unfold Builtin.«set_iterator.__next__»;refine wb (m:=slotArgs "__next__" 0 ⟨[.ref I],[]⟩) (aD ?_);rcases S.it with h|⟨hI,W⟩
 ·refine aj h λslot hI W=>?_
  refine wb (wpAny_fieldsOf hI rfl (wb (wb (kw S.set rfl T.fits (aD (dU (by rw[mX _];rfl) (wb (RE S T f8 W (λe y_ he W'=>?_) λhn=>?_))))))))
  ·have h1:=lf (uI (·.setIfInBounds 0 (e_ y_))) hI rfl
   refine wb (sE hI rfl (aie _) (wb (sE (s:={s with heap:=_}) h1 rfl (jG rfl) (aD (k1 e he _ ⟨lD _ _ rE (lD _ _ rE S.set),.inl ⟨y_,lf _ h1 rfl,W'⟩⟩ λb o hb q=>lD _ _ hb (lD _ _ hb q))))))
  ·exact wb (sE hI rfl (jG rfl) (stop hn λb o hb q=>lD _ _ hb q))
 ·refine wb (wpAny_fieldsOf hI rfl (wb (wb (kw S.set rfl T.fits (aD (dU (by rw[mX _];rfl) ?_))))))
  refine bH W.2 λks h3 h4 h5=>wb (wY h3 rfl ?_);dsimp only;rw[((List.getElem?_toArray).trans dv:((ks.map λ(k:Nat)=>e_ k).toArray)[(i:Int).toNat]? =ks[i]?.map λ(k:Nat)=>e_ k)]
  cases q:ks[i]? with
  |none=>
   exact wb (sE hI rfl (aie _) (wb (sE (s:={s with heap:=_}) (lf (uI (·.setIfInBounds 0 (e_ 0))) hI rfl) rfl (jG rfl) (stop (md (h4▸km.mp q)) λb o hb q=>lD _ _ hb (lD _ _ hb q)))))
  |some k=>
   refine aj (h5 i k q) λe e1 e2=>?_;refine wb (m:=setNextDrawn a ((k:Nat):Int).toNat ((ep:Int)).toNat) ?_;unfold setNextDrawn;refine wb (kw S.set rfl T.fits (dU (by rw[HT _,mX _];rfl) ?_));show aw _ _ (match es[k]? with|some (_,x)=>pure x|_=>_) _ _ _;rw[e1];exact aD (wb (sE hI rfl (jG rfl) (aD (k1 e e2 _ ⟨lD _ _ rE S.set,.inr ⟨lf _ hI rfl,W.move λo ht=>lD _ _ ht⟩⟩ λb o hb q=>lD _ _ hb q))))
theorem I7{E:Value→ak→Prop}{prog:fD}{Q:Option Value→ak→Prop}(rE:a≠I)(hh:A.handled=af)(T:f_ t (es.toList.map (·.1)))(f8:t.led=!(w.params.followText "set-order"))(S:SI w I tp a es ep t ord i s.heap)
  (k1:∀e,ord[i]? =aa e→∀hp,SI w I tp a es ep t ord (i+1) hp→(∀b o,b≠I→s.heap.get? b=aa o→hp.get? b=aa o)→Q (aa e.2) {s with heap:=hp})
  (k2:ord[i]? =af→∀hp,(∀b o,b≠I→s.heap.get? b=aa o→hp.get? b=aa o)→Q af {s with heap:=hp}):aw (aR prog w) A (uD (.ref I)) Q E s:=by
 have hT:=S.ty;unfold uD;exact wb (wpAny_attempt (qK (name:=d5 "__next__") hT BG (i5 BG hT U1 (ZB rE hh T f8 S (λe he hp S' q=>⟨_,rfl,aD (k1 e he hp S' q)⟩) λhn e hp q ty=>wb (w5 ty isSubtype_stop (aD (k2 hn hp q)))) (abb _))))
theorem UG{prog:fD}(rE:a≠I)(hh:A.handled=af)(T:f_ t (es.toList.map (·.1)))(f8:t.led=!(w.params.followText "set-order"))(lR:ord.length=es.size):
  WalksS prog w A I [I,a,tp] [I] Eq es.size (λi v=>∃e,ord[i]? =aa e∧v=e.2) (λi s=>SI w I tp a es ep t ord i s.heap) where
 sub _ h:=(bS.mp h)▸.head _
 grefl _:=rfl
 gtrans _ _ _:=Eq.trans
 frame _ _ _ _ S _ h:=S.move h
 item _ _ _ _ hi S k:=I7 rE hh T f8 S (λe he hp S' q=>k _ _ ⟨e,he,rfl⟩ S' ⟨λb o hb=>q b o λz=>hb (z▸.head _),rfl,rfl,rfl,ar _⟩) λhn=>bc (km.mp hn) (mi (lR.symm▸hi))
 done _ _ _ S k:=I7 rE hh T f8 S (λe he=>bc (cV.mp he).1 (lR▸fo _)) λ_ hp q=>k _ ⟨λb o hb=>q b o λz=>hb (z▸.head _),rfl,rfl,rfl,ar _⟩
 self _ _ _ _ S k:=aif S.ty MJ (i5 MJ S.ty abf (aD ⟨_,rfl,_,_,S.ty,BG.lookup,k⟩) (Wn _))
theorem UY(a:Value):argsOk "set.__iter__" ⟨[a],[]⟩:=PySem.F.args_set_iter_1 a
theorem aa3{E:Value→ak→Prop}{prog:fD}(ho:s.heap.get? a=aa (gC es ep t))(T:f_ t (es.toList.map (·.1))){Q:Bool→ak→Prop}(k:Q (!(w.params.followText "set-order") && (!t.plain && decide (es.size > 1))) s):
  aw (aR prog w) A (setDrawn a) Q E s:=by
 unfold setDrawn;exact wb (kw ho rfl T.fits (wb (A_ (aD k))))
theorem Wk{E:Value→ak→Prop}{prog:fD}(ho:s.heap.get? a=aa (gC es ep t))(T:f_ t (es.toList.map (·.1)))(f8:t.led=!(w.params.followText "set-order"))(hsz:es.size≤cR){Q:Value→ak→Prop}
  (k:∀I tp hp d ord,(∀b o,s.heap.get? b=aa o→hp.get? b=aa o)→s.heap.objs.size≤I→s.heap.objs.size≤tp→SI w I tp a es ep t ord 0 hp→ord.Perm es.toList→Q (.ref I) {s with heap:=hp,drawn:=d}):
  aw (aR prog w) A (qM (.ref a)) Q E s:=by
 have hT:s.TypeIs (.ref a) "set":=⟨_,ho,rfl⟩;refine aif hT aig (i5 aig hT Z5 ?_ (UY _));refine wb (m:=al4 "__iter__" ⟨[.ref a],[]⟩) (aD ?_);refine wb (zE ho T.fits (wb (aa3 ho T ?_)));have fin:∀(tp:au) (hp:cO) d first ord,(∀b o,s.heap.get? b=aa o→hp.get? b=aa o)→s.heap.objs.size≤hp.objs.size→s.heap.objs.size≤tp→(∀bV,(∀b o,hp.get? b=aa o→bV.get? b=aa o)→bV.get? hp.objs.size=aa (td a es ep 0 first)→
   (∃slot:Nat,bV.get? hp.objs.size=aa (td a es ep 0 (e_ slot))∧WM w a es ep t ord slot 0)∨(bV.get? hp.objs.size=aa (td a es ep 0 (.ref tp))∧WD bV hp.objs.size tp es ord))→ord.Perm es.toList→
   aw (aR prog w) A.in1 (do Ie (←newFields "set_iterator" [first,e_ 0,.ref a,e_ (es.size:Int),e_ ((←setEpoch a):Int)])) (λ(fin:lj) s'=>∃v,fin=PySem.Fin.done (.ret v)∧∃T c,s'.TypeIs v T∧typeLookup (.type T) "__next__"=pure (aa c)∧Q v s') E {s with heap:=hp,drawn:=d}:=by
  intro tp hp d first ord q1 q2 q3 q4 q5
  have gk:∀b o,hp.get? b=aa o→(hp.push (td a es ep 0 first)).get? b=aa o:=λb o e=>dT _ e;have gs:=fP hp (o:=td a es ep 0 first) rfl;exact wb (QJ (s:={s with heap:=hp,drawn:=d}) (q1 _ _ ho) rfl T.fits (wb (m:=newFields _ _) (sF (aD ⟨_,rfl,"set_iterator",_,⟨_,gs,rfl⟩,BG.lookup,k hp.objs.size tp _ d ord (λb o e=>gk b o (q1 b o e)) q2 q3 ⟨gk _ _ (q1 _ _ ho),q4 _ gk gs⟩ q5⟩) (by size_fits))))
 cases hb:w.params.followText "set-order" with
 |true=>
  refine dU (by rw[aih,Bool.false_and _];rfl) (wb (aD (fin s.heap.objs.size s.heap s.drawn (e_ 0) _ (λb o e=>e) (ar _) (ar _) (λbV _ g=>.inl ⟨0,g,.inl ⟨hb,rfl⟩⟩) ?_)));exact Lo _ es.size 0 es.toList #[] (ar _)
 |false=>
  cases hd:(!t.plain && decide (es.size > 1)) with
  |false=>
   refine dU rfl (wb (aD (fin s.heap.objs.size s.heap s.drawn (e_ 0) es.toList (λb o e=>e) (ar _) (ar _) (λbV _ g=>.inl ⟨0,g,.inr (oW hb hd ?_ rfl)⟩) (List.Perm.refl _))));have B:=Bm (xs:=t.place) 0 T.1.rise;exact(sJ _).elim id λq=>bc (B.lo 0 _ (jr (bI q B.le)) q) (m5 _)
  |true=>
   refine pz rfl (wb (L4 es.size (bo es.size) s (bF dS) λks d hp=>?_));have hlt:∀{k},k∈ks→k<es.toList.length:=λ{k} h=>fQ▸dR.mp (hp.mem_iff.mp h);have fe:=G9 (0,eH) (l:=es.toList) λi hi=>hlt hi;refine wb (wpAny_newTuple (fin s.heap.objs.size _ d (.ref s.heap.objs.size) (ks.filterMap (es.toList[·]?)) (λb o e=>dT _ e) (mc ..▸bR _) (ar _) (λbV dY g=>.inr ⟨g,mc ..▸du (dq _),ks,dY _ _ (fP _ rfl),?_,λi k Lh=>?_⟩) ?_) ?_)
   ·exact((ay oq fe).trans (aI _)).symm
   ·have hk:=hlt (bN Lh)
    refine⟨es.toList[k],by rw[←jt];exact fb hk,?_⟩;rw[fe,dv,Lh];exact ay aa (pn.trans (ay (PT · _) (fb hk)))
   ·have:=hp.filterMap (es.toList[·]?)
    rwa [←fQ,ah1] at this
   ·rw[aI _,hp.length_eq,dS];exact hsz
end
section
noncomputable def ev{α:Type}(lt:Nat→Nat→Bool):KasT α→α
 |.ret a=>a
 |.ask i j k=>ev lt (k (lt i j))
theorem zc{α β:Type}(lt:Nat→Nat→Bool)(f:α→KasT β)(t:KasT α):ev lt (t.bind f)=ev lt (f (ev lt t)):=by
 induction t with
 |ret _=>rfl
 |ask i j k ih=>exact ih (lt i j)
noncomputable def Run{α:Type}(n:Nat)(Q:α→Prop):KasT α→Prop
 |.ret a=>Q a
 |.ask i j k=>i<n∧j<n∧∀b,Run n Q (k b)
theorem Run.ite{α:Type}{n:Nat}{Q:α→Prop}{c:Prop}[Decidable c]{t u:KasT α}(a:Run n Q t)(b:Run n Q u):Run n Q (if c then t else u):=
 if h:c then(aP h).symm▸a else(aK h).symm▸b
theorem Run.bind{α β:Type}{n:Nat}{Q:α→Prop}{Q':β→Prop}{f:α→KasT β}{t:KasT α}(r:Run n Q t)(hf:∀a,Q a→Run n Q' (f a)):Run n Q' (t.bind f):=by
 induction t with
 |ret a=>exact hf a r
 |ask i j k ih=>exact⟨r.1,r.2.1,λb=>ih b (r.2.2 b)⟩
theorem Run.ev{α:Type}{n:Nat}{Q:α→Prop}{t:KasT α}(lt:Nat→Nat→Bool)(r:Run n Q t):Q (ev lt t):=by
 induction t with
 |ret a=>exact r
 |ask i j k ih=>exact ih _ (r.2.2 _)
theorem Run.aah{α:Type}{n:Nat}{Q:α→Prop}{lt lt':Nat→Nat→Bool}(hl:∀i j,i<n→j<n→lt i j=lt' i j){t:KasT α}(r:Run n Q t):Mine.Internal.ev lt t=Mine.Internal.ev lt' t:=by
 induction t with
 |ret a=>rfl
 |ask i j k ih=>exact(ay (λb=>Mine.Internal.ev lt (k b)) (hl i j r.1 r.2.1)).trans (ih _ (r.2.2 _))
theorem Run.XK{α:Type}{n:Nat}{lt:Nat→Nat→Bool}{A7:Nat→Nat→(Bool→ak→Prop)→ak→Prop}{s:ak}(hc:∀i j C,i<n→j<n→C (lt i j) s→A7 i j C s){Q:α→ak→Prop}{Q':α→Prop}{t:KasT α}
  (r:Run n Q' t) (h:Q (Mine.Internal.ev lt t) s):t.kasWp A7 Q s:=by
 induction t with
 |ret a=>exact h
 |ask i j k ih=>exact hc i j _ r.1 r.2.1 (ih _ (r.2.2 _) h)
def PR(n:Nat)(p:Array Nat):Prop:=p.toList.Perm (bo n)
theorem PR.perm{n:Nat}{p q:Array Nat}(h:PR n p)(hp:q.Perm p):PR n q:=(Array.perm_iff_toList_perm.mp hp).trans h
theorem PR.rev{n:Nat}{p:Array Nat}(h:PR n p)(i j:Nat):PR n (kas_rev p i j):=h.perm (mirror_perm _ _ _ _)
theorem PR.size{n:Nat}{p:Array Nat}(h:PR n p):p.size=n:=h.length_eq.trans dS
section
variable{n:Nat}(hn:0<n)
include hn
theorem PR.at{p:Array Nat}(h:PR n p)(i:Nat):p.getD i 0<n:=by
 unfold aii;exact if q:i<p.size then(dif_pos q).symm▸dR.mp (h.mem_iff.mp (Array.getElem_mem_toList q)) else(dif_neg q).symm▸hn
theorem K4{p:Array Nat}(h:PR n p)(f:Nat):∀k,Run n (λ_=>True) (kas_asc p f k):=by
 induction f with
 |zero=>exact λ_=>trivial
 |succ f ih=>exact λk=>⟨h.at hn _,h.at hn _,λ_=>.ite trivial (ih _)⟩
theorem Ua(f:Nat):∀{p:Array Nat} (k q:Nat),PR n p→Run n (λr=>PR n r.1) (kas_desc f p k q):=by
 induction f with
 |zero=>exact λ_ _ h=>h
 |succ f ih=>exact λk q h=>⟨h.at hn _,h.at hn _,λ_=>.ite (.ite (ih _ _ (h.rev _ _)) (ih _ _ h)) ⟨h.at hn _,h.at hn _,λ_=>.ite h (ih _ _ h)⟩⟩
theorem LY{k nrem:Nat}{p:Array Nat}(h:PR n p):Run n (λr=>PR n r.2) (kas_tail3 k nrem p):=(K4 hn (h.rev _ _) _ _).bind λ_ _=>h.rev 0 k
theorem J8{k nrem:Nat}{p:Array Nat}(h:PR n p):Run n (λr=>PR n r.2) (QK k nrem p):=
 (Ua hn _ _ _ h).bind λr hr=>.ite (LY hn (hr.rev _ _)) (LY hn hr)
theorem L6{nrem:Nat}{p:Array Nat}(h:PR n p):Run n (λr=>PR n r.2) (Iv nrem p):=
 (K4 hn h _ _).bind λ_ _=>.ite h (.ite ⟨h.at hn _,h.at hn _,λ_=>.ite h (J8 hn (h.rev _ _))⟩ (J8 hn h))
theorem VF{p:Array Nat}(h:PR n p)(k f:Nat):∀l r,Run n (λ_=>True) (kas_place p k f l r):=by
 induction f with
 |zero=>exact λ_ _=>trivial
 |succ f ih=>exact λl r=>.ite trivial ⟨h.at hn _,h.at hn _,λ_=>.ite (ih _ _) (ih _ _)⟩
theorem Ζ(f:Nat):∀{p:Array Nat} (k:Nat),PR n p→Run n (PR n) (DM f p k):=by
 induction f with
 |zero=>exact λ_ h=>h
 |succ f ih=>exact λk h=>(VF hn h k _ _ _).bind λl _=>ih _ (h.perm (bubble_perm _ _ _))
theorem As:Run n (PR n) (z7 n):=
 (L6 hn (p:=(bo n).toArray) (.refl _)).bind λr hr=>.ite (Ζ hn _ _ hr) hr
end
theorem yI{α:Type}{c:Prop}[Decidable c]{x y:α}(h:c):(if decide c=ab then x else y)=x:=aP (eQ h)
theorem GF{α:Type}{c:Prop}[Decidable c]{x y:α}(h:¬c):(if decide c=ab then x else y)=y:=aK λe=>h (fC e)
section
variable(key:Nat→Int)
abbrev kl(i j:Nat):Bool:=decide (key i<key j)
noncomputable def KP(p:Array Nat)(i:Nat):Int:=key (p.getD i 0)
def gq(r:Int→Int→Prop)(p:Array Nat)(k:Nat):Prop:=∀i,i+1<k→r (KP key p i) (KP key p (i+1))
def CU(n:Nat)(p:Array Nat):Prop:=∀i j,i<j→j<n→KP key p i≠KP key p j
variable{key}{r:Int→Int→Prop}{p:Array Nat}{m k n:Nat}
theorem AD{q:Array Nat}{i j:Nat}(h:p[i]? =q[j]?):KP key p i=KP key q j:=by
 unfold KP;rw[PQ,PQ,h]
theorem Av(hk:((bo n).map key).Nodup)(h:PR n p):CU key n p:=λi j wq hj e=>by
 have z:∀{i},i<n→(p.toList.map key)[i]? =aa (KP key p i):=λ{i} hi=>by
  have qz:i<p.size:=h.size.symm▸hi;unfold KP aii;rw[dif_pos qz,dv,jt,jr qz];rfl
 have hi:=i4 wq hj;exact du wq ((Qm (by rw[aI _];exact PS hi h.size.symm) ((h.map key).nodup_iff.mpr hk)).mp ((z hi).trans ((ay aa e).trans (z hj).symm)))
theorem gq.at(h:gq key r p k)(tr:∀{a b c},r a b→r b c→r a c){i j:Nat}(wq:i<j)(hj:j<k):r (KP key p i) (KP key p j):=by
 induction wq with
 |refl=>exact h i hj
 |step _ ih=>exact tr (ih (oy hj)) (h _ hj)
theorem gq.snoc(h:gq key r p (m+1))(hx:r (KP key p m) (KP key p (m+1))):gq key r p (m+2):=λi hi=>
 (zI (H9 hi)).elim (h i) λq=>DD q▸hx
theorem gq.one:gq key r p 1:=λi hi=>bc hi (ma (eG (b_ i)))
theorem F9{a b:Int}(h:¬a<b)(e:b≠a):b<a:=Int.lt_iff_le_and_ne.mpr ⟨qG.mp h,e⟩
theorem Mm(D:CU key n p)(f:Nat):∀{m} {C:Prop},m+1+f=n→gq key (· < ·) p (m+1)→
  (∀r,ev (kl key) (kas_asc p f (m+1))=r+1→r+1≤n→gq key (· < ·) p (r+1)→(r+1<n→KP key p (r+1) <KP key p r)→C)→C:=by
 induction f with
 |zero=>exact λ{m} _ e h c=>c m rfl (bF e) h λq=>bc e (du q)
 |succ f ih=>
  exact λ{m} _ e h c=>
  have hm:=e▸qS (dK f)
  if hc:KP key p (m+1) <KP key p m then c m (ay (ev (kl key)) (yI hc)) (cj hm) h λ_=>hc
  else ih ((Dj _ _).trans e) (h.snoc (F9 hc (D _ _ (dq m) hm))) λr e'=>c r ((ay (ev (kl key)) (GF hc)).trans e')
theorem SE(D:CU key n p)(f:Nat):∀{m} {C:Prop},m+1+f=n→gq key (· > ·) p (m+1)→
  (∀r,ev (kl key) (kas_desc f p (m+1) 0)=(p,r+1,0)→r+1≤n→gq key (· > ·) p (r+1)→C)→C:=by
 induction f with
 |zero=>exact λ{m} _ e h c=>c m rfl (bF e) h
 |succ f ih=>
  exact λ{m} _ e h c=>
  have hm:=e▸qS (dK f)
  if hc:KP key p (m+1) <KP key p m then ih ((Dj _ _).trans e) (h.snoc hc) λr e'=>c r ((ay (ev (kl key)) ((yI hc).trans (aK (fo 0)))).trans e')
  else c m (ay (ev (kl key)) ((GF hc).trans rfl)|>.trans (ay (ev (kl key)) (yI (F9 hc (D _ _ (dq m) hm))))) (cj hm) h
structure Good(key:Nat→Int)(n:Nat)(r:Nat×Array Nat):Prop where
 pos:0<r.1
 le:r.1≤n
 JO:gq key (· < ·) r.2 r.1
theorem NW(hm:m<p.size){i:Nat}(hi:i≤m):KP key (kas_rev p 0 (m+1)) i=KP key p (m-i):=
 AD ((getElem?_mirror_all hm i).trans ((aP ⟨b_ _,lb hi⟩).trans (by rw[mZ _];rfl)))
theorem aa7(hm:m<p.size)(h:gq key (· > ·) p (m+1)):gq key (· < ·) (kas_rev p 0 (m+1)) (m+1):=λi hi=>by
 have hi:=Is hi;have z:m- (i+1)+1=m-i:=qT (af1 hi);rw[NW hm (cj hi),NW hm hi,←z];exact(h (m- (i+1)) (z▸lb (ku _ _)))
theorem aem(hk:((bo n).map key).Nodup)(h:PR n p)(hm:m<n)(A:gq key (· > ·) p (m+1)):Good key n (ev (kl key) (kas_tail3 (m+1) n p)):=by
 refine Mm (Av hk (h.rev 0 (m+1))) (n- (m+1)) (uv hm) (aa7 (h.size.symm▸hm) A) λr e l a _=>?_;exact(zc _ _ _).symm▸e.symm▸⟨dK r,l,a⟩
theorem VL(hk:((bo n).map key).Nodup)(h:PR n p)(hm:1<n)(A:KP key p 1<KP key p 0):Good key n (ev (kl key) (QK 1 n p)):=by
 refine SE (Av hk h) (n-2) (m:=1) (uv hm) (gq.one.snoc A) λr e l a=>?_;unfold QK;rw[zc _ _ _,e];exact aem hk h l a
theorem abl(hk:((bo n).map key).Nodup)(h:PR n p)(hn:0<n):Good key n (ev (kl key) (Iv n p)):=by
 refine Mm (Av hk h) (n-1) (m:=0) (uv hn) .one λr e l a d=>?_;unfold Iv;rw[zc _ _ _,e];refine if q:(r+1==n)=ab then(aP q).symm▸⟨dK r,l,a⟩ else(aK q).symm▸?_
 have hr:=wO l λz=>q (eX.mpr z)
 cases r with
 |zero=>exact(aK (fo 1)).symm▸VL hk h hr (d hr)
 |succ r=>exact(aP (pC (dK r))).symm▸(ay (ev (kl key)) (yI (a.at sv (dK r) (dq _)))).symm▸⟨dK _,l,a⟩
theorem Ys(D:CU key n p)(hk:k<n)(h:gq key (· < ·) p k)(f:Nat):∀{l r:Nat} {C:Prop},l≤k→r≤k→r≤l+f→(∀i,i<l→KP key p i<KP key p k)→(∀i,r≤i→i<k→KP key p k<KP key p i)→
  (∀x,ev (kl key) (kas_place p k f l r)=x→x≤k→(∀i,i<x→KP key p i<KP key p k)→(∀i,x≤i→i<k→KP key p k<KP key p i)→C)→C:=by
 induction f with
 |zero=>exact λ{l r} _ hl hr e a b c=>c l rfl hl a λi hi=>b i (ah e hi)
 |succ f ih=>
  exact λ{l r} _ hl hr e a b c=>
  if tx:l≥r then c l (ay (ev (kl key)) (aP tx)) hl a λi hi=>b i (ah tx hi)
  else
   have Pk:=aij tx;have h1:(l+r) / 2<r:=afz (Nat.two_mul r▸De Pk r);have h2:l≤(l+r) / 2:=(af0 wM).mpr (Nat.mul_two l▸e6 (cj Pk) l);have h3:=bI h1 hr
   if hc:KP key p k<KP key p ((l+r) / 2) then
    ih hl (cj h3) (eS (bI h1 e)) a (λi hi qz=>(wP hi).elim (λq=>q▸hc) λq=>sv hc (h.at sv q qz))
     λx e'=>c x ((ay (ev (kl key)) (aK tx)).trans ((ay (ev (kl key)) (yI hc)).trans e'))
   else
    have N_:=F9 hc (D _ _ h3 hk)
    ih h3 hr (ah e (ah (eG (oj h2 f)) (bF (wN _ _).symm))) (λi hi=>(zI (eS hi)).elim (λq=>sv (h.at sv q h3) N_) λq=>q▸N_) b
     λx e'=>c x ((ay (ev (kl key)) (aK tx)).trans ((ay (ev (kl key)) (GF hc)).trans e'))
theorem ο{l:Nat}(hk:k<p.size)(hl:l≤k)(h:gq key (· < ·) p k)(a:∀i,i<l→KP key p i<KP key p k)(b:∀i,l≤i→i<k→KP key p k<KP key p i):gq key (· < ·) (bubble p k (k-l)) (k+1):=by
 have g:∀x,(bubble p k (k-l))[x]? =if x=l then p[k]? else if l<x∧x≤k then p[x-1]? else p[x]? :=λx=>by
  have:=getElem?_bubble hk (k-l) (ku _ _) x;rw[Nat.sub_sub_self hl] at this;exact this
 generalize bubble p k (k-l)=q at g ⊢;have lo:∀x,x<l→KP key q x=KP key p x:=λx hx=>AD ((g x).trans ((aK (du hx)).trans (aK λc=>Nat.lt_asymm hx c.1)));have up:∀x,l≤x→x<k→KP key q (x+1)=KP key p x:=λx hx sV=>AD ((g _).trans ((aK (dG (lb hx))).trans (aP ⟨lb hx,sV⟩)));have Mb:KP key q l=KP key p k:=AD ((g l).trans (aP rfl));intro i hi;have hi:=Is hi;rcases Qk i l with y|y
 ·rw[lo i y]
  exact(zI y).elim (λz=>(lo _ z).symm▸h i (bI z hl)) λz=>(z▸Mb:KP key q (i+1)=_).symm▸a i y
 ·rw[up i y hi]
  refine(wP y).elim (λz=>z▸Mb.symm▸b l (ar _) (z▸hi)) ?_
  cases i with
  |zero=>exact λz=>bc z (m5 _)
  |succ j=>exact λz=>(up j (eS z) (oy hi)).symm▸h j hi
theorem UM(hk:((bo n).map key).Nodup)(f:Nat):∀{p:Array Nat} {k:Nat},k+f=n→PR n p→gq key (· < ·) p k→gq key (· < ·) (ev (kl key) (DM f p k)) n:=by
 induction f with
 |zero=>exact λe _ h=>e▸h
 |succ f ih=>
  intro p k e hp h;have Kf:k<n:=e▸qS (dK f);refine Ys (Av hk hp) Kf h k (b_ _) (ar _) (bF (mZ k).symm) (λi hi=>bc hi (m5 i)) (λi hi qz=>bc qz (ma hi)) λl e' hl a b=>?_;refine((zc (kl key) (λl=>DM f (bubble p k (k-l)) (k+1)) (kas_place p k k 0 k)).trans (ay (λl=>ev (kl key) (DM f (bubble p k (k-l)) (k+1))) e'):ev (kl key) (DM (f+1) p k)=_).symm▸?_;exact ih ((Dj _ _).trans e) (hp.perm (bubble_perm _ _ _)) (ο (hp.size.symm▸Kf) hl h a b)
theorem S_(hk:((bo n).map key).Nodup)(hn:0<n):gq key (· < ·) (ev (kl key) (z7 n)) n:=by
 have c:=abl hk (p:=(bo n).toArray) (.refl _) hn;have r:=(L6 hn (nrem:=n) (p:=(bo n).toArray) (.refl _)).ev (kl key);unfold z7;rw[zc _ _ _];generalize ev (kl key) (Iv n _)=x at c r ⊢;have e:=Nat.max_eq_left c.pos;exact if q:x.1<n then(aP q).symm▸UM hk _ (e.symm▸uv c.le) r (e.symm▸c.JO) else(aK q).symm▸qQ c.le (pg q)▸c.JO
end
end
noncomputable def qp{α:Type}(lt:Nat→Nat→Bool)(l:List α)(d:α):List α:=if l.length<2 then l else(ev lt (z7 l.length)).toList.map λi=>l.getD i d
variable{prog:fD}{w:cE}{E:Value→ak→Prop}{a:au}{vs:List Value}{n:Nat}{lt:Nat→Nat→Bool}
noncomputable def Cs(a:au)(yW:Nat)(s:SortSt):Sem lj:=do
 let sorted:=(arrOf s).map (·.2)
 let Tw:=(←seqEpoch a) !=yW
 aik (.ref a) λ_=>sorted
 if let aa e:=failedOf s then rule "list.sort.comparison-raised";throw e
 if Tw then rule "list.sort.modified";raiseError "ValueError" "list modified during sort"
 Ie .none
noncomputable def EQ(a:au)(items:Array Value)(yW:Nat):Sem lj:=do
 let kind ←if items.size<2 then pure general' else keyKind' items
 let r ←(if items.size<2 then pure () else sortRuns').run (SortSt.mk' kind (items.zip items) #[] 7 af)
 Cs a yW r.2
theorem TA(a:au):Builtin.«list.sort» ⟨[.ref a],[]⟩=(do
  let items ←al5 (.ref a)
  aik (.ref a) λ_=>#[]
  let yW ←seqEpoch a
  let Uf ←newTuple items.toList
  let ZV ←newList []
  ju [Uf,ZV] (EQ a items yW)):=rfl
theorem OQ{P:lj→ak→Prop}{st:SortSt}{e1:Nat}{out:List Value}(hl:out.length<64)(ho:s.heap.get? a=aa (ky "list" #[] e1))(hm:(arrOf st).map (·.2)=out.toArray)(hf:failedOf st=af)
  (k:P (.done (.ret .none)) {s with heap:=s.heap.update a (mh λ_=>out.toArray)}):aw (aR prog w) A (Cs a e1 st) P E s:=by
 unfold Cs;rw[hm,hf];refine wb (seqEpoch_at ho rfl (wb (listUpdate_at ho rfl ?_ (b_ _) (ah (cj hl) aJ))));show aw _ _ (if(e1 !=e1)=ab then _ else _) _ _ _;rw[mX _];exact aD k
theorem Μ{P:lj→ak→Prop}{e1:Nat}(iZ:vs.length<64)(ho:s.heap.get? a=aa (ky "list" #[] e1)){κ:Iw}(hk:2≤vs.length→∀Q:Iw→ak→Prop,Q κ s→aw (aR prog w) A (keyKind' vs.toArray) Q (λ_ _=>False) s)
  (hc:∀i j C,i<vs.length→j<vs.length→C (lt i j) s→kas_ask prog w A κ vs i j C s)
  (k:∀out:List Value,out=qp lt vs .none→P (.done (.ret .none)) {s with heap:=s.heap.update a (mh λ_=>out.toArray)}):aw (aR prog w) A (EQ a vs.toArray e1) P E s:=by
 unfold EQ
 by_cases h2:vs.length<2
 ·rw[aP (show vs.toArray.size<2 from h2),aP (show vs.toArray.size<2 from h2)]
  refine wb (aD (wb (aD (OQ iZ ho ?_ rfl (k vs (aP h2).symm)))));exact Ix.mp ((ah0).trans ((ay _ Array.toList_zip).trans (List.map_snd_zip (ar _))))
 ·have g:¬vs.toArray.size<2:=h2
  rw[aK g,aK g];have g2:=pg h2;have n0:=bI wM g2;refine wb (ox (hk g2 _ ?_) (λ_ _ h=>h) λ_ _ x=>x.elim);refine wb (kat_run (Q:=λst s'=>aw (aR prog w) A (Cs a e1 st) P E s') (G:=λp s'=>p=ev lt (z7 vs.length)∧s'=s) rfl g2 iZ (λp st s' hp ha hf e=>?_) ((As n0).XK hc ⟨rfl,rfl⟩));obtain rfl:=e.2;exact OQ (bd (bF ((aI _).trans hp)) iZ) ho (kat_snds rfl ha) hf (k _ (e.1▸(aK h2).symm))
theorem aeq{P:lj→ak→Prop}(ho:s.heap.get? a=aa (ky "list" vs.toArray n))(iZ:vs.length<64)
  {κ:Iw} (hk:∀hp:cO,(∀b o,b≠a→s.heap.get? b=aa o→hp.get? b=aa o)→2≤vs.length→∀Q:Iw→ak→Prop,Q κ {s with heap:=hp}→aw (aR prog w) A (keyKind' vs.toArray) Q (λ_ _=>False) {s with heap:=hp})
  (hc:∀hp:cO,(∀b o,b≠a→s.heap.get? b=aa o→hp.get? b=aa o)→∀i j C,i<vs.length→j<vs.length→C (lt i j) {s with heap:=hp}→kas_ask prog w A κ vs i j C {s with heap:=hp})
  (k:∀hp out c,(∀b o,b≠a→s.heap.get? b=aa o→hp.get? b=aa o)→hp.get? a=aa (ky "list" out c)→out.toList=qp lt vs .none→P (.done (.ret .none)) {s with heap:=hp}):
  aw (aR prog w) A (Builtin.«list.sort» ⟨[.ref a],[]⟩) P E s:=by
 have s1:=pt s.heap a (mh λ_=>(#[]:Array Value));have E_:=get?_update_seq ho λ_=>#[];have rn:∀b o,b≠a→s.heap.get? b=aa o→(((s.heap.update a (mh λ_=>(#[]:Array Value))).push (ky "tuple" vs.toArray 0)).push (ky "list" #[] 0)).get? b=aa o:=λb o hb e=>
  dT _ (dT _ ((s1.2 b hb).trans e))
 have q8:=dT (ky "list" #[] 0) (dT (ky "tuple" vs.toArray 0) E_);have hz:vs.length≤cR:=ah (cj iZ) aJ;refine(TA a).symm▸wb (listItems_at ho rfl (wb (listUpdate_at ho rfl (wb (seqEpoch_at E_ rfl (wb (wpAny_newTuple (wb (wpAny_newList (dM ?_) (b_ _))) hz)))) hz (b_ _))));show aw _ A _ P E {s with heap:=((s.heap.update a (mh λ_=>(#[]:Array Value))).push (ky "tuple" vs.toArray 0)).push (ky "list" #[] 0)};clear E_ s1;generalize ((s.heap.update a (mh λ_=>(#[]:Array Value))).push (ky "tuple" vs.toArray 0)).push (ky "list" #[] 0)=hp at rn q8 ⊢;exact Μ (s:={s with heap:=hp}) iZ q8 (hk hp rn) (hc hp rn) λout e=>k _ _ _ (λb o hb e=>((pt hp a (mh λ_=>out.toArray)).2 b hb).trans (rn b o hb e)) (get?_update_seq q8 λ_=>out.toArray) e
theorem RH{E:Value→ak→Prop}{prog:fD}{w:cE}{a:au}(hT:s.TypeIs (.ref a) "set"){Q:Bool→ak→Prop}(k:Q an s):aw (aR prog w) A (ail (.ref a)) Q E s:=by
 unfold ail;refine wb (qN hT PySem.F.slot_set_len.lookup ?_);show aw _ A (H8 (.ref a) (.type "set") >>=_) _ _ _;refine wb (w5 hT QD ?_);show aw _ A (uG (.ref a) >>=_) _ _ _;exact wb (uF hT (aD k))
theorem XX{acc:Array Value}{ord:List (Int×Value)}(h:ItemsOf (λi v=>∃e,ord[i]? =aa e∧v=e.2) acc ord.length):acc.toList=ord.map (·.2):=agr λj=>by
 rw[jt,dv]
 cases q:acc[j]? with
 |none=>exact(md (h.1▸Array.getElem?_eq_none_iff.mp q):ord[j]? =af)▸rfl
 |some v=>exact aj (h.2 j v q) λe h1 h2=>h1▸h2▸rfl
theorem Uz{prog:fD}{w:cE}{a L:au}{es:Array (Int×Value)}{ep:Nat}{t:c9}{R':wW→ak→Prop}(hh:A.handled=af)(ho:s.heap.get? a=aa (gC es ep t))(T:f_ t (es.toList.map (·.1)))
  (f8:t.led=!(w.params.followText "set-order")) (hsz:es.size≤cR) (hL:s.heap.get? L=aa {cls:=.type "list",data:=.seq #[] 0}) (LL:L≠a)
  (k:∀(s':ak) xs c (ys:List (Int×Value)),(∀b o,b≠L→s.heap.get? b=aa o→s'.heap.get? b=aa o)→s'.gens=s.gens→s'.os=s.os→s'.heap.get? L=aa {cls:=.type "list",data:=.seq xs c}→ys.Perm es.toList→xs.toList=ys.map (·.2)→R' (.ok (.ret (.ref L))) s'):
  ki (aR prog w) A (.builtin "list.__iadd__" ⟨[.ref L,.ref a],[]⟩) R' s:=by
 refine w6 PySem.F.entry_list_iadd ?_;rw[zT aim _];show aw _ A.in1 (ain (.ref L) (.ref a) (.ref L)) _ _ s;unfold ain;have hf:al6 (.ref L) (.ref a)=an:=k9.mpr LL;refine wb (uF (⟨_,ho,rfl⟩:s.TypeIs (.ref a) "set") (dU (by rw[hf];rfl) (wb (Wk ho T f8 hsz λI tp hp d ord hk hI Wg S oY=>wb (dM (RH ⟨_,hk _ _ ho,rfl⟩ ?_))))));show aw _ A.in1 (rule "list.extend.makes-room" >>=λ_=>al7 (.ref L) >>=λ_=>again (.builtin "list.extend.loop" ⟨[.ref L,.ref I,.ref L],[]⟩)) _ _ _;refine wb (jK (wb ?_));show aw _ A.in1 (updateSeq L (·.push .none) >>=λ_=>updateSeq L (·.pop)) _ _ _;have l2:=hk _ _ hL;have l3:=lf (mh (·.push eH)) l2 rfl;have lD:∀b o,b≠L→hp.get? b=aa o→((hp.update L (mh (·.push eH))).update L (mh (·.pop))).get? b=aa o:=λb o hb e=>(zO _ _ (Ne.symm hb)).trans ((zO _ _ (Ne.symm hb)).trans e);have sz:∀{x b},s.heap.objs.size≤x→∀{o},s.heap.get? b=aa o→b≠x:=λh _ e=>du (bI (jI e) h);have lR:=oY.length_eq;have nL:L∉[I,a,tp]:=QL (sz hI hL) (QL LL (QL (sz Wg hL) DE));refine wb (wpAny_updateSeq l2 rfl (wpAny_updateSeq l3 rfl (aD ⟨Ir PySem.F.plain_extend_loop _,codeAny_extend_loopS (UG (sz hI ho) hh T f8 lR) hsz L nL (.ref L) es.size 0 _ _ _ rfl (b_ _) (S.move λb hb o e=>lD b o (λz=>nL (z▸hb)) e) (lf (mh (·.pop)) l3 rfl) (ItemsOf.nil _) λs' acc c M l5 EW=>?_⟩)));exact k s' acc c ord (λb o hb e=>M.heap b o (λh=>(dE.mp h).elim hb λh=>sz hI e (bS.mp h)) (lD b o hb (hk b o e))) M.gens.symm M.os l5 oY (XX (lR.symm▸EW))
theorem UT{E:Value→ak→Prop}{prog:fD}{w:cE}{a:au}{es:Array (Int×Value)}{ep:Nat}{t:c9}(hh:A.handled=af)(ho:s.heap.get? a=aa (gC es ep t))(T:f_ t (es.toList.map (·.1)))
  (f8:t.led=!(w.params.followText "set-order")) (hsz:es.size≤cR) {Q:List Value→ak→Prop}
  (k:∀(s':ak) (ys:List (Int×Value)),(∀b o,s.heap.get? b=aa o→s'.heap.get? b=aa o)→s'.gens=s.gens→s'.os=s.os→ys.Perm es.toList→Q (ys.map (·.2)) s'):aw (aR prog w) A (collect (.ref a)) Q E s:=by
 unfold collect;refine wb (Qo (w6 PySem.F.entry_proto_collect ?_));rw[zT PySem.F.plain_proto_collect _];show aw _ A.in1 (newList [] >>=λl=>again (.builtin "list.__iadd__" ⟨[l,.ref a],[]⟩)) _ _ s;refine wb (sF (aD ⟨Ir aim _,Uz (s:={s with heap:=_}) hh (dT _ ho) T f8 hsz (fP _ rfl) (dG (jI ho)) λs' xs c ys h1 g o h2 hp hx=>?_⟩));show aw _ A (load s.heap.objs.size >>=_) _ _ _;exact wb (wpAny_load h2 (aD (hx.symm▸k s' ys (λb o e=>h1 b o (du (jI e)) (dT _ e)) g o hp)))
theorem cr.inv{w:cE}{e:Int×Value}{l:List (Int×Value)}{C:Prop}{vs:List SV}(h:cr w P m vs (e::l))(k:∀v us,vs=v::us→e.1=bZ w v→VR P m v e.2→cr w P m us l→C):C:=by
 cases vs with
 |nil=>exact jz h
 |cons v us=>exact gO h λy r q h1 h2 h3=>k v us rfl ((lw q).1▸h1) ((lw q).1▸h2) ((lw q).2▸h3)
theorem cr.perm{w:cE}{ys es:List (Int×Value)}(hp:ys.Perm es):∀{vs:List SV},cr w P m vs es→∃a5,a5.Perm vs∧cr w P m a5 ys:=by
 induction hp with
 |nil=>exact λ{vs} H=>⟨vs,.refl _,H⟩
 |cons x _ ih=>exact λ{vs} H=>H.inv λv us e h1 h2 h3=>aj (ih h3) λa5 q1 q2=>e▸⟨v::a5,q1.cons v,_,_,rfl,h1,h2,q2⟩
 |swap x y l=>exact λ{vs} H=>H.inv λv us e h1 h2 h3=>h3.inv λu ws e' h4 h5 h6=>e▸e'▸⟨u::v::ws,.swap v u ws,_,_,rfl,h4,h5,_,_,rfl,h1,h2,h6⟩
 |trans _ _ XV YM=>exact λ{vs} H=>aj (YM H) λv1 p1 H1=>aj (XV H1) λv2 p2 H2=>⟨v2,p2.trans p1,H2⟩
theorem cr.vals{w:cE}{vs:List SV}:∀{es:List (Int×Value)},cr w P m vs es→aO P m vs (es.map (·.2)):=by
 induction vs with
 |nil=>exact λh=>h▸rfl
 |cons v vs ih=>exact λh=>gO h λy r e _ h2 h3=>e▸⟨_,_,rfl,h2,ih h3⟩
noncomputable def Hl:SV→SV→Bool
 |.int a,.int c=>decide (a<c)
 |.str a,.str c=>decide (a.cps.toList<c.cps.toList)
 |_,_=>an
noncomputable def lA:SV→SV→Bool
 |.tup [x,y],.tup [x',y']=>if x=x' then(if y=y' then an else Hl y y') else Hl x x'
 |_,_=>an
def AK(κ:Bool)(x:SV):Prop:=match κ with
 |true=>∃a:Int,x=.int a
 |false=>∃a:Str,x=.str a
def PK(κ:Bool)(v:SV):Prop:=∃x y,v=.tup [x,y]∧AK κ x∧AK κ y
noncomputable def G6(κ:Bool):String:=match κ with
 |true=>"int"
 |false=>"str"
theorem AK.data{κ:Bool}{x:SV}(h:AK κ x)(n:Nat):SV.data n x=ab:=by
 cases κ with
 |true=>exact xE h λa e=>e▸by cases n<;>rfl
 |false=>exact xE h λa e=>e▸by cases n<;>rfl
theorem AK.ty{κ:Bool}{x:SV}{p:Value}(h:AK κ x)(hp:VR P m x p):uG p=pure (.type (G6 κ)):=by
 cases κ with
 |true=>exact xE h λa e=>xE (e▸hp:VR P m (.int a) p) λt q=>q▸rfl
 |false=>exact xE h λa e=>xE (e▸hp:VR P m (.str a) p) λt q=>q▸rfl
theorem pairAt(R:Rel G F b own ae A P m fr h s){x y:SV}{C:Value→Prop}(k:∀(a:au) (o:Obj) (p q:Value) (n:Nat),s.heap.get? a=aa o→o.cls=.type "tuple"→o.data=.seq #[p,q] n→VR P m x p→VR P m y q→C (.ref a)){v:Value}(hv:VR P m (.tup [x,y]) v):C v:=
 bP (R.oc hv) λa items e T hV=>zu T λo ho hc n hd=>bP hV λp r e1 hp hV=>bP hV λq r' e2 hq e3=>
  e▸k a o p q n ho hc (hd.trans (ay (Data.seq · n) (Ix.mp (e1.trans (ay (p::·) (e2.trans (ay (q::·) e3))))))) hp hq
theorem J5{κ:Bool}{E:Value→ak→Prop}{x y:SV}{p q:Value}(hx:AK κ x)(hy:AK κ y)(hp:VR P m x p)(hq:VR P m y q)(fl:Bool){Q:Bool→ak→Prop}(k:Q (Hl x y) s):
  aw (aR G.prog G.w) A' (oneLt' fl p q) Q E s:=by
 cases κ with
 |true=>
  refine xE hx λa e=>xE hy λc e'=>xE (e▸hp:VR P m (.int a) p) λt z=>xE (e'▸hq:VR P m (.int c) q) λu z'=>?_;rw[e,e'] at k;exact z▸z'▸(match fl with|true=>oneLt_int k|false=>kat_one _ _ (PySem.P.lt_int k))
 |false=>
  refine xE hx λa e=>xE hy λc e'=>xE (e▸hp:VR P m (.str a) p) λt z=>xE (e'▸hq:VR P m (.str c) q) λu z'=>?_;rw[e,e'] at k;exact z▸z'▸(match fl with|true=>oneLt_str k|false=>kat_one _ _ (PySem.P.lt_str k))
theorem V0{κ:Bool}(R:Rel G F b own ae A P m fr h s)(hu:A'.units+1<ez){v v':SV}{x x':Value}(hk:PK κ v)(dY:PK κ v')(hv:VR P m v x)(fB:VR P m v' x'){C:Bool→ak→Prop}(k:C (lA v v') s):
  aw (aR G.prog G.w) A' (keyLt' (tuples' ab) x x') C (λ_ _=>False) s:=by
 refine bP hk λx1 y1 e a1 c1=>bP dY λx2 y2 e' a2 c2=>?_;rw[e,e'] at k;have u0:=oy hu;refine pairAt R (C:=λx=>aw (aR G.prog G.w) A' (keyLt' (tuples' ab) x x') C (λ_ _=>False) s) (λa o p q n ho _ hd hp hq=>pairAt R (C:=λx=>aw (aR G.prog G.w) A' (keyLt' (tuples' ab) (.ref a) x) C (λ_ _=>False) s) (λa' o' p' q' n' Rm _ vw bV fR=>
  kat_lt ho hd Rm vw (kat_cons (Rel.we R 0 hp bV (a1.data 0) (a2.data 0) u0 _ _ _ _ (kat_go (λe=>kat_yes (kat_cons (Rel.we R 0 hq fR (c1.data 0) (c2.data 0) u0 _ _ _ _ (kat_go (λe'=>kat_yes (kat_nil ?_)) λe'=>kat_no (J5 c1 c2 hq fR _ ?_))))) λe=>kat_no (J5 a1 a2 hp bV _ ?_))))) (e'▸fB)) (e▸hv)
 ·show C an s
  exact((aP (fC e)).trans (aP (fC e')):lA (.tup [x1,y1]) (.tup [x2,y2])=_)▸k
 ·exact((aP (fC e)).trans (aK (sk e')):lA (.tup [x1,y1]) (.tup [x2,y2])=_)▸k
 ·exact(aK (sk e):lA (.tup [x1,y1]) (.tup [x2,y2])=_)▸k
def uC(vs:List SV):Prop:=∃κ,∀v∈vs,PK κ v
theorem UP(R:Rel G F b own ae A P m fr h s){κ:Bool}{vs:List SV}:∀{vals:List Value},aO P m vs vals→(∀v∈vs,PK κ v)→
  ∃fs,KatTups s.heap vals fs∧fs.length=vals.length∧∀f∈fs,uG f=pure (.type (G6 κ)):=by
 induction vs with
 |nil=>exact λh _=>h▸⟨[],.nil,rfl,λf hf=>cS hf⟩
 |cons v vs ih=>
  refine λh hv=>bP h λx r e h1 h2=>bH (ih h2 λu hu=>hv u (.tail _ hu)) λfs f1 f2 f3=>bP (hv v (.head _)) λx1 y1 e1 a1 _=>?_;exact e▸pairAt R (C:=λx=>∃fs,KatTups s.heap (x::r) fs∧fs.length=(x::r).length∧∀f∈fs,uG f=pure (.type (G6 κ))) (λa o p q n ho hc hd hp _=>⟨p::fs,.cons ho hc hd rfl f1,ay HF f2,λf hf=>(dE.mp hf).elim (λz=>z▸a1.ty hp) (f3 f)⟩) (e1▸h1)
theorem aO.pick{vs:List SV}{vals:List Value}(hX:aO P m vs vals){l:List Nat}(hl:∀i∈l,i<vs.length):aO P m (l.map λi=>vs.getD i .none) (l.map λi=>vals.getD i .none):=by
 induction l with
 |nil=>exact rfl
 |cons i l ih=>
  have hi:=fb (hl i (.head _));refine aj (hX.get hi) λw q1 q2=>⟨_,_,rfl,?_,ih λj hj=>hl j (.tail _ hj)⟩;show VR P m (vs.getD i .none) (vals.getD i .none);rw[pn,pn,q1,hi];exact q2
theorem QM{α:Type}(l:List α)(d:α):(bo l.length).map (λi=>l.getD i d)=l:=List.ext_getElem (by rw[aI _,dS]) λi h1 h2=>by
 rw[List.getElem_map _,List.getElem_range _,pn,fb h2];rfl
theorem TX{α:Type}(lt:Nat→Nat→Bool)(l:List α)(d:α):(qp lt l d).Perm l:=by
 unfold qp;exact if h:l.length<2 then(aP h).symm▸.refl _ else(aK h).symm▸(((As (bI wM (pg h))).ev lt).map _).trans (.of_eq (QM l d))
theorem Th{lt:Nat→Nat→Bool}{key:SV→Int}{l:List SV}(hl:∀i j,i<l.length→j<l.length→lt i j=decide (key (l.getD i .none) <key (l.getD j .none)))(nd:(l.map key).Nodup):(qp lt l .none).Pairwise (λx y=>key x<key y):=by
 unfold qp
 by_cases h2:l.length<2
 ·rw[aP h2]
  cases l with
  |nil=>exact .nil
  |cons x l=>cases l with
   |nil=>exact ko _ _
   |cons y l=>exact bc h2 (ma (lu 2 _))
 ·rw[aK h2]
  have n0:=bI wM (pg h2);have r:=As n0;rw[r.aah hl];have p:=r.ev (λi j=>decide (key (l.getD i .none) <key (l.getD j .none)));have A:=S_ (key:=λi=>key (l.getD i .none)) (n:=l.length) (by have:=ay (Iq key) (QM l .none);rw[pi] at this;exact this.symm▸nd) n0;generalize ev (λi j=>decide (key (l.getD i .none) <key (l.getD j .none))) (z7 l.length)=q at p A ⊢;refine wQ.mpr (PM.mpr λi j hi hj wq=>?_);have z:∀{i} (hi:i<q.size),q.getD i 0=q[i]:=λhi=>dif_pos hi;have:=A.at sv wq (p.size▸hj);unfold KP at this;rw[z hi,z hj] at this;exact this
theorem Px{src:Value}(R:Rel G F b own ae A P m fr h s){n:Nm}{vs:List SV}{Q' E':Value→ak→Prop}
  (TH:∀Q:List Value→ak→Prop,(∀(s':ak) iW vals,(∀b o,s.heap.get? b=aa o→s'.heap.get? b=aa o)→s'.gens=s.gens→s'.os=s.os→iW.Perm vs→aO P m iW vals→Q vals s')→aw (aR G.prog G.w) A.in1 (collect src) Q E' s)
  (qw:uC vs) (iZ:vs.length<64) (hn:h n=af)
  (k:∀(s':ak) out D,Rel G F b own ae A P (m.set n (D,D)) fr (h.set n (.list out)) s'→m.le (m.set n (D,D))→out.Perm vs→(∀key:SV→Int,(∀x∈vs,∀y∈vs,lA x y=decide (key x<key y))→(vs.map key).Nodup→out.Pairwise (λx y=>key x<key y))→Q' (.ref D) s'):
  aw (aR G.prog G.w) A (pv (.builtin "sorted") [src]) Q' E' s:=by
 have hun:=R.units;refine ahu kind_sorted plain_sorted entry_sorted (args_sorted1 _) ?_;unfold Builtin.«sorted»;refine wb (m:=checkCount "sorted" 1 1 _) (aD (wb (TH _ λaZ iW vals hk hg ho oY hX=>?_)));have uX:iW.length=vals.length:=hX.length;have c7:vals.length<64:=uX▸oY.length_eq▸iZ;have a6:=R.grow hk hg ho;have LV:(aZ.heap.push (ky "list" vals.toArray 0)).get? aZ.heap.objs.size=aa (ky "list" vals.toArray 0):=fP _ rfl;refine wb (wpAny_newList (wb (dM (i5 slot_list_sort ⟨_,LV,rfl⟩ entry_list_sort ?_ (args_list_sort _)))) (ah (cj c7) aJ));have keep:∀{bV:cO},(∀b o,b≠aZ.heap.objs.size→(aZ.heap.push (ky "list" vals.toArray 0)).get? b=aa o→bV.get? b=aa o)→∀b o,aZ.heap.get? b=aa o→bV.get? b=aa o:=λdY b o e=>dY b o (du (jI e)) (dT _ e);have gD:∀{i},i<vals.length→iW.getD i .none∈vs∧VR P m (iW.getD i .none) (vals.getD i .none):=λ{i} hi=>by
  have e:=fb (uX.symm▸hi:i<iW.length);refine aj (hX.get e) λx e1 e2=>?_;rw[pn,pn,e,e1];exact⟨oY.mem_iff.mp (List.getElem_mem _),e2⟩
 refine xE qw λκ hP=>aeq (s:={aZ with heap:=aZ.heap.push (ky "list" vals.toArray 0)}) (lt:=λi j=>lA (iW.getD i .none) (iW.getD j .none)) (κ:=tuples' ab) LV c7 (λbV dY h2 Q hQ=>?_) (λbV dY i j C hi hj hC=>?_) λbV out c dY ha Yt=>?_
 ·have R':=a6.grow (s':={aZ with heap:=bV}) (keep dY) rfl rfl
  exact bH (UP R' hX λv hv=>hP v (oY.mem_iff.mp hv)) λfs f1 f2 f3=>kat_kind f1 (f2.symm▸bI wM h2) (λf hf=>Looks.of_pure (f3 f hf)) (by cases κ<;>rfl) (by cases κ<;>exact hQ)
 ·unfold kas_ask
  exact V0 (a6.grow (s':={aZ with heap:=bV}) (keep dY) rfl rfl) (show A.units+1+1+1<ez from bd (e6 (aJ:3≤8) A.units) R.room) (hP _ (gD hi).1) (hP _ (gD hj).1) (gD hi).2 (gD hj).2 hC
 ·have hV:aO P m (qp (λi j=>lA (iW.getD i .none) (iW.getD j .none)) iW .none) out.toList:=by
   rw[Yt];unfold qp;rw[uX];exact if h2:vals.length<2 then(aP h2).symm▸(aP h2).symm▸hX else(aK h2).symm▸(aK h2).symm▸hX.pick λi hi=>uX.symm▸dR.mp (((As (bI wM (pg h2))).ev _).mem_iff.mp hi)
  refine xA (a6.alloc hn (so:=.list (qp (λi j=>lA (iW.getD i .none) (iW.getD j .none)) iW .none)) (ad:=(aZ.heap.objs.size,aZ.heap.objs.size)) (s':={aZ with heap:=bV}) (keep dY) rfl rfl (ar _) (ar _) ⟨rfl,out,c,ha,aO.mono aV.le.rfl.t (Aa (R.dom n hn)) _ hV⟩) λbk le=>?_;exact⟨_,rfl,aD ⟨_,rfl,k _ _ _ bk le ((TX (λi j=>lA (iW.getD i .none) (iW.getD j .none)) iW .none).trans oY) λkey F5 nd=>Th (λi j hi hj=>F5 _ (gD (uX▸hi)).1 _ (gD (uX▸hj)).1) ((oY.map key).nodup_iff.mpr nd)⟩⟩
theorem aba{u:SV}{vs:List SV}{n:Nm}{Q:QV}{X:QX}(hu:de G h u vs)(qw:uC vs)(iZ:vs.length<64)(hn:h n=af)
  (hq:∀out:List SV,out.Perm vs→(∀key:SV→Int,(∀x∈vs,∀y∈vs,lA x y=decide (key x<key y))→(vs.map key).Nodup→out.Pairwise (λx y=>key x<key y))→Q (.ref n) (h.set n (.list out))):WC G F b fr h (.bi "sorted") [u] Q X:=by
 refine .mk λown ae A P m s Q' E' f' a5 R hf hv c d=>hf▸bP hv λu' r e kM e'=>e▸e'▸bP (R.jd hu kM) λa xs e2 hL hX=>e2▸?_;refine Px R (λQ hQ=>?_) qw iZ hn λs' out D bk le h1 h2=>c _ _ _ _ _ _ (hq out h1 h2) .rfl le ⟨_,Mu.jb,rfl⟩ bk;exact collect_list (vs:=xs.toList) (by rw[ahg];exact hL) (hQ _ vs xs.toList (λb o e=>(zO _ _ (dG (jI e))).trans (dT _ e)) rfl rfl (.refl _) hX) (ah (cj (hX.length▸iZ)) aJ)
theorem Q7{Q:QV}{X:QX}(id:String){n:Nm}{vs:List SV}(hn:h n=aa (.set vs))(k:∀{own ae A P m s} {Q' E':Value→ak→Prop} {a:au} {es:Array (Int×Value)} {ep:Nat} {t:c9},Rel G F b own ae A P m fr h s→s.heap.get? a=aa (gC es ep t)→f_ t (es.toList.map (·.1))→cr G.w P m vs es.toList→t.led=!(G.w.params.followText "set-order")→
  l_ G F b fr own ae A P m Q Q'→aw (aR G.prog G.w) A (pv (.builtin id) [.ref a]) Q' E' s):WC G F b fr h (.bi id) [.ref n] Q X:=by
 refine .mk λown ae A P m s Q' E' f' a5 R hf hv c d=>hf▸bP hv λu' r e kM e'=>e▸e'▸aj kM λad hm e2=>e2▸?_;refine aj (R.obj n _ hn) λbT q1 q=>aY (q1.symm.trans hm)▸?_;exact q.2.elim λes q=>q.elim λep q=>q.elim λt q=>k R q.1 q.2.1 q.2.2.1 q.2.2.2.2.2 c
theorem Yf{ns n:Nm}{vs:List SV}{Q:QV}{X:QX}(hF:F.q=ab)(hs:h ns=aa (.set vs))(qw:uC vs)(iZ:vs.length<64)(hn:h n=af)
  (hq:∀out:List SV,out.Perm vs→Q (.ref n) (h.set n (.list out))):WC G F b fr h (.bi "sorted") [.ref ns] Q X:=
 Q7 "sorted" hs λR ho T H f8 c=>Px R (λQ hQ=>UT (by exact R.quiet hF) ho T f8 (ah (cj (H.length▸iZ)) aJ) λs' ys hk hg s6 oY=>aj (cr.perm oY H) λa5 p1 H'=>hQ s' a5 _ hk hg s6 p1 H'.vals) qw iZ hn
  λs' out D bk le h1 h2=>c _ _ _ _ _ _ (hq out h1) .rfl le ⟨_,Mu.jb,rfl⟩ bk
theorem YT{n:Nm}{vs:List SV}{Q:QV}{X:QX}(hn:h n=aa (.set vs))(hz:vs.length<1000)(hq:Q (.int vs.length) h):WC G F b fr h (.bi "len") [.ref n] Q X:=by
 refine Q7 "len" hn λ{_ _ _ _ _ _ _ _ a es ep t} R ho T H f8 c=>?_;have hl:vs.length=es.size:=H.length;rw[hl] at hq;exact call_len_set ho ⟨rfl,rfl,rfl⟩ rfl T.fits (ib.mpr (i4 (hl▸hz) bg)) (c _ _ _ _ _ _ hq .rfl .rfl ⟨_,rfl⟩ (R.tok _))
section
open Builtin Builtin.Str
theorem Rc{prog:fD}{w:cE}{A:dZ}{E:Value→ak→Prop}{s:ak}(x:Str)(hx:x.length≤1000000)(t u:Tok){Q:Fin→ak→Prop}
  (k:∀t' tk,Q (.done (.ret (.str (x++d5 " -> <empty>") t'))) {s with toks:=tk}):
  aw (aR prog w) A (Builtin.«str.__mod__» ⟨[.str ⟨#[37,115,32,45,62,32,60,101,109,112,116,121,62]⟩ t,.str x u],[]⟩) Q E s:=by
 rw[KPc.entry_is_s];unfold Builtin.Str.percentFormat;refine wb (w5 (T:="str") (typeIs_str s x u) F.sub_str_tuple ?_);refine wb (qL (a:=aa x) rfl ?_);refine wb (KPc.wp_fills_str ?_);intro _
 kpc_if
 refine wb (aD ?_);refine wb ?_;rw[KPc.range_list _ _ _];refine KPc.start ?_;intro _ _
 kpt_turns
end
section
open Builtin Builtin.Str
theorem aO.strs{P:aV}{m:Mu}:∀{ys:List Str} {vs:List Value},aO P m (ys.map .str) vs→StrsAre vs ys
 |[],_,h=>by obtain rfl:=h;exact .nil
 |y::ys,_,h=>by obtain⟨x,r,rfl,⟨t,rfl⟩,h3⟩:=h;exact .cons y t (aO.strs h3)
theorem aO.reads{P:aV}{m:Mu}(hp:cO):∀{ys:List Str} {vs:List Value},aO P m (ys.map .str) vs→ReadsAll hp vs (ys.map .str) []
 |[],_,h=>by obtain rfl:=h;exact .nil
 |y::ys,_,h=>by obtain⟨x,r,rfl,⟨t,rfl⟩,h3⟩:=h;exact .cons (.str y t) (aO.reads hp h3)
theorem noDict:∀ys:List Str,QN (ys.map .str)=an
 |[]=>by simp only[DN,QN]
 |y::ys=>by simp only[sI,QN,aio];rw[noDict ys];rfl
theorem JS:∀ys:List Str,QO (ys.map .str)=0
 |[]=>by simp only[DN,QO]
 |y::ys=>by simp only[sI,QO,aip];rw[JS ys];rfl
theorem WH{x:Str}{ys:List Str}{Q:QV}{X:QX}(qy:(ys.map (·.length)).sum+ys.length*x.length≤16777216)(hq:Q (.str (z8 x ys)) h):WC G F b fr h (.bi "str.join") [.str x,.tup (ys.map .str)] Q X:=by
 first|refine jO ?_|refine jP ?_
 intro own ae A P m s Q' E' a5 R hv c d;refine gu hv λx' u' zA hu=>?_
 first|refine nc zA λt=>?_|refine pG zA λt=>?_
 refine bP (R.rY hu) λa xs ax hL hX=>?_;subst ax;exact join_tuple hL hX.strs qy λt' k=>c _ _ _ _ _ _ hq .rfl .rfl ⟨_,rfl⟩ (R.tok k)
theorem X_{x:Str}{Q:QV}{X:QX}(hx:x.length≤1000)(hq:Q (.str (x++d5 " -> <empty>")) h):
  WO G F b fr h [.str (d5 "%s -> <empty>"),.str x] (bw (m7 .Mod)) Q X:=by
 refine .mk ?_;intro own ae A P m s Q' E' a5 R d7 c d;refine gu d7 λf p zA zB=>?_
 first|refine nc zA λt=>?_|refine pG zA λt=>?_
 first|refine nc zB λt1=>?_|refine pG zB λt1=>?_
 refine KPc.mod_str (T:=λz=>z++d5 " -> <empty>") (X':=⟨#[37,115,32,45,62,32,60,101,109,112,116,121,62]⟩) (by decide +kernel) (ah ‹_› aJ) (λz hz=>KPc.meets_of λprog w A s Q E hq=>Rc z hz _ _ λt' tk=>hq t' tk) λt' k=>c _ _ _ _ _ _ hq .rfl .rfl ⟨_,rfl⟩ (R.tok k)
end
noncomputable def iQ(e:Expr):Bool:=e.ctorIdx !=22
theorem JL{e:Expr}(h:iQ e=ab)(es:List Expr)(ae:Env):gh (e::es) ae=(an,d9 e ae)::gh es ae:=by
 refine @wU (λe=>iQ e=ab→gh (e::es) ae=(an,d9 e ae)::gh es ae) e ?_ ?_ ?_ ?_ ?_ ?_ ?_ ?_ ?_ ?_ ?_ ?_ ?_ ?_ ?_ ?_ ?_ ?_ ?_ ?_ ?_ ?_ ?_ ?_ ?_ ?_ ?_ h<;>(intros;first|rfl|exact cM ‹_›)
theorem xI:∀{args:List Expr},args.all iQ=ab→∀(pos:Pos) (ae:Env),(jv pos (gh args ae)).any (·.1)=an
 |[],_,pos,ae=>rfl
 |e::es,h,pos,ae=>by
  rw[DH,bO] at h;rw[JL h.1 _ _];show(an||(jv pos (gh es ae)).any (·.1))=an;exact xI h.2 pos ae
theorem K3(x:Str)(p pos:Pos)(args:List Expr)(ae:Env):d9 (.Call (.Name x p) args [] pos) ae=(do wX pos (←d9 (.Name x p) ae) [] (jv pos (gh args ae)) []):=rfl
def Un(o:Expr)(name:Str)(ap pos:Pos)(args:List Expr):Prop:=∀ae:Env,∃pl,d9 (.Call (.Attribute o name ap) args [] pos) ae=(do
   let ov ←d9 o ae
   kh ap.atName
   let(f,first) ←ju [ov] (getMethod ov name pl)
   wX pos f first (jv pos (gh args ae)) [])
theorem mf{o:Expr}{name:Str}{ap pos:Pos}{args:List Expr}(hb:∀(ae:Env) w,uy o name ae w=w)(hs:args.all iQ=ab)(hl:(ap.endLine==pos.line && decide (args.length<20))=ab):Un o name ap pos args:=λae=>by
 rw[bO,h_] at hl;refine⟨do return (←importBound o ae).getD ab,?_⟩;have e0:d9 (.Call (.Attribute o name ap) args [] pos) ae=(do
  let ov ←uy o name ae (d9 o ae)
  kh ap.atName
  methodCall o name ap pos ae ov (args.length+0) (jv pos (gh args ae)) (backToKw pos (keywordEach [] ae))):=rfl
 rw[e0,hb _ _];have sU:methodCallForm (args.length+0) (jv pos (gh args ae)) (backToKw pos (keywordEach [] ae))=ab:=by
  unfold methodCallForm;have h1:=xI hs pos ae;have h2:(jv pos (gh args ae)).all (λx=>!x.1)=ab:=by
   rw[propext dc];intro x hx;rw[List.any_eq_false] at h1
   simpa using h1 x hx
  rw[h2];show(ab && ab && decide (args.length+0+0<30))=ab;simp;exact bI hl.2 aJ
 unfold methodCall calleeOf methodCallPos;simp only[sU,if_true,aih,Bool.false_or,hl.1,pure_bind];rfl
theorem tf{e:Expr}{es:List Expr}{Q:List SV→SH→Prop}(w:WE G F b fr h e (λv ag=>j7 G F b fr ag es (λvs aC=>Q (v::vs) aC) X) X)(hs:autoParam (iQ e=ab) bl):j7 G F b fr h (e::es) Q X:=
 Xr (JL hs es) w
theorem JY{x:Str}{p pos:Pos}{args:List Expr}{f:SV}{Q:QV}(hg:jm G x f)(hl:F.sc.names.lookup x=aa .globalImplicit)(hc:callable G f=ab)
  (w:j7 G F b fr h args (λvs aC=>WC G F b fr aC f vs Q X) X) (hd:autoParam ((x==("__debug__":Str))=an) dI) (hs:autoParam (args.all iQ=ab) bl):WE G F b fr h (.Call (.Name x p) args [] pos) Q X:=
 call (K3 x p pos args) (xI hs pos) (Ez hg hl hd ⟨hc,w⟩)
theorem MC{o:Expr}{name:Str}{gE pos:Pos}{args:List Expr}{Q:QV}
  (w:WE G F b fr h o (λu ag=>∃f,callable G f=ab∧GM G F b fr ag u name f∧j7 G F b fr ag args (λvs aC=>WC G F b fr aC f (u::vs) Q X) X) X)
  (hb:∀(ae:Env) w,uy o name ae w=w:=by intro _ _;rfl) (hs:autoParam (args.all iQ=ab) bl) (hl:autoParam ((gE.endLine==pos.line && decide (args.length<20))=ab) bl):
  WE G F b fr h (.Call (.Attribute o name gE) args [] pos) Q X:=aaa (mf hb hs hl) (xI hs pos) w
noncomputable def cq(F:FD)(l:List Str):Bool:=l.all λx=>sW F x && pY F x && !(x==("__debug__":Str))
theorem cq.v{F:FD}{l:List Str}(V:cq F l=ab){x:Str}(hx:l.contains x=ab):sW F x=ab∧pY F x=ab∧(x==("__debug__":Str))=an:=by
 have p:=(bO _ _).mp (dc.mp V x (e9.mp hx));have q:=(bO _ _).mp p.1;exact⟨q.1,q.2,(jL _).mp p.2⟩
variable{l:List Str}
theorem nv{x:Str}{pos:Pos}{v:SV}{Q:QV}{X:QX}(V:cq F l=ab)(hx:fr.lookup x=aa v)(hq:Q v h)(hl:autoParam (l.contains x=ab) bl):WE G F b fr h (.Name x pos) Q X:=Nb hx (cq.v V hl).1 (cq.v V hl).2.2 hq
theorem oE{x:Str}{pos:Pos}{v:SV}{Q:QF}{X:dP}(V:cq F l=ab)(hq:Q (fr.put x v) h)(hl:autoParam (l.contains x=ab) bl):WA G F b fr h (.Name x pos) v Q X:=L5 (cq.v V hl).2.1 hq
noncomputable def stN:List bx→Nat→bx
 |[],_=>.Pass ⟨0,0,0,0⟩
 |s::_,0=>s
 |_::r,n+1=>stN r n
noncomputable def kS:bx→List bx×List bx×Option Expr×cb
 |.FunctionDef _ _ b _ _ _ sc _ _ _=>(b,[],af,sc)
 |.ClassDef _ _ _ b _ _ _ _ _ _ _=>(b,[],af,default)
 |.While _ b o _=>(b,o,af,default)
 |.For _ e b o _=>(b,o,aa e,default)
 |.If e b o _=>(b,o,aa e,default)
 |.Try b _ _ _ _=>(b,[],af,default)
 |.Return e _=>([],[],e,default)
 |.Assign _ e _=>([],[],aa e,default)
 |_=>([],[],af,default)
noncomputable def Nf(s:bx):List bx:=(kS s).1
noncomputable def scS(s:bx):cb:=(kS s).2.2.2
noncomputable def Uw:List (Nat×Nat×Option Nat):=[(39,4,af),(62,7,aa 2),(83,7,aa 5),(118,8,aa 0),(146,9,af),(172,11,aa 0),(201,11,aa 4),(209,11,aa 5),(258,11,aa 12),(265,11,aa 13),(273,11,aa 14),(280,11,aa 15),
 (318,15,af),(333,16,aa 0),(340,16,aa 1),(347,16,aa 2),(354,16,aa 3),(424,16,aa 13),(438,18,af),(446,20,af),(453,21,af),(458,22,af),(463,23,af),(468,24,af),(473,25,af),(478,26,af)]
noncomputable def Pc(a:au):bx:=match Uw.lookup a with
 |some (i,af)=>stN PySem.Challenge.pw_te0019_03.main.body i
 |some (i,aa j)=>stN (Nf (stN PySem.Challenge.pw_te0019_03.main.body i)) j
 |none=>.Pass ⟨0,0,0,0⟩
noncomputable def ba(a:au):List bx:=Nf (Pc a)
noncomputable def cg(a:au):cb:=scS (Pc a)
noncomputable def VC(x:Str):Data→Option (Option Value)
 |.dict es _=>getL x es.toList
 |_=>af
noncomputable def xP(K:Frag)(x:Str):Option (Option Value):=(K.lookup uw).bind λo=>VC x o.data
theorem WG{x:Str}{es:List dL}{r:Option Value}(h:getL x es=aa r):(es.find? λe=>e.key.isStr x).map (·.val)=r:=by
 unfold getL at h
 cases q:es.find? (λe=>e.key.isStr x) with
 |some y=>rw[q] at h;exact aY h
 |none=>
  rw[q] at h;exact if z:es.any (·.refKey)=ab then a7 ((aP z).symm.trans h) else aY ((aK z).symm.trans h)
theorem mg_of{G:Gl}{x:Str}{r:Option Value}(hl:xP G.K x=aa r):G.mg x=r:=
 aj (Option.bind_eq_some_iff.mp hl) λo e hd=>Hh G.g λo' es ep h1 h2 h3=>by
  obtain rfl:=aY ((G.fY uw o e).symm.trans h1);rw[h2] at hd;rw[←h3.2 x];exact(ay (ph DictEntry.val) Array.find?_toList.symm).trans (WG hd)
noncomputable def vz:Value→Tok
 |.int _ t=>t
 |.str _ t=>t
 |_=>0
noncomputable def tokOf(o:Option (Option Value)):Tok:=vz ((o.getD af).getD .none)
noncomputable def xp:Data→Nat→Value
 |.seq xs _,i=>xs.getD i .none
 |_,_=>.none
noncomputable def Y6:Data→Nat
 |.seq _ n=>n
 |_=>0
noncomputable def Fg:List (Str×au):=[("_place",318),("_is_identifier",39),("rightmost_terminal",146),("Production",100),("LRItem",135),("Grammar",283),("LRGeneratedTable",427),("_law_NAMES",438),("_law_SYMBOLS",439),("_law_ASKED",446),("_law_next",453),("_law_rule",458),("_law_corners",463),("_law_added",468),("_law_told",473)]
noncomputable def ut:List String:=["len","all","any","sorted"]
noncomputable def ur:List String:=["tuple","list","set","range","enumerate","IndexError","KeyError"]
noncomputable def yk:List (au×List Str):=[(100,["name","prod","number","func","callable","file","line","prec","len","usyms","lr_items","lr_next","str","lr0_added","reduced"]),(135,["name","prod","number","lr_index","lookaheads","len","usyms","lr_after","lr_before","lr_next"]),
 (283,["Productions","Prodnames","Prodmap","Terminals","Nonterminals","First","Follow","Precedence","UsedPrecedence","Start"]),
 (427,["grammar","lr_method","lr_action","lr_goto","lr_productions","lr_goto_cache","lr0_cidhash","_add_count","sr_conflict","rr_conflict","conflicts","sr_conflicts","rr_conflicts"])]
noncomputable def FO:List (au×au):=[(100,62),(135,118),(283,172),(427,333)]
noncomputable def Fu:List (au×Str×au):=[(283,"add_production",201),(283,"set_start",209),(283,"_first",258),(283,"compute_first",265),(283,"compute_follow",273),(283,"build_lritems",280),(427,"lr0_closure",340),(427,"lr0_goto",347),(427,"lr0_items",354),(427,"lr_parse_table",424)]
noncomputable def Ly:List au:=[39,62,83,118,146,172,201,209,258,265,273,280,318,333,340,347,354,424,438,446,453,458,463,468,473,100,135,283,427]
noncomputable def Gj:List au:=[100,135,283,427]
noncomputable def wE:List Str:=["lr0_added","reduced"]
noncomputable def zt(K:Frag)(a:Str):Value:=.int 0 (tokOf (ie K (.ref 100) a))
noncomputable def Um(K:Frag)(o:Obj):Obj:={o with cls:=.type "list",data:=.seq #[.str "a" (vz (xp o.data 0)),.str "A" (vz (xp o.data 1)),.str "b" (vz (xp o.data 2)),.str "B" (vz (xp o.data 3)),.str "error" (vz (xp o.data 4))] (Y6 o.data)}
structure KC(K:Frag):Prop where
 D0:xP K "_IDENTIFIER"=aa (aa (.str "abcdefghijklmnopqrstuvwxyzABCDEFGHIJKLMNOPQRSTUVWXYZ0123456789_-" (tokOf (xP K "_IDENTIFIER"))))
 sym:K.lookup 439=aa (Um K ((K.lookup 439).getD {cls:=.none,data:=.plain}))
 refs:Fg.map (λx=>xP K x.1)=Fg.map λx=>aa (aa (.ref x.2))
 boot:(ut++ur).map (λx:String=>xP K x)=(ut++ur).map λ_=>aa af
 cls:Gj.map (λC=>(zM K C "",Ds K C,ie K (.ref C) "__setattr__",HM K C))=Gj.map λ_=>(ab,ab,aa (aa (.builtin "object.__setattr__")),ab)
 Zp:yk.map (λx=>x.2.map λa=>((ie K (.ref x.1) a).isSome,noGet K ((ie K (.ref x.1) a).getD af),takerIn K x.1 a))=yk.map λx=>x.2.map λ_=>(ab,ab,aa af)
 zero:wE.map (λa=>(ie K (.ref 100) a,specialIn K (zt K a) "__get__"))=wE.map λa=>(aa (aa (zt K a)),aa af)
 Zd:FO.map (λx=>(makesIn K x.1,ie K (.ref x.1) "__init__",typeIn K (.ref x.2)))=FO.map λx=>(ab,aa (aa (.ref x.2)),aa (.type "function"))
 Ub:Fu.map (λx=>(zM K x.1 x.2.1,ie K (.ref x.1) x.2.1,isFn K (.ref x.2.2)))=Fu.map λx=>(ab,aa (aa (.ref x.2.2)),ab)
 keep:(Ly.all λa=>keepIn K (.ref a))=ab
 K2:(ie K (.ref 135) "__bool__",ie K (.ref 135) "__len__")=(aa af,aa af)
 plen:(ie K (.ref 100) "__len__",isFn K (.ref 83))=(aa (aa (.ref 83)),ab)
structure KD(G:Gl):Prop where
 c:KC G.K
 ident:d0 G 39 1 ["s"] [] (ba 39) (cg 39)
 prodinit7:d0 G 62 8 ["self","number","name","prod","precedence","func","file","line"] [] (ba 62) (cg 62)
 prodinit3:d0 G 62 4 ["self","number","name","prod","precedence","func","file","line"] [.tup [.str "right",.int 0],.none,.str "",.int 0] (ba 62) (cg 62)
 plen:d0 G 83 1 ["self"] [] (ba 83) (cg 83)
 iteminit:d0 G 118 3 ["self","p","n"] [] (ba 118) (cg 118)
 rightmost:d0 G 146 2 ["symbols","terminals"] [] (ba 146) (cg 146)
 graminit:d0 G 172 2 ["self","terminals"] [] (ba 172) (cg 172)
 addprod:d0 G 201 3 ["self","prodname","syms","func","file","line"] [.none,.str "",.int 0] (ba 201) (cg 201)
 setstart:d0 G 209 1 ["self","start"] [.none] (ba 209) (cg 209)
 first:d0 G 258 2 ["self","beta"] [] (ba 258) (cg 258)
 cfirst:d0 G 265 1 ["self"] [] (ba 265) (cg 265)
 cfollow:d0 G 273 1 ["self","start"] [.none] (ba 273) (cg 273)
 blr:d0 G 280 1 ["self"] [] (ba 280) (cg 280)
 place:d0 G 318 1 ["I"] [] (ba 318) (cg 318)
 tabinit:d0 G 333 3 ["self","grammar","method","log"] [.none] (ba 333) (cg 333)
 clo:d0 G 340 2 ["self","I"] [] (ba 340) (cg 340)
 goto:d0 G 347 3 ["self","I","x"] [] (ba 347) (cg 347)
 items:d0 G 354 1 ["self"] [] (ba 354) (cg 354)
 ptable:d0 G 424 1 ["self"] [] (ba 424) (cg 424)
 NAMES:d0 G 438 0 [] [] (ba 438) (cg 438)
 ASKED:d0 G 446 0 [] [] (ba 446) (cg 446)
 next:d0 G 453 1 ["tape"] [] (ba 453) (cg 453)
 rule:d0 G 458 2 ["tape","name"] [] (ba 458) (cg 458)
 corners:d0 G 463 1 ["rules"] [] (ba 463) (cg 463)
 added:d0 G 468 3 ["rules","corners","items"] [] (ba 468) (cg 468)
 told:d0 G 473 1 ["items"] [] (ba 473) (cg 473)
theorem rV{α β:Type}{f g:α→β}{l:List α}[BEq α][LawfulBEq α](e:l.map f=l.map g){a:α}(h:l.contains a=ab):f a=g a:=DO.mp e a (e9.mp h)
theorem KD.ref(K:KD G){x:Str}{a:au}(h:Fg.contains (x,a)=ab):jm G x (.glob a):=.ref (mg_of (rV K.c.refs h))
theorem ads:ut.map (λx:String=>HI x)=ut.map λx=>aa (.builtin x):=by kernel_rfl
theorem ad8:ur.map (λx:String=>HI x)=ur.map λx=>aa (.type x):=by kernel_rfl
theorem Nz:((ut++ur).all λx:String=>(x:Str) !="__name__")=ab:=by kernel_rfl
theorem KD.bi(K:KD G){x:String}(h:ut.contains x=ab):jm G x (.bi x):=
 have hm:=i7 ur (e9.mp h)
 .bi (mg_of (DO.mp K.c.boot x hm)) ((G.blt _ (bne_iff_ne.mp (dc.mp Nz x hm))).trans (rV ads h))
theorem KD.ty(K:KD G){x:String}(h:ur.contains x=ab):jm G x (.ty x):=
 have hm:=kj ut (e9.mp h)
 .ty (mg_of (DO.mp K.c.boot x hm)) ((G.blt _ (bne_iff_ne.mp (dc.mp Nz x hm))).trans (rV ad8 h))
theorem KD.D0(K:KD G):jm G "_IDENTIFIER" (.str "abcdefghijklmnopqrstuvwxyzABCDEFGHIJKLMNOPQRSTUVWXYZ0123456789_-"):=.str (mg_of K.c.D0)
theorem KD.sym(K:KD G):BL G 439 [.str "a",.str "A",.str "b",.str "B",.str "error"]:=
 ⟨_,⟨_,G.fY _ _ K.c.sym,rfl,_,rfl⟩,λP m _=>⟨_,_,rfl,⟨_,rfl⟩,_,_,rfl,⟨_,rfl⟩,_,_,rfl,⟨_,rfl⟩,_,_,rfl,⟨_,rfl⟩,_,_,rfl,⟨_,rfl⟩,rfl⟩⟩
noncomputable def qu(C:au)(a:Str):Bool:=Gj.contains C && (yk.lookup C).any λl=>l.contains a
theorem mem_lookup{α β:Type}[BEq α][LawfulBEq α]{a:α}{o:β}{l:List (α×β)}(h:l.lookup a=aa o):(a,o)∈l:=by
 induction l with
 |nil=>exact a7 h
 |cons p r ih=>
  rw[k_] at h
  cases q:a==p.1 with
  |true=>rw[q] at h;exact aY h▸eX.mp q▸.head _
  |false=>rw[q] at h;exact .tail _ (ih h)
theorem Eb{α β γ:Type}{a a':α}{b b':β}{c c':γ}(h:(a,b,c)=(a',b',c')){C:Prop}(k:a=a'→b=b'→c=c'→C):C:=k (gi h).1 (gi (gi h).2).1 (gi (gi h).2).2
theorem KD.fld(K:KD G){C:au}{a:Str}(ok:qu C a=ab){R:Prop}(k:zM G.K C ""=ab→Ds G.K C=ab→ie G.K (.ref C) "__setattr__"=aa (aa (.builtin "object.__setattr__"))→HM G.K C=ab→
  (ie G.K (.ref C) a).isSome=ab→noGet G.K ((ie G.K (.ref C) a).getD af)=ab→takerIn G.K C a=aa af→R):R:=by
 have ok:=(bO _ _).mp ok;have hl:∃l,yk.lookup C=aa l∧l.contains a=ab:=by
  cases e:yk.lookup C with
  |none=>rw[e] at ok;exact cM ok.2
  |some l=>rw[e] at ok;exact⟨l,rfl,ok.2⟩
 refine aj hl λl e hl=>?_;have c:=rV K.c.cls ok.1;exact Eb (DO.mp (DO.mp K.c.Zp (C,l) (mem_lookup e)) a (e9.mp hl)) (k (gi c).1 (gi (gi c).2).1 (gi (gi (gi c).2).2).1 (gi (gi (gi c).2).2).2)
theorem KD.keep(K:KD G){a:au}(h:Ly.contains a=ab):callable G (.glob a)=ab:=dc.mp K.c.keep a (e9.mp h)
theorem wn{n:Nat}(h:wL n 100=ab):n≤cR:=ah (jG h) aJ
theorem l8.ne{v:SV}(hb:l8 v=ab)(id:String):v≠.bi id:=λe=>cM (show l8 (.bi id)=ab from e▸hb)
theorem Gs(K:KD G){n:Nm}{C:au}{fs:SF}{a:Str}{v:SV}{Q:QV}{X:QX}(ok:qu C a=ab)(hn:h n=aa (.inst C fs))(hf:fs.lookup a=aa v)(hb:l8 v=ab)(hq:Q v h):WO G F b fr h [.ref n] (mJ λx=>m8 x a ab) Q X:=
 K.fld ok λh1 h2 _ _ h5 h6 _=>Zf hn h1 h2 (Option.eq_some_iff_get_eq.mpr ⟨h5,Option.get_eq_getD _⟩) h6 hf (l8.ne hb) hq
theorem Pf(K:KD G){n:Nm}{fs:SF}{a:Str}{Q:QV}{X:QX}(ok:wE.contains a=ab)(hn:h n=aa (.inst 100 fs))(hf:fs.lookup a=af)(hq:Q (.int 0) h):WO G F b fr h [.ref n] (mJ λx=>m8 x a ab) Q X:=
 have z:=rV K.c.zero ok;have hc:(wE.map λa=>copiedNames.contains a)=wE.map λ_=>an:=aW
 K.fld (C:=100) (a:="name") rfl λh1 h2 _ _ _ _ _=>Vm (v:=.int 0) hn h1 h2 (gi z).1 (gi z).2 rfl (rV hc ok) hf (λ_ _=>⟨_,rfl⟩) hq
theorem El(K:KD G){n:Nm}{C:au}{fs:SF}{a:Str}{v:SV}{Q:QV}{X:QX}(ok:qu C a=ab)(hn:h n=aa (.inst C fs))(hz:fs.length≤1000)(hq:Q .none (h.set n (.inst C (fs.put a v)))):
  WO G F b fr h [.ref n,v] (bw λx y=>do Dq x a y;pure .none) Q X:=
 K.fld ok λ_ h2 h3 h4 _ _ h7=>Uy hn h3 h4 h7 h2 hz hq
theorem at_{e:Expr}{a:Str}{pos:Pos}{Q:QV}{X:QX}(w:WE G F b fr h e (λv ag=>WO G F b fr ag [v] (mJ λx=>m8 x a ab) Q X) X)(hb:∀(ae:Env) w,uy e a ae w=w:=by intro _ _;rfl):WE G F b fr h (.Attribute e a pos) Q X:=Ck hb w
theorem Cw{t e:Expr}{pos:Pos}{Q:QS}{X:dP}(w:WE G F b fr h e (λv ag=>WA G F b fr ag t v (λfr' h'=>Q .next fr' h') X) (λx h=>X x fr h))(hs:∀ae,Dr [t] e pos.line ae=pure an:=by intro _;rfl)(hw:∀ae,wV [t] e ae=pure af:=by intro _;rfl)(ha:∀ae,(qJ [t] ae).map (·.2)=[pq t ae]:=by intro _;rfl):
  WS G F b fr h (.Assign [t] e pos) Q X:=Tl hs hw ha w
theorem x0{Q:Option Int→SH→Prop}{X:QX}(hq:Q af h):xK G F b fr h af Q X:=hq
theorem zi{e:Expr}{Q:Option Int→SH→Prop}{X:QX}(w:WE G F b fr h e (λv h'=>∃i,v=.int i∧Q (aa i) h') X):xK G F b fr h (aa e) Q X:=w
theorem TQ(vs:List SV):fh vs af af=vs:=by simp[fh]
noncomputable def Bc(K:Frag)(a:au):Option HO:=match K.lookup a with
 |some o=>(match o.data with|.func fd=>aa fd|_=>af)
 |none=>af
noncomputable def fdOf(K:Frag)(a:au):HO:=match Bc K a with|some fd=>fd|none=>default
noncomputable def D1(K:Frag)(a:au):Bool:=match Bc K a with
 |some fd=>fd.globals==uw && fd.builtins==zK && fd.closure.isEmpty && codeIn K fd.code fd.qualname && (match fd.body with|.stmts _=>ab|_=>an)
 |none=>an
noncomputable def Fi(fd:HO):List bx:=match fd.body with|.stmts b=>b|_=>[]
variable{H:Frag}
theorem vt(hK:G.K=H){a:au}{k:Nat}{ps:List Str}{eB:List SV}(ds:List Value)(hl:D1 H a=ab)(hB:Fi (fdOf H a)=ba a)(hS:(fdOf H a).scope=cg a)(qy:BY (cg a) ps=ab)(c7:ps.length=k+eB.length)
  (hb:∀S (vals:List Value),vals.length=k→peek H S (uz (fdOf H a) ⟨vals,[]⟩)=aa (ps.zip (vals++ds)))
  (kC:∀(P:aV) (m:Mu),(∀a o,G.base.get? a=aa o→P a=aa o)→aO P m eB ds):d0 G a k ps eB (ba a) (cg a):=by
 subst hK;unfold D1 at hl;unfold fdOf at hB hS hb
 cases hf:Bc G.K a with
 |none=>rw[hf] at hl;exact cM hl
 |some fd=>
  rw[hf] at hl hB hS hb;simp only[bO,eX,List.isEmpty_iff] at hl;obtain⟨⟨⟨⟨h1,h2⟩,h3⟩,h4⟩,h5⟩:=hl;have l6:=hf;unfold Bc at l6
  cases hl:G.K.lookup a with
  |none=>rw[hl] at l6;(first|exact a7 l6|obtain rfl:=aY l6)
  |some o=>
   rw[hl] at l6;simp only at l6
   split at l6
   ·rename_i YE hd
    obtain rfl:=aY l6;refine⟨⟨o,YE,ds,hl,hd,hS,?_,h1,h2,h3,codeRec_of G.fY h4,hb,kC⟩,qy,c7⟩;rw[←hB];unfold Fi
    split at h5
    ·rename_i b hb;simp only[hb]
    ·exact cM h5
   ·exact a7 l6
theorem xu{l:List Value}(h:l.length=1):∃v,l=[v]:=List.length_eq_one_iff.mp h
theorem lL{l:List Value}{n:Nat}(h:l.length=n+1):∃v r,l=v::r∧r.length=n:=by
 cases l with
 |nil=>cases h
 |cons v r=>exact(yq v r rfl (DD h))
def vR(H:Frag)(a:au)(ps:List Str):Prop:=D1 H a=ab∧Fi (fdOf H a)=ba a∧(fdOf H a).scope=cg a∧BY (cg a) ps=ab
theorem MF(hK:G.K=H){a:au}(A:vR H a [])(hb:∀S,peek H S (uz (fdOf H a) ⟨[],[]⟩)=aa []):d0 G a 0 [] [] (ba a) (cg a):=
 vt hK [] A.1 A.2.1 A.2.2.1 A.2.2.2 rfl (λS vals hv=>by obtain rfl:=aiq.mp hv;exact hb S) λ_ _ _=>rfl
theorem mM(hK:G.K=H){a:au}{x:Str}{eB:List SV}(xs:List Str)(ds:List Value)(A:vR H a (x::xs))(c7:(x::xs).length=1+eB.length)
  (hb:∀S v,peek H S (uz (fdOf H a) ⟨[v],[]⟩)=aa ((x,v)::xs.zip ds)) (kC:∀(P:aV) (m:Mu),(∀a o,G.base.get? a=aa o→P a=aa o)→aO P m eB ds):
  d0 G a 1 (x::xs) eB (ba a) (cg a):=
 vt hK ds A.1 A.2.1 A.2.2.1 A.2.2.2 c7 (λS vals hv=>by refine xE (xu hv) λv bq=>?_;subst bq;exact hb S v) kC
theorem xG(hK:G.K=H){a:au}{x y:Str}{eB:List SV}(xs:List Str)(ds:List Value)(A:vR H a (x::y::xs))(c7:(x::y::xs).length=2+eB.length)
  (hb:∀S v w,peek H S (uz (fdOf H a) ⟨[v,w],[]⟩)=aa ((x,v)::(y,w)::xs.zip ds)) (kC:∀(P:aV) (m:Mu),(∀a o,G.base.get? a=aa o→P a=aa o)→aO P m eB ds):
  d0 G a 2 (x::y::xs) eB (ba a) (cg a):=
 vt hK ds A.1 A.2.1 A.2.2.1 A.2.2.2 c7 (λS vals hv=>by refine ef (lL hv) λv r ax hr=>?_;subst ax;refine xE (xu hr) λw bq=>?_;subst bq;exact hb S v w) kC
theorem zC(hK:G.K=H){a:au}{x y z:Str}{eB:List SV}(xs:List Str)(ds:List Value)(A:vR H a (x::y::z::xs))(c7:(x::y::z::xs).length=3+eB.length)
  (hb:∀S v w u,peek H S (uz (fdOf H a) ⟨[v,w,u],[]⟩)=aa ((x,v)::(y,w)::(z,u)::xs.zip ds)) (kC:∀(P:aV) (m:Mu),(∀a o,G.base.get? a=aa o→P a=aa o)→aO P m eB ds):
  d0 G a 3 (x::y::z::xs) eB (ba a) (cg a):=
 vt hK ds A.1 A.2.1 A.2.2.1 A.2.2.2 c7 (λS vals hv=>by refine ef (lL hv) λv r ax hr=>?_;subst ax;refine ef (lL hr) λw r' ax q_=>?_;subst ax;refine xE (xu q_) λu bq=>?_;subst bq;exact hb S v w u) kC
theorem Yc(hK:G.K=H){a:au}{x1 x2 x3 x4 x5 x6 x7 x8:Str}(A:vR H a [x1,x2,x3,x4,x5,x6,x7,x8])
  (hb:∀S v1 v2 v3 v4 v5 v6 v7 v8,peek H S (uz (fdOf H a) ⟨[v1,v2,v3,v4,v5,v6,v7,v8],[]⟩)=aa [(x1,v1),(x2,v2),(x3,v3),(x4,v4),(x5,v5),(x6,v6),(x7,v7),(x8,v8)]):
  d0 G a 8 [x1,x2,x3,x4,x5,x6,x7,x8] [] (ba a) (cg a):=
 vt hK [] A.1 A.2.1 A.2.2.1 A.2.2.2 rfl (λS vals hv=>by
  refine ef (lL hv) λv1 r1 ax h1=>?_;subst ax;refine ef (lL h1) λv2 r2 ax h2=>?_;subst ax;refine ef (lL h2) λv3 r3 ax h3=>?_;subst ax;refine ef (lL h3) λv4 r4 ax h4=>?_;subst ax;refine ef (lL h4) λv5 r5 ax h5=>?_;subst ax;refine ef (lL h5) λv6 r6 ax h6=>?_;subst ax;refine ef (lL h6) λv7 r7 ax h7=>?_;subst ax;refine xE (xu h7) λv8 bq=>?_;subst bq;exact hb S v1 v2 v3 v4 v5 v6 v7 v8) λ_ _ _=>rfl
theorem Wc(hK:G.K=H){a:au}{x1 x2 x3 x4:Str}{xs:List Str}{eB:List SV}(ds:List Value)(A:vR H a (x1::x2::x3::x4::xs))(c7:xs.length=eB.length)
  (hb:∀S v1 v2 v3 v4,peek H S (uz (fdOf H a) ⟨[v1,v2,v3,v4],[]⟩)=aa ((x1,v1)::(x2,v2)::(x3,v3)::(x4,v4)::xs.zip ds))
  (kC:∀(P:aV) (m:Mu),(∀a o,G.base.get? a=aa o→P a=aa o)→aO P m eB ds):
  d0 G a 4 (x1::x2::x3::x4::xs) eB (ba a) (cg a):=
 vt hK ds A.1 A.2.1 A.2.2.1 A.2.2.2 (by show xs.length+1+1+1+1=_;rw[c7];exact sp eB.length 4) (λS vals hv=>by
  refine ef (lL hv) λv1 r1 ax h1=>?_;subst ax;refine ef (lL h1) λv2 r2 ax h2=>?_;subst ax;refine ef (lL h2) λv3 r3 ax h3=>?_;subst ax;refine xE (xu h3) λv4 bq=>?_;subst bq;exact hb S v1 v2 v3 v4) kC
noncomputable def J_(H:Frag)(a:au):Obj:=match H.lookup a with|some o=>o|none=>default
theorem UB{G:Gl}{H:Frag}(hK:G.K=H){P:aV}(hb:∀a o,G.base.get? a=aa o→P a=aa o){a:au}(e:H.lookup a=aa (J_ H a)){T:Prop}(c:P a=aa (J_ H a)→T):T:=c (hb _ _ (G.fY a _ (hK▸e)))
theorem Eh{a:au}{o:Obj}:∀{l:List (au×Obj)},l.lookup a=aa o→(a,o)∈l
 |(k,v)::r,h=>by
  rw[k_] at h
  cases q:a==k with
  |true=>rw[q] at h;(first|exact a7 h|obtain rfl:=aY h);rw[eX.mp q];exact dA
  |false=>rw[q] at h;exact eT _ (Eh h)
noncomputable def qD(base:cO)(ex:List (au×Obj)):aV:=λa=>(base.get? a).or (ex.lookup a)
theorem Rel.start{G:Gl}{F:FD}{b:Nat}{ae:Env}{A:dZ}{s:ak}{fr:SF}{L:au}{ex:List (au×Obj)}{own:List au}
  (hg:s.gens=#[]) (ho:s.os=G.os) (hb:∀a o,G.base.get? a=aa o→s.heap.get? a=aa o)
  (hex:∀p∈ex,s.heap.get? p.1=aa p.2∧p.1∉own) (uo:∀a∈own,G.base.get? a=af)
  (hA:A.frames=aa [ae]) (hL:ae.frame=aa L) (ME:L∈own) (hk:ae.scope.kind≠.module) (OO:∃o,s.heap.get? L=aa o∧∀vs,o.data≠.fields vs)
  (hF:FrR F own ae (qD G.base ex) (λ_=>af) fr s.heap)
  (hd:A.depth+b<HJ) (hu:A.units+8*b+8<ez) (hgu:A.guards=aa []) (hq:F.q=ab→A.handled=af):
  Rel G F b own ae A (qD G.base ex) (λ_=>af) fr (λ_=>af) s where
 gens:=hg
 os:=ho
 bs:=hb
 basePR:=λa o e=>by unfold qD;rw[e];rfl
 frs:=by
  refine⟨[ae],hA,?_,yq ae ([]) rfl rfl,λa ha=>?_,λa o e=>?_⟩
  ·refine aj OO λo h1 h2=>?_;clear OO
   exact⟨hk,⟨L,o,hL,uo L ME,h1,h2⟩,trivial⟩
  ·rw[qP,hL] at ha
   have:a=L:=by simpa using ha
   exact .inl (this▸ME)
  ·unfold qD at e
   cases zr:G.base.get? a with
   |some o'=>
    rw[zr] at e;obtain rfl:o'=o:=by simpa using e
    exact(aU o'.slots (hb a o' zr) (λ_=>rfl))
   |none=>
    rw[zr] at e;refine xA (hex (a,o) (Eh (by exact e))) λh1 _=>?_;exact(aU o.slots h1 (λ_=>rfl))
 obj:=λn so e=>by exact a7 e
 dom:=λ_ _=>rfl
 inj:=λ_ _ _ _ e=>by exact a7 e
 sep:=λ_ _ e=>by exact a7 e
 ownP:=λa ha=>by
  unfold qD;rw[uo a ha]
  cases e:ex.lookup a with
  |none=>rfl
  |some o=>exact bc ha (hex (a,o) (Eh e)).2
 f:=hF
 depth:=hd
 units:=hu
 guards:=hgu
 quiet:=hq
noncomputable def cZ(F:FD)(l:List Str):Bool:=l.all λx=>(F.sc.names.lookup x==aa .globalImplicit) && !(x==("__debug__":Str))
structure FI where
 G:Gl
 b:Nat
 K:KD G
 F:FD
 l:List Str
 gs:List Str
 V:cq F l=ab
 W:cZ F gs=ab
 q:F.q=ab
def SF.sub(fr fr':SF):Prop:=∀y v,fr.lookup y=aa v→fr'.lookup y=aa v
theorem SF.sub.put{fr fr':SF}(s:fr.sub fr')(x:Str)(v:SV):(fr.put x v).sub (fr'.put x v):=λy u h=>
 have h:=(gj fr x v y).symm.trans h
 (gj fr' x v y).trans (if e:y=x then(aP e).trans ((aP e).symm.trans h) else(aK e).trans (s y u ((aK e).symm.trans h)))
theorem br{fr:SF}:SF.sub [] fr:=λ_ _ h=>a7 h
theorem ai{y:Str}{v:SV}{r fr:SF}(t:r.sub fr)(h:autoParam (fr.lookup y=aa v) dI):SF.sub ((y,v)::r) fr:=λz u q=>
 if e:z=y then(ay (fr.lookup ·) e).trans (h.trans ((i_ (p:=(y,v)) e).symm.trans q)) else t z u ((gT (p:=(y,v)) e).symm.trans q)
theorem SF.sub.rfl{fr:SF}:fr.sub fr:=λ_ _ h=>h
theorem SF.sub.trans{a b c:SF}(x:a.sub b)(y:b.sub c):a.sub c:=λz v h=>y z v (x z v h)
variable{i:FI}{ag aC cK:SH}{e l r:Expr}{u v w:SV}
def Uv(i:FI)(fr:SF)(h:SH)(e:Expr)(v:SV)(h':SH):Prop:=
 ∀fr',fr.sub fr'→∀Q X,Q v h'→WE i.G i.F i.b fr' h e Q X
abbrev EV(i:FI)(fr:SF)(h:SH)(e:Expr)(v:SV)(h':SH):Prop:=Bx (Uv i fr h e v h')
def EPb(i:FI)(fr:SF)(h:SH)(e:Expr)(Q:QV):Prop:=
 ∀fr',fr.sub fr'→∀(Q':QV) X,(∀v h,Q v h→Q' v h)→WE i.G i.F i.b fr' h e Q' X
abbrev EP(i:FI)(fr:SF)(h:SH)(e:Expr)(Q:QV):Prop:=Bx (EPb i fr h e Q)
def RU(i:FI)(fr:SF)(h:SH)(e:Expr)(t:Bool)(h':SH):Prop:=
 ∀fr',fr.sub fr'→∀Q X,Q t h'→WB i.G i.F i.b fr' h e Q X
abbrev EB(i:FI)(fr:SF)(h:SH)(e:Expr)(t:Bool)(h':SH):Prop:=Bx (RU i fr h e t h')
def U_(i:FI)(fr:SF)(h:SH)(es:List Expr)(vs:List SV)(h':SH):Prop:=
 ∀fr',fr.sub fr'→∀Q X,Q vs h'→j7 i.G i.F i.b fr' h es Q X
abbrev ES(i:FI)(fr:SF)(h:SH)(es:List Expr)(vs:List SV)(h':SH):Prop:=Bx (U_ i fr h es vs h')
def OVb(i:FI)(h:SH)(vs:List SV)(t:List Value→Sem Value)(v:SV)(h':SH):Prop:=
 ∀fr' Q X,Q v h'→WO i.G i.F i.b fr' h vs t Q X
abbrev OV(i:FI)(h:SH)(vs:List SV)(t:List Value→Sem Value)(v:SV)(h':SH):Prop:=Bx (OVb i h vs t v h')
def TVb(i:FI)(h:SH)(v:SV)(t:Bool):Prop:=
 ∀fr' (Q:Bool→SH→Prop) X,Q t h→WT i.G i.F i.b fr' h v Q X
abbrev TV(i:FI)(h:SH)(v:SV)(t:Bool):Prop:=Bx (TVb i h v t)
def ZQ(i:FI)(h:SH)(f:SV)(vs:List SV)(Q:QV):Prop:=
 ∀fr' (Q':QV) X,(∀v h,Q v h→Q' v h)→WC i.G i.F i.b fr' h f vs Q' X
abbrev CP(i:FI)(h:SH)(f:SV)(vs:List SV)(Q:QV):Prop:=Bx (ZQ i h f vs Q)
def MVb(i:FI)(h:SH)(u:SV)(name:Str)(f:SV):Prop:=
 ∀fr',GM i.G i.F i.b fr' h u name f
abbrev MV(i:FI)(h:SH)(u:SV)(name:Str)(f:SV):Prop:=Bx (MVb i h u name f)
def Wd(i:FI)(h:SH)(f:SV)(vs:List SV)(Q:QV):Prop:=
 ∀(F:FD) fr',F.q=ab→∀Q':QV,(∀v h,Q v h→Q' v h)→CC i.G F i.b fr' h f vs Q'
abbrev FP(i:FI)(h:SH)(f:SV)(vs:List SV)(Q:QV):Prop:=Bx (Wd i h f vs Q)
def EIb(i:FI)(fr:SF)(h:SH)(e:Expr)(k:dm)(h':SH):Prop:=
 ∀fr',fr.sub fr'→∀Q X,Q k h'→WI i.G i.F i.b fr' h e Q X
abbrev EI(i:FI)(fr:SF)(h:SH)(e:Expr)(k:dm)(h':SH):Prop:=Bx (EIb i fr h e k h')
def Tt(i:FI)(fr:SF)(h:SH)(t:Expr)(v:SV)(bv:SF)(h':SH):Prop:=
 ∀fr',fr.sub fr'→∀(Q:QF) X,(∀ew,bv.sub ew→Q ew h')→WA i.G i.F i.b fr' h t v Q X
abbrev AT(i:FI)(fr:SF)(h:SH)(t:Expr)(v:SV)(bv:SF)(h':SH):Prop:=Bx (Tt i fr h t v bv h')
abbrev is(v:SV)(h:SH):QV:=λv' h'=>v'=v∧h'=h
theorem FP.cp{f:SV}{vs:List SV}{Q:QV}(w:FP i h f vs Q):CP i h f vs Q:=⟨λfr' Q' X hq=>WZ (w.run i.F fr' i.q Q' hq)⟩
theorem EV.ep(w:EV i fr h e v h'):EP i fr h e (is v h'):=⟨λfr' s Q' X hq=>w.run fr' s Q' X (hq _ _ ⟨rfl,rfl⟩)⟩
theorem EP.ev(w:EP i fr h e (is v h')):EV i fr h e v h':=⟨λfr' s Q' X hq=>w.run fr' s Q' X λv h q=>by refine xA q λcP bq=>?_;clear q;subst cP;subst bq;exact hq⟩
theorem EP.imp{Q Q':QV}(w:EP i fr h e Q)(hq:∀v h,Q v h→Q' v h):EP i fr h e Q':=⟨λfr' s pR X h2=>w.run fr' s pR X λv h q=>h2 v h (hq v h q)⟩
theorem cZ.get{F:FD}{l:List Str}(V:cZ F l=ab){x:Str}(hx:l.contains x=ab):F.sc.names.lookup x=aa .globalImplicit∧(x==("__debug__":Str))=an:=
 have q:=(bO _ _).mp (dc.mp V x (e9.mp hx));⟨eq_of_beq q.1,(jL _).mp q.2⟩
theorem n_{x:Str}{pos:Pos}(hx:autoParam (fr.lookup x=aa v) dI)(hl:autoParam (i.l.contains x=ab) bl):EV i fr h (.Name x pos) v h:=
 ⟨λfr' s Q X hq=>nv i.V (s _ _ hx) hq hl⟩
theorem g_{x:Str}{pos:Pos}(hg:jm i.G x v)(hl:autoParam (i.gs.contains x=ab) bl):EV i fr h (.Name x pos) v h:=
 ⟨λfr' s Q X hq=>Ez hg (cZ.get i.W hl).1 (cZ.get i.W hl).2 hq⟩
theorem bD{n:Int}{k:Nat}{pos:Pos}:EV i fr h (.Constant (.int n) k pos) (.int n) h:=⟨λfr' s Q X hq=>const_int hq⟩
theorem cw{n:Str}{k:Nat}{pos:Pos}:EV i fr h (.Constant (.str n) k pos) (.str n) h:=⟨λfr' s Q X hq=>IU hq⟩
theorem jD{n:Bool}{k:Nat}{pos:Pos}:EV i fr h (.Constant (.bool n) k pos) (.bool n) h:=⟨λfr' s Q X hq=>Rt hq⟩
theorem k7{k:Nat}{pos:Pos}:EV i fr h (.Constant .none k pos) .none h:=⟨λfr' s Q X hq=>const_none hq⟩
def xk(e:Expr):Prop:=∀(a:Str) (ae:Env) (w:Sem Value),uy e a ae w=w
def qf(e:Expr):Prop:=∀o j:Value,subscripted e an o j=operate [o,j] (i6 o j)
theorem a_{n:Nm}{C:au}{fs:SF}{a:Str}{pos:Pos}(w:EV i fr h e (.ref n) ag)(hn:ag n=aa (.inst C fs))(hf:autoParam (fs.lookup a=aa v) dI)(ok:autoParam ((qu C a && l8 v)=ab) bl)(pK:autoParam (xk e) xR):EV i fr h (.Attribute e a pos) v ag:=by
 have p:=(bO _ _).mp ok;exact⟨λfr' s Q X hq=>at_ (w.run fr' s _ _ (Gs i.K p.1 hn hf p.2 hq)) (pK _)⟩
theorem a0_{n:Nm}{fs:SF}{a:Str}{pos:Pos}(w:EV i fr h e (.ref n) ag)(hn:ag n=aa (.inst 100 fs))(hf:fs.lookup a=af)(ok:autoParam (wE.contains a=ab) bl)(pK:autoParam (xk e) xR):EV i fr h (.Attribute e a pos) (.int 0) ag:=
 ⟨λfr' s Q X hq=>at_ (w.run fr' s _ _ (Pf i.K ok hn hf hq)) (pK _)⟩
theorem xo{k:Expr}{pos:Pos}(a:EV i fr h e u ag)(b:EV i fr ag k w aC)(g:GI i.G aC u)(o:OV i aC [u,w] (bw i6) v cK)(ok:autoParam (qf k) i8):EV i fr h (.Subscript e k pos) v cK:=
 ⟨λfr' s Q X hq=>B7 (ok) (a.run fr' s _ _ (b.run fr' s _ _ ⟨g,o.run fr' _ _ hq⟩))⟩
theorem gY{n:Nm}{es:List (SV×SV)}{k:Expr}{pos:Pos}(a:EV i fr h e (.ref n) ag)(b:EV i fr ag k w aC)(hn:aC n=aa (.dict es))(hl:es.lookup w=aa v)(ok:autoParam (SV.key 6 w=ab) bl)(Hv:autoParam (qf k) i8):EV i fr h (.Subscript e k pos) v aC:=
 xo a b (.dict hn) ⟨λfr' Q X hq=>To hn ok hl hq⟩ Hv
theorem mx{vs:List SV}{k:Expr}{pos:Pos}{j:Nat}(a:EV i fr h e u ag)(b:EV i fr ag k (.int j) aC)(hl:de i.G aC u vs)(hj:j<2^62)(hv:vs[j]? =aa v)(ok:autoParam (qf k) i8):EV i fr h (.Subscript e k pos) v aC:=xo a b (.lst hl) ⟨λfr' Q X hq=>Ι hl (DB aW (jq j)) (air (ib.mpr hj) aW) (Ec ((cV.mp hv).1)) hv hq⟩ ok
theorem mV{vs:List SV}{k:Expr}{pos:Pos}{j:Nat}(a:EV i fr h e (.tup vs) ag)(b:EV i fr ag k (.int j) aC)(hj:j<2^62)(hv:vs[j]? =aa v)(ok:autoParam (qf k) i8):EV i fr h (.Subscript e k pos) v aC:=xo a b .tup ⟨λfr' Q X hq=>JB (DB aW (jq j)) (air (ib.mpr hj) aW) (Ec ((cV.mp hv).1)) hv hq⟩ ok
theorem c_{op:CmpOp}{pos:Pos}(a:EV i fr h l u ag)(b:EV i fr ag r w aC)(o:OV i aC [u,w] (bw (c5 op)) v cK)(ok:autoParam (Dp op r=an) dI):EV i fr h (.Compare l [op] [r] pos) v cK:=
 ⟨λfr' s Q X hq=>A7 ok (a.run fr' s _ _ (b.run fr' s _ _ (o.run fr' _ _ hq)))⟩
theorem bt{op:CmpOp}{pos:Pos}{t:Bool}(a:EV i fr h l u ag)(b:EV i fr ag r w aC)(o:OV i aC [u,w] (bw (c5 op)) (.bool t) cK)(ok:autoParam (Dp op r=an) dI):EB i fr h (.Compare l [op] [r] pos) t cK:=
 ⟨λfr' s Q X hq=>L9 ok (a.run fr' s _ _ (b.run fr' s _ _ (o.run fr' _ _ (Dc hq))))⟩
theorem fM{op:wS}{pos:Pos}(a:EV i fr h l u ag)(b:EV i fr ag r w aC)(o:OV i aC [u,w] (bw (m7 op)) v cK):EV i fr h (.BinOp l op r pos) v cK:=
 ⟨λfr' s Q X hq=>Pb (a.run fr' s _ _ (b.run fr' s _ _ (o.run fr' _ _ hq)))⟩
theorem AP{n:Int}{pos:Pos}(a:EV i fr h e (.int n) ag):EV i fr h (.UnaryOp .USub e pos) (.int (-n)) ag:=⟨λfr' s Q X hq=>SW (a.run fr' s _ _ (ab3 hq))⟩
theorem Nj{t:Expr}{pos:Pos}(a:EB i fr h t ab ag)(b:EV i fr ag l v aC):EV i fr h (.IfExp t l r pos) v aC:=⟨λfr' s Q X hq=>ND (a.run fr' s _ _ (b.run fr' s _ _ hq))⟩
theorem Kg{t:Expr}{pos:Pos}(a:EB i fr h t an ag)(b:EV i fr ag r v aC):EV i fr h (.IfExp t l r pos) v aC:=⟨λfr' s Q X hq=>ND (a.run fr' s _ _ (b.run fr' s _ _ hq))⟩
theorem p_{t:Bool}(a:EV i fr h e v ag)(o:TV i ag v t)(ok:autoParam (Bv e=ab) bl):EB i fr h e t ag:=⟨λfr' s Q X hq=>Φ ok (a.run fr' s _ _ (o.run fr' _ _ hq))⟩
theorem fz{t:Bool}{pos:Pos}(a:EB i fr h e t ag):EB i fr h (.UnaryOp .Not e pos) (!t) ag:=⟨λfr' s Q X hq=>Uq (a.run fr' s _ _ hq)⟩
theorem lH{es:List Expr}{t:Bool}{pos:Pos}(a:EB i fr h e ab ag)(b:EB i fr ag (.BoolOp .And es pos) t aC):EB i fr h (.BoolOp .And (e::es) pos) t aC:=⟨λfr' s Q X hq=>N0 (a.run fr' s _ _ (by rw[aP rfl];exact b.run fr' s _ _ hq))⟩
theorem oN{es:List Expr}{pos:Pos}(a:EB i fr h e an ag):EB i fr h (.BoolOp .And (e::es) pos) an ag:=⟨λfr' s Q X hq=>N0 (a.run fr' s _ _ (by rw[aK iD];exact hq))⟩
theorem Bk{pos:Pos}:EB i fr h (.BoolOp .And [] pos) ab h:=⟨λfr' s Q X hq=>Y5 hq⟩
theorem qa{es:List Expr}{t:Bool}{pos:Pos}(a:EB i fr h e an ag)(b:EB i fr ag (.BoolOp .Or es pos) t aC):EB i fr h (.BoolOp .Or (e::es) pos) t aC:=⟨λfr' s Q X hq=>ER (a.run fr' s _ _ (by rw[aK iD];exact b.run fr' s _ _ hq))⟩
theorem zg{es:List Expr}{pos:Pos}(a:EB i fr h e ab ag):EB i fr h (.BoolOp .Or (e::es) pos) ab ag:=⟨λfr' s Q X hq=>ER (a.run fr' s _ _ (by rw[aP rfl];exact hq))⟩
theorem Ao{pos:Pos}:EB i fr h (.BoolOp .Or [] pos) an h:=⟨λfr' s Q X hq=>Yu hq⟩
theorem i9{t:Bool}:TV i h (.bool t) t:=⟨λfr' Q X hq=>Dc hq⟩
theorem nu:TV i h .none an:=⟨λfr' Q X hq=>ac5 hq⟩
theorem JE{n:Int}:TV i h (.int n) (n !=0):=⟨λfr' Q X hq=>UU hq⟩
theorem lS{vs:List SV}(hl:de i.G h u vs)(hz:vs.length<2^62):TV i h u (!vs.isEmpty):=⟨λfr' Q X hq=>ZC hl hz hq⟩
theorem BE{vs:List SV}(hz:vs.length<2^62):TV i h (.tup vs) (!vs.isEmpty):=⟨λfr' Q X hq=>δ hz hq⟩
theorem zq{n:Nm}{es:List (SV×SV)}(hn:h n=aa (.dict es))(hz:es.length<2^62):TV i h (.ref n) (!es.isEmpty):=⟨λfr' Q X hq=>acv hn hz hq⟩
theorem xU(ok:autoParam ((SV.data 6 u && SV.data 6 w)=ab) bl):OV i h [u,w] (bw (c5 .Eq)) (.bool (decide (u=w))) h:=by rw[bO] at ok;exact⟨λfr' Q X hq=>YW ok.1 ok.2 hq⟩
theorem nN(hu:u=w)(ok:autoParam ((SV.data 6 u && SV.data 6 w)=ab) bl):OV i h [u,w] (bw (c5 .Eq)) (.bool ab) h:=eQ hu▸xU ok
theorem lU(hu:u≠w)(ok:autoParam ((SV.data 6 u && SV.data 6 w)=ab) bl):OV i h [u,w] (bw (c5 .Eq)) (.bool an) h:=i0 hu▸xU ok
theorem MQ(ok:autoParam ((SV.data 6 u && SV.data 6 w)=ab) bl):OV i h [u,w] (bw (c5 .NotEq)) (.bool (!decide (u=w))) h:=by rw[bO] at ok;exact⟨λfr' Q X hq=>acb ok.1 ok.2 hq⟩
theorem xV{x y:Int}:OV i h [.int x,.int y] (bw (c5 .Lt)) (.bool (decide (x<y))) h:=⟨λfr' Q X hq=>abw hq⟩
theorem KY{x y:Int}:OV i h [.int x,.int y] (bw (c5 .Gt)) (.bool (decide (x > y))) h:=⟨λfr' Q X hq=>Ω hq⟩
theorem E0{x y:Int}:OV i h [.int x,.int y] (bw (c5 .GtE)) (.bool (decide (x≥y))) h:=⟨λfr' Q X hq=>Uc hq⟩
theorem nW{x y:Int}:OV i h [.int x,.int y] (bw (m7 .Add)) (.int (x+y)) h:=⟨λfr' Q X hq=>Sr hq⟩
theorem Al{x y:Int}:OV i h [.int x,.int y] (bw (m7 .Sub)) (.int (x-y)) h:=⟨λfr' Q X hq=>adx hq⟩
theorem u_{x y:Int}:OV i h [.int x,.int y] (bw (sC .Add)) (.int (x+y)) h:=⟨λfr' Q X hq=>acw hq⟩
theorem I_{x y:Int}:OV i h [.int x,.int y] (bw (sC .Sub)) (.int (x-y)) h:=⟨λfr' Q X hq=>aad hq⟩
theorem tO{x y:Int}(hy:0<y):OV i h [.int x,.int y] (bw (m7 .Mod)) (.int (x % y)) h:=⟨λfr' Q X hq=>R9 hy hq⟩
theorem qh{n:Nm}{es:List (SV×SV)}(hn:h n=aa (.dict es))(ok:autoParam (SV.key 6 u=ab) bl):OV i h [u,.ref n] (bw (c5 .In)) (.bool (es.lookup u).isSome) h:=⟨λfr' Q X hq=>TU hn ok hq⟩
theorem Lx{n:Nm}{es:List (SV×SV)}(hn:h n=aa (.dict es))(ok:autoParam (SV.key 6 u=ab) bl):OV i h [u,.ref n] (bw (c5 .NotIn)) (.bool (!(es.lookup u).isSome)) h:=⟨λfr' Q X hq=>Vv hn ok hq⟩
theorem G5{vs:List SV}(hl:de i.G h w vs)(hd:eK 6 vs=ab)(ok:autoParam (SV.data 6 u=ab) bl):OV i h [u,w] (bw (c5 .In)) (.bool (decide (u∈vs))) h:=⟨λfr' Q X hq=>Uh hl hd ok hq⟩
theorem Bf{vs:List SV}(hl:de i.G h w vs)(hd:eK 6 vs=ab)(ok:autoParam (SV.data 6 u=ab) bl):OV i h [u,w] (bw (c5 .NotIn)) (.bool (!decide (u∈vs))) h:=⟨λfr' Q X hq=>ε hl hd ok hq⟩
theorem Mv{x y:Str}:OV i h [.str y,.str x] (bw (c5 .In)) (.bool (Aw y x)) h:=⟨λfr' Q X hq=>ab4 hq⟩
theorem vZ(ok:autoParam (l8 u=ab) bl):OV i h [u,.none] (bw (c5 .IsNot)) (.bool (!isNone u)) h:=⟨λfr' Q X hq=>Vl ok hq⟩
theorem aL:ES i fr h [] [] h:=⟨λfr' s Q X hq=>tz hq⟩
theorem aB{es:List Expr}{vs:List SV}(a:EV i fr h e v ag)(b:ES i fr ag es vs aC)(ok:autoParam (iQ e=ab) bl):ES i fr h (e::es) (v::vs) aC:=⟨λfr' s Q X hq=>tf (a.run fr' s _ _ (b.run fr' s _ _ hq)) ok⟩
theorem eY{es:List Expr}{vs:List SV}{k:Nat}{pos:Pos}(a:ES i fr h es vs ag)(hl:autoParam (vs.length=es.length) dI)(hz:autoParam (wL es.length 100=ab) bl):EV i fr h (.Tuple es k pos) (.tup vs) ag:=⟨λfr' s Q X hq=>tuple (wn hz) (a.run fr' s _ _ ⟨hl,hq⟩)⟩
theorem eC{es:List Expr}{vs:List SV}{pos:Pos}{n:Nm}(a:ES i fr h es vs ag)(hn:ag n=af)(hl:autoParam (vs.length=es.length) dI)(hz:autoParam (wL es.length 100=ab) bl):EV i fr h (.List es pos) (.ref n) (ag.set n (.list vs)):=⟨λfr' s Q X hq=>list (wn hz) (a.run fr' s _ _ (q9 hl n hn hq))⟩
theorem gR{pos:Pos}{n:Nm}(hn:h n=af):EV i fr h (.Dict [] [] pos) (.ref n) (h.set n (.dict [])):=⟨λfr' s Q X hq=>Tx hn hq⟩
theorem nZ{x:Str}{q pos:Pos}{args:List Expr}{f:SV}{vs:List SV}{Q:QV}(hg:jm i.G x f)(hc:callable i.G f=ab)(a:ES i fr h args vs ag)(b:CP i ag f vs Q)(ok:autoParam ((i.gs.contains x && args.all iQ)=ab) bl):EP i fr h (.Call (.Name x q) args [] pos) Q:=by
 rw[bO] at ok;exact⟨λfr' s Q' X hq=>JY hg (cZ.get i.W ok.1).1 hc (a.run fr' s _ _ (b.run fr' _ _ hq)) (cZ.get i.W ok.1).2 ok.2⟩
theorem dp{o:Expr}{name:Str}{gE pos:Pos}{args:List Expr}{f:SV}{vs:List SV}{Q:QV}(a:EV i fr h o u ag)(m:MV i ag u name f)(hc:callable i.G f=ab)(b:ES i fr ag args vs aC)(d:CP i aC f (u::vs) Q)(ok:autoParam ((args.all iQ && (gE.endLine==pos.line && decide (args.length<20)))=ab) bl)(pK:autoParam (xk o) xR):
  EP i fr h (.Call (.Attribute o name gE) args [] pos) Q:=by
 have p:=(bO _ _).mp ok;exact⟨λfr' s Q' X hq=>MC (a.run fr' s _ _ (cL f hc (m.run fr') (b.run fr' s _ _ (d.run fr' _ _ hq)))) (pK _) p.1 p.2⟩
theorem b8{x:Str}{q pos:Pos}{args:List Expr}{f:SV}{vs:List SV}(hg:jm i.G x f)(hc:callable i.G f=ab)(a:ES i fr h args vs ag)(b:CP i ag f vs (is v aC))(ok:autoParam ((i.gs.contains x && args.all iQ)=ab) bl):EV i fr h (.Call (.Name x q) args [] pos) v aC:=EP.ev (nZ hg hc a b ok)
theorem g9{o:Expr}{name:Str}{gE pos:Pos}{args:List Expr}{f:SV}{vs:List SV}(a:EV i fr h o u ag)(m:MV i ag u name f)(hc:callable i.G f=ab)(b:ES i fr ag args vs aC)(d:CP i aC f (u::vs) (is v cK))(ok:autoParam ((args.all iQ && (gE.endLine==pos.line && decide (args.length<20)))=ab) bl)(pK:autoParam (xk o) xR):
  EV i fr h (.Call (.Attribute o name gE) args [] pos) v cK:=EP.ev (dp a m hc b d ok pK)
theorem fV{n:Nm}{vs:List SV}(hn:h n=aa (.list vs)):MV i h (.ref n) "append" (.bi "list.append"):=⟨λfr'=>FN hn PySem.F.slot_list_append PySem.F.type_list_append⟩
theorem jo{n:Nm}{es:List (SV×SV)}(hn:h n=aa (.dict es)):MV i h (.ref n) "get" (.bi "dict.get"):=⟨λfr'=>ac2 hn Ic PySem.F.type_dict_get⟩
theorem ga{n:Nm}{vs:List SV}(hn:h n=aa (.list vs))(hz:vs.length≤cR):CP i h (.bi "list.append") [.ref n,v] (is .none (h.set n (.list (vs++[v])))):=⟨λfr' Q X hq=>Vi hn hz (hq _ _ ⟨rfl,rfl⟩)⟩
theorem zf{n:Nm}{es:List (SV×SV)}(hn:h n=aa (.dict es))(ok:autoParam (SV.key 6 v=ab) bl):CP i h (.bi "dict.get") [.ref n,v,w] (is ((es.lookup v).getD w) h):=⟨λfr' Q X hq=>VG hn ok (hq _ _ ⟨rfl,rfl⟩)⟩
theorem oO{vs:List SV}(hl:de i.G h u vs)(hz:vs.length<2^62):CP i h (.bi "len") [u] (is (.int vs.length) h):=⟨λfr' Q X hq=>X1 hl hz (hq _ _ ⟨rfl,rfl⟩)⟩
theorem B4{vs:List SV}(hz:vs.length<2^62):CP i h (.bi "len") [.tup vs] (is (.int vs.length) h):=⟨λfr' Q X hq=>aaf hz (hq _ _ ⟨rfl,rfl⟩)⟩
variable{o:Expr}{rest:List bx}{k:List (List bx)}{Q:QS}
noncomputable def up(Q:QS):QS:=λf fr h=>∃ey,ey.sub fr∧Q f ey h
noncomputable def ka(i:FI)(Q:QS):List (List bx)→QS
 |[]=>Q
 |b::k=>λf fr h=>match f with
  |.next=>j4 i.G i.F i.b fr h b (ka i Q k) nX
  |f=>Q f fr h
def SSb(i:FI)(fr:SF)(h:SH)(k:List (List bx))(Q:QS):Prop:=
 ∀fr',fr.sub fr'→ka i (up Q) k .next fr' h
abbrev SS(i:FI)(fr:SF)(h:SH)(k:List (List bx))(Q:QS):Prop:=Bx (SSb i fr h k Q)
def STb(i:FI)(fr:SF)(h:SH)(st:bx)(k:List (List bx))(Q:QS):Prop:=
 ∀fr',fr.sub fr'→∀Q':QS,(∀bv ag f,ka i (up Q) k f bv ag→Q' f bv ag)→WS i.G i.F i.b fr' h st Q' nX
abbrev ST(i:FI)(fr:SF)(h:SH)(st:bx)(k:List (List bx))(Q:QS):Prop:=Bx (STb i fr h st k Q)
theorem IG{k:List (List bx)}{f:ug}(hf:f≠.next){fr:SF}{h:SH}:ka i Q k f fr h=Q f fr h:=by
 cases k with
 |nil=>rfl
 |cons b k=>cases f<;>first|exact bc rfl hf|rfl
theorem SS.sub{ey:SF}(w:SS i ey h k Q)(s:ey.sub fr):SS i fr h k Q:=⟨λfr' s'=>w.run fr' (s.trans s')⟩
theorem bK(hq:Q .next fr h):SS i fr h [] Q:=⟨λfr' s=>⟨fr,s,hq⟩⟩
theorem aH(w:SS i fr h k Q):SS i fr h ([]::k) Q:=⟨λfr' s=>wf (w.run fr' s)⟩
theorem fF{st:bx}(w:ST i fr h st (rest::k) Q):SS i fr h ((st::rest)::k) Q:=⟨λfr' s=>xx (w.run fr' s _ λbv ag f q=>by
 cases f with
 |next=>exact q
 |brk=>exact(IG (by simp)).mpr q
 |cont=>exact(IG (by simp)).mpr q
 |ret v=>exact(IG (by simp)).mpr q)⟩
noncomputable def iq(e:Expr):Bool:=!([8,9,10,25].contains e.ctorIdx)
noncomputable def uS(e:Expr):Bool:=[20,21,23,25].contains e.ctorIdx
theorem IH{t:Option Expr}(ok:iq e=ab){n:Nat}{ae:Env}:Dt e t n ae=pure an:=by
 refine @wU (λe=>iq e=ab→Dt e t n ae=pure an) e ?_ ?_ ?_ ?_ ?_ ?_ ?_ ?_ ?_ ?_ ?_ ?_ ?_ ?_ ?_ ?_ ?_ ?_ ?_ ?_ ?_ ?_ ?_ ?_ ?_ ?_ ?_ ok<;>intros<;>first|rfl|exact cM ‹_›
theorem Q8{t:Expr}(ok:iq e=ab){n:Nat}{ae:Env}:Dr [t] e n ae=pure an:=IH ok
theorem Q9{t:Expr}(ok:iq e=ab)(ot:uS t=ab){ae:Env}:wV [t] e ae=pure af:=by
 refine @wU (λt=>uS t=ab→wV [t] e ae=pure af) t ?_ ?_ ?_ ?_ ?_ ?_ ?_ ?_ ?_ ?_ ?_ ?_ ?_ ?_ ?_ ?_ ?_ ?_ ?_ ?_ ?_ ?_ ?_ ?_ ?_ ?_ ?_ ot<;>first|(intros;first|rfl|(exact cM ‹_›;done))|(intros;refine @wU (λe=>iq e=ab→wV _ e ae=pure af) e ?_ ?_ ?_ ?_ ?_ ?_ ?_ ?_ ?_ ?_ ?_ ?_ ?_ ?_ ?_ ?_ ?_ ?_ ?_ ?_ ?_ ?_ ?_ ?_ ?_ ?_ ?_ ok<;>(intros;first|rfl|exact cM ‹_›))
theorem Q_{t:Expr}(ok:uS t=ab){ae:Env}:(qJ [t] ae).map (·.2)=[pq t ae]:=by
 refine @wU (λt=>uS t=ab→(qJ [t] ae).map (·.2)=[pq t ae]) t ?_ ?_ ?_ ?_ ?_ ?_ ?_ ?_ ?_ ?_ ?_ ?_ ?_ ?_ ?_ ?_ ?_ ?_ ?_ ?_ ?_ ?_ ?_ ?_ ?_ ?_ ?_ ok<;>(intros;first|rfl|exact cM ‹_›)
theorem tI{t:Expr}{pos:Pos}(P:QV)(a:EP i fr h e P)(b:∀v ag,P v ag→∀fr',fr.sub fr'→∀Q':QF,(∀bv aC,ka i (up Q) k .next bv aC→Q' bv aC)→WA i.G i.F i.b fr' ag t v Q' nX)(ok:autoParam ((iq e && uS t)=ab) bl):ST i fr h (.Assign [t] e pos) k Q:=by
 rw[bO] at ok;exact⟨λfr' s Q' hq=>Cw (a.run fr' s _ _ λv ag hp=>b v ag hp fr' s _ λbv aC q=>hq _ _ _ q) (λae=>Q8 ok.1) (λae=>Q9 ok.1 ok.2) λae=>Q_ ok.2⟩
theorem bM{x:Str}{q pos:Pos}(a:EV i fr h e v ag)(b:SS i (fr.put x v) ag (rest::k) Q)(ok:autoParam ((i.l.contains x && iq e)=ab) bl):SS i fr h ((.Assign [.Name x q] e pos::rest)::k) Q:=by
 rw[bO] at ok;exact fF (tI _ a.ep (λv' aC e fr' s Q' hq=>by refine xA e λcP bq=>?_;clear e;subst cP;subst bq;exact oE i.V (hq _ _ (b.run _ (s.put _ _))) ok.1) (by rw[ok.2];rfl))
theorem kG{x:Str}{q pos:Pos}{P:QV}(a:EP i fr h e P)(b:∀v ag,P v ag→SS i (fr.put x v) ag (rest::k) Q)(ok:autoParam ((i.l.contains x && iq e)=ab) bl):SS i fr h ((.Assign [.Name x q] e pos::rest)::k) Q:=by
 rw[bO] at ok;exact fF (tI _ a (λv' aC e fr' s Q' hq=>oE i.V (hq _ _ ((b v' aC e).run _ (s.put _ _))) ok.1) (by rw[ok.2];rfl))
theorem jy{n:Nm}{C:au}{fs:SF}{a:Str}{q pos:Pos}(x:EV i fr h e v ag)(y:EV i fr ag o (.ref n) aC)(hn:aC n=aa (.inst C fs))(hz:fs.length≤1000)(b:SS i fr (aC.set n (.inst C (fs.put a v))) (rest::k) Q)(ok:autoParam ((qu C a && iq e)=ab) bl):
  SS i fr h ((.Assign [.Attribute o a q] e pos::rest)::k) Q:=by
 rw[bO] at ok;exact fF (tI _ x.ep (λv' aC e fr' s Q' hq=>by refine xA e λcP bq=>?_;clear e;subst cP;subst bq;exact NS (y.run fr' s _ _ (El i.K ok.1 hn hz (hq _ _ (b.run _ s))))) (by rw[ok.2];rfl))
theorem eu{n:Nm}{es:List (SV×SV)}{kx:Expr}{q pos:Pos}(x:EV i fr h e v ag)(y:EV i fr ag o (.ref n) aC)(z:EV i fr aC kx w cK)(hn:cK n=aa (.dict es))(hz:es.length≤cR)(b:SS i fr (cK.set n (.dict (bj es w v))) (rest::k) Q)(ok:autoParam ((SV.key 6 w && iq e)=ab) bl):
  SS i fr h ((.Assign [.Subscript o kx q] e pos::rest)::k) Q:=by
 rw[bO] at ok;exact fF (tI _ x.ep (λv' aC e fr' s Q' hq=>by refine xA e λcP bq=>?_;clear e;subst cP;subst bq;exact Gi (y.run fr' s _ _ (z.run fr' s _ _ (Ph hn ok.1 hz (hq _ _ (b.run _ s)))))) (by rw[ok.2];rfl))
theorem x_{x:Str}{q pos:Pos}{op:wS}(hx:fr.lookup x=aa v)(a:EV i fr h e u ag)(d:OV i ag [v,u] (bw (sC op)) w aC)(b:SS i (fr.put x w) aC (rest::k) Q)(ok:autoParam (i.l.contains x=ab) bl):SS i fr h ((.AugAssign (.Name x q) op e pos::rest)::k) Q:=
 fF ⟨λfr' s Q' hq=>Xm (s _ _ hx) (cq.v i.V ok).1 (cq.v i.V ok).2.1 (cq.v i.V ok).2.2 (a.run fr' s _ _ (d.run fr' _ _ (hq _ _ .next (b.run _ (s.put _ _)))))⟩
theorem GH{n:Nm}{C:au}{fs:SF}{a:Str}{q pos:Pos}{op:wS}(x:EV i fr h o (.ref n) ag)(hn:ag n=aa (.inst C fs))(hf:OV i ag [.ref n] (mJ λx=>m8 x a ab) v ag)(y:EV i fr ag e u aC)(d:OV i aC [v,u] (bw (sC op)) w cK)(yU:cK n=aa (.inst C fs))(hz:fs.length≤1000)
  (b:SS i fr (cK.set n (.inst C (fs.put a w))) (rest::k) Q) (ok:autoParam (qu C a=ab) bl):SS i fr h ((.AugAssign (.Attribute o a q) op e pos::rest)::k) Q:=
 fF ⟨λfr' s Q' hq=>Uo (x.run fr' s _ _ (hf.run fr' _ _ (y.run fr' s _ _ (d.run fr' _ _ (El i.K ok yU hz (hq _ _ .next (b.run _ s)))))))⟩
theorem Oi{n:Nm}{C:au}{fs:SF}{a:Str}(hn:h n=aa (.inst C fs))(hf:autoParam (fs.lookup a=aa v) dI)(ok:autoParam ((qu C a && l8 v)=ab) bl):OV i h [.ref n] (mJ λx=>m8 x a ab) v h:=by
 rw[bO] at ok;exact⟨λfr' Q X hq=>Gs i.K ok.1 hn hf ok.2 hq⟩
theorem r_{P:QV}{pos:Pos}(a:EP i fr h e P)(b:∀v ag,P v ag→SS i fr ag (rest::k) Q)(ok:autoParam (iq e=ab) bl):SS i fr h ((.Expr e pos::rest)::k) Q:=
 fF ⟨λfr' s Q' hq=>Mj (λae=>IH ok) (a.run fr' s _ _ λv ag hp=>hq _ _ .next ((b v ag hp).run _ s))⟩
theorem fJ{pos:Pos}(a:EP i fr h e (is v ag))(b:SS i fr ag (rest::k) Q)(ok:autoParam (iq e=ab) bl):SS i fr h ((.Expr e pos::rest)::k) Q:=
 r_ a (λ_ _ q=>by refine xA q λcP bq=>?_;clear q;subst cP;subst bq;exact b) ok
theorem Z'{pos:Pos}(b:SS i fr h (rest::k) Q):SS i fr h ((.Pass pos::rest)::k) Q:=fF ⟨λfr' s Q' hq=>TN (hq _ _ .next (b.run _ s))⟩
theorem Cq{pos:Pos}(b:Q .brk fr h):SS i fr h ((.Break pos::rest)::k) Q:=fF ⟨λfr' s Q' hq=>brk (hq _ _ .brk ⟨fr,s,b⟩)⟩
theorem Fe{pos:Pos}(b:Q .cont fr h):SS i fr h ((.Continue pos::rest)::k) Q:=fF ⟨λfr' s Q' hq=>cont (hq _ _ .cont ⟨fr,s,b⟩)⟩
theorem gJ{pos:Pos}(a:EV i fr h e v ag)(b:Q (.ret v) fr ag):SS i fr h ((.Return (aa e) pos::rest)::k) Q:=fF ⟨λfr' s Q' hq=>ret (a.run fr' s _ _ (hq _ _ (.ret v) ⟨fr,s,b⟩))⟩
theorem ab5{P:QV}{pos:Pos}(a:EP i fr h e P)(b:∀v ag,P v ag→Q (.ret v) fr ag):SS i fr h ((.Return (aa e) pos::rest)::k) Q:=fF ⟨λfr' s Q' hq=>ret (a.run fr' s _ _ λv ag hp=>hq _ _ (.ret v) ⟨fr,s,b v ag hp⟩)⟩
theorem cT{t:Expr}{body eZ:List bx}{pos:Pos}(a:EB i fr h t ab ag)(b:SS i fr ag (body::rest::k) Q):SS i fr h ((.If t body eZ pos::rest)::k) Q:=
 fF ⟨λfr' s Q' hq=>GZ (a.run fr' s _ _ (by rw[aP rfl];exact iH.imp (b.run _ s) (λf bv ag q=>hq _ _ f q) λ_ _ _ q=>q))⟩
theorem cf{t:Expr}{body eZ:List bx}{pos:Pos}(a:EB i fr h t an ag)(b:SS i fr ag (eZ::rest::k) Q):SS i fr h ((.If t body eZ pos::rest)::k) Q:=
 fF ⟨λfr' s Q' hq=>GZ (a.run fr' s _ _ (by rw[aK iD];exact iH.imp (b.run _ s) (λf bv ag q=>hq _ _ f q) λ_ _ _ q=>q))⟩
theorem GN{t:Expr}{body eZ:List bx}{pos:Pos}{c:Bool}(a:EB i fr h t c ag)(b:c=ab→SS i fr ag (body::rest::k) Q)(d:c=an→SS i fr ag (eZ::rest::k) Q):SS i fr h ((.If t body eZ pos::rest)::k) Q:=by
 cases c with
 |true=>exact cT a (b rfl)
 |false=>exact cf a (d rfl)
noncomputable def LQ(i:FI){σ:Type}(fi:σ→SF)(hi:σ→SH)(J:σ→Prop)(k:List (List bx))(Q:QS):QS:=λf fr h=>match f with
 |.next=>∃s,J s∧(fi s).sub fr∧hi s=h
 |.cont=>∃s,J s∧(fi s).sub fr∧hi s=h
 |.brk=>SS i fr h k Q
 |.ret v=>Q (.ret v) fr h
variable{σ:Type}{fi:σ→SF}{hi:σ→SH}{J:σ→Prop}
theorem LQ.next(s:σ)(hJ:J s)(sb:(fi s).sub fr)(eh:autoParam (hi s=h) dI):LQ i fi hi J k Q .next fr h:=⟨s,hJ,sb,eh⟩
theorem LQ.cont(s:σ)(hJ:J s)(sb:(fi s).sub fr)(eh:autoParam (hi s=h) dI):LQ i fi hi J k Q .cont fr h:=⟨s,hJ,sb,eh⟩
theorem LQ.out{i:FI}{σ:Type}{fi:σ→SF}{hi:σ→SH}{J:σ→Prop}{rest:List bx}{k:List (List bx)}{Q Q':QS}{K:SF→SH→Prop}(hK:∀s fr h,J s→(fi s).sub fr→hi s=h→K fr h)
  (hq:∀f bv ag,ka i (up Q) (rest::k) f bv ag→Q' f bv ag) {f:ug} {fr:SF} {h:SH} (q:up (LQ i fi hi J (rest::k) Q) f fr h):
  match (generalizing:=false) f with
   |.next=>K fr h
   |.cont=>K fr h
   |.brk=>Q' .next fr h
   |.ret v=>Q' (.ret v) fr h:=by
 refine aj q λey s q=>?_
 cases f with
 |next=>refine bH q λt a b c=>?_;clear q;exact hK t fr h a (b.trans s) c
 |cont=>refine bH q λt a b c=>?_;clear q;exact hK t fr h a (b.trans s) c
 |brk=>exact hq _ _ _ (q.run _ s)
 |ret v=>exact hq _ _ _ ⟨ey,s,q⟩
theorem rK{σ:Type}(fi:σ→SF)(hi:σ→SH)(J:σ→Nat→Prop)(dJ:σ)(zz:Nat){t:Expr}{body eZ:List bx}{pos:Pos}(h0:J dJ zz)(sb:(fi dJ).sub fr)
  (turn:∀s m,J s m→∃c h',EB i (fi s) (hi s) t c h'∧(c=an→SS i (fi s) h' (eZ::rest::k) Q)∧(c=ab→SS i (fi s) h' [body] (LQ i fi hi (λs'=>∃m',m'<m∧J s' m') (rest::k) Q))) (eh:autoParam (hi dJ=h) dI):
  SS i fr h ((.While t body eZ pos::rest)::k) Q:=
 fF ⟨λfr' s Q' hq=>R2 (λm fr h=>∃t,J t m∧(fi t).sub fr∧hi t=h) zz ⟨dJ,h0,sb.trans s,eh⟩ λm bv ag q=>bH q λt a b c=>by
  subst c;refine bP (turn t m a) λc h' x y z=>?_;refine x.run bv b _ _ ?_
  cases c with
  |false=>exact iH.imp ((y rfl).run bv b) (λf ew aC q=>hq _ _ f q) λ_ _ _ q=>q
  |true=>exact iH.imp ((z rfl).run bv b) (λf ew aC q=>LQ.out (K:=λfr h=>∃k,k<m∧∃t,J t k∧(fi t).sub fr∧hi t=h) (λs fr h q c d=>aj q λm' a b=>⟨m',a,s,b,c,d⟩) (λf fr h q=>hq fr h f q) q) λ_ _ _ q=>q⟩
def TR(i:FI)(fr:SF)(h:SH)(t:Expr)(v:SV)(body:List bx)(Q:QS):Prop:=∃bv,AT i fr h t v bv h∧SS i bv h [body] Q
theorem l9{x:Str}{q:Pos}(ok:autoParam (i.l.contains x=ab) bl):AT i fr h (.Name x q) v (fr.put x v) h:=⟨λfr' s Q X hq=>oE i.V (hq _ (s.put _ _)) ok⟩
theorem at2{x y:Str}{q q' zp:Pos}{n:Nat}(ok:autoParam ((i.l.contains x && i.l.contains y)=ab) bl):AT i fr h (.Tuple [.Name x q,.Name y q'] n zp) (.tup [v,w]) ((fr.put x v).put y w) h:=by
 rw[bO] at ok;exact⟨λfr' s Q X hq=>Ho i.q (λ_=>rfl) rfl (oE i.V (oE i.V (hq _ ((s.put _ _).put _ _)) ok.2) ok.1)⟩
theorem dX{x:Str}{q:Pos}{body:List bx}(b:SS i (fr.put x v) h [body] Q)(ok:autoParam (i.l.contains x=ab) bl):TR i fr h (.Name x q) v body Q:=⟨_,l9 ok,b⟩
theorem Es{x y:Str}{q q' zp:Pos}{n:Nat}{body:List bx}(b:SS i ((fr.put x v).put y w) h [body] Q)(ok:autoParam ((i.l.contains x && i.l.contains y)=ab) bl):TR i fr h (.Tuple [.Name x q,.Name y q'] n zp) (.tup [v,w]) body Q:=⟨_,at2 ok,b⟩
def rZ(e:Expr):Prop:=∀(ae:Env) (x:Value),w0 e ae x=pure x
theorem YI{j m n:Nat}(y:j+m=n)(hj:j<n):m-1<m∧j+1+(m-1)=n:=have h:0<m:=oh λz=>du hj (z▸y:j+0=n);⟨sn h pf,(af3 ..).trans ((ay (j+·) ((sp ..).trans (qT h))).trans y)⟩
theorem AC{σ:Type}(fi:σ→SF)(hi:σ→SH)(J:σ→Nat→Nat→Prop)(dJ:σ)(zz:Nat){t iter:Expr}{body eZ:List bx}{pos:Pos}{kk:dm}(a:EI i fr h iter kk ag)(h0:J dJ 0 zz)(sb:(fi dJ).sub fr)
  (turn:∀s j m,J s j m→∃o,jk kk j (hi s)=aa o∧(o=af→SS i (fi s) (hi s) (eZ::rest::k) Q)∧∀v,o=aa v→TR i (fi s) (hi s) t v body (LQ i fi hi (λs'=>∃m',m'<m∧J s' (j+1) m') (rest::k) Q))
  (ok:autoParam (rZ iter) i8) (qi:mQ kk t:=by first|exact .tup|exact .name rfl) (eh:autoParam (hi dJ=ag) dI):SS i fr h ((.For t iter body eZ pos::rest)::k) Q:=by
 exact fF ⟨λfr' s Q' hq=>Yd i.q ok (a.run fr' s _ _ ⟨qi,λm j fr h=>∃t,J t j m∧(fi t).sub fr∧hi t=h,⟨zz,dJ,h0,sb.trans s,eh⟩,λm j bv ag q=>bH q λt a b c=>by
  subst c;refine bH (turn t j m a) λo e y z=>?_;rw[e]
  cases o with
  |none=>exact iH.imp ((y rfl).run bv b) (λf ew aC q=>hq _ _ f q) λ_ _ _ q=>q
  |some v=>
   refine aj (z v rfl) λew x z=>?_;exact x.run bv b _ _ λjU ej=>iH.imp (z.run jU ej) (λf ew aC q=>LQ.out (K:=λfr h=>∃k,k<m∧∃t,J t (j+1) k∧(fi t).sub fr∧hi t=h) (λs fr h q c d=>aj q λm' a b=>⟨m',a,s,b,c,d⟩) (λf fr h q=>hq fr h f q) q) λ_ _ _ q=>q⟩)⟩
theorem eo{σ:Type}(fi:σ→SF)(hi:σ→SH)(J:σ→Nat→Prop)(dJ:σ)(items:List SV){t iter:Expr}{body eZ:List bx}{pos:Pos}{kk:dm}(a:EI i fr h iter kk ag)(h0:J dJ 0)(sb:(fi dJ).sub fr)(hit:∀s j,J s j→jk kk j (hi s)=aa items[j]?)
  (turn:∀s j v,J s j→items[j]? =aa v→TR i (fi s) (hi s) t v body (LQ i fi hi (λs'=>J s' (j+1)) (rest::k) Q))
  (fin:∀s,J s items.length→SS i (fi s) (hi s) (eZ::rest::k) Q)
  (ok:autoParam (rZ iter) i8) (qi:mQ kk t:=by first|exact .tup|exact .name rfl) (eh:autoParam (hi dJ=ag) dI):SS i fr h ((.For t iter body eZ pos::rest)::k) Q:=by
 refine AC fi hi (λs j m=>J s j∧j+m=items.length) dJ items.length a ⟨h0,mZ _⟩ sb (λs j m q=>⟨_,hit s j q.1,λe=>fin s ((qQ (q.2▸b6 _ _) (km.mp e):j=items.length)▸q.1),λv e=>aj (turn s j v q.1 e) λbv b c=>⟨bv,b,⟨λfr' s=>?_⟩⟩⟩) ok qi eh;have f:=YI q.2 (cV.mp e).1;refine iH.imp (c.run fr' s) (λf' ew aC q=>aj q λey bz q=>⟨ey,bz,?_⟩) λ_ _ _ q=>q
 cases f' with
 |next=>exact aj q λs a b=>⟨s,⟨m-1,f.1,a,f.2⟩,b⟩
 |cont=>exact aj q λs a b=>⟨s,⟨m-1,f.1,a,f.2⟩,b⟩
 |brk=>exact q
 |ret v=>exact q
theorem ei{kk:dm}(a:EV i fr h e v ag)(b:rM ag v kk):EI i fr h e kk ag:=⟨λfr' s Q X hq=>Wl (a.run fr' s _ _ (aU kk b hq))⟩
theorem d8{n:Nm}{vs:List SV}(a:EV i fr h e (.ref n) ag)(hn:ag n=aa (.list vs)):EI i fr h e (.list n) ag:=ei a (.lst hn)
theorem Na{vs:List SV}(a:EV i fr h e (.tup vs) ag):EI i fr h e (.tup vs) ag:=ei a .tup
theorem vb{n:Nm}{es:List (SV×SV)}(a:EV i fr h e (.ref n) ag)(hn:ag n=aa (.dict es))(ok:oV es=ab):EI i fr h e (.keys n es.length) ag:=ei a (.dct hn ok)
theorem uu{n:Nat}(a:EV i fr h e (.range 0 n) ag)(hn:n<2^40):EI i fr h e (.range 0 n) ag:=ei a (.rng hn)
theorem O5{x:Expr}{q pos:Pos}{kk:dm}(hg:jm i.G "enumerate" (.ty "enumerate"))(a:EV i fr h x v ag)(b:C4 i.G ag [v] kk)(ok:autoParam ((i.gs.contains "enumerate" && iQ x)=ab) bl):EI i fr h (.Call (.Name "enumerate" q) [x] [] pos) kk ag:=by
 rw[bO] at ok;exact⟨λfr' s Q X hq=>ZP (K3 _ _ _ _) (xI (by rw[DH,ok.2];rfl) _) ((g_ (h:=h) hg ok.1).run fr' s _ _ ⟨rfl,tf (a.run fr' s _ _ (tz (aU kk b hq))) ok.2⟩)⟩
theorem d6{n:Nm}{vs:List SV}{j:Nat}(hn:h n=aa (.list vs)):jk (.list n) j h=aa vs[j]? :=ay (yc · λvs=>vs[j]?) hn
theorem wd{n:Nm}{es:List (SV×SV)}{j:Nat}(hn:h n=aa (.dict es))(ok:oV es=ab):jk (.keys n es.length) j h=aa ((es.map (·.1))[j]?):=(ay (Gd · λes'=>if es'.length=es.length∧oV es'=ab then aa (es'[j]?.map (@m6 SV SV)) else af) hn).trans ((aP ⟨rfl,ok⟩).trans (ay aa dv.symm))
noncomputable def bC(a:au):FD:=⟨cg a,iV (cg a),ab⟩
noncomputable def FI.fn(i:FI)(b:Nat)(a:au)(l gs:List Str)(V:cq (bC a) l=ab)(W:cZ (bC a) gs=ab):FI:=⟨i.G,b,i.K,bC a,l,gs,V,W,rfl⟩
theorem enter{a:au}{n b:Nat}{ps l gs:List Str}{eB vs:List SV}{P:QV}(H:d0 i.G a n ps eB (ba a) (cg a))(V:cq (bC a) l=ab)(W:cZ (bC a) gs=ab)(hb:i.b=b+1)(hk:vs.length=n)
  (w:SS (i.fn b a l gs V W) (ps.zip (vs++eB)) h [ba a] (λf _ h'=>P f.val h')):FP i h (.glob a) vs P:=⟨λF fr' hF Q' hq=>by
 rw[hb];refine ad4 H hk ?_;rw[hF];exact iH.imp (w.run _ .rfl) (λf bv ag q=>by refine aj q λey s q=>?_;exact hq _ _ q) λ_ _ _ q=>q⟩
noncomputable def FI.dn(i:FI)(b:Nat):FI:={i with b:=b}
theorem cls{C fI:au}{n:Nm}{b:Nat}{vs:List SV}{P:QV}(ok:FO.contains (C,fI)=ab)(hb:i.b=b+1)(hn:h n=af)(w:FP (i.dn b) (h.set n (.inst C [])) (.glob fI) (.ref n::vs) (λv h'=>v=.none∧P (.ref n) h')):FP i h (.glob C) vs P:=⟨λF fr' hF Q' hq=>by
 rw[hb];exact Eb (rV i.K.c.Zd ok) λh1 h2 h3=>call_cls (fI:=fI) h1 h2 h3 hn (w.run F fr' hF _ λv h q=>⟨q.1,hq _ _ q.2⟩)⟩
theorem iU{n:Nm}{C f:au}{fs:SF}{name:Str}(hn:h n=aa (.inst C fs))(ok:Fu.contains (C,name,f)=ab)(hl:autoParam (fs.lookup name=af) dI):MV i h (.ref n) name (.glob f):=⟨λfr'=>Eb (rV i.K.c.Ub ok) λh1 h2 h3=>Ψ hn h1 h2 h3 hl⟩
theorem FR{n:Nm}{fs:SF}(hn:h n=aa (.inst 135 fs)):TV i h (.ref n) ab:=⟨λfr' Q X hq=>YS hn (gi i.K.c.K2).1 (gi i.K.c.K2).2 hq⟩
theorem Vb{n:Nm}{fs:SF}{b k:Nat}(hb:i.b=b+1)(hn:h n=aa (.inst 100 fs))(hk:k<2^62)(w:FP (i.dn b) h (.glob 83) [.ref n] (is (.int k) h)):CP i h (.bi "len") [.ref n] (is (.int k) h):=⟨λfr' Q' X hq=>by
 rw[hb];exact SK hn (gi i.K.c.plen).1 (gi i.K.c.plen).2 (w.run i.F fr' i.q _ λv h' q=>xA q λe e'=>e▸e'▸⟨k,rfl,hk,hq _ _ ⟨rfl,rfl⟩⟩)⟩
theorem KL{n m:Nm}{vs:List SV}{p pos:Pos}(a:EV i fr h e (.ref n) ag)(hn:ag n=aa (.list vs))(hz:vs.length≤cR)(hm:ag m=af):EV i fr h (.Subscript e (.Slice af af af p) pos) (.ref m) (ag.set m (.list vs)):=
 ⟨λfr' s Q X hq=>zn (a.run fr' s _ _ (x0 (x0 (.inr (nQ vs (.own hn) hz m hm (by rw[TQ _];exact hq))))))⟩
theorem RX{n m:Nm}{vs:List SV}{lo:Expr}{j:Int}{p pos:Pos}(a:EV i fr h e (.ref n) ag)(b:EV i fr ag lo (.int j) aC)(hn:aC n=aa (.list vs))(hz:vs.length≤cR)(hm:aC m=af):EV i fr h (.Subscript e (.Slice (aa lo) af af p) pos) (.ref m) (aC.set m (.list (fh vs (aa j) af))):=
 ⟨λfr' s Q X hq=>zn (a.run fr' s _ _ (zi (b.run fr' s _ _ (aU j rfl (x0 (.inr (nQ vs (.own hn) hz m hm hq)))))))⟩
theorem act{vs:List SV}{lo:Expr}{j:Int}{p pos:Pos}(a:EV i fr h e (.tup vs) ag)(b:EV i fr ag lo (.int j) aC)(hz:vs.length≤cR):EV i fr h (.Subscript e (.Slice (aa lo) af af p) pos) (.tup (fh vs (aa j) af)) aC:=
 ⟨λfr' s Q X hq=>zn (a.run fr' s _ _ (zi (b.run fr' s _ _ (aU j rfl (x0 (.inl (cL vs rfl hz hq)))))))⟩
theorem aaj{vs:List SV}{lo hi:Expr}{j k:Int}{p pos:Pos}(a:EV i fr h e (.tup vs) ag)(b:EV i fr ag lo (.int j) aC)(c:EV i fr aC hi (.int k) cK)(hz:vs.length≤cR):EV i fr h (.Subscript e (.Slice (aa lo) (aa hi) af p) pos) (.tup (fh vs (aa j) (aa k))) cK:=
 ⟨λfr' s Q X hq=>zn (a.run fr' s _ _ (zi (b.run fr' s _ _ (aU j rfl (zi (c.run fr' s _ _ (aU k rfl (.inl (cL vs rfl hz hq)))))))))⟩
theorem MX{n m:Nm}{vs:List SV}{hi:Expr}{j:Int}{p pos:Pos}(hl:de i.G aC u vs)(a:EV i fr h e u ag)(b:EV i fr ag hi (.int j) aC)(hz:vs.length≤cR)(hm:aC m=af):EV i fr h (.Subscript e (.Slice af (aa hi) af p) pos) (.ref m) (aC.set m (.list (fh vs af (aa j)))):=
 ⟨λfr' s Q X hq=>zn (a.run fr' s _ _ (x0 (zi (b.run fr' s _ _ (aU j rfl (.inr (nQ vs hl hz m hm hq)))))))⟩
noncomputable def FI.comp(i:FI)(sc:cb)(l gs:List Str)(V:cq (da sc i.F) l=ab)(W:cZ (da sc i.F) gs=ab):FI:=⟨i.G,i.b,i.K,da sc i.F,l,gs,V,W,i.q⟩
theorem Ro{sc:cb}{fr:SF}{y:Str}{v:SV}(h1:sc.names.lookup y=aa .free)(h2:fr.lookup y=aa v):(gX sc fr).lookup y=aa v:=by
 induction fr with
 |nil=>exact a7 h2
 |cons p r ih=>
  rw[show gX sc (p::r)=if(sc.names.lookup p.1==aa .free)=ab then p::gX sc r else gX sc r from HX];exact if e:y=p.1 then n9 (P:=λl:SF=>l.lookup y=aa v) (eX.mpr ((ay (sc.names.lookup ·) e).symm.trans h1)) ((i_ e).trans ((i_ e).symm.trans h2))
   else have q:=ih ((gT e).symm.trans h2);AB (P:=λl:SF=>l.lookup y=aa v) (λ_=>(gT e).trans q) λ_=>q
theorem NB{sc:cb}{fr fr':SF}(s:fr.sub fr'):(gX sc fr).sub (gX sc fr'):=λy v h=>have q:=Go h;Ro q.1 (s y v q.2)
def afq(i:FI)(fr:SF)(h:SH)(ifs:List Expr)(t:Bool)(h':SH):Prop:=
 ∀fr',fr.sub fr'→∀Q:Bool→SH→Prop,Q t h'→Hx i.G i.F i.b fr' h ifs Q
abbrev AY(i:FI)(fr:SF)(h:SH)(ifs:List Expr)(t:Bool)(h':SH):Prop:=Bx (afq i fr h ifs t h')
theorem NP:AY i fr h [] ab h:=⟨λ_ _ Q q=>q⟩
theorem B6{t:Bool}(a:EB i fr h e t h'):AY i fr h [e] t h':=⟨λfr' s Q q=>a.run fr' s _ _ q⟩
def EF(i:FI)(fr:SF)(h:SH)(ifs:List Expr)(t:Bool):Prop:=AY i fr h ifs t h
theorem xN:EF i fr h [] ab:=NP
theorem Ee{t:Bool}(a:EB i fr h e t h):EF i fr h [e] t:=B6 a
def CLb(i:FI)(fr:SF)(h:SH)(elt:Expr)(gens:List dC)(sc:cb)(pos:Pos)(acc:Nm)(d:Nat)(kk:dm)(Q:SH→Prop):Prop:=
 ∀fr',fr.sub fr'→∀Q':QF,(∀bv h,fr.sub bv→Q h→Q' bv h)→C9 i.G i.F i.b fr' h elt gens sc pos acc d kk 0 Q'
abbrev CL(i:FI)(fr:SF)(h:SH)(elt:Expr)(gens:List dC)(sc:cb)(pos:Pos)(acc:Nm)(d:Nat)(kk:dm)(Q:SH→Prop):Prop:=Bx (CLb i fr h elt gens sc pos acc d kk Q)
def CBb(i:FI)(fr:SF)(h:SH)(elt:Expr)(gens:List dC)(sc:cb)(pos:Pos)(acc:Nm)(d:Nat)(Q:SH→Prop):Prop:=
 ∀fr',fr.sub fr'→∀Q':QF,(∀bv h,fr.sub bv→Q h→Q' bv h)→y9 i.G i.F i.b fr' h elt gens sc pos acc d Q'
abbrev CB(i:FI)(fr:SF)(h:SH)(elt:Expr)(gens:List dC)(sc:cb)(pos:Pos)(acc:Nm)(d:Nat)(Q:SH→Prop):Prop:=Bx (CBb i fr h elt gens sc pos acc d Q)
theorem yx{elt:Expr}{g:dC}{gs:List dC}{sc:cb}{pos:Pos}{kk:dm}{acc:Nm}{l ls:List Str}{P:SH→Prop}(V:cq (da sc i.F) l=ab)(W:cZ (da sc i.F) ls=ab)(ok:(qo sc i.F && lM (g::gs))=ab)(a:EI i fr h g.iter kk ag)(ha:ag acc=af)
  (b:CL (i.comp sc l ls V W) (gX sc fr) (ag.set acc (.list [])) elt (g::gs) sc pos acc 0 kk P) (on:autoParam (rZ g.iter) i8):EP i fr h (.ListComp elt (g::gs) sc pos) (λv h'=>v=.ref acc∧P h'):=
 have q:=(bO _ _).mp ok
 ⟨λfr' s Q X hq=>MS q.2 q.1 on (a.run fr' s _ _ (aU acc ha (b.run _ (NB s) _ λbv aC _ p=>hq _ _ ⟨rfl,p⟩)))⟩
theorem wz{x:Str}{q gE:Pos}{elt:Expr}{g:dC}{gs:List dC}{sc:cb}{pos:Pos}{kk:dm}{acc:Nm}{l ls:List Str}{P:SH→Prop}(V:cq (da sc i.F) l=ab)(W:cZ (da sc i.F) ls=ab)(ok:(qo sc i.F && lM (g::gs))=ab)(a:EI i fr h g.iter kk ag)(ha:ag acc=af)
  (b:CL (i.comp sc l ls V W) (gX sc fr) (ag.set acc (.list [])) elt (g::gs) sc pos acc 0 kk P) (c:∀aC,P aC→SS i (fr.put x (.ref acc)) aC (rest::k) Q) (Ue:autoParam (i.l.contains x=ab) bl) (on:autoParam (rZ g.iter) i8):SS i fr h ((.Assign [.Name x q] (.ListComp elt (g::gs) sc pos) gE::rest)::k) Q:=
 have q:=(bO _ _).mp ok
 fF ⟨λfr' s Q' hq=>Ss q.2 q.1 on (cq.v i.V Ue).2.1 (a.run fr' s _ _ (aU acc ha (b.run _ (NB s) _ λbv aC _ p=>hq _ _ .next ((c aC p).run _ (s.put _ _)))))⟩
theorem qe{elt:Expr}{gens:List dC}{sc:cb}{pos:Pos}{acc:Nm}{d:Nat}{P:QV}{P':SH→Prop}(a:EP i fr h elt P)(b:∀v ag,P v ag→∃vs,ag acc=aa (.list vs)∧vs.length≤cR∧P' (ag.set acc (.list (vs++[v]))))(hd:autoParam (gens[d+1]? =af) dI):CB i fr h elt gens sc pos acc d P':=
 ⟨λfr' s Q hq=>Zm hd (a.run fr' s _ _ λv ag p=>by refine bH (b v ag p) λvs x y z=>?_;exact(cL vs x y (hq _ _ s z)))⟩
theorem JH{elt:Expr}{g:dC}{gens:List dC}{sc:cb}{pos:Pos}{acc:Nm}{d:Nat}{P':SH→Prop}{kk:dm}(a:EI i fr h g.iter kk ag)(b:CL i fr ag elt gens sc pos acc (d+1) kk P')(hd:autoParam (gens[d+1]? =aa g) dI)(ok:autoParam (lM gens=ab) bl)(on:autoParam (rZ g.iter) i8):CB i fr h elt gens sc pos acc d P':=
 ⟨λfr' s Q hq=>Yj hd ok on (a.run fr' s _ _ (b.run fr' s _ hq))⟩
theorem Am{σ:Type}{elt:Expr}{g:dC}{gens:List dC}{sc:cb}{pos:Pos}{acc:Nm}{d:Nat}{kk:dm}{P:SH→Prop}(hi:σ→SH)(J:σ→Nat→Prop)(dJ:σ)(n:Nat)(h0:J dJ 0)
  (turn:∀s j,J s j→∃o,jk kk j (hi s)=aa o∧(o=af→P (hi s))∧∀v,o=aa v→j<n∧∃bv t h',AT i fr (hi s) g.target v bv (hi s)∧fr.sub bv∧AY i bv (hi s) g.ifs t h'∧(t=an→∃s',J s' (j+1)∧hi s'=h')∧(t=ab→CB i bv h' elt gens sc pos acc d (λh'=>∃s',J s' (j+1)∧hi s'=h')))
  (hd:autoParam (gens[d]? =aa g) dI) (ok:autoParam (lM gens=ab) bl) (eh:autoParam (hi dJ=h) dI) (qi:mQ kk g.target:=by first|exact .tup|exact .name rfl):CL i fr h elt gens sc pos acc d kk P:=by
 refine⟨λfr' s Q hq=>RA hd ok i.q qi (λm j bv h=>m=n-j∧fr.sub bv∧∃t,J t j∧hi t=h) n ⟨rfl,s,dJ,h0,eh⟩ λm j bv ag q=>Zy q λzm aZ t a zh=>?_⟩;subst zm;subst zh;refine bH (turn t j a) λo e x y=>?_;rw[e]
 cases o with
 |none=>exact hq _ _ aZ (x rfl)
 |some v=>
  have z:=y v rfl;have lt:=ais z.1 (dq j);refine z.2.elim λew z=>z.elim λc z=>z.elim λh' z=>z.1.run bv aZ _ _ λjU ej=>z.2.2.1.run jU ej _ ?_
  cases c with
  |false=>exact⟨n- (j+1),lt,rfl,z.2.1.trans ej,z.2.2.2.1 rfl⟩
  |true=>exact(z.2.2.2.2 rfl).run jU ej _ λyL jZ nH q=>⟨n- (j+1),lt,rfl,z.2.1.trans nH,q⟩
theorem rF{σ:Type}{elt:Expr}{g:dC}{gens:List dC}{sc:cb}{pos:Pos}{acc:Nm}{d:Nat}{kk:dm}{P:SH→Prop}(hi:σ→SH)(J:σ→Nat→Prop)(dJ:σ)(n:Nat)(h0:J dJ 0)(hJ:∀s j,J s j→j≤n)
  (turn:∀s j,J s j→∃o,jk kk j (hi s)=aa o∧(o=af→P (hi s))∧∀v,o=aa v→j<n∧∃bv t,AT i fr (hi s) g.target v bv (hi s)∧fr.sub bv∧EF i bv (hi s) g.ifs t∧(t=an→∃s',J s' (j+1)∧hi s'=hi s)∧(t=ab→CB i bv (hi s) elt gens sc pos acc d (λh'=>∃s',J s' (j+1)∧hi s'=h')))
  (hd:autoParam (gens[d]? =aa g) dI) (ok:autoParam (lM gens=ab) bl) (eh:autoParam (hi dJ=h) dI) (qi:mQ kk g.target:=by first|exact .tup|exact .name rfl):CL i fr h elt gens sc pos acc d kk P:=
 Am hi J dJ n h0 (λs j a=>bH (turn s j a) λo e x y=>⟨o,e,x,λv w=>have z:=y v w;⟨z.1,z.2.elim λbv z=>z.elim λt z=>⟨bv,t,_,z⟩⟩⟩) hd ok eh qi
theorem gv{x:Str}{v:SV}(hx:fr.lookup x=af):fr.sub (fr.put x v):=λy u e=>(gj fr x v y).trans ((aK λz=>a7 (hx.symm.trans (z▸e))).trans e)
theorem EY{elt iter t:Expr}{sc:cb}{pos:Pos}{kk:dm}{acc:Nm}{vs us:List SV}(qi:mQ kk t)(hit:∀(ws:List SV) (j:Nat),jk kk j (ag.set acc (.list ws))=aa vs[j]?)(hl:us.length=vs.length)(hz:vs.length≤cR)
  (b:∀(ws:List SV) (j:Nat) (v u:SV),vs[j]? =aa v→us[j]? =aa u→∃bv,AT i fr (ag.set acc (.list ws)) t v bv (ag.set acc (.list ws))∧fr.sub bv∧EV i bv (ag.set acc (.list ws)) elt u (ag.set acc (.list ws))):
  CL i fr (ag.set acc (.list [])) elt [⟨t,iter,[],0⟩] sc pos acc 0 kk (λh'=>h'=ag.set acc (.list us)):=
 rF (λj=>ag.set acc (.list (us.take j))) (λs j=>s=j∧j≤vs.length) 0 vs.length ⟨rfl,b_ _⟩ (λ_ _ e=>e.2) (λs j e=>xA e λz hj=>by
  subst z;exact⟨_,hit _ _,λe=>ay (λl=>ag.set acc (.list l)) (na (ah (bF hl) (km.mp e))),λv e=>
   have hlt:=(cV.mp e).1;have hu:us[s]? =aa (us[s]'(hl.symm▸hlt)):=fb _
   bH (b _ s v _ e hu) λbv at' sb ev=>⟨hlt,bv,ab,at',sb,xN,λe=>iY e,λ_=>qe ev.ep λv' h' q=>q.1.symm▸q.2.symm▸⟨_,aS,ah (ah (bF jH) (pD _ _)) (ah (bF hl) hz),s+1,⟨rfl,hlt⟩,
    (ay (λl=>ag.set acc (.list l)) (jN.trans (ay (λo:Option SV=>us.take s++o.toList) hu))).trans iF.symm⟩⟩⟩) rfl rfl rfl qi
structure Z4(c o e:Bool):Prop where
 c:c=ab
 o:o=ab
 e:e=ab
theorem Gk{c o e:Bool}(ok:(c && o && e)=ab):Z4 c o e:=have q:=(bO _ _).mp ok;have p:=(bO _ _).mp q.1;⟨p.1,p.2,q.2⟩
theorem vc{c:Bool}(hc:c=ab):(c && ab)=ab:=(bO _ _).mpr ⟨hc,rfl⟩
theorem BD{elt iter:Expr}{x:Str}{q:Pos}{sc:cb}{pos:Pos}{kk:dm}{acc:Nm}{l ls:List Str}{vs us:List SV}(V:cq (da sc i.F) l=ab)(W:cZ (da sc i.F) ls=ab)(ok:(qo sc i.F && l.contains x && !Hw kk)=ab)(a:EI i fr h iter kk ag)(ha:ag acc=af)
  (hit:∀(ws:List SV) (j:Nat),jk kk j (ag.set acc (.list ws))=aa vs[j]?) (hl:us.length=vs.length) (hz:vs.length≤cR) (hx:(gX sc fr).lookup x=af)
  (b:∀(ws:List SV) (j:Nat) (v u:SV),vs[j]? =aa v→us[j]? =aa u→EV (i.comp sc l ls V W) ((gX sc fr).put x v) (ag.set acc (.list ws)) elt u (ag.set acc (.list ws))) (on:autoParam (rZ iter) i8):EV i fr h (.ListComp elt [⟨.Name x q,iter,[],0⟩] sc pos) (.ref acc) (ag.set acc (.list us)):=
 have o:=Gk ok
 EP.ev (yx V W (vc o.c) a ha (EY (.name ((jL _).mp o.e)) hit hl hz λws j v u e hu=>⟨_,l9 o.o,gv hx,b ws j v u e hu⟩) on)
theorem AN{vs:List SV}(hl:de i.G h u vs)(hz:vs.length≤cR):CP i h (.ty "tuple") [u] (is (.tup vs) h):=⟨λfr' Q X hq=>Va hl hz (hq _ _ ⟨rfl,rfl⟩)⟩
abbrev bm:=List (Str×List Str)
abbrev aF:=Nat×Nat
noncomputable def aG(R:bm)(i:Nat):List Str:=(R[i]?.map (·.2)).getD []
noncomputable def bE(R:bm)(i:Nat):Str:=(R[i]?.map (·.1)).getD ""
noncomputable def dO(R:bm)(q:aF):List Nat:=match (aG R q.1)[q.2]? with
 |none=>[]
 |some s=>(bo R.length).filter λj=>decide (j≠0) && decide (bE R j=s)
noncomputable def kW(J:List aF)(ad:List Nat):List Nat→List aF×List Nat
 |[]=>(J,ad)
 |x::xs=>if x∈ad then kW J ad xs else kW (J++[(x,0)]) (ad++[x]) xs
inductive eV(R:bm):Nat→List aF→List Nat→List aF→List Nat→Prop
 |done {k:Nat} {J:List aF} {ad:List Nat} (h:J.length≤k):eV R k J ad J ad
 |step {k:Nat} {J J':List aF} {ad bT:List Nat} {q:aF} (h:J[k]? =aa q) (w:eV R (k+1) (kW J ad (dO R q)).1 (kW J ad (dO R q)).2 J' bT):eV R k J ad J' bT
theorem eV.det{R:bm}{k:Nat}{J I3 K9:List aF}{ad NI Ad:List Nat}(h:eV R k J ad I3 NI):eV R k J ad K9 Ad→I3=K9∧NI=Ad:=by
 induction h with
 |done h=>
  intro g
  cases g with
  |done=>exact⟨rfl,rfl⟩
  |step e _=>rw[md h] at e;exact a7 e
 |step e _ ih=>
  intro g
  cases g with
  |done h=>rw[md h] at e;exact a7 e
  |step e' w=>rw[e] at e';obtain rfl:=aY e';exact ih w
theorem AE:∀(l:List Nat) (J:List aF) (ad:List Nat),∃x,kW J ad l=(J++x.map (·,0),ad++x)∧(ad.Nodup→(ad++x).Nodup)∧(∀y∈x,y∈l)∧(∀y∈l,y∈ad++x)
 |[],J,ad=>(ik ([]) (by rw[DN,gP,gP];rfl) (by rw[gP];exact id) (λ_ h=>cS h) (λ_ h=>cS h))
 |y::l,J,ad=>by
  show ∃x,(if y∈ad then kW J ad l else kW (J++[(y,0)]) (ad++[y]) l)=_∧_
  by_cases h:y∈ad
  ·rw[aP h]
   refine gU (AE l J ad) λx e h1 h2 h3=>?_;exact(ik x e h1 (λz hz=>eT _ (h2 z hz)) (λz hz=>by
    rcases dE.mp hz with rfl|hz
    ·exact i7 _ h
    ·exact h3 z hz))
  ·rw[aK h]
   refine gU (AE l (J++[(y,0)]) (ad++[y])) λx e h1 h2 h3=>?_;refine(ik (y::x) (by rw[e];simp) (λhn=>?_) (λz hz=>?_) (λz hz=>?_))
   ·have:=h1 (by rw[propext lq];exact(cF hn (by simp) (λa ha b hb=>by simp at hb;subst hb;exact λe=>h (e▸ha))))
    simpa using this
   ·rcases dE.mp hz with rfl|hz
    ·exact dA
    ·exact eT _ (h2 z hz)
   ·rcases dE.mp hz with rfl|hz
    ·simp
    ·have:=h3 z hz;simpa using this
theorem Wf{l:List Nat}{J:List aF}{ad:List Nat}(h:∀y∈l,y∈ad):kW J ad l=(J,ad):=by
 induction l with
 |nil=>rfl
 |cons y l ih=>show(if y∈ad then _ else _)=_;rw[aP (h y dA)];exact ih λz hz=>h z (eT _ hz)
structure V5(R:bm)(J:List aF)(ad:List Nat)(J':List aF)(bT:List Nat):Prop where
 ext:∃x,J'=J++x.map (·,0)∧bT=ad++x
 nd:ad.Nodup→bT.Nodup
 src:∀y∈bT,y∈ad∨∃q∈J',y∈dO R q
theorem eV.prop{R:bm}{k:Nat}{J J':List aF}{ad bT:List Nat}(h:eV R k J ad J' bT):V5 R J ad J' bT∧∀i q,k≤i→J'[i]? =aa q→∀y∈dO R q,y∈bT:=by
 induction h with
 |done h=>exact⟨⟨(aU ([]) (by simp) (by simp)),id,λy hy=>.inl hy⟩,λi q hi e=>by rw[md (ah ‹_› ‹_›)] at e;exact a7 e⟩
 |@step k J J' ad bT q e w ih=>
  refine gU (AE (dO R q) J ad) λx ex h1 h2 h3=>?_;rw[ex] at ih;obtain⟨⟨⟨z,e1,e2⟩,hn,hs⟩,hc⟩:=ih;have hk:J'[k]? =aa q:=by
   have hlt:=(cV.mp e).1;dsimp only at e1;rw[e1,wR _ _ _,Di hlt];exact e
  refine⟨⟨(aU (x++z) (by simpa using e1) (by simpa using e2)),λhd=>hn (h1 hd),λy hy=>?_⟩,λi q' hi fR y hy=>?_⟩
  ·rcases hs y hy with hy'|hy'
   ·rcases dw.mp hy' with h'|h'
    ·exact .inl h'
    ·exact .inr (aU q (bN hk) (h2 y h'))
   ·exact .inr hy'
  ·rcases wP hi with rfl|hlt
   ·rw[hk] at fR;obtain rfl:=aY fR
    rw[e2];exact i7 _ (h3 y hy)
   ·exact hc i q' hlt fR y hy
theorem eV.same{R:bm}:∀{k:Nat} {J:List aF} {ad:List Nat},(∀i q,k≤i→J[i]? =aa q→∀y∈dO R q,y∈ad)→eV R k J ad J ad:=by
 intro k J ad;generalize hn:J.length-k=n
 induction n generalizing k with
 |zero=>exact λ_=>.done (Nat.le_of_sub_eq_zero hn)
 |succ n ih=>
  intro h;have hlt:k<J.length:=Nat.lt_of_sub_eq_succ hn;refine .step (fb hlt) ?_;rw[Wf (h k _ (ar _) (fb hlt))];exact ih (by rw[Nat.sub_add_eq _ _ _,hn];rfl) λi q hi=>h i q (cj ‹_›)
noncomputable def gN(k:Nat):Nm:=.mk 99 [k]
noncomputable def zw(N:Nat):Nm→Bool
 |.mk t l=>t==99 && l.head?==aa N
noncomputable def SH.bX(h:SH)(N:Nat)(g:SH):SH:=λx=>if zw N x=ab then g x else h x
def bp(h:SH)(N:Nat):Prop:=∀k l,N≤k→h (.mk 99 (k::l))=af
theorem bp.at{h:SH}{N:Nat}(B:bp h N){l:List Nat}:h (.mk 99 (N::l))=af:=B N l (ar _)
theorem bp.same{h h':SH}{N:Nat}(B:bp h N)(e:∀k l,N≤k→h' (.mk 99 (k::l))=h (.mk 99 (k::l))):bp h' N:=λk l hk=>(e k l hk).trans (B k l hk)
theorem mW{M N:Nat}{l l':List Nat}(h:Nm.mk 99 (M::l)=.mk 99 (N::l')):M=N:=by injection h with _ h;injection h
theorem bp.new{h:SH}{N:Nat}(B:bp h N)(l:List Nat)(o:cy):bp (h.set (.mk 99 (N::l)) o) (N+1):=λk l' hk=>by
 rw[aq (λe=>mi hk (bF (mW e)))];exact B k l' (cj ‹_›)
theorem ym{N:Nat}{x:Nm}:zw N x=ab↔∃l,x=.mk 99 (N::l):=by
 obtain⟨t,l⟩:=x
 cases l with
 |nil=>simp[zw]
 |cons a l=>simp[zw]
theorem LX{h g:SH}{N M:Nat}{l:List Nat}(e:M≠N):(h.bX N g) (.mk 99 (M::l))=h (.mk 99 (M::l)):=aK λq=>by obtain⟨l',q⟩:=ym.mp q;exact e (mW q)
theorem bp.bX{h g:SH}{N:Nat}(B:bp h N):bp (h.bX N g) (N+1):=λk l hk=>(LX (dG ‹_›)).trans (B k l (cj ‹_›))
theorem Lj{h:SH}{N:Nat}:h.bX N h=h:=funext λx=>ite_self _
theorem VY{h g:SH}{N:Nat}{l:List Nat}{o:cy}:(h.bX N g).set (.mk 99 (N::l)) o=h.bX N (g.set (.mk 99 (N::l)) o):=funext λx=>by
 unfold SH.set SH.bX
 by_cases e:x=.mk 99 (N::l)
 ·rw[aP e,aP (ym.mpr ⟨l,e⟩)];exact(aP e).symm
 ·rw[aK e];exact ay (λz=>if zw N x=ab then z else h x) (aK e).symm
theorem Rf{h:SH}{N:Nat}{l:List Nat}{o:cy}:h.set (.mk 99 (N::l)) o=h.bX N (h.set (.mk 99 (N::l)) o):=by rw[←VY,Lj]
noncomputable def bh(q:aF):Nm:=.mk 20 [q.1,q.2]
noncomputable def bf(j:Nat):Nm:=.mk 10 [j]
noncomputable def dg:Nm:=.mk 30 []
noncomputable def a9(q:aF):SV:=.ref (bh q)
noncomputable def bA(j:Nat):SV:=.ref (bf j)
noncomputable def sym(s:Str):Nat:=(["S","A","B","a","b","error","$end","<empty>","c"]:List Str).idxOf s
noncomputable def qE(s:Str):Bool:=(["S","A","B"]:List Str).contains s
noncomputable def wi(R:bm)(q:aF):List Nat:=match (aG R q.1)[q.2]? with
 |some s=>if qE s then [sym s] else [q.1,q.2]
 |none=>[q.1,q.2]
noncomputable def gM(R:bm)(q:aF):Nm:=.mk 40 (wi R q)
noncomputable def iN(R:bm)(q:aF):List Str:=(aG R q.1).take q.2++d5 "."::(aG R q.1).drop q.2
noncomputable def wB(R:bm)(q:aF):Str:=if q.2=0 then(iN R q).getLastD "" else((aG R q.1)[q.2-1]?).getD ""
noncomputable def qU(R:bm)(q:aF):SV:=if q.2< (aG R q.1).length then a9 (q.1,q.2+1) else .none
noncomputable def dV(R:bm)(q:aF):SF:=[("name",.str (bE R q.1)),("prod",.tup ((iN R q).map .str)),("number",.int q.1),("lr_index",.int q.2),("lookaheads",.ref (.mk 60 [q.1,q.2])),("len",.int ((aG R q.1).length+1:Nat)),("usyms",.ref (.mk 42 [q.1])),
 ("lr_after",.ref (gM R q)),("lr_before",.str (wB R q)),("lr_next",qU R q)]
def cY(R:bm)(q:aF):Prop:=q.1<R.length∧q.2≤(aG R q.1).length
noncomputable def qq(R:bm)(j:Nat):List Str:=(aG R j).foldl (λu s=>if s∈u then u else u++[s]) []
def vP(R:bm)(h:SH):Prop:=∀q,cY R q→h (bh q)=aa (.inst 135 (dV R q))∧h (gM R q)=aa (.list ((dO R q).map bA))∧h (.mk 42 [q.1])=aa (.list ((qq R q.1).map .str))
noncomputable def wD:SV:=.tup [.str "right",.int 0]
noncomputable def VQ(R:bm)(j:Nat):Str:=if aG R j=[] then bE R j++d5 " -> <empty>" else bE R j++d5 " -> "++z8 (d5 " ") (aG R j)
noncomputable def fX(R:bm)(j:Nat):SF:=[("name",.str (bE R j)),("prod",.tup ((aG R j).map .str)),("number",.int j),("func",.none),("callable",.none),("file",.str ""),("line",.int 0),("prec",wD),("len",.int (aG R j).length),("usyms",.ref (.mk 42 [j])),
 ("lr_items",.ref (.mk 43 [j])),("lr_next",a9 (j,0)),("str",.str (VQ R j))]
structure gV(c:Int)(x:SF):Prop where
 len:x.length≤(if(x.lookup ("lr0_added":Str)).isSome then 1 else 0)+(if(x.lookup ("reduced":Str)).isSome then 1 else 0)
 add:x.lookup ("lr0_added":Str)=af∨∃k,k≤c∧x.lookup ("lr0_added":Str)=aa (.int k)
 red:x.lookup ("reduced":Str)=af∨∃k,x.lookup ("reduced":Str)=aa (.int k)
def X3(R:bm)(c:Int)(h:SH):Prop:=∀j,j<R.length→∃x,h (bf j)=aa (.inst 100 (fX R j++x))∧gV c x
noncomputable def aX:Nm:=.mk 34 []
noncomputable def nK(c:Int):SF:=[("grammar",.ref aX),("lr_method",.str "SLR"),("lr_action",.ref (.mk 51 [])),("lr_goto",.ref (.mk 52 [])),("lr_productions",.ref (.mk 35 [])),("lr_goto_cache",.ref (.mk 32 [])),("lr0_cidhash",.ref (.mk 33 [])),("_add_count",.int c),("sr_conflict",.int 0),("rr_conflict",.int 0),
 ("conflicts",.ref (.mk 53 [])),("sr_conflicts",.ref (.mk 54 [])),("rr_conflicts",.ref (.mk 55 []))]
structure hH(R:bm)(c:Int)(N:Nat)(h:SH):Prop where
 free:bp h N
 it:vP R h
 pr:X3 R c h
 tb:h dg=aa (.inst 427 (nK c))
 hc:0≤c
 hR:R.length≤20
 hr:∀j,(aG R j).length≤10
theorem IZ{α:Type}{f:α→Nat}{k:Nat}:∀{l:List α},(∀y∈l,f y≤k)→(l.map f).sum≤l.length*k
 |[],_=>b_ _
 |a::r,h=>by
  have:=IZ (l:=r) λy hy=>h y (eT _ hy);have:=h a dA;rw[sI,List.sum_cons,iE,QP _ _,sp _ _];exact fp ‹_› ‹_›
theorem GA(x:Str)(v:SV):∀fs:SF,(fs.put x v).length=fs.length+if(fs.lookup x).isSome then 0 else 1
 |[]=>rfl
 |(y,u)::r=>by
  show(if x=y then(y,v)::r else(y,u)::SF.put r x v:SF).length=_;rw[k_]
  by_cases e:x=y
  ·subst e
   rw[aP rfl,qF _];rfl
  ·rw[aK e,k9.mpr e,iE,iE,GA x v r,uA _ _ _]
theorem gV.small{c:Int}{x:SF}(L:gV c x):x.length≤2:=ah L.len (by split<;>split<;>exact aJ)
theorem gV.le{c:Int}{x:SF}(L:gV c x){R:bm}{j:Nat}:(fX R j++x).length≤1000:=by
 rw[cU];exact ah (e6 L.small 13) aJ
theorem gV.up{c d:Int}{x:SF}(L:gV c x)(h:c≤d):gV d x:=⟨L.len,L.add.imp id λ⟨k,a,b⟩=>⟨k,DB a h,b⟩,L.red⟩
theorem gV.mark{c:Int}{x:SF}(L:gV c x):gV (c+1) (x.put "lr0_added" (.int (c+1))):=by
 have e1:(x.put "lr0_added" (.int (c+1))).lookup ("lr0_added":Str)=aa (.int (c+1)):=by rw[gj,aP rfl]
 have e2:(x.put "lr0_added" (.int (c+1))).lookup ("reduced":Str)=x.lookup ("reduced":Str):=by rw[gj,aK aW]
 refine⟨?_,.inr (aU _ (QQ _) e1),by rw[e2];exact L.red⟩;have:=L.len;rw[GA _ _ _,e1,e2];revert this
 cases(x.lookup ("lr0_added":Str)).isSome<;>simp<;>lia
section
theorem RQ{J:List aF}{ad:List Nat}{x:Nat}{xs:List Nat}(h:x∈ad):kW J ad (x::xs)=kW J ad xs:=aP h
theorem ZR{J:List aF}{ad:List Nat}{x:Nat}{xs:List Nat}(h:x∉ad):kW J ad (x::xs)=kW (J++[(x,0)]) (ad++[x]) xs:=aK h
theorem y3{R:bm}{q:aF}{j:Nat}(h:j∈dO R q):j<R.length:=by
 unfold dO at h
 split at h
 ·exact cS h
 ·exact dR.mp (m9.mp h).1
structure CS where
 J:List aF
 ad:List Nat
 fl:Bool
 h:SH
section
variable(R:bm)(c:Int)(N:Nat)(aA:SH)(I:List aF)
def Rj(ad:List Nat)(j:Nat)(x:SF):Prop:=(j∈ad→gV (c+1) x∧x.lookup ("lr0_added":Str)=aa (.int (c+1)))∧(j∉ad→gV c x)
structure jT(s:CS):Prop where
 list:s.h (gN N)=aa (.list (s.J.map a9))
 pr:∀j,j<R.length→∃x,s.h (bf j)=aa (.inst 100 (fX R j++x))∧Rj c s.ad j x
 same:∀k l,k≠10→.mk k l≠gN N→s.h (.mk k l)=aA (.mk k l)
 ok:∀q∈s.J,cY R q
 nd:s.ad.Nodup
 src:∀y∈s.ad,y<R.length
 len:s.J.length≤30+s.ad.length
structure C0:Prop where
 tb:aA dg=aa (.inst 427 (nK (c+1)))
 it:vP R aA
 hR:R.length≤20
 hc:0≤c
 hr:∀j,(aG R j).length≤10
noncomputable def D_(s:CS):SF:=[("self",.ref dg),("J",.ref (gN N)),("didadd",.bool s.fl)]
def JF(s:CS)(m:Nat):Prop:=jT R c N aA s∧((s.fl=ab∧s.J=I∧s.ad=[]∧m=2)∨(eV R 0 I [] s.J s.ad∧m=if s.fl then 1 else 0))
def r8(t:CS)(s:CS)(i m:Nat):Prop:=m=60-i∧jT R c N aA s∧(∀J' a',eV R i s.J s.ad J' a'→eV R 0 t.J t.ad J' a')∧t.ad.length≤s.ad.length∧(s.fl=ab→t.ad.length<s.ad.length)∧i≤s.J.length
def rJ(L:Nat)(t:CS)(q:aF)(s:CS)(i:Nat):Prop:=jT R c N aA s∧kW s.J s.ad ((dO R q).drop i)=kW t.J t.ad (dO R q)∧L≤s.ad.length∧(s.fl=ab→L<s.ad.length)∧t.J.length≤s.J.length
end
variable{R:bm}{c:Int}{N:Nat}{aA:SH}{I:List aF}{s t:CS}
theorem mA{k:Nat}{l:List Nat}(hk:k≠99):Nm.mk k l≠gN N:=λe=>hk (Nm.mk.inj e).1
theorem jT.items(X:jT R c N aA s)(O:C0 R c aA):vP R s.h:=λq hq=>
 have A:=O.it q hq
 (cF ((X.same _ _ bG (mA bG)).trans A.1) ((X.same _ _ bG (mA bG)).trans A.2.1) ((X.same _ _ bG (mA bG)).trans A.2.2))
theorem jT.table(X:jT R c N aA s)(O:C0 R c aA):s.h dg=aa (.inst 427 (nK (c+1))):=(X.same 30 [] bG (mA bG)).trans O.tb
theorem jT.bu(X:jT R c N aA s)(O:C0 R c aA):s.J.length≤50:=by
 have:=fO X.nd (λy hy=>dR.mpr (X.src y hy));rw[dS] at this;exact ah X.len (e6 (ah this O.hR) 30)
theorem jT.done(X:jT R c N aA s)(O:C0 R c aA)(B:bp aA (N+1)):hH R (c+1) (N+1) s.h:=
 ⟨B.same λk l hk=>X.same _ _ bG λe=>by have:=mW e;exact dG ‹_› ‹_›,X.items O,λj hj=>by
  refine bH (X.pr j hj) λx a b1 b2=>?_
  by_cases e:j∈s.ad
  ·exact(aU x a ((b1 e).1))
  ·exact(aU x a ((b2 e).up (ait (QQ c)))),X.table O,ait O.hc,O.hR,O.hr⟩
theorem jT.add(X:jT R c N aA s){j:Nat}{x:SF}(hj:j<R.length)(YC:j∉s.ad)(hx:gV c x):
  jT R c N aA ⟨s.J++[(j,0)],s.ad++[j],ab,(s.h.set (gN N) (.list (s.J.map a9++[a9 (j,0)]))).set (bf j) (.inst 100 (fX R j++x.put "lr0_added" (.int (c+1))))⟩:=by
 have ng:∀i,bf i≠gN N:=λi e=>by injection e with e;cases e
 refine⟨?_,λi hi=>?_,λk l hk N5=>?_,λq hq=>?_,?_,λy hy=>?_,?_⟩
 ·show((s.h.set (gN N) (.list (s.J.map a9++[a9 (j,0)]))).set (bf j) (.inst 100 (fX R j++x.put "lr0_added" (.int (c+1))))) (gN N)=_
  rw[aq (ng j).symm,aS,dN];rfl
 ·by_cases e:i=j
  ·subst e
   exact⟨_,aS,λ_=>⟨hx.mark,by rw[gj,aP rfl]⟩,λz=>bc (kj _ (bS.mpr rfl)) z⟩
  ·refine aj (X.pr i hi) λx' h1 h2=>?_
   refine⟨x',(aq (λq=>by injection q with _ q;injection q with q;exact e q)).trans ((aq (ng i)).trans h1),λz=>h2.1 ((dw.mp z).resolve_right λz=>e (bS.mp z)),λz=>h2.2 λy=>z (i7 _ y)⟩
 ·exact(aq (λq=>by injection q with q;exact hk q)).trans ((aq N5).trans (X.same k l hk N5))
 ·rcases dw.mp hq with q'|q'
  ·exact X.ok q q'
  ·rw[bS.mp q'];exact⟨hj,b_ _⟩
 ·exact lq.mpr (cF X.nd (ko _ _) (λa ha b hb e=>YC (bS.mp hb▸e▸ha)))
 ·rcases dw.mp hy with q'|q'
  ·exact X.src y q'
  ·rw[bS.mp q'];exact hj
 ·have:=X.len
  simp only[cU,zU];exact eG ‹_›
theorem r8.stop{m i:Nat}{n:Nat}(hm:(t.J=I∧t.ad=[]∧n=2)∨(eV R 0 I [] t.J t.ad∧n=1))(X:r8 R c N aA t s i m)(tx:s.J.length≤i):∃k,k<n∧JF R c N aA I s k:=by
 refine GV X λ_ X eO _ iy _=>?_;have C1:=eO _ _ (eV.done tx);rcases hm with⟨e1,e2,rfl⟩|⟨hC,rfl⟩
 ·rw[e1,e2] at C1
  exact⟨if s.fl then 1 else 0,by split<;>exact bg,X,.inr ⟨C1,rfl⟩⟩
 ·refine xA ((eV.same λi q qz e=>hC.prop.2 i q (b_ _) e:eV R 0 t.J t.ad t.J t.ad).det C1) λe1 e2=>?_
  have:s.fl=an:=by
   cases e:s.fl with
   |false=>rfl
   |true=>have:=iy e;rw[e2] at this;exact bc this (fo _)
  exact⟨0,pf,X,.inr ⟨by rw[←e1,←e2];exact hC,by rw[this];rfl⟩⟩
theorem rJ.old{L:Nat}{q:aF}{i j:Nat}(X:rJ R c N aA L t q s i)(hj:(dO R q)[i]? =aa j)(CF:j∈s.ad):rJ R c N aA L t q s (i+1):=by
 obtain⟨hi,hj⟩:=cV.mp hj;refine⟨X.1,?_,X.2.2⟩;rw[←X.2.1,Iy hi,hj,RQ CF]
theorem rJ.new{L:Nat}{q:aF}{i j:Nat}{x:SF}(X:rJ R c N aA L t q s i)(hj:(dO R q)[i]? =aa j)(CF:j∉s.ad)(hx:gV c x):rJ R c N aA L t q ⟨s.J++[(j,0)],s.ad++[j],ab,(s.h.set (gN N) (.list (s.J.map a9++[a9 (j,0)]))).set (bf j) (.inst 100 (fX R j++x.put "lr0_added" (.int (c+1))))⟩ (i+1):=by
 refine⟨X.1.add (y3 (bN hj)) CF hx,?_,?_,λ_=>?_,?_⟩
 ·obtain⟨hi,hj⟩:=cV.mp hj
  rw[←X.2.1,Iy hi,hj,ZR CF]
 ·exact ah X.2.2.1 (cU▸b6 _ _)
 ·exact bd X.2.2.1 (cU▸dq _)
 ·exact ah X.2.2.2.2 (cU▸b6 _ _)
theorem r8.next{q:aF}{s':CS}{i m:Nat}(X:r8 R c N aA t s i m)(O:C0 R c aA)(hq:s.J[i]? =aa q)(Y:rJ R c N aA t.ad.length s q s' (dO R q).length):∃k,k<m∧r8 R c N aA t s' (i+1) k:=by
 obtain⟨rfl,X,eO,_,_,_⟩:=X;obtain⟨Y,e,d,d',g⟩:=Y;have hi:=(cV.mp hq).1;rw[List.drop_length] at e;exact⟨60- (i+1),ais (bI hi (ah (X.bu O) aJ)) (dq _),rfl,Y,λJ' a' w=>eO J' a' (.step hq (by rw[←e];exact w)),d,d',ah hi g⟩
theorem dH{α β:Type}{l:List α}{f:α→β}{i:Nat}{v:β}(e:(l.map f)[i]? =aa v):∃q,l[i]? =aa q∧v=f q:=by
 rw[dv] at e;refine aj (Dl.mp e) λq a b=>?_;exact(aU q a b.symm)
end
variable{R:bm}{c:Int}{N:Nat}{I:List aF}
noncomputable def UE:List Str:=["self","I","J","didadd","j","x"]
theorem RW:cq (bC 340) UE=ab:=by kernel_rfl
theorem w_none{a:au}:cZ (bC a) []=ab:=rfl
theorem ij{G:Gl}:callable G (.bi "list.append")=ab:=rfl
structure xW(R:bm)(c:Int)(N:Nat)(h:SH)(I:List aF)(v:SV)(h':SH)(J:List aF)(ad:List Nat):Prop where
 v:v=.ref (gN N)
 clo:eV R 0 I [] J ad
 list:h' (gN N)=aa (.list (J.map a9))
 ok:∀q∈J,cY R q
 tb:hH R (c+1) (N+1) h'
 same:∀k l,k≠10→k≠30→.mk k l≠gN N→h' (.mk k l)=h (.mk k l)
theorem A5{n:Nm}(hb:i.b=b+1)(T:hH R c N h)(hn:h n=aa (.list (I.map a9)))(hI:∀q∈I,cY R q)(hl:I.length≤30):FP i h (.glob 340) [.ref dg,.ref n] (λv h'=>∃J ad,xW R c N h I v h' J ad):=by
 refine enter i.K.clo RW w_none hb rfl ?_;refine GH n_ T.tb (Oi T.tb) bD u_ T.tb (jG rfl) ?_;refine bM (KL (m:=gN N) n_ ((aq λe=>by rw[e,T.tb] at hn;cases hn).trans hn) (by rw[aI _];refine(?_:_≤2^24);exact ah ‹_› aJ) T.free.at) ?_;refine bM jD ?_;have O:C0 R c ((h.set dg (.inst 427 ((nK c).put "_add_count" (.int (c+1))))).set (gN N) (.list (I.map a9))):=⟨rfl,T.it,T.hR,T.hc,T.hr⟩;have X:jT R c N ((h.set dg (.inst 427 ((nK c).put "_add_count" (.int (c+1))))).set (gN N) (.list (I.map a9))) ⟨I,[],ab,(h.set dg (.inst 427 ((nK c).put "_add_count" (.int (c+1))))).set (gN N) (.list (I.map a9))⟩:=
  ⟨aS,λj hj=>by refine aj (T.pr j hj) λx a b=>?_;exact⟨x,a,λz=>(cS z),λ_=>b⟩,λ_ _ _ _=>rfl,hI,.nil,λ_ z=>(cS z),by exact hl⟩
 generalize hh:(h.set dg (.inst 427 ((nK c).put "_add_count" (.int (c+1))))).set (gN N) (.list (I.map a9))=aA at O X ⊢;refine rK (D_ N) CS.h (JF R c N aA I) ⟨I,[],ab,aA⟩ 2 ⟨X,.inl (oW rfl rfl rfl rfl)⟩ (ai (ai (ai br))) ?_;clear X;rintro s m ⟨X,kQ⟩;refine(mr s.fl s.h (p_ n_ i9) (λe=>?_) (λe=>?_))
 ·refine aH (gJ n_ ?_)
  rcases kQ with⟨e',_⟩|⟨C,_⟩
  ·rw[e] at e';exact cM e'
  ·exact⟨s.J,s.ad,rfl,C,X.list,X.ok,X.done O (hh▸bp.new (T.free.same (h':=h.set dg (.inst 427 ((nK c).put "_add_count" (.int (c+1))))) λ_ _ _=>rfl) _ _),λk l h1 h2 h3=>(X.same k l h1 h3).trans (hh▸(aq h3).trans (aq λe=>h2 (Nm.mk.inj e).1))⟩
 ·have hm:(s.J=I∧s.ad=[]∧m=2)∨(eV R 0 I [] s.J s.ad∧m=1):=kQ.imp (λq=>q.2) λq=>⟨q.1,by rw[q.2,e];rfl⟩
  clear kQ;refine bM jD ?_;refine AC (D_ N) CS.h (r8 R c N aA s) ⟨s.J,s.ad,an,s.h⟩ 60 (d8 n_ X.list) ⟨rfl,⟨X.list,X.pr,X.same,X.ok,X.nd,X.src,X.len⟩,λ_ _ x=>x,ar _,λe=>(cM e),b_ _⟩ (ai (ai (ai br))) ?_;intro s1 j m1 Y;refine(cL _ (d6 Y.2.1.list) (λe1=>?_) (λv e1=>?_))
  ·refine aj (r8.stop hm Y (by have:=km.mp e1;rwa [aI] at this)) λk hk W=>?_
   exact aH (aH (bK (LQ.next s1 (aU k hk W) .rfl)))
  ·refine aj (dH e1) λq hq ax=>?_;subst ax
   have hit:=Y.2.1.items O q (Y.2.1.ok q (bN hq));refine dX (eo (D_ N) CS.h (rJ R c N aA s.ad.length s1 q) s1 ((dO R q).map bA) (d8 (a_ n_ hit.1) hit.2.1) ⟨Y.2.1,rfl,Y.2.2.2.1,Y.2.2.2.2.1,ar _⟩ (ai (ai (ai br))) (λs2 j2 Z=>d6 (Z.1.items O q (Y.2.1.ok q (bN hq))).2.1) (λs2 j2 v2 Z e2=>?_) λs2 Z=>?_)
   ·refine aj (dH e2) λy hy ax=>?_;subst ax
    refine bH (Z.1.pr y (y3 (bN hy))) λx hx xd hm2=>?_;refine dX ?_
    by_cases AA:y∈s2.ad
    ·refine cT (bt (a_ n_ hx (xd AA).2) (a_ n_ (Z.1.table O)) (nN rfl)) (Fe ?_)
     exact LQ.cont s2 (Z.old hy AA) (ai (ai (ai br)))
    ·have hL:=hm2 AA
     refine cf (ag:=s2.h) ?_ ?_
     ·rcases hL.add with e3|⟨k,hk,e3⟩
      ·exact bt (a0_ n_ hx e3) (a_ n_ (Z.1.table O)) (lU λe=>by injection e with e;exact QR (aiu O.hc) e)
      ·exact bt (a_ n_ hx e3) (a_ n_ (Z.1.table O)) (lU λe=>by injection e with e;exact QR (aiu hk) e)
     ·refine aH (fJ (dp n_ (fV Z.1.list) ij (aB (a_ n_ hx) aL) (ga Z.1.list ?_)) ?_)
      ·rw[aI _];have:=Z.1.bu O;refine(?_:_≤2^24);exact ah ‹_› aJ
      refine jy (n:=bf y) (a_ (n:=dg) n_ (Z.1.table O)) n_ hx hL.le ?_;refine bM jD ?_;exact aH (bK (LQ.next _ (Z.new hy AA hL) (ai (ai (ai br)))))
   ·refine aj (r8.next Y O hq (by rw[aI] at Z;exact Z)) λk hk W=>?_
    exact aH (aH (bK (LQ.next s2 (aU k hk W) .rfl)))
noncomputable def aM(q:aF):SV:=.tup [.int q.1,.int q.2]
noncomputable def df(I:List aF):SV:=.tup (I.map aM)
theorem adp:cq (bC 318) ["I"]=ab:=by kernel_rfl
theorem ab7:cZ (bC 318) ["tuple"]=ab:=by kernel_rfl
def Told(h:SH)(v:SV)(I:List aF):Prop:=(v=.none∧I=[])∨∃n,v=.ref n∧h n=aa (.list (I.map a9))
noncomputable def eP(N:Nat)(I:List aF)(h:SH):SH:=if I=[] then h else h.set (gN N) (.list (I.map aM))
theorem tX{v:SV}(hb:i.b=b+1)(hv:Told h v I)(hI:∀q∈I,cY R q)(it:vP R h)(B:bp h N)(hz:I.length≤1000):FP i h (.glob 318) [v] (is (df I) (h.bX N (eP N I h))):=by
 refine enter i.K.place adp ab7 hb rfl ?_
 by_cases rh:I=[]
 ·subst rh
  refine cT (ag:=h) (fz (t:=an) (p_ n_ ?_)) (gJ (eY aL) ⟨rfl,Lj.symm⟩);rcases hv with⟨rfl,_⟩|⟨n,rfl,hn⟩
  ·exact nu
  ·exact lS (.own hn) bg
 ·refine aj (hv.resolve_left λe=>rh e.2) λn bq hn=>?_;subst bq
  have hz':(I.map a9).length≤1000:=by rw[aI _];exact hz
  have ng:n≠gN N:=λe=>by rw[e,gN,B.at] at hn;exact a7 hn
  refine cf (fz (t:=ab) (p_ n_ ((by cases I with|nil=>exact bc rfl rh|cons _ _=>rfl:(!(I.map a9).isEmpty)=ab)▸lS (.own hn) (bd ‹_› bg)))) (aH (gJ (b8 (i.K.ty rfl) rfl (aB (BD (l:=["p"]) (ls:=[]) (us:=I.map aM) ?_ rfl ?_ (d8 n_ hn) (B.at (l:=[])) (λws j=>d6 ((aq ng).trans hn)) (by rw[aI _,aI _]) (by refine(?_:_≤2^24);exact ah ‹_› aJ) rfl ?_) aL) (AN (.own aS) ?_)) ⟨rfl,Rf.trans (ay _ (aK rh).symm)⟩))
  ·kernel_rfl
  ·kernel_rfl
  ·intro ws j v u e1 e2
   refine aj (dH e1) λq hq ax=>?_;subst ax;rw[dv,hq] at e2
   (first|exact a7 e2|obtain rfl:=aY e2)
   have A:=(it q (hI q (bN hq))).1;exact eY (aB (a_ (n:=bh q) n_ A) (aB (a_ (n:=bh q) n_ A) aL))
  ·rw[aI _];refine(?_:_≤2^24);exact ah ‹_› aJ
noncomputable def jB(R:bm)(x:Str)(q:aF):Option aF:=if(aG R q.1)[q.2]? =aa x then aa (q.1,q.2+1) else af
noncomputable def cG(R:bm)(I:List aF)(x:Str):List aF:=I.filterMap (jB R x)
def dF(R:bm)(ps L:List aF):Prop:=(ps=[]∧L=[])∨(ps≠[]∧∃ad,eV R 0 ps [] L ad)
theorem dF.det{ps L L':List aF}(a:dF R ps L)(b:dF R ps L'):L=L':=
 a.elim (λa=>b.elim (λb=>a.2.trans b.2.symm) λb=>bc a.1 b.1) λa=>b.elim (λb=>bc b.1 a.1) λb=>a.2.elim λ_ c=>b.2.elim λ_ c'=>(c.det c').1
theorem dF.nil{ps L:List aF}(a:dF R ps L):L=[]↔ps=[]:=
 a.elim (λa=>⟨λ_=>a.1,λ_=>a.2⟩) λa=>⟨λe2=>a.2.elim λad c=>aj c.prop.1.ext λx e1 _=>(aiv.mp (e1.symm.trans e2)).1,λz=>bc z a.1⟩
noncomputable def Sy:List Str:=["S","A","B","a","b","error","c"]
theorem Tq{x y:Str}(hx:x∈Sy)(hy:y∈Sy)(e:sym x=sym y):x=y:=by
 have:∀x∈Sy,∀y∈Sy,sym x=sym y→x=y:=by decide +kernel
 exact this x hx y hy e
noncomputable def EM(ps:List aF):List Nat:=ps.flatMap λq=>[q.1,q.2]
theorem aeu{ps:List aF}:∀{qs:List aF},EM ps=EM qs→ps=qs:=by
 induction ps with
 |nil=>exact λ{qs} e=>by cases qs with
  |nil=>rfl
  |cons q r=>exact wy e
 |cons p r ih=>exact λ{qs} e=>by cases qs with
  |nil=>exact jz e
  |cons q t=>exact have z:=lw e;have y:=lw z.2;congr (ay DI (jw z.1 y.1)) (ih y.2)
noncomputable def cI(x:Str)(ps:List aF):Nm:=.mk 31 (sym x::EM ps)
theorem Ov{x y:Str}{ps qs:List aF}(hx:x∈Sy)(hy:y∈Sy)(e:cI x ps=cI y qs):x=y∧ps=qs:=by
 have z:=lw (Nm.mk.inj e).2;exact⟨Tq hx hy z.1,aeu z.2⟩
noncomputable def jn:Nm:=.mk 32 []
def jY(N:Nat)(h:SH)(v:SV)(L:List aF):Prop:=(v=.none∧L=[])∨∃k,k<N∧v=.ref (gN k)∧h (gN k)=aa (.list (L.map a9))
theorem jY.told{v:SV}{L:List aF}(t:jY N h v L):Told h v L:=t.imp id λz=>bH z λk _ e a=>⟨_,e,a⟩
def fA(N:Nat)(h h':SH):Prop:=∀k l,k<N→h' (.mk 99 (k::l))=h (.mk 99 (k::l))
theorem fA.rfl{N:Nat}{h:SH}:fA N h h:=λ_ _ _=>Eq.refl _
theorem jY.mono{v:SV}{L:List aF}{M:Nat}(t:jY N h v L)(s:fA N h h')(hM:N≤M):jY M h' v L:=t.imp id λz=>bH z λk a b c=>⟨k,bI a hM,b,(s k [] a).trans c⟩
abbrev b7:=List (SV×SV)
abbrev dB:=Str→List aF→Option b7
noncomputable def tP:SV:=.str "$end"
def tD(R:bm)(N:Nat)(h:SH)(T:dB)(x:Str)(ps:List aF)(k v:SV):Prop:=(k=tP∧∃L,dF R ps L∧jY N h v L)∨∃q,cY R q∧k=aM q∧v=.ref (cI x (ps++[q]))∧(T x (ps++[q])).isSome=ab
def wp(R:bm)(U:List (List aF))(N:Nat)(h:SH)(T:dB)(k v:SV):Prop:=(∃x∈Sy,k=.str x∧v=.ref (cI x [])∧(T x []).isSome=ab)∨∃I∈U,∃x∈Sy,k=.tup [df I,.str x]∧∃L,dF R (cG R I x) L∧jY N h v L
structure eE(R:bm)(U:List (List aF))(N:Nat)(h:SH)(W:Str→List aF→Prop)(T:dB)(es:b7):Prop where
 ca:h jn=aa (.dict es)
 nd:(es.map (·.1)).Nodup
 ent:∀k v,es.lookup k=aa v→wp R U N h T k v
 heap:∀x∈Sy,∀ps,h (cI x ps)=(T x ps).map .dict
 node:∀x∈Sy,∀ps ds,T x ps=aa ds→(ds≠[]∨W x ps)∧(ds.map (·.1)).Nodup∧∀k v,ds.lookup k=aa v→tD R N h T x ps k v
 root:∀x∈Sy,(T x []).isSome=ab→es.lookup (.str x)=aa (.ref (cI x []))
 up:∀x∈Sy,∀ps q,(T x (ps++[q])).isSome=ab→∃ds,T x ps=aa ds∧ds.lookup (aM q)=aa (.ref (cI x (ps++[q])))
variable{U:List (List aF)}{W W':Str→List aF→Prop}{T:dB}{es:b7}{x:Str}{ps:List aF}{M:Nat}
theorem tD.mono{k v:SV}(e:tD R N h T x ps k v)(s:fA N h h')(hM:N≤M){T':dB}(hT:∀x ps,(T x ps).isSome=ab→(T' x ps).isSome=ab):tD R M h' T' x ps k v:=
 e.imp (λz=>⟨z.1,aj z.2 λL b c=>⟨L,b,c.mono s hM⟩⟩) λz=>gU z λq a b c d=>⟨q,a,b,c,hT _ _ d⟩
theorem wp.mono{k v:SV}(e:wp R U N h T k v)(s:fA N h h')(hM:N≤M){T':dB}(hT:∀x ps,(T x ps).isSome=ab→(T' x ps).isSome=ab):wp R U M h' T' k v:=
 e.imp (λz=>gU z λx hx a b c=>⟨x,hx,a,b,hT _ _ c⟩) λz=>z.elim λI z=>z.2.elim λx w=>w.2.2.elim λL y=>⟨I,z.1,x,w.1,w.2.1,L,y.1,y.2.mono s hM⟩
theorem eE.mono(C:eE R U N h W T es)(s:fA N h h')(hM:N≤M)(e1:∀l,h' (.mk 31 l)=h (.mk 31 l))(e2:h' jn=h jn):eE R U M h' W T es:=
 ⟨e2.trans C.ca,C.nd,λk v e=>(C.ent k v e).mono s hM λ_ _=>id,λx hx ps=>(e1 _).trans (C.heap x hx ps),λx hx ps ds e=>(cF ((C.node x hx ps ds e).1) ((C.node x hx ps ds e).2.1) (λk v q=>((C.node x hx ps ds e).2.2 k v q).mono s hM λ_ _=>id)),C.root,C.up⟩
theorem Eo{q:aF}:ps++[q]≠ps:=λe=>ahv _ (cU.symm.trans (ay oq e))
theorem Lk{q:aF}:ps++[q]≠[]:=λe=>jz (aiv.mp e).2
noncomputable def dB.put(T:dB)(x:Str)(ps:List aF)(ds:b7):dB:=λy qs=>if y=x∧qs=ps then aa ds else T y qs
theorem DT{ds:b7}:T.put x ps ds x ps=aa ds:=aP ⟨rfl,rfl⟩
theorem xb{ds:b7}{y:Str}{qs:List aF}(e:y=x∧qs=ps):T.put x ps ds y qs=aa ds:=aP e
theorem oA{ds:b7}{y:Str}{qs:List aF}(e:¬(y=x∧qs=ps)):T.put x ps ds y qs=T y qs:=aK e
theorem DU{ds:b7}(y:Str)(qs:List aF)(e:(T y qs).isSome=ab):(T.put x ps ds y qs).isSome=ab:=AB (P:=λo:Option b7=>o.isSome=ab) (λ_=>rfl) λ_=>e
theorem EG(C:∀x∈Sy,∀ps,h (cI x ps)=(T x ps).map cy.dict)(hx:x∈Sy)(ds:b7):∀y∈Sy,∀qs,(h.set (cI x ps) (.dict ds)) (cI y qs)=(T.put x ps ds y qs).map .dict:=λy hy qs=>
 if e:y=x∧qs=ps then(aP (congr (ay cI e.1) e.2)).trans (ay (ph cy.dict) (xb e)).symm
 else(aq λz=>e (Ov hy hx z)).trans ((C y hy qs).trans (ay (ph cy.dict) (oA e)).symm)
theorem BP:cI x ps≠jn:=λe=>nomatch (Nm.mk.inj e).1
theorem s7{o:cy}:fA N h (h.set (cI x ps) o):=λk l _=>aq λe=>nomatch (Nm.mk.inj e).1
theorem BZ{o:cy}:fA N h (h.set jn o):=λk l _=>aq λe=>nomatch (Nm.mk.inj e).1
theorem yQ{p q:aF}(e:aM p=aM q):p=q:=have z:=lw (SV.tup.inj e);jw (w7 (SV.int.inj z.1)) (w7 (SV.int.inj (lw z.2).1))
theorem DY{I J:List aF}(e:df I=df J):I=J:=by
 replace e:=SV.tup.inj e
 induction I generalizing J with
 |nil=>cases J with
  |nil=>rfl
  |cons _ _=>exact wy e
 |cons a r ih=>cases J with
  |nil=>exact jz e
  |cons c t=>exact have z:=lw e;congr (ay DI (yQ z.1)) (ih z.2)
theorem Xo{es:b7}{k v:SV}:bj es k v≠[]:=λe=>a7 ((ay (w4 k) e).symm.trans ((fw k).trans (aP rfl)))
theorem G7{es:b7}{k v k' v':SV}{C:SV→SV→Prop}(w:(bj es k v).lookup k'=aa v')(h1:C k v)(h2:es.lookup k'=aa v'→C k' v'):C k' v':=
 have w:=(fw k').symm.trans w
 if q:k'=k then aY ((aP q).symm.trans w)▸q▸h1 else h2 ((aK q).symm.trans w)
theorem eE.Wy(C:eE R U N h (λ_ _=>False) T es)(hx:x∈Sy)(hT:T x []=af):
  eE R U N ((h.set (cI x []) (.dict [])).set jn (.dict (bj es (.str x) (.ref (cI x []))))) (λy qs=>y=x∧qs=[]) (T.put x [] []) (bj es (.str x) (.ref (cI x []))):=by
 have st:fA N h ((h.set (cI x []) (.dict [])).set jn (.dict (bj es (.str x) (.ref (cI x []))))):=λk l hk=>(BZ k l hk).trans (s7 k l hk);refine⟨aS,o9 C.nd,λk v e=>G7 (C:=wp R U N _ _) e (.inl ⟨x,hx,rfl,rfl,ay uL DT⟩) λe=>(C.ent k v e).mono st (ar _) DU,λy hy qs=>(aq BP).trans (EG C.heap hx [] y hy qs),λy hy qs ds e=>?_,λy hy e=>?_,λy hy qs q e=>?_⟩
 ·exact if z:y=x∧qs=[] then have e:([]:b7)=ds:=aY ((xb z).symm.trans e);e▸⟨.inr z,.nil,λ_ _ q=>a7 q⟩
   else have n:=C.node y hy qs ds ((oA z).symm.trans e);⟨.inl (n.1.resolve_right id),n.2.1,λk v q=>(n.2.2 k v q).mono st (ar _) DU⟩
 ·exact(fw _).trans (if z:y=x then(aP (ay SV.str z)).trans (z▸rfl) else(aK λw=>z (SV.str.inj w)).trans (C.root y hy ((ay uL (oA λq=>z q.1)).symm.trans e)))
 ·exact aj (C.up y hy qs q ((ay uL (oA λz=>Lk z.2)).symm.trans e)) λds a b=>⟨ds,(oA λz=>a7 (((congr (ay T z.1) z.2).trans hT).symm.trans a)).trans a,b⟩
theorem eE.grow{ds:b7}{k:SV}{tL:dB}{ag:SH}(C:eE R U N h W T es)(hx:x∈Sy)(hT:T x ps=aa ds)(sm:∀y qs,(T y qs).isSome=ab→tL y qs=T y qs)
  (nw:∀y qs oF,tL y qs=aa oF→T y qs=aa oF∨oF=[]∧W' y qs∧∃q,(y=x∧qs=ps++[q])∧aM q=k) (he:tD R N h tL x ps k v)
  (hp:∀y∈Sy,∀qs,ag (cI y qs)=(tL y qs).map .dict) (st:fA N h ag) (ca:ag jn=h jn) (hW:∀y qs,W y qs→(y=x∧qs=ps)∨W' y qs):
  eE R U N (ag.set (cI x ps) (.dict (bj ds k v))) W' (tL.put x ps (bj ds k v)) es:=by
 have st:fA N h (ag.set (cI x ps) (.dict (bj ds k v))):=λk l hk=>(s7 k l hk).trans (st k l hk);have sT:∀{y qs d},T y qs=aa d→(T y qs).isSome=ab:=λe=>ay uL e;have Ev:∀y qs,(T y qs).isSome=ab→(tL.put x ps (bj ds k v) y qs).isSome=ab:=λy qs e=>DU y qs ((ay uL (sm y qs e)).trans e);have lk:∀q,ds.lookup (aM q)=aa (.ref (cI x (ps++[q])))∨aM q=k→(bj ds k v).lookup (aM q)=aa (.ref (cI x (ps++[q]))):=λq h=>(fw _).trans (if w:aM q=k then(aP w).trans (ay aa ((λq w=>he.elim (λe=>nomatch w.trans e.1) λe=>e.elim λq' e=>yQ (w.trans e.2.1)▸e.2.2.1:∀q,aM q=k→v=.ref (cI x (ps++[q]))) q w)) else(aK w).trans (h.resolve_right w));have cur:∀{y qs},y=x∧qs=ps→T y qs=aa ds:=λz=>(congr (ay T z.1) z.2).trans hT;have back:∀y qs,(tL.put x ps (bj ds k v) y qs).isSome=ab→(T y qs).isSome=ab∨∃q,(y=x∧qs=ps++[q])∧aM q=k:=λy qs e=>
  if z:y=x∧qs=ps then .inl (sT (cur z)) else(zP.mp ((ay uL (oA z)).symm.trans e)).elim λoF e=>(nw y qs oF e).imp sT λn=>n.2.2
 refine⟨(aq (Ne.symm BP)).trans (ca.trans C.ca),C.nd,λk v e=>(C.ent k v e).mono st (ar _) Ev,EG hp hx _,λy hy qs oF e=>?_,λy hy e=>C.root y hy ((back y [] e).resolve_right λq=>q.elim λq n=>Lk n.1.2.symm),λy hy qs q e=>(back y (qs++[q]) e).elim (λe=>aj (C.up y hy qs q e) λd a b=>?_) λn=>n.elim λq' n=>?_⟩
 ·exact if z:y=x∧qs=ps then have n:=C.node y hy qs ds (cur z);have e:=aY ((xb z).symm.trans e)
    e▸⟨.inl Xo,o9 n.2.1,λk' v' w=>G7 (C:=tD R N _ _ y qs) w (z.1.symm▸z.2.symm▸he.mono st (ar _) DU) λw=>(n.2.2 k' v' w).mono st (ar _) Ev⟩
   else(nw y qs oF ((oA z).symm.trans e)).elim (λe=>have n:=C.node y hy qs oF e;⟨n.1.imp id λw=>(hW y qs w).resolve_left z,n.2.1,λk v q=>(n.2.2 k v q).mono st (ar _) Ev⟩) λn=>n.1.symm▸⟨.inr n.2.1,.nil,λ_ _ q=>a7 q⟩
 ·exact if z:y=x∧qs=ps then⟨_,xb z,z.1.symm▸z.2.symm▸lk q (.inl (z.1▸z.2▸aY (a.symm.trans (cur z))▸b))⟩ else⟨d,(oA z).trans ((sm y qs (sT a)).trans a),b⟩
 ·exact have z:=List.append_inj' n.1.2 rfl;⟨_,xb ⟨n.1.1,z.1⟩,(lw z.2).1.symm▸z.1.symm▸n.1.1.symm▸lk q' (.inr n.2)⟩
theorem eE.F8{ds:b7}{k:SV}(C:eE R U N h W T es)(hx:x∈Sy)(hT:T x ps=aa ds)(he:tD R N h T x ps k v)(hW:∀y qs,W y qs→(y=x∧qs=ps)∨W' y qs):
  eE R U N (h.set (cI x ps) (.dict (bj ds k v))) W' (T.put x ps (bj ds k v)) es:=C.grow hx hT (λ_ _ _=>rfl) (λ_ _ _=>.inl) he C.heap .rfl rfl hW
theorem eE.addChild{ds:b7}{q:aF}(C:eE R U N h W T es)(hx:x∈Sy)(hT:T x ps=aa ds)(hq:cY R q)(hn:ds.lookup (aM q)=af)(hW:∀y qs,W y qs→y=x∧qs=ps):
  eE R U N ((h.set (cI x (ps++[q])) (.dict [])).set (cI x ps) (.dict (bj ds (aM q) (.ref (cI x (ps++[q])))))) (λy qs=>y=x∧qs=ps++[q]) ((T.put x (ps++[q]) []).put x ps (bj ds (aM q) (.ref (cI x (ps++[q]))))) es:=
 C.grow hx hT (λy qs e=>oA λz=>(zP.mp e).elim λd e=>aj (C.up x hx ps q (ay uL ((congr (ay T z.1) z.2).symm.trans e))) λoF a b=>a7 (hn.symm.trans (aY (hT.symm.trans a)▸b)))
  (λy qs oF e=>if z:y=x∧qs=ps++[q] then .inr ⟨(aY ((xb z).symm.trans e)).symm,z,q,z,rfl⟩ else .inl ((oA z).symm.trans e))
  (.inr ⟨q,hq,rfl,rfl,ay uL DT⟩) (EG C.heap hx []) s7 (aq (Ne.symm BP)) λy qs w=>.inl (hW y qs w)
theorem eE.U4{L:List aF}(C:eE R U N h W T es)(hx:x∈Sy)(hI:I∈U)(hr:dF R (cG R I x) L)(hv:jY N h v L):eE R U N (h.set jn (.dict (bj es (.tup [df I,.str x]) v))) W T (bj es (.tup [df I,.str x]) v):=by
 have st:fA N h (h.set jn (.dict (bj es (.tup [df I,.str x]) v))):=BZ;exact⟨aS,o9 C.nd,λk w e=>G7 (C:=wp R U N _ _) e (.inr ⟨I,hI,x,hx,rfl,L,hr,hv.mono st (ar _)⟩) λe=>(C.ent k w e).mono st (ar _) λ_ _=>id,λy hy qs=>(aq BP).trans (C.heap y hy qs),
  λy hy qs ds e=>have n:=C.node y hy qs ds e;⟨n.1,n.2.1,λk v q=>(n.2.2 k v q).mono st (ar _) λ_ _=>id⟩,λy hy e=>(fw _).trans ((aK λz=>nomatch z).trans (C.root y hy e)),C.up⟩
theorem eE.bu(C:eE R U N h W T es):es.length≤7+7*U.length:=by
 have:(es.map (·.1)).length≤(Sy.map SV.str++U.flatMap λI=>Sy.map λx=>SV.tup [df I,.str x]).length:=fO C.nd λk hk=>by
  cases e:es.lookup k with
  |none=>exact bc hk (lW.mp e)
  |some v=>
   exact dw.mpr ((C.ent k v e).imp (λz=>aj z λx hx a=>bB.mpr ⟨x,hx,a.1.symm⟩) λz=>z.elim λI z=>z.2.elim λx w=>sK.mpr ⟨I,z.1,bB.mpr ⟨x,w.1,w.2.1.symm⟩⟩)
 rw[aI,cU,aI,QT] at this;rw[(aiw▸aix λ_ _=>aI _:(U.map λI=>(Sy.map λx=>SV.tup [df I,.str x]).length)=uH U.length 7),aiy] at this;exact Nat.mul_comm 7 _▸this
theorem eE.move(C:eE R U N h W T es)(hW:∀y qs,W y qs→(∀ds,T y qs=aa ds→ds≠[])∨W' y qs):eE R U N h W' T es:=
 ⟨C.ca,C.nd,C.ent,C.heap,λy hy qs ds e=>⟨(C.node y hy qs ds e).1.elim .inl λw=>(hW y qs w).imp (λz=>z ds e) id,(C.node y hy qs ds e).2⟩,C.root,C.up⟩
variable{L:List aF}{k:Nat}
theorem hH.Ch{l:List Nat}{o:cy}(T:hH R c N h):hH R c N (h.set (.mk 31 l) o):=⟨T.free.same λ_ _ _=>rfl,T.it,T.pr,T.tb,T.hc,T.hR,T.hr⟩
theorem hH.Oe{l:List Nat}{o:cy}(T:hH R c N h):hH R c N (h.set (.mk 32 l) o):=⟨T.free.same λ_ _ _=>rfl,T.it,T.pr,T.tb,T.hc,T.hR,T.hr⟩
theorem hH.g{l:List Nat}{o:cy}(T:hH R c N h):hH R c (N+1) (h.set (.mk 99 (N::l)) o):=⟨T.free.new _ _,T.it,T.pr,T.tb,T.hc,T.hR,T.hr⟩
theorem hH.bX{g:SH}(T:hH R c N h):hH R c (N+1) (h.bX N g):=⟨T.free.bX,T.it,T.pr,T.tb,T.hc,T.hR,T.hr⟩
theorem od{l:List Nat}{o:cy}(hM:N≤M):fA N h (h.set (.mk 99 (M::l)) o):=λk l' hk=>aq λe=>by have:=mW e;exact mi hk (ah hM (bF this.symm))
theorem lB{g:SH}(hM:N≤M):fA N h (h.bX M g):=λk l' hk=>LX (du (bI hk hM))
theorem fA.trans{mF:SH}(a:fA N h h')(b:fA M h' mF)(hM:N≤M):fA N h mF:=λk l hk=>(b k l (bI hk hM)).trans (a k l hk)
theorem se{n:Nat}:SV.key (n+2) (df I)=ab:=by
 show SV.keys (n+1) (I.map aM)=ab
 induction I with
 |nil=>rfl
 |cons a r ih=>exact ih
structure cX(R:bm)(U:List (List aF))(c:Int)(N:Nat)(h:SH):Prop where
 tb:hH R c N h
 ca:∃T es,eE R U N h (λ_ _=>False) T es
 hU:U.length≤2000000
def Kp(N:Nat)(h h':SH):Prop:=(∀k l,k≠10→k≠30→k≠31→k≠32→k≠99→h' (.mk k l)=h (.mk k l))∧fA N h h'
theorem Kp.trans{mF:SH}(a:Kp N h h')(b:Kp M h' mF)(hM:N≤M):Kp N h mF:=⟨λk l h1 h2 h3 h4 h5=>(b.1 k l h1 h2 h3 h4 h5).trans (a.1 k l h1 h2 h3 h4 h5),a.2.trans b.2 hM⟩
structure Y8(R:bm)(U:List (List aF))(N:Nat)(h:SH)(ps:List aF)(v:SV)(h':SH)(L:List aF)(c:Int)(M:Nat):Prop where
 res:dF R ps L
 told:jY M h' v L
 w:cX R U c M h'
 le:N≤M
 kp:Kp N h h'
noncomputable def o0(R:bm)(U:List (List aF))(N:Nat)(h:SH)(ps:List aF):QV:=λv h'=>∃L c M,Y8 R U N h ps v h' L c M
noncomputable def K6:List Str:=["self","I","x","g","s","gs","p","n","s1"]
theorem MY:cq (bC 347) K6=ab:=by kernel_rfl
theorem w_go:cZ (bC 347) ["_place"]=ab:=by kernel_rfl
theorem wr(t:jY N h v L)(hz:L.length≤1000):TV i h v (!L.isEmpty):=by
 rcases t with⟨rfl,rfl⟩|⟨k,_,rfl,e⟩
 ·exact nu
 ·have:=lS (i:=i) (.own e) (by rw[aI _];exact bd ‹_› bg)
  rwa [List.isEmpty_map] at this
theorem vq:(cG R I x).length≤I.length:=uM _ _
theorem Ac(hI:∀q∈I,cY R q):∀q∈cG R I x,cY R q:=λq hq=>by
 refine aj (gQ.mp hq) λp hp e=>?_;unfold jB at e
 split at e
 ·next z=>obtain rfl:=aY e;exact⟨(hI p hp).1,(cV.mp z).1⟩
 ·exact a7 e
theorem dF.len(r:dF R ps L)(hp:ps.length≤30)(hR:R.length≤20):L.length≤50:=by
 rcases r with⟨rfl,rfl⟩|⟨_,ad,C⟩
 ·exact b_ _
 ·refine aj C.prop.1.ext λx e e2=>?_
  have:=C.prop.1.nd .nil;have:=fO this (l₂:=bo R.length) λy hy=>dR.mpr (by
   rcases C.prop.1.src y hy with z|⟨q,_,z⟩
   ·exact cS z
   ·exact y3 z)
  rw[e,cU,aI _];rw[e2,dS,af9] at this;exact ah (fp hp this) (ah (e6 hR _) aJ)
theorem dF.ok(r:dF R ps L)(hp:∀q∈ps,cY R q):∀q∈L,cY R q:=by
 rcases r with⟨rfl,rfl⟩|⟨_,ad,C⟩
 ·exact hp
 ·refine aj C.prop.1.ext λx e e2=>?_
  intro q hq;rw[e] at hq;rcases dw.mp hq with z|z
  ·exact hp q z
  ·refine aj (bB.mp z) λy hy ax=>?_;subst ax
   rcases C.prop.1.src y (e2▸kj _ hy) with z|⟨q,_,z⟩
   ·exact cS z
   ·exact⟨y3 z,b_ _⟩
noncomputable def oM(i:FI)(b:Nat):FI:=i.fn (b+1) 347 K6 ["_place"] MY w_go
structure kH(R:bm)(U:List (List aF))(x:Str)(I:List aF):Prop where
 ok:∀q∈I,cY R q
 len:I.length≤30
 hU:I∈U
 hx:x∈Sy
theorem AL{aA:SH}{aN:Nat}(A:kH R U x I)(w:hH R c M h)(C:eE R U M h (λ_ _=>False) T es)(hU:U.length≤2000000)(res:dF R (cG R I x) L)(told:jY M h v L)(le:aN≤M)(kp:Kp aN aA h)(hk:k<M)(hn:h (gN k)=aa (.list (I.map a9)))(nb:l8 v=ab)
  (f1:fr.lookup ("self":Str)=aa (.ref dg)) (f2:fr.lookup ("I":Str)=aa (.ref (gN k))) (f3:fr.lookup ("x":Str)=aa (.str x)) (f4:fr.lookup ("g":Str)=aa v):
  SS (oM i b) fr h [(ba 347).drop 8] (λf _ h'=>o0 R U aN aA (cG R I x) f.val h'):=by
 refine eu (n:=jn) (es:=es) (n_ f4) (a_ (n_ f1) w.tb) (eY (aB (b8 (i.K.ref rfl) (i.K.keep rfl) (aB (n_ f2) aL) (tX (b:=b) rfl (.inr (aU _ rfl hn)) A.ok w.it w.free (by have:=A.len;exact ah ‹_› aJ)).cp) (aB (n_ f3) aL))) C.ca (by refine(?_:_≤2^24);exact ah C.bu (ah (e6 (pB _ hU) _) aJ)) ?_ (by rw[show SV.key 6 (.tup [df I,.str x])=ab from by show(SV.key 5 (df I) && (SV.key 5 (.str x) && ab))=ab;rw[se];rfl];rfl);refine gJ (n_ f4) ⟨L,c,M+1,res,?_,⟨(w.bX).Oe,(ud T _ ((C.mono (lB (ar _)) (bR _) (λ_=>rfl) rfl).U4 A.hx A.hU res (told.mono (lB (ar _)) (bR _)))),hU⟩,c8 le,kp.trans ⟨λk l h1 h2 h3 h4 h5=>?_,(lB (ar _)).trans BZ (ar _)⟩ le⟩
 ·exact told.mono ((lB (ar _)).trans BZ (ar _)) (bR _)
 ·refine(aq λe=>by injection e with e;exact h4 e).trans (aK λz=>?_)
  obtain⟨l,z⟩:=ym.mp z;injection z with z;exact h5 z
theorem vB{n:Nm}{es:b7}{w:SV}(hn:h n=aa (.dict es))(hl:es.lookup v=aa w)(ok:autoParam (SV.key 6 v=ab) bl):CP i h (.bi "dict.get") [.ref n,v] (is w h):=⟨λfr' Q X hq=>Jg hn ok (by rw[hl];exact hq _ _ ⟨rfl,rfl⟩)⟩
theorem vp{n:Nm}{es:b7}(hn:h n=aa (.dict es))(hl:es.lookup v=af)(ok:autoParam (SV.key 6 v=ab) bl):CP i h (.bi "dict.get") [.ref n,v] (is .none h):=⟨λfr' Q X hq=>Jg hn ok (by rw[hl];exact hq _ _ ⟨rfl,rfl⟩)⟩
structure GS where
 ps:List aF
 T:dB
 ds:b7
 h:SH
structure GJ(R:bm)(U:List (List aF))(c:Int)(N:Nat)(I:List aF)(x:Str)(es:b7)(aA:SH)(aN:Nat)(s:GS)(j:Nat):Prop where
 ps:s.ps=cG R (I.take j) x
 tb:hH R c (N+1) s.h
 ca:eE R U N s.h (λy qs=>y=x∧qs=s.ps) s.T es
 cur:s.T x s.ps=aa s.ds
 gs:s.h (gN N)=aa (.list (s.ps.map a9))
 kp:Kp aN aA s.h
 st:fA N aA s.h
noncomputable def BK(x:Str)(k N:Nat)(s:GS):SF:=[("self",.ref dg),("I",.ref (gN k)),("x",.str x),("s",.ref (cI x s.ps)),("gs",.ref (gN N))]
theorem GJ.node{es:b7}{aA:SH}{aN:Nat}{s:GS}{j:Nat}(J:GJ R U c N I x es aA aN s j)(hx:x∈Sy):s.h (cI x s.ps)=aa (.dict s.ds):=by rw[J.ca.heap x hx s.ps,J.cur];rfl
theorem GJ.nd{es:b7}{aA:SH}{aN:Nat}{s:GS}{j:Nat}(J:GJ R U c N I x es aA aN s j)(hx:x∈Sy):s.ds.length≤1000:=by
 have A:=(J.ca.node x hx s.ps s.ds J.cur);have:(s.ds.map (·.1)).length≤(tP::(bo R.length).flatMap λj=>(bo ((aG R j).length+1)).map λd=>aM (j,d)).length:=fO A.2.1 λk hk=>by
  cases e:s.ds.lookup k with
  |none=>exact bc hk (lW.mp e)
  |some v=>
   rcases A.2.2 k v e with⟨rfl,_⟩|⟨q,hq,rfl,_⟩
   ·exact dA
   ·exact eT _ (sK.mpr (aU q.1 (dR.mpr hq.1) (bB.mpr (aU q.2 (dR.mpr (lb hq.2)) rfl))))
 rw[aI,iE,QT] at this;have:=ah this (eG (IZ (k:=11) λj _=>by
  rw[aI _,dS];exact eG (J.tb.hr j)))
 rw[dS] at this;exact ah ‹_› (ah (eG (qR _ J.tb.hR)) aJ)
theorem ac3{q:aF}{s:Str}(e:(aG R q.1)[q.2]? =aa s):qU R q=a9 (q.1,q.2+1):=aP (cV.mp e).1
theorem ae0{q:aF}(e:(aG R q.1)[q.2]? =af):qU R q=.none:=aK (js.mpr (km.mp e))
theorem aes{q:aF}{s:Str}(e:(aG R q.1)[q.2]? =aa s):wB R (q.1,q.2+1)=s:=by
 unfold wB;rw[aK (z0 _),Qu _ _,e];rfl
theorem Ng{j:Nat}{q:aF}(e:I[j]? =aa q)(hs:(aG R q.1)[q.2]? =aa x):cG R (I.take (j+1)) x=cG R (I.take j) x++[(q.1,q.2+1)]:=by
 unfold cG;rw[jN,e,sD];exact ay _ (by show uK (jB R x) [q]=_;rw[qP,jB,aP hs];rfl)
theorem abd{j:Nat}{q:aF}(e:I[j]? =aa q)(hs:(aG R q.1)[q.2]? ≠aa x):cG R (I.take (j+1)) x=cG R (I.take j) x:=by
 unfold cG;rw[jN,e,sD];show _++uK (jB R x) [q]=_;rw[qP,jB,aK hs];exact gP _
theorem GJ.skip{es:b7}{aA:SH}{aN:Nat}{s:GS}{j:Nat}{q:aF}(J:GJ R U c N I x es aA aN s j)(e:I[j]? =aa q)(hs:(aG R q.1)[q.2]? ≠aa x):GJ R U c N I x es aA aN s (j+1):=
 ⟨J.ps.trans (abd e hs).symm,J.tb,J.ca,J.cur,J.gs,J.kp,J.st⟩
theorem GJ.old{es:b7}{aA:SH}{aN:Nat}{s:GS}{j:Nat}{q:aF}{w:SV}(A:kH R U x I)(J:GJ R U c N I x es aA aN s j)(e:I[j]? =aa q)(hs:(aG R q.1)[q.2]? =aa x)(hw:s.ds.lookup (aM (q.1,q.2+1))=aa w)(le:aN≤N):
  w=.ref (cI x (s.ps++[(q.1,q.2+1)]))∧∃d,s.h (cI x (s.ps++[(q.1,q.2+1)]))=aa (.dict d)∧(!d.isEmpty)=ab∧d.length≤1000∧
   GJ R U c N I x es aA aN ⟨s.ps++[(q.1,q.2+1)],s.T,d,s.h.set (gN N) (.list (s.ps.map a9++[a9 (q.1,q.2+1)]))⟩ (j+1):=by
 rcases(J.ca.node x A.hx s.ps s.ds J.cur).2.2 _ _ hw with⟨z,_⟩|⟨q',fR,z,rfl,hT⟩
 ·cases z
 ·cases yQ z
  refine xE (zP.mp hT) λd hd=>?_;have dh:d≠[]:=(J.ca.node x A.hx _ d hd).1.resolve_right λz=>Eo z.2;have J':GJ R U c N I x es aA aN ⟨s.ps++[(q.1,q.2+1)],s.T,d,s.h.set (gN N) (.list (s.ps.map a9++[a9 (q.1,q.2+1)]))⟩ (j+1):=
   ⟨by rw[J.ps,Ng e hs],⟨J.tb.free.same λk l hk=>aq λe=>(by have:=mW e;exact dG ‹_› ‹_›),J.tb.it,J.tb.pr,J.tb.tb,J.tb.hc,J.tb.hR,J.tb.hr⟩,
    (J.ca.mono (od (ar _)) (ar _) (λ_=>rfl) rfl).move (λy qs z=>by
     refine xA z λcP bq=>?_;clear z;subst cP;subst bq;exact .inl λds z=>by rw[J.cur] at z;obtain rfl:=aY z;exact λz=>by rw[z] at hw;(first|exact a7 hw|obtain rfl:=aY hw)),hd,by rw[dN];exact aS,⟨λk l h1 h2 h3 h4 h5=>(aq λe=>by injection e with e;exact h5 e).trans (J.kp.1 k l h1 h2 h3 h4 h5),λk l hk=>(J.st.trans (od (ar _)) (ar _)) k l (bI hk le)⟩,J.st.trans (od (ar _)) (ar _)⟩
  exact⟨rfl,d,(J.ca.heap x A.hx _).trans (by rw[hd];rfl),by cases d with|nil=>exact bc rfl dh|cons _ _=>rfl,J'.nd A.hx,J'⟩
theorem GJ.new{es:b7}{aA:SH}{aN:Nat}{s:GS}{j:Nat}{q:aF}(A:kH R U x I)(J:GJ R U c N I x es aA aN s j)(e:I[j]? =aa q)(hs:(aG R q.1)[q.2]? =aa x)(hw:s.ds.lookup (aM (q.1,q.2+1))=af)(le:aN≤N):
  GJ R U c N I x es aA aN ⟨s.ps++[(q.1,q.2+1)],(s.T.put x (s.ps++[(q.1,q.2+1)]) []).put x s.ps (bj s.ds (aM (q.1,q.2+1)) (.ref (cI x (s.ps++[(q.1,q.2+1)])))),[],
   ((s.h.set (cI x (s.ps++[(q.1,q.2+1)])) (.dict [])).set (cI x s.ps) (.dict (bj s.ds (aM (q.1,q.2+1)) (.ref (cI x (s.ps++[(q.1,q.2+1)])))))).set (gN N) (.list (s.ps.map a9++[a9 (q.1,q.2+1)]))⟩ (j+1):=by
 have ML:=J.st.trans (((s7 (x:=x) (ps:=s.ps++[(q.1,q.2+1)]) (o:=.dict [])).trans (s7 (x:=x) (ps:=s.ps) (o:=.dict (bj s.ds (aM (q.1,q.2+1)) (.ref (cI x (s.ps++[(q.1,q.2+1)])))))) (ar N)).trans (od (l:=[]) (o:=.list (s.ps.map a9++[a9 (q.1,q.2+1)])) (ar N)) (ar N):fA N s.h _) (ar N);refine⟨by rw[J.ps,Ng e hs],⟨J.tb.free.same λk l hk=>aq λe=>(by have:=mW e;exact dG ‹_› ‹_›),J.tb.it,J.tb.pr,J.tb.tb,J.tb.hc,J.tb.hR,J.tb.hr⟩,(J.ca.addChild A.hx J.cur (⟨(A.ok q (bN e)).1,(cV.mp hs).1⟩:cY R (q.1,q.2+1)) hw λ_ _=>id).mono (od (ar _)) (ar _) (λ_=>rfl) rfl,(oA λz=>Eo z.2).trans DT,by rw[dN];exact aS,
  ⟨λk l h1 h2 h3 h4 h5=>(aq λe=>h5 (Nm.mk.inj e).1).trans ((aq λe=>h3 (Nm.mk.inj e).1).trans ((aq λe=>h3 (Nm.mk.inj e).1).trans (J.kp.1 k l h1 h2 h3 h4 h5))),λk l hk=>ML k l (bI hk le)⟩,ML⟩
theorem GJ.fresh{es:b7}{aA:SH}{aN:Nat}{s:GS}{j:Nat}{q:aF}(A:kH R U x I)(J:GJ R U c N I x es aA aN s j)(hw:s.ds.lookup (aM q)=af):s.h (cI x (s.ps++[q]))=af:=by
 rw[J.ca.heap x A.hx _]
 cases z:s.T x (s.ps++[q]) with
 |none=>rfl
 |some d=>
  refine aj (J.ca.up x A.hx s.ps q (by rw[z];rfl)) λds a b=>?_;rw[J.cur] at a;obtain rfl:=aY a;rw[hw] at b;exact a7 b
theorem adb{aA:SH}{aN:Nat}{dJ:GS}{rest:List bx}{Q:QS}(A:kH R U x I)(Py:GJ R U c N I x es aA aN dJ 0)(le:aN≤N)(hk:k<aN)(hn:aA (gN k)=aa (.list (I.map a9)))(sb:(BK x k N dJ).sub fr)
  (fin:∀s,GJ R U c N I x es aA aN s I.length→SS (oM i b) (BK x k N s) s.h [(ba 347).drop 6] Q):SS (oM i b) fr dJ.h [(ba 347).drop 5] Q:=by
 have hI:∀s j,GJ R U c N I x es aA aN s j→s.h (gN k)=aa (.list (I.map a9)):=λs j J=>(J.kp.2 k [] hk).trans hn;refine eo (BK x k N) GS.h (GJ R U c N I x es aA aN) dJ (I.map a9) (d8 (n_ (sb _ _ rfl)) (hI dJ 0 Py)) Py sb (λs j J=>d6 (hI s j J)) (λs j v J e=>?_) λs J=>aH (fin s (by rw[aI] at J;exact J));refine aj (dH e) λq hq ax=>?_;subst ax;have hit:=(J.tb.it q (A.ok q (bN hq))).1;refine dX ?_
 cases hs:(aG R q.1)[q.2]? with
 |none=>
  refine bM (v:=.none) (a_ (n:=bh q) n_ hit (ay aa (ae0 hs))) ?_;exact cf (oN (p_ n_ nu)) (aH (aH (bK (LQ.next s (J.skip hq (by rw[hs];exact λz=>by exact a7 z)) (ai (ai (ai (ai (ai br)))))))))
 |some y=>
  have fU:=(J.tb.it (q.1,q.2+1) ⟨(A.ok q (bN hq)).1,(cV.mp hs).1⟩).1;refine bM (v:=a9 (q.1,q.2+1)) (a_ (n:=bh q) n_ hit (ay aa (ac3 hs))) ?_;have be:(dV R (q.1,q.2+1)).lookup ("lr_before":Str)=aa (.str y):=ay (λz=>aa (SV.str z)) (aes hs)
  by_cases hy:y=x
  ·subst hy
   refine cT (lH (p_ n_ (FR fU)) (lH (bt (a_ (n:=bh (q.1,q.2+1)) n_ fU be) n_ (nN rfl)) Bk)) ?_;have bu:s.ps.length≤100:=by rw[J.ps];exact ah vq (by rw[jH];have:=A.len;exact ah (pD _ _) (ah this aJ))
   cases hw:s.ds.lookup (aM (q.1,q.2+1)) with
   |some w=>
    obtain⟨rfl,d,hd,dh,ya,J'⟩:=J.old A hq hs hw le;refine bM (g9 (n_ (v:=.ref (cI y s.ps))) (jo (J.node A.hx)) rfl (aB (eY (aB (a_ (n:=bh (q.1,q.2+1)) n_ fU) (aB (a_ (n:=bh (q.1,q.2+1)) n_ fU) aL))) aL) (vB (J.node A.hx) hw)) ?_;refine cf (fz (t:=ab) (p_ n_ (dh▸zq hd (bd ‹_› bg)))) (aH ?_);refine fJ (dp n_ (fV J.gs) ij (aB n_ aL) (ga J.gs (by rw[aI _];refine(?_:_≤2^24);exact ah ‹_› aJ))) ?_;exact bM n_ (aH (aH (bK (LQ.next _ J' (ai (ai (ai (ai (ai br)))))))))
   |none=>
    refine bM (g9 (n_ (v:=.ref (cI y s.ps))) (jo (J.node A.hx)) rfl (aB (eY (aB (a_ (n:=bh (q.1,q.2+1)) n_ fU) (aB (a_ (n:=bh (q.1,q.2+1)) n_ fU) aL))) aL) (vp (J.node A.hx) hw)) ?_;refine cT (fz (t:=an) (p_ n_ nu)) ?_;refine bM (gR (J.fresh A hw)) ?_;refine eu (n:=cI y s.ps) n_ n_ (eY (aB (a_ (n:=bh (q.1,q.2+1)) n_ fU) (aB (a_ (n:=bh (q.1,q.2+1)) n_ fU) aL))) ((aq λe=>Eo (Ov A.hx A.hx e).2.symm).trans (J.node A.hx)) (by have:=J.nd A.hx;refine(?_:_≤2^24);exact ah ‹_› aJ) ?_;refine aH (fJ (dp n_ (fV (n:=gN N) (vs:=s.ps.map a9) J.gs) ij (aB n_ aL) (ga (n:=gN N) (vs:=s.ps.map a9) J.gs (by rw[aI _];refine(?_:_≤2^24);exact ah ‹_› aJ))) ?_);exact bM n_ (aH (aH (bK (LQ.next _ (J.new A hq hs hw le) (ai (ai (ai (ai (ai br)))))))))
  ·refine cf (lH (p_ n_ (FR fU)) (oN (bt (a_ (n:=bh (q.1,q.2+1)) n_ fU be) n_ (lU λz=>hy (by injection z))))) ?_
   exact aH (aH (bK (LQ.next s (J.skip hq (by rw[hs];exact λz=>hy (aY z))) (ai (ai (ai (ai (ai br))))))))
theorem jY.nb(t:jY N h v L):l8 v=ab:=by rcases t with⟨rfl,_⟩|⟨k,_,rfl,_⟩<;>rfl
theorem Kp.C6{l:List Nat}{o:cy}:Kp N h (h.set (.mk 31 l) o):=⟨λk l' h1 h2 h3 h4 h5=>aq λe=>by injection e with e;exact h3 e,λk l' hk=>aq λe=>by injection e with e;cases e⟩
theorem Kp.RB{l:List Nat}{o:cy}:Kp N h (h.set (.mk 32 l) o):=⟨λk l' h1 h2 h3 h4 h5=>aq λe=>by injection e with e;exact h4 e,λk l' hk=>aq λe=>by injection e with e;cases e⟩
theorem Kp.LA{l:List Nat}{o:cy}(hM:N≤M):Kp N h (h.set (.mk 99 (M::l)) o):=⟨λk l' h1 h2 h3 h4 h5=>aq λe=>h5 (Nm.mk.inj e).1,od hM⟩
theorem Xe{aA:SH}{aN:Nat}{s:GS}(A:kH R U x I)(J:GJ R U c N I x es aA aN s I.length)(hU:U.length≤2000000)(le:aN≤N)(hk:k<aN)(hn:aA (gN k)=aa (.list (I.map a9))):
  SS (oM i b) (BK x k N s) s.h [(ba 347).drop 6] (λf _ h'=>o0 R U aN aA (cG R I x) f.val h'):=by
 have e0:s.ps=cG R I x:=by rw[J.ps,zW]
 have hI:s.h (gN k)=aa (.list (I.map a9)):=(J.kp.2 k [] hk).trans hn;have len:s.ps.length≤30:=by rw[e0];exact ah vq A.len
 have nd:=J.node A.hx;have Sv:=J.nd A.hx;have C1:eE R U (N+1) s.h (λy qs=>y=x∧qs=s.ps) s.T es:=J.ca.mono (λ_ _ _=>rfl) (bR _) (λ_=>rfl) rfl
 cases hw:s.ds.lookup tP with
 |some v=>
  rcases(J.ca.node x A.hx s.ps s.ds J.cur).2.2 tP v hw with⟨_,L,res,told⟩|⟨q,_,z,_⟩
  ·have C0:eE R U (N+1) s.h (λ_ _=>False) s.T es:=C1.move λy qs z=>by
    refine xA z λcP bq=>?_;clear z;subst cP;subst bq;exact .inl λds z e=>by rw[J.cur] at z;obtain rfl:=aY z;rw[e] at hw;(first|exact a7 hw|obtain rfl:=aY hw)
   have told:=told.mono (M:=N+1) (λ_ _ _=>rfl) (bR _);have nb:=told.nb;have RN:=res.len len J.tb.hR;refine bM (g9 (n_ (v:=.ref (cI x s.ps))) (jo nd) rfl (aB cw aL) (vB nd hw)) ?_
   by_cases hL:L=[]
   ·subst hL
    have hp:s.ps=[]:=res.nil.mp rfl;refine cT (fz (t:=an) (p_ n_ (wr told (b_ _)))) (cf (p_ n_ (t:=an) ?_) ?_)
    ·have:=lS (i:=oM i b) (.own J.gs) (by rw[aI _];exact bd ‹_› bg)
     rwa [hp] at this
    ·refine eu (n:=cI x s.ps) (es:=s.ds) n_ n_ cw nd (by refine(?_:_≤2^24);exact ah ‹_› aJ) ?_
     refine aH (aH (AL A (es:=es) (T:=s.T.put x s.ps (bj s.ds tP (.ref (gN N)))) J.tb.Ch ?_ hU (e0▸res) (told.mono s7 (ar _)) (ah ‹_› (b6 _ _)) (J.kp.trans .C6 (ar _)) (ah ‹_› (ah ‹_› (b6 _ _)):k<N+1) ((aq λe=>by injection e with e;cases e).trans hI) nb rfl rfl rfl rfl));refine C1.F8 A.hx J.cur (.inl (q9 rfl ([]) res (.inr (cL N (dq _) rfl ?_)))) λy qs z=>.inl z;rw[J.gs,hp]
   ·have ne:(!L.isEmpty)=ab:=by cases L with|nil=>exact bc rfl hL|cons _ _=>rfl
    refine cf (fz (t:=ab) (p_ n_ (ne▸wr told (ah ‹_› aJ)))) (aH ?_);exact AL A J.tb C0 hU (e0▸res) told (ah ‹_› (b6 _ _)) J.kp (ah ‹_› (ah ‹_› (b6 _ _)):k<N+1) hI nb rfl rfl rfl rfl
  ·cases z
 |none=>
  refine bM (g9 (n_ (v:=.ref (cI x s.ps))) (jo nd) rfl (aB cw aL) (vp nd hw)) (cT (fz (t:=an) (p_ n_ nu)) ?_)
  by_cases hp:s.ps=[]
  ·refine cf (p_ n_ (t:=an) ?_) ?_
   ·have:=lS (i:=oM i b) (.own J.gs) (by rw[aI _];exact bd ‹_› bg)
    rwa [hp] at this
   ·refine eu (n:=cI x s.ps) (es:=s.ds) n_ n_ cw nd (by refine(?_:_≤2^24);exact ah ‹_› aJ) ?_
    refine aH (aH (AL A (es:=es) (T:=s.T.put x s.ps (bj s.ds tP (.ref (gN N)))) (L:=[]) J.tb.Ch ?_ hU (.inl ⟨by rw[←e0,hp],rfl⟩) (.inl ⟨rfl,rfl⟩) (ah ‹_› (b6 _ _)) (J.kp.trans .C6 (ar _)) (ah ‹_› (ah ‹_› (b6 _ _)):k<N+1) ((aq λe=>by injection e with e;cases e).trans hI) rfl rfl rfl rfl rfl));refine C1.F8 A.hx J.cur (.inl (q9 rfl ([]) (.inl ⟨hp,rfl⟩) (.inr (cL N (dq _) rfl ?_)))) λy qs z=>.inl z;rw[J.gs,hp]
  ·have ne:(!(s.ps.map a9).isEmpty)=ab:=by
    cases e:s.ps with
    |nil=>exact bc e hp
    |cons _ _=>rfl
   refine cT (p_ n_ (t:=ab) (ne▸lS (.own J.gs) (by rw[aI _];exact bd ‹_› bg))) ?_;have UI:∀q∈s.ps,cY R q:=by rw[e0];exact Ac A.ok
   refine kG (dp n_ (iU (J.tb.tb) rfl) (i.K.keep rfl) (aB n_ aL) (A5 (b:=b) rfl J.tb J.gs UI len).cp) ?_;rintro v h2 ⟨L,ad,W⟩;have sm:fA (N+1) s.h h2:=λk' l dY=>W.same _ _ bG bG λe=>by have:=mW e;exact du ‹_› ‹_›
   have res:dF R s.ps L:=.inr (A9 hp ad W.clo);have told:jY (N+2) h2 v L:=.inr (cL (N+1) (dq _) W.v W.list);have kp:Kp aN aA h2:=J.kp.trans (M:=N+1) ⟨λk' l h1 h2 h3 h4 h5=>W.same k' l h1 h2 λe=>h5 (Nm.mk.inj e).1,sm⟩ (ah ‹_› (b6 _ _));refine eu (n:=cI x s.ps) (es:=s.ds) n_ n_ cw ((W.same _ _ bG bG (mA bG)).trans nd:h2 (cI x s.ps)=aa (.dict s.ds)) (by refine(?_:_≤2^24);exact ah ‹_› aJ) ?_ (by rfl);exact aH (aH (AL A (es:=es) (T:=s.T.put x s.ps (bj s.ds tP v)) W.tb.Ch ((C1.mono sm (bR _) (λl=>W.same _ _ bG bG (mA bG)) (W.same _ _ bG bG (mA bG)):eE R U (N+2) h2 (λy qs=>y=x∧qs=s.ps) s.T es).F8 A.hx J.cur (.inl (q9 rfl L res told)) λy qs z=>.inl z) hU (e0▸res) (told.mono s7 (ar _)) (c8 (c8 le)) (kp.trans .C6 (ar _)) (ah ‹_› (ah ‹_› (b6 _ _)):k<N+2) ((aq λe=>by injection e with e;cases e).trans ((kp.2 k [] hk).trans hn)) told.nb rfl rfl rfl rfl))
theorem ka.imp{Q Q':QS}(hq:∀f fr h,Q f fr h→Q' f fr h):∀{k:List (List bx)} {f:ug} {fr:SF} {h:SH},ka i Q k f fr h→ka i Q' k f fr h
 |[],_,_,_,w=>hq _ _ _ w
 |b::k,.next,_,_,w=>iH.imp w (λf fr h q=>ka.imp hq q) λ_ _ _ q=>q
 |b::k,.brk,_,_,w=>hq _ _ _ w
 |b::k,.cont,_,_,w=>hq _ _ _ w
 |b::k,.ret v,_,_,w=>hq _ _ _ w
theorem SS.imp{Q Q':QS}{k:List (List bx)}(w:SS i fr h k Q)(hq:∀f fr h,Q f fr h→Q' f fr h):SS i fr h k Q':=
 ⟨λfr' s=>ka.imp (λf fr h ⟨ey,s,q⟩=>⟨ey,s,hq _ _ _ q⟩) (w.run fr' s)⟩
theorem MI{aA:SH}{ds:b7}(A:kH R U x I)(w:hH R c N h)(C:eE R U N h (λy qs=>y=x∧qs=[]) T es)(hT:T x []=aa ds)(hU:U.length≤2000000)(kp:Kp N aA h)(hk:k<N)(hn:aA (gN k)=aa (.list (I.map a9)))
  (f1:fr.lookup ("self":Str)=aa (.ref dg)) (f2:fr.lookup ("I":Str)=aa (.ref (gN k))) (f3:fr.lookup ("x":Str)=aa (.str x)) (f4:fr.lookup ("s":Str)=aa (.ref (cI x []))):
  SS (oM i b) fr h [(ba 347).drop 4] (λf _ h'=>o0 R U N aA (cG R I x) f.val h'):=by
 refine bM (eC (n:=gN N) aL w.free.at) ?_;have st:fA N h (h.set (gN N) (.list [])):=od (ar _);refine adb (rest:=[]) (N:=N) (dJ:=⟨[],T,ds,h.set (gN N) (.list [])⟩) A ⟨rfl,w.g,C.mono st (ar _) (λ_=>rfl) rfl,hT,aS,kp.trans (.LA (ar _)) (ar _),kp.2.trans st (ar _)⟩ (ar _) hk hn ?_ λs J=>Xe A J hU (ar _) hk hn;have g:∀y,y≠("gs":Str)→∀z,fr.lookup y=aa z→(fr.put "gs" (.ref (gN N))).lookup y=aa z:=λy hy z e=>by rw[gj,aK hy];exact e
 exact ai (ai (ai (ai (ai br (by rw[gj,aP rfl])) (g _ aW _ f4)) (g _ aW _ f3)) (g _ aW _ f2)) (g _ aW _ f1)
theorem X2(A:kH R U x I)(w:hH R c N h)(C:eE R U N h (λ_ _=>False) T es)(hU:U.length≤2000000)(hk:k<N)(hn:h (gN k)=aa (.list (I.map a9)))
  (f1:fr.lookup ("self":Str)=aa (.ref dg)) (f2:fr.lookup ("I":Str)=aa (.ref (gN k))) (f3:fr.lookup ("x":Str)=aa (.str x)):
  SS (oM i b) fr h [(ba 347).drop 2] (λf _ h'=>o0 R U N h (cG R I x) f.val h'):=by
 have bu:=C.bu;have g:∀u y,y≠("s":Str)→∀z,fr.lookup y=aa z→(fr.put "s" u).lookup y=aa z:=λu y hy z e=>by rw[gj,aK hy];exact e
 cases hw:es.lookup (.str x) with
 |some v=>
  obtain⟨y,hy,e1,e2,e3⟩|⟨_,_,_,_,z,_⟩:=C.ent _ _ hw
  ·obtain rfl:=Mine.Internal.SV.str.inj e1
   refine xE (zP.mp e3) λds hT=>?_;have nd:=C.node x hy [] ds hT;have hd:h (cI x [])=aa (.dict ds):=by rw[C.heap x hy _,hT];rfl
   have ne:(!ds.isEmpty)=ab:=by cases ds with|nil=>exact bc rfl (nd.1.resolve_right id)|cons _ _=>rfl
   refine bM (g9 (a_ (n_ f1) w.tb) (jo C.ca) rfl (aB (n_ f3) aL) (vB C.ca hw)) ?_;have Sv:ds.length≤1000:=GJ.nd (s:=⟨[],T,ds,h.set (gN N) (.list [])⟩) (j:=0) (N:=N) (aA:=h) (aN:=N) (I:=I) ⟨rfl,w.g,(C.mono (od (ar _)) (ar _) (λ_=>rfl) rfl).move λ_ _ z=>z.elim,hT,aS,.LA (ar _),od (ar _)⟩ hy;subst e2;refine cf (fz (t:=ab) (p_ (n_ (v:=.ref (cI x [])) (by rw[gj,aP rfl])) (ne▸zq hd (bd ‹_› bg)))) (aH ?_);exact MI A w (C.move λ_ _ z=>z.elim) hT hU ⟨λ_ _ _ _ _ _ _=>rfl,.rfl⟩ hk hn (g _ _ aW _ f1) (g _ _ aW _ f2) (g _ _ aW _ f3) (by rw[gj,aP rfl])
  ·exact nomatch z
 |none=>
  have hT:T x []=af:=by
   cases e:T x [] with
   |none=>rfl
   |some ds=>have:=C.root x A.hx (by rw[e];rfl);rw[hw] at this;exact a7 this
  have hz:h (cI x [])=af:=by rw[C.heap x A.hx _,hT];rfl
  refine bM (g9 (a_ (n_ f1) w.tb) (jo C.ca) rfl (aB (n_ f3) aL) (vp C.ca hw)) ?_;refine cT (fz (t:=an) (p_ (n_ (v:=.none) (by rw[gj,aP rfl])) nu)) ?_;refine bM (gR hz) ?_;have g2:∀u y,y≠("s":Str)→∀z,fr.lookup y=aa z→((fr.put "s" .none).put "s" u).lookup y=aa z:=λu y hy z e=>by rw[gj,aK hy];exact g _ y hy z e
  refine eu (n:=jn) (es:=es) (n_ (v:=.ref (cI x [])) (by rw[gj,aP rfl])) (a_ (n_ (g2 _ _ aW _ f1)) w.tb) (n_ (g2 _ _ aW _ f3)) ((aq λe=>by injection e with e;cases e).trans C.ca) (by refine(?_:_≤2^24);exact ah bu (ah (e6 (pB _ hU) _) aJ)) (aH ?_);exact MI A w.Ch.Oe (C.Wy A.hx hT) DT hU (Kp.trans (M:=N) .C6 .RB (ar _)) hk hn (g2 _ _ aW _ f1) (g2 _ _ aW _ f2) (g2 _ _ aW _ f3) (by rw[gj,aP rfl])
theorem o0.up{hx:SH}(kp:Kp N h hx)(hM:N≤M)(g:o0 R U M hx ps v h'):o0 R U N h ps v h':=by
 refine uq g λL c M' g=>?_;exact⟨L,c,M',g.res,g.told,g.w,ah hM g.le,kp.trans g.kp hM⟩
theorem Kp.bX{g:SH}:Kp N h (h.bX N g):=⟨λk l h1 h2 h3 h4 h5=>aK λz=>by refine xE (ym.mp z) λl z=>?_;injection z with z;exact h5 z,lB (ar _)⟩
theorem y4(hb:i.b=b+2)(A:kH R U x I)(W:cX R U c N h)(hk:k<N)(hn:h (gN k)=aa (.list (I.map a9))):FP i h (.glob 347) [.ref dg,.ref (gN k),.str x] (o0 R U N h (cG R I x)):=by
 refine enter i.K.goto MY w_go hb rfl ?_;obtain⟨w,⟨T,es,C⟩,hU⟩:=W;have key:SV.key 6 (.tup [df I,.str x])=ab:=by show(SV.key 5 (df I) && (SV.key 5 (.str x) && ab))=ab;rw[se];rfl
 have P:FP ((oM i b).dn (b+1)) h (.glob 318) [.ref (gN k)] (is (df I) (h.bX N (eP N I h))):=tX (b:=b) rfl (.inr (aU _ rfl hn)) A.ok w.it w.free (by have:=A.len;exact ah ‹_› aJ);have C1:eE R U (N+1) (h.bX N (eP N I h)) (λ_ _=>False) T es:=C.mono (lB (ar _)) (bR _) (λ_=>rfl) rfl;have CN:(h.bX N (eP N I h)) (gN k)=aa (.list (I.map a9)):=(lB (ar _) k [] hk).trans hn;have rest:∀v,SS (oM i b) (SF.put [("self",.ref dg),("I",.ref (gN k)),("x",.str x)] "g" v) (h.bX N (eP N I h)) [(ba 347).drop 2] (λf _ h'=>o0 R U N h (cG R I x) f.val h'):=λv=>by
  exact(X2 (i:=i) (b:=b) (fr:=SF.put [("self",.ref dg),("I",.ref (gN k)),("x",.str x)] "g" v) A w.bX C1 hU (ah ‹_› (b6 _ _):k<N+1) CN rfl rfl rfl).imp λf fr h q=>q.up .bX (bR _)
 cases hw:es.lookup (.tup [df I,.str x]) with
 |some v=>
  obtain⟨_,_,z,_⟩|⟨I',hI',y,hy,e1,L,res,told⟩:=C1.ent _ _ hw
  ·cases z
  ·injection e1 with e1;injection e1 with e1 e2;injection e2 with e2;injection e2 with e2
   cases DY e1
   subst e2;refine bM (g9 (a_ n_ w.tb) (jo C1.ca) rfl (aB (eY (aB (b8 (i.K.ref rfl) (i.K.keep rfl) (aB n_ aL) P.cp) (aB n_ aL))) aL) (vB C1.ca hw key)) ?_;have RN:=res.len (ah vq A.len) w.hR
   by_cases hL:L=[]
   ·subst hL
    exact cf (p_ n_ (t:=an) (wr told (b_ _))) (aH (rest v))
   ·have ne:(!L.isEmpty)=ab:=by cases L with|nil=>exact bc rfl hL|cons _ _=>rfl
    exact cT (p_ n_ (t:=ab) (ne▸wr told (ah ‹_› aJ))) (gJ n_ ⟨L,c,N+1,res,told,⟨w.bX,(ud T es C1),hU⟩,bR _,.bX⟩)
 |none=>
  refine bM (g9 (a_ n_ w.tb) (jo C1.ca) rfl (aB (eY (aB (b8 (i.K.ref rfl) (i.K.keep rfl) (aB n_ aL) P.cp) (aB n_ aL))) aL) (vp C1.ca hw key)) ?_;exact cf (p_ n_ (t:=an) nu) (aH (rest .none))
noncomputable def vi{α:Type}[DecidableEq α]:Nat→List α→List (List α)
 |0,_=>[[]]
 |n+1,K=>[]::K.flatMap λq=>(vi n (K.erase q)).map (q::·)
theorem Li{α:Type}[DecidableEq α]:∀{n:Nat} {K ps:List α},ps.Nodup→ps ⊆ K→K.length≤n→ps∈vi n K
 |0,K,ps,_,hs,hn=>by
  have:K=[]:=aiq.mp (It.mp hn);subst this;rw[List.subset_nil.mp hs];exact bS.mpr rfl
 |n+1,K,[],_,_,_=>dA
 |n+1,K,q::r,nd,hs,hn=>by
  refine eT _ (sK.mpr (aU q (hs dA) (bB.mpr (aU r (Li (lh.mp nd).2 (λx hx=>?_) ?_) rfl))))
  ·exact(List.mem_erase_of_ne λe=>(lh.mp nd).1 (by rw[←e];exact hx)).mpr (hs (eT _ hx))
  ·rw[aiz (hs dA)];exact QG hn
noncomputable def cnt:Nat→Nat
 |0=>1
 |n+1=>1+(n+1)*cnt n
theorem Mf{α:Type}[DecidableEq α]:∀{n:Nat} {K:List α},K.length=n→(vi n K).length=cnt n
 |0,_,_=>rfl
 |n+1,K,hn=>by
  have:(K.map λq=>((vi n (K.erase q)).map (q::·)).length)=uH K.length (cnt n):=by
   rw[←aiw];exact aix λq hq=>by rw[aI _];exact Mf (by rw[aiz hq];exact Nat.sub_eq_of_eq_add hn)
  rw[vi,iE,QT,this,aiy,hn,cnt,sp _ _]
noncomputable def rG(R:bm):List aF:=(bo R.length).tail.flatMap λj=>(bo (aG R j).length).map λd=>(j,d+1)
theorem Ay{n j:Nat}:j∈(bo n).tail↔0<j∧j<n:=by
 cases n with
 |zero=>exact⟨λh=>(cS h),λh=>bc h.2 (m5 _)⟩
 |succ n=>
  rw[Qz,List.tail_cons,propext bB]
  constructor
  ·rintro⟨a,ha,rfl⟩;exact⟨dK _,pC (dR.mp ha)⟩
  ·rintro⟨h1,h2⟩;exact(aU (j-1) (dR.mpr (Nat.sub_lt_right_of_lt_add (sH h1) h2)) (by show j-1+1=j;exact qT ‹_›))
theorem xh{R:bm}{q:aF}:q∈rG R↔0<q.1∧q.1<R.length∧0<q.2∧q.2≤(aG R q.1).length:=by
 constructor
 ·intro h
  refine aj (sK.mp h) λj hj h=>?_;refine aj (bB.mp h) λd hd ax=>?_;subst ax;exact(oW ((Ay.mp hj).1) ((Ay.mp hj).2) (dK _) (dR.mp hd))
 ·rintro⟨h0,h1,h2,h3⟩
  exact sK.mpr (aU q.1 (Ay.mpr ⟨h0,h1⟩) (bB.mpr (aU (q.2-1) (dR.mpr (bI (sn ‹_› pf) ‹_›)) (by obtain⟨a,b⟩:=q;exact ay (a,·) (by dsimp only at h2 ⊢;exact qT ‹_›)))))
noncomputable def Fs(R:bm)(ps:List aF):List aF:=open Classical in if h:∃L,dF R ps L then ag9 h else []
theorem ad6{R:bm}{ps L:List aF}(h:dF R ps L):Fs R ps=L:=by
 unfold Fs;rw[dif_pos ⟨L,h⟩];exact(Qs (⟨L,h⟩:∃L,dF R ps L)).det h
def St(R:bm)(L:List aF):Prop:=∃ps,ps≠[]∧dF R ps L∧(ps=[(0,0)]∨ps=[(0,1)]∨(ps.Nodup∧ps ⊆ rG R))
noncomputable def gz(R:bm):List (List aF):=([(0,0)]::[(0,1)]::vi (rG R).length (rG R)).map (Fs R)
theorem St.mem{R:bm}{L:List aF}:St R L→L∈gz R:=λ⟨ps,_,r,h⟩=>by
 refine bB.mpr (aU ps ?_ (ad6 r));rcases h with rfl|rfl|⟨a,b⟩
 ·exact dA
 ·exact eT _ dA
 ·exact eT _ (eT _ (Li a b (ar _)))
structure GR(R:bm):Prop where
 len:R.length≤5
 pos:0<R.length
 yl:bE R 0="S'"
 pI:aG R 0=([("S":Str)]:List Str)
 rG:(rG R).length≤8
 nm:∀j,0<j→j<R.length→bE R j="S"∨bE R j="A"∨bE R j="B"
 bu:∀j,(aG R j).length≤2
 sy:∀j s,0<j→s∈aG R j→s∈(["a","A","b","B","error"]:List Str)
 all:∀s∈(["S","A","B"]:List Str),∃j,0<j∧j<R.length∧bE R j=s
theorem X6:∀m<9,cnt m≤109601:=by decide +kernel
theorem EU(g:GR R):(gz R).length≤109603:=by
 unfold gz;rw[aI _,iE,iE,Mf rfl];exact eG (eG (X6 _ (lb g.rG)))
theorem St.from(h:St R L)(g:GR R):∃ps,ps≠[]∧dF R ps L∧ps.Nodup∧ps.length≤8∧(∀q∈ps,cY R q)∧(ps=[(0,0)]∨∀q∈ps,0<q.2):=by
 obtain⟨ps,h1,h2,rfl|rfl|⟨h3,h4⟩⟩:=h
 ·exact(yG _ h1 h2 (ko _ _) aJ (λq hq=>by rw[bS.mp hq];exact⟨g.pos,b_ _⟩) (.inl rfl))
 ·exact(yG _ h1 h2 (ko _ _) aJ (λq hq=>by rw[bS.mp hq];exact⟨g.pos,by show 1≤(aG R 0).length;rw[g.pI];exact ar _⟩) (.inr λq hq=>by rw[bS.mp hq];exact pf))
 ·exact(yG ps h1 h2 h3 (ah (fO h3 h4) g.rG) (λq hq=>⟨(xh.mp (h4 hq)).2.1,(xh.mp (h4 hq)).2.2.2⟩) (.inr λq hq=>(xh.mp (h4 hq)).2.2.1))
theorem St.ok(h:St R L)(g:GR R):∀q∈L,cY R q:=by
 refine PC (h.from g) λps _ r _ _ ok _=>?_;exact r.ok ok
theorem dF.add(r:dF R ps L):∃x:List Nat,L=ps++x.map (·,0)∧x.Nodup∧∀y∈x,y<R.length∧∃q∈L,y∈dO R q:=by
 rcases r with⟨rfl,rfl⟩|⟨_,ad,C⟩
 ·exact(cL ([]) rfl .nil (λ_ h=>by exact cS h))
 ·refine aj C.prop.1.ext λx e e2=>?_
  have e2:ad=x:=by rw[e2];rfl
  subst e2;exact(cL ad e (C.prop.1.nd .nil) (λy hy=>by
   rcases C.prop.1.src y hy with z|⟨q,hq,z⟩
   ·exact cS z
   ·exact(q9 (y3 z) q hq z)))
theorem St.len(h:St R L)(g:GR R):L.length≤14:=by
 refine jC (h.from g) λps _ r _ l _=>?_;obtain⟨x,e,nd,s⟩:=r.add;have:=fO nd (l₂:=bo R.length) λy hy=>dR.mpr (s y hy).1;rw[dS] at this;rw[e,cU,aI _];exact fp l (ah ‹_› (c8 g.len))
theorem UD{q:aF}{y:Nat}(h:y∈dO R q):0<y:=by
 unfold dO at h
 split at h
 ·exact cS h
 ·have:=(m9.mp h).2
  rw[bO,h_] at this;exact oh this.1
theorem St.nd(h:St R L)(g:GR R):L.Nodup:=by
 refine PC (h.from g) λps _ r nd _ _ hk=>?_;obtain⟨x,e,nx,s⟩:=r.add;rw[e,propext lq];refine(cF nd (Iz _ (λa b z e=>z (ay m6 e)) nx) (λa ha b hb e=>?_));subst e;refine aj (bB.mp hb) λy hy ax=>?_;subst ax;rcases hk with rfl|hk
 ·have:=bS.mp ha
  injection this with this;refine aj ((s y hy).2) λq _ z=>?_;have:=UD z;exact dG ‹_› ‹_›
 ·exact bc (hk _ ha) (fo _)
theorem Sl{q q' p:aF}(h:jB R x q=aa p)(h':jB R x q'=aa p):q=q':=by
 unfold jB at h h';obtain⟨a,c⟩:=q;obtain⟨a',c'⟩:=q'
 split at h<;>cases h
 split at h'<;>cases h'
 rfl
theorem Gu{I:List aF}(h:I.Nodup):(cG R I x).Nodup:=by
 unfold cG
 induction I with
 |nil=>exact .nil
 |cons q r ih=>
  refine xA (lh.mp h) λh1 h2=>?_;rw[qP]
  split
  ·exact ih h2
  ·next p e=>
   refine lh.mpr ⟨λz=>?_,ih h2⟩;refine aj (gQ.mp z) λq' hq e'=>?_;exact h1 (Sl e e'▸hq)
theorem Fw{I:List aF}{p:aF}(h:∀q∈I,cY R q)(hp:p∈cG R I x):p.1<R.length∧0<p.2∧p.2≤(aG R p.1).length∧(aG R p.1)[p.2-1]? =aa x:=by
 refine aj (gQ.mp hp) λq hq e=>?_;unfold jB at e
 split at e
 ·next z=>obtain rfl:=aY e;exact(oW ((h q hq).1) (dK _) ((cV.mp z).1) z)
 ·exact a7 e
theorem St.next{L':List aF}(h:St R L)(g:GR R)(r:dF R (cG R L x) L')(hL:L'≠[]):St R L':=by
 have ne:cG R L x≠[]:=λe=>hL (r.nil.mpr e);refine⟨_,ne,r,?_⟩
 by_cases hx:x="S"
 ·refine .inr (.inl ?_)
  have all:∀p∈cG R L x,p=(0,1):=λp hp=>by
   refine mv (Fw (h.ok g) hp) λa c d e=>?_;rcases sJ p.1 with z|z
   ·rw[z,g.pI] at d
    have:p.2=1:=qQ d c;obtain⟨u,w⟩:=p;exact jw z this
   ·have:=g.sy p.1 x z (bN e)
    rw[hx] at this;exact bc this aW
  have nd:=Gu (R:=R) (x:=x) (h.nd g)
  cases hm:cG R L x with
  |nil=>exact bc hm ne
  |cons p t=>
   rw[hm] at all nd
   cases t with
   |nil=>rw[all p dA]
   |cons p' t'=>
    exact bc dA ((all p' (eT _ dA))▸(all p dA)▸(lh.mp nd).1)
 ·refine .inr (.inr ⟨Gu (h.nd g),λp hp=>?_⟩)
  refine mv (Fw (h.ok g) hp) λa c d e=>?_;refine xh.mpr (oW (oh λz=>hx ?_) a c d);have:=bN e;rw[z,g.pI] at this;exact bS.mp this
theorem St.first{L' L0:List aF}(h:St R L)(g:GR R)(r:dF R (cG R L x) L')(hL:L'≠[])(h0:dF R [(0,0)] L0):L'≠L0:=λe=>by
 obtain⟨a,e1,_⟩:=r.add;obtain⟨c,e2,_⟩:=h0.add
 cases hm:cG R L x with
 |nil=>exact(λz=>hL (r.nil.mpr z):cG R L x≠[]) hm
 |cons p t=>
  rw[e1,e2,hm] at e;injection e with e _;have:=(Fw (R:=R) (x:=x) (h.ok g) (p:=p) (by rw[hm];exact dA)).2.1;rw[e] at this
  cases this
theorem St.one(h:St R L)(g:GR R)(hm:(0,1)∈L):L=[(0,1)]:=by
 refine bH h λps _ r hk=>?_;clear h;obtain⟨a,e,_,hs⟩:=r.add;have et:(0,1)∈ps:=by
  rw[e] at hm;refine(dw.mp hm).resolve_right λz=>?_;refine aj (bB.mp z) λy _ z=>?_;injection z with _ z
  cases z
 rcases hk with rfl|rfl|⟨_,hk⟩
 ·have:=bS.mp et;cases this
 ·refine dF.det r (.inr ⟨by exact IA _ _,[],eV.same λi q _ hq y hy=>?_⟩)
  rw[bS.mp (bN hq)] at hy;have:dO R (0,1)=[]:=by unfold dO;rw[show(aG R (0,1).1)[(0,1).2]? =af from by rw[show aG R (0,1).1=aG R 0 from rfl,g.pI];rfl]
  rw[this] at hy;exact cS hy
 ·exact bc (xh.mp (hk et)).1 (fo _)
noncomputable def d_(s:bx):List bx:=(kS s).1
noncomputable def xL(s:bx):List bx:=(kS s).2.1
noncomputable def iR:Nm:=.mk 33 []
noncomputable def fL:Nat→List (List aF)→b7
 |_,[]=>[]
 |n,L::r=>(df L,.int n)::fL (n+1) r
theorem FE:∀{S:List (List aF)} {n:Nat} {k:SV},k∈(fL n S).map (·.1)↔∃L∈S,k=df L
 |[],n,k=>⟨λh=>(cS h),λ⟨_,h,_⟩=>(cS h)⟩
 |L::r,n,k=>by
  rw[fL,sI,propext dE,propext FE]
  constructor
  ·rintro(h|⟨L',h,e⟩)
   ·exact(aU L dA h)
   ·exact(aU L' (eT _ h) e)
  ·rintro⟨L',h,e⟩
   rcases dE.mp h with rfl|h
   ·exact .inl e
   ·exact .inr (aU L' h e)
theorem N7:∀{S:List (List aF)} {n:Nat} {L:List aF},fL n (S++[L])=fL n S++[(df L,.int (n+S.length:Nat))]
 |[],n,L=>rfl
 |M::r,n,L=>by
  rw[ai0,fL,fL,N7,ai0,iE,show n+1+r.length=n+(r.length+1) from uA n 1 r.length]
theorem Ot:∀{S:List (List aF)} {n:Nat},(fL n S).length=S.length
 |[],_=>rfl
 |_::r,n=>ay (· +1) Ot
theorem Cf:∀{S:List (List aF)} {n:Nat} {L:List aF} {v:SV},(fL n S).lookup (df L)=aa v→∃j,S[j]? =aa L∧v=.int (n+j:Nat)
 |[],n,L,v,h=>by(first|exact a7 h|obtain rfl:=aY h)
 |M::r,n,L,v,h=>by
  rw[fL,k_] at h
  cases e:df L==df M with
  |true=>
   rw[e] at h;(first|exact a7 h|obtain rfl:=aY h);have:=DY (eq_of_beq e);exact(aU 0 (by rw[this];rfl) rfl)
  |false=>
   rw[e] at h;refine aj (Cf h) λj a b=>?_;exact(aU (j+1) a (by rw[b,show n+1+j=n+(j+1) from uA n 1 j]))
structure s_(R:bm)(U:List (List aF))(c:Int)(N:Nat)(h:SH)(P:List (Nat×List aF)):Prop where
 w:cX R U c N h
 jV:h iR=aa (.dict (fL 0 (P.map (·.2))))
 nd:(P.map (·.2)).Nodup
 each:∀p∈P,p.1<N∧h (gN p.1)=aa (.list (p.2.map a9))∧St R p.2
 hU:gz R ⊆ U
def Kq(B:List Nat)(N:Nat)(h h':SH):Prop:=(∀k l,(99::B).contains k=an→h' (.mk k l)=h (.mk k l))∧fA N h h'
variable{c':Int}{P:List (Nat×List aF)}
variable{B:List Nat}
theorem iz{a k:Nat}{B:List Nat}(h:B.contains k=an)(ha:B.contains a=ab):k≠a:=λe=>by rw[e,ha] at h;exact iY h
theorem sO{L L':List Nat}{k:Nat}(hk:L'.contains k=an)(h:autoParam (L.all L'.contains=ab) bl):L.contains k=an:=DC.mpr λz=>iz hk (dc.mp h k (e9.mp z)) (Eq.refl _)
theorem VE{L L':List Nat}{k:Nat}(hk:k∈L)(h:autoParam (L.all L'.contains=ab) bl):k∈L':=e9.mp (dc.mp h k hk)
theorem mK{L L':List Nat}{k:Nat}(hk:k∈L)(h:autoParam ((L.all λk=>!L'.contains k)=ab) bl):L'.contains k=an:=(jL _).mp (dc.mp h k hk)
theorem sQ{L l l':List Nat}{a:Nat}{o:cy}(hk:L.contains k=an)(ha:autoParam (L.contains a=ab) bl):(h.set (.mk a l') o) (.mk k l)=h (.mk k l):=aq λe=>iz hk ha (Nm.mk.inj e).1
theorem Kp.q(a:Kp N h h')(hB:autoParam (([10,30,31,32,99]:List Nat).all (99::B).contains=ab) bl):Kq B N h h':=⟨λk l hk=>
 have f:=λx hx=>iz hk (dc.mp hB x hx)
 a.1 k l (f _ (.head _)) (f _ (.tail _ (.head _))) (f _ (.tail _ (.tail _ (.head _)))) (f _ (.tail _ (.tail _ (.tail _ (.head _))))) (f _ (.tail _ (.tail _ (.tail _ (.tail _ (.head _)))))),a.2⟩
theorem Kq.trans{mF:SH}(a:Kq B N h h')(b:Kq B M h' mF)(hM:N≤M):Kq B N h mF:=⟨λk l hk=>(b.1 k l hk).trans (a.1 k l hk),a.2.trans b.2 hM⟩
theorem Kq.same:Kq B N h h:=⟨λ_ _ _=>Eq.refl _,.rfl⟩
theorem Kq.set{k:Nat}{l:List Nat}{o:cy}(hk:autoParam ((B.contains k && k !=99)=ab) bl):Kq B N h (h.set (.mk k l) o):=by
 rw[bO,bne_iff_ne] at hk;exact⟨λk' l' h1=>aq λe=>by injection e with e;subst e;exact iz h1 (by rw[w8,hk.1,HW _]) rfl,λk' l' _=>aq λe=>by injection e with e;exact hk.2 e.symm⟩
theorem Kq.new{o:cy}{l:List Nat}(hM:N≤M):Kq B N h (h.set (.mk 99 (M::l)) o):=⟨λk l' hk=>aq λe=>by injection e with e;exact iz hk (by subst e;rfl) rfl,od hM⟩
theorem Kq.bX{g:SH}(hM:N≤M):Kq B N h (h.bX M g):=⟨λk l hk=>aK λz=>by refine xE (ym.mp z) λl z=>?_;injection z with z;exact iz hk (by subst z;rfl) rfl,lB hM⟩
theorem Kq.mono{B':List Nat}(a:Kq B N h h')(hB:autoParam (B.all (99::B').contains=ab) bl):Kq B' N h h':=⟨λk l hk=>a.1 k l (sO hk ((bO _ _).mpr ⟨Eq.refl _,hB⟩)),a.2⟩
noncomputable def y7:List Nat:=[10,20,30,31,32,40,42]
theorem cX.set{o:cy}{l:List Nat}(w:cX R U c N h)(hk:autoParam (((99::y7).contains k)=an) dI):cX R U c N (h.set (.mk k l) o):=by
 have ne:∀{a:Nat} {l':List Nat},(99::y7).contains a=ab→(h.set (.mk k l) o) (.mk a l')=h (.mk a l'):=λha=>aq λe=>iz hk ha (Nm.mk.inj e).1.symm;exact⟨⟨w.tb.free.same λ_ _ _=>ne rfl,λq hq=>(cF ((ne rfl).trans (w.tb.it q hq).1) ((ne rfl).trans (w.tb.it q hq).2.1) ((ne rfl).trans (w.tb.it q hq).2.2)),λj hj=>by refine aj (w.tb.pr j hj) λx e l=>?_;exact(aU x ((ne rfl).trans e) l),(ne rfl).trans w.tb.tb,w.tb.hc,w.tb.hR,w.tb.hr⟩,
  w.ca.imp λT ⟨es,C⟩=>⟨es,C.mono (λ_ _ _=>ne rfl) (ar _) (λ_=>ne rfl) (ne rfl)⟩,w.hU⟩
theorem cX.bX{g:SH}(w:cX R U c N h):cX R U c (N+1) (h.bX N g):=
 ⟨w.tb.bX,w.ca.imp λT ⟨es,C⟩=>⟨es,C.mono (lB (ar _)) (bR _) (λ_=>rfl) rfl⟩,w.hU⟩
theorem cX.new{o:cy}(w:cX R U c N h):cX R U c (N+1) (h.set (gN N) o):=
 ⟨w.tb.g,w.ca.imp λT ⟨es,C⟩=>⟨es,C.mono (od (ar _)) (bR _) (λ_=>rfl) rfl⟩,w.hU⟩
noncomputable def oQ(p:Nat×List aF):SV:=.ref (gN p.1)
noncomputable def g8:Nm:=.mk 56 []
noncomputable def ir(n:Nat):Nm:=.mk 57 [n]
noncomputable def rt:List Nat:=[10,30,31,32,33,56,57]
structure IS where
 P:List (Nat×List aF)
 n:Nat
 c:Int
 N:Nat
 h:SH
structure lF(R:bm)(U:List (List aF))(aN:Nat)(aA:SH)(s:IS):Prop where
 it:s_ R U s.c s.N s.h s.P
 C:s.h g8=aa (.list (s.P.map oQ))
 A:∀j,s.n≤j→s.h (ir j)=af
 kq:Kq rt aN aA s.h
 le:aN≤s.N
 first:∃k L0 r,s.P=(k,L0)::r∧dF R [(0,0)] L0
noncomputable def Ο(s:IS):SF:=[("self",.ref dg),("C",.ref g8),("i",.int s.n)]
noncomputable def oC(n:Nat)(k:Nat):SF:=[("self",.ref dg),("C",.ref g8),("i",.int ((n+1:Nat):Int)),("I",.ref (gN k)),("asyms",.ref (ir n))]
noncomputable def Ow:List Str:=["self","C","i","I","asyms","ii","s","x","g"]
theorem OA:cq (bC 354) Ow=ab:=by kernel_rfl
theorem w_it:cZ (bC 354) ["_place","len"]=ab:=by kernel_rfl
noncomputable def wx(i:FI)(b:Nat):FI:=i.fn (b+2) 354 Ow ["_place","len"] OA w_it
theorem s_.bu(w:s_ R U c N h P)(hU:U.length≤2000000):P.length≤U.length:=by
 have:=fO w.nd (l₂:=U) λL hL=>by refine aj (bB.mp hL) λp hp ax=>?_;subst ax;exact w.hU (w.each p hp).2.2.mem
 rwa [aI] at this
theorem St.go(s:St R I)(g:GR R)(hU:gz R ⊆ U)(hx:x∈Sy):kH R U x I:=⟨s.ok g,ah (s.len g) aJ,hU s.mem,hx⟩
theorem s_.step(w:s_ R U c N h P)(W:cX R U c' M h')(kp:Kq rt N h h')(e:h' iR=h iR)(le:N≤M):s_ R U c' M h' P:=
 ⟨W,e.trans w.jV,w.nd,λp hp=>(cF (bI (w.each p hp).1 le) ((kp.2 p.1 [] (w.each p hp).1).trans (w.each p hp).2.1) ((w.each p hp).2.2)),w.hU⟩
theorem Ε{u:List Str}:∀{l:List Str} {s:Str},s∈l.foldl (λu s=>if s∈u then u else u++[s]) u→s∈u∨s∈l:=by
 intro l
 induction l generalizing u with
 |nil=>exact λh=>.inl h
 |cons a r ih=>
  intro s h;rcases ih h with h|h
  ·dsimp only at h
   split at h
   ·exact .inl h
   ·rcases dw.mp h with h|h
    ·exact .inl h
    ·exact .inr (by rw[bS.mp h];exact dA)
  ·exact .inr (eT _ h)
theorem GR.qq(g:GR R){j:Nat}{s:Str}(h:s∈qq R j):s∈Sy:=by
 have h:=(Ε h).resolve_left (λh=>by exact cS h);rcases sJ j with rfl|hj
 ·rw[g.pI,bS] at h;subst h;exact aW
 ·have:∀s∈(["a","A","b","B","error"]:List Str),s∈Sy:=aW
  exact this s (g.sy j s hj h)
def iA(es:b7):Prop:=(es.map (·.1)).Nodup∧∀k∈es.map (·.1),∃x∈Sy,k=.str x
theorem iA.put{es:b7}{s:Str}(a:iA es)(hs:s∈Sy):iA (bj es (.str s) .none):=⟨o9 a.1,λk hk=>by
 rcases(wH k).mp hk with rfl|hk
 ·exact(aU s hs rfl)
 ·exact a.2 k hk⟩
theorem iA.str{es:b7}(a:iA es):oV es=ab:=dc.mpr λp hp=>by
 refine aj (a.2 p.1 (bB.mpr (aU p hp rfl))) λx _ e=>?_;rw[e]
theorem iA.len{es:b7}(a:iA es):es.length≤7:=by
 have:=fO a.1 (l₂:=Sy.map SV.str) λk hk=>by refine aj (a.2 k hk) λx hx e=>?_;exact bB.mpr (aU x hx e.symm)
 rwa [aI] at this
theorem lF.go{aA:SH}{aN:Nat}{s:IS}(J:lF R U aN aA s){B:List Nat}(W:cX R U c' M h')(kp:Kq B s.N s.h h')(le:s.N≤M)(hB:autoParam ((B.all (99::rt).contains && !B.contains 33 && !B.contains 56 && !B.contains 57)=ab) bl):lF R U aN aA ⟨s.P,s.n,c',M,h'⟩:=by
 simp only[bO,jL] at hB;obtain⟨⟨⟨h1,h2⟩,h3⟩,h4⟩:=hB;have k2:Kq rt s.N s.h h':=kp.mono h1;have f:∀{k l},B.contains k=an→k≠99→h' (.mk k l)=s.h (.mk k l):=λ{k l} e n=>kp.1 k l (by rw[w8,e,Bool.or_false _];exact k9.mpr n);exact⟨J.it.step W k2 (f h2 bG) le,(f h3 bG).trans J.C,λj hj=>(f h4 bG).trans (J.A j hj),J.kq.trans k2 J.le,ah J.le le,J.first⟩
theorem lF.add{aA:SH}{aN n:Nat}(J:lF R U aN aA ⟨P,n,c,N,h⟩)(jc:L∉P.map (·.2))(hk:k<N)(hv:h (gN k)=aa (.list (L.map a9)))(S:St R L):
  lF R U aN aA ⟨P++[(k,L)],n,c,N,(h.set iR (.dict (bj (fL 0 (P.map (·.2))) (df L) (.int ((P.map oQ).length:Nat))))).set g8 (.list (P.map oQ++[.ref (gN k)]))⟩:=by
 have GL:bj (fL 0 (P.map (·.2))) (df L) (.int ((P.map oQ).length:Nat))=fL 0 ((P++[(k,L)]).map (·.2)):=by
  rw[Ja (λz=>by refine aj (FE.mp z) λL' AM e=>?_;exact jc (DY e▸AM)),dN];refine Eq.trans ?_ N7.symm;rw[aI _,aI _,mZ _]
 have g:∀m,((h.set iR (.dict (bj (fL 0 (P.map (·.2))) (df L) (.int ((P.map oQ).length:Nat))))).set g8 (.list (P.map oQ++[.ref (gN k)]))) (gN m)=h (gN m):=λm=>rfl;refine⟨⟨(J.it.w.set (k:=33) (l:=[])).set,ay (λz=>aa (cy.dict z)) GL,?_,λp' bV=>?_,J.it.hU⟩,?_,λj hj=>J.A j hj,(J.kq.trans (M:=N) Kq.set J.le).trans (M:=N) Kq.set J.le,J.le,?_⟩
 ·rw[dN]
  exact lq.mpr (cF J.it.nd (ko _ _) (λa ha b hb e=>jc (by have:=bS.mp hb;rw[e,this] at ha;exact ha)))
 ·rcases dw.mp bV with q|q
  ·exact J.it.each p' q
  ·rw[bS.mp q]
   exact(cF hk hv S)
 ·show aa (cy.list (P.map oQ++[.ref (gN k)]))=_
  rw[dN];rfl
 ·obtain⟨k0,L0,r,e,z⟩:=J.first
  exact⟨k0,L0,(r++[(k,L)]),(by rw[show P=(k0,L0)::r from e];rfl),z⟩
theorem YH{aA:SH}{aN:Nat}{n:Nat}{p:Nat×List aF}{es:b7}{Q:QS}(g:GR R)(hU:U.length≤2000000)(J:lF R U aN aA ⟨P,n+1,c,N,h⟩)(hp:p∈P)(hx:x∈Sy)(as:h (ir n)=aa (.dict es))
  (fin:∀P' c' N' h' fr,lF R U aN aA ⟨P',n+1,c',N',h'⟩→P.length≤P'.length→p∈P'→h' (ir n)=aa (.dict es)→(oC n p.1).sub fr→Q .next fr h'∧Q .cont fr h'):
  SS (wx i b) ((oC n p.1).put "x" (.str x)) h [d_ (stN (d_ (stN (ba 354) 4)) 4)] Q:=by
 have E:=J.it.each p hp;refine kG (dp n_ (iU J.it.w.tb.tb rfl) (i.K.keep rfl) (aB n_ (aB n_ aL)) (y4 (b:=b) rfl (E.2.2.go g J.it.hU hx:kH R U x p.2) J.it.w E.1 E.2.1).cp) ?_;rintro v h2 ⟨L,c',M,G⟩;have kp:Kq [10,30,31,32] N h h2:=G.kp.q;have J2:=J.go G.w kp G.le;have GC:∀{fr:SF},(oC n p.1).sub (((oC n p.1).put "x" (.str x)).put "g" v):=ai (ai (ai (ai (ai br))));have CM:h2 (ir n)=aa (.dict es):=(kp.1 _ _ rfl).trans as
 by_cases hL:L=[]
 ·subst hL
  refine cT (zg (fz (t:=an) (p_ n_ (wr G.told (b_ _))))) (Fe (fin P c' M h2 _ J2 (ar _) hp CM (GC (fr:=[]))).2)
 ·have S2:St R L:=E.2.2.next g G.res hL
  have ne:(!L.isEmpty)=ab:=by cases L with|nil=>exact bc rfl hL|cons _ _=>rfl
  have IQ:=S2.len g;have tv:=wr (i:=wx i b) G.told (ah ‹_› aJ);have pl:FP ((wx i b).dn (b+2)) h2 (.glob 318) [v] (is (df L) (h2.bX M (eP M L h2))):=tX (b:=b+1) rfl (G.told.told:Told h2 v L) (S2.ok g) G.w.tb.it G.w.tb.free (ah ‹_› aJ);have J3:=J2.go (B:=[]) (c':=c') (M:=M+1) (h':=h2.bX M (eP M L h2)) G.w.bX (.bX (ar _)) (bR _)
  by_cases jc:L∈P.map (·.2)
  ·have:((fL 0 (P.map (·.2))).lookup (df L)).isSome=ab:=by
    cases e:(fL 0 (P.map (·.2))).lookup (df L) with
    |some _=>rfl
    |none=>exact bc (FE.mpr (aU L jc rfl)) (lW.mp e)
   refine cT (qa (fz (t:=ab) (p_ n_ (ne▸tv))) (zg (bt (b8 (i.K.ref rfl) (i.K.keep rfl) (aB n_ aL) pl.cp) (a_ n_ J3.it.w.tb.tb) (this▸qh J3.it.jV se)))) (Fe (fin P c' (M+1) _ _ J3 (ar _) hp CM (GC (fr:=[]))).2)
  ·have:((fL 0 (P.map (·.2))).lookup (df L)).isSome=an:=by
    cases e:(fL 0 (P.map (·.2))).lookup (df L) with
    |none=>rfl
    |some v=>
     refine aj (Cf e) λj e _=>?_;exact bc (bN e) jc
   refine cf (qa (fz (t:=ab) (p_ n_ (ne▸tv))) (qa (bt (b8 (i.K.ref rfl) (i.K.keep rfl) (aB n_ aL) pl.cp) (a_ n_ J3.it.w.tb.tb) (this▸qh J3.it.jV se)) Ao)) (aH ?_);have bu:P.length≤cR:=ah (J3.it.bu hU) (ah hU (by refine(?_:_≤2^24);exact aJ));have Jk:FP ((wx i b).dn (b+2)) (h2.bX M (eP M L h2)) (.glob 318) [v] (is (df L) ((h2.bX M (eP M L h2)).bX (M+1) (eP (M+1) L (h2.bX M (eP M L h2))))):=tX (b:=b+1) rfl (G.told.mono (lB (ar _)) (bR _):jY (M+1) (h2.bX M (eP M L h2)) v L).told (S2.ok g) J3.it.w.tb.it J3.it.w.tb.free (ah ‹_› aJ);have J4:=J3.go (B:=[]) (c':=c') (M:=M+2) (h':=(h2.bX M (eP M L h2)).bX (M+1) (eP (M+1) L (h2.bX M (eP M L h2)))) J3.it.w.bX (.bX (ar _)) (bR _);generalize Lc:(h2.bX M (eP M L h2)).bX (M+1) (eP (M+1) L (h2.bX M (eP M L h2)))=h4 at Jk J4;refine bH (G.told.resolve_left λz=>hL z.2) λk hk ax hv=>?_;subst ax;refine eu (n:=iR) (b8 (i.K.bi rfl) rfl (aB n_ aL) (oO (.own J3.C) (by rw[aI _];exact bd bu (by exact bg)))) (a_ n_ J3.it.w.tb.tb) (b8 (i.K.ref rfl) (i.K.keep rfl) (aB n_ aL) Jk.cp) J4.it.jV (by rw[Ot,aI _];exact bu) ?_ (by rw[se];rfl);refine fJ (dp n_ (fV (n:=g8) ((aq aW).trans J4.C)) ij (aB n_ aL) (ga (n:=g8) ((aq aW).trans J4.C) (by rw[aI _];exact bu))) ?_;refine aH (bK (fin (P++[(k,L)]) c' (M+2) _ _ (J4.add jc (pE (pE hk)) (Lc▸(lB (ar _) k [] (pE hk)).trans ((lB (ar _) k [] hk).trans hv):h4 (gN k)=aa (.list (L.map a9))) S2) (by rw[cU];exact bR _) (i7 _ hp) (by rw[←Lc];exact CM) (GC (fr:=[]))).1)
variable{kk:List (List bx)}
theorem Wr{pos:Pos}{n:Nm}{P:QV}(a:EP i fr h e P)(hn:∀v ag,P v ag→ag n=af)(ok:autoParam (iQ e=ab) bl):EP i fr h (.List [e] pos) (λv h'=>∃u ag,P u ag∧v=.ref n∧h'=ag.set n (.list [u])):=
 ⟨λfr' s Q X hq=>list (wn rfl) (tf (a.run fr' s _ _ λv ag hp=>tz (q9 rfl n (hn v ag hp) (hq _ _ (mr v ag hp rfl rfl)))) ok)⟩
theorem cX.clo{J:List aF}{ad:List Nat}(W:cX R U c N h)(C:xW R c N h I v h' J ad):cX R U (c+1) (N+1) h':=
 ⟨C.tb,W.ca.imp λT ⟨es,X⟩=>⟨es,X.mono (λk l hk=>C.same _ _ bG bG λe=>by have:=mW e;exact du ‹_› ‹_›) (bR _) (λl=>C.same _ _ bG bG (mA bG)) (C.same _ _ bG bG (mA bG))⟩,W.hU⟩
theorem xW.kq{J:List aF}{ad:List Nat}(C:xW R c N h I v h' J ad):Kq [10,30] N h h':=
 ⟨λk l hk=>C.same k l (iz hk rfl) (iz hk rfl) λe=>iz hk (a:=99) rfl (Nm.mk.inj e).1,λk l hk=>C.same _ _ bG bG λe=>by have:=mW e;exact du ‹_› ‹_›⟩
theorem V'{n:Nat}(g:GR R)(it:vP R h)(ok:∀q∈L,cY R q)(hL:h (gN k)=aa (.list (L.map a9)))(h0:h (ir n)=af)
  (fin:∀es,iA es→SS (wx i b) (oC n k) (h.set (ir n) (.dict es)) ((d_ (stN (ba 354) 4)).drop 4::kk) Q):
  SS (wx i b) (oC n k) (h.set (ir n) (.dict [])) ((d_ (stN (ba 354) 4)).drop 3::kk) Q:=by
 have xz:∀(es:b7) q,cY R q→(h.set (ir n) (.dict es)) (bh q)=aa (.inst 135 (dV R q))∧(h.set (ir n) (.dict es)) (.mk 42 [q.1])=aa (.list ((qq R q.1).map .str)):=λes q hq=>⟨(it q hq).1,(it q hq).2.2⟩;refine eo (σ:=b7) (λ_=>oC n k) (λes=>h.set (ir n) (.dict es)) (λes _=>iA es) [] (L.map a9) (d8 (n:=gN k) n_ hL) ⟨.nil,λ_ h=>by exact cS h⟩ .rfl (λes j _=>d6 (n:=gN k) hL) (λes j v A e=>?_) λes A=>aH (fin es A);refine aj (dH e) λq hq ax=>?_;subst ax;have Q1:=xz es q (ok q (bN hq));refine dX (eo (σ:=b7) (λ_=>oC n k) (λes=>h.set (ir n) (.dict es)) (λes _=>iA es) es ((qq R q.1).map .str) (d8 (a_ (n:=bh q) n_ Q1.1) Q1.2) A (ai (ai (ai (ai (ai br))))) (λes' j _=>d6 (xz es' q (ok q (bN hq))).2) (λes' j' v' A' e'=>?_) λes' A'=>aH (aH (bK (LQ.next es' A' .rfl))));refine aj (dH e') λs hs ax=>?_;subst ax;refine dX (eu (n:=ir n) k7 n_ n_ aS (by have:=A'.len;refine(?_:_≤2^24);exact ah ‹_› aJ) ?_);exact aH (bK (LQ.next (bj es' (.str s) .none) (A'.put (g.qq (bN hs))) (ai (ai (ai (ai (ai br))))) (iF.symm)))
theorem Tp{gf:SF}(hb:i.b=b+3)(g:GR R)(AO:gz R ⊆ U)(W:cX R U c N h)(GL:h iR=aa (.dict []))(nJ:h aX=aa (.inst 283 gf))(hP:gf.lookup ("Productions":Str)=aa (.ref (.mk 35 [])))
  (hl:h (.mk 35 [])=aa (.list ((bo R.length).map bA))) (hC:h g8=af) (hA:∀j,h (ir j)=af):FP i h (.glob 354) [.ref dg] (λv h'=>v=.ref g8∧∃P n c' N',lF R U N h ⟨P,n,c',N',h'⟩):=by
 refine enter i.K.items OA w_it hb rfl ?_;have hU:=W.hU;refine aj (W.tb.pr 0 g.pos) λx px Cp=>?_;have p0:((bo R.length).map bA)[0]? =aa (bA 0):=by
  rw[dv,w9 g.pos];rfl
 refine kG (Wr (n:=g8) (dp n_ (iU W.tb.tb rfl) (i.K.keep rfl) (aB (eC (n:=gN N) (aB (a_ (n:=bf 0) (mx (j:=0) (a_ (n:=aX) (a_ n_ W.tb.tb) nJ hP) bD (.own hl) bg p0) px) aL) W.tb.free.at) aL) (A5 (I:=[(0,0)]) (b:=b+1) rfl W.tb.g aS (λq hq=>by rw[bS.mp hq];exact⟨g.pos,b_ _⟩) aJ).cp) ?_) ?_
 ·rintro v h1 ⟨J,ad,C⟩
  exact(C.same 56 [] bG bG (mA bG)).trans hC
 rintro v h2 ⟨u,h1,⟨J,ad,C⟩,rfl,rfl⟩;have K1:Kq rt N h h1:=(Kq.new (ar _)).trans (C.kq.mono) (bR _);have S0:St R J:=⟨[(0,0)],by exact IA _ _,.inr ⟨by exact IA _ _,ad,C.clo⟩,.inl rfl⟩;have l0:=S0.len g;obtain rfl:=C.v;have W2:cX R U (c+1) (N+2) (h1.set g8 (.list [.ref (gN (N+1))])):=(W.new.clo C:cX R U (c+1) (N+2) h1).set;have F6:(h1.set g8 (.list [.ref (gN (N+1))])) (gN (N+1))=aa (.list (J.map a9)):=C.list;generalize rP:h1.set g8 (.list [.ref (gN (N+1))])=h2 at W2 F6 ⊢;have Cr:h2 g8=aa (.list [.ref (gN (N+1))]):=rP▸aS;refine bM bD ?_;refine eo (σ:=Nat) (λs=>[("self",.ref dg),("C",.ref g8),("i",.int s)]) (λs=>if s=0 then h2 else(h2.bX (N+2) (eP (N+2) J h2)).set iR (.dict [(df J,.int 0)])) (λs j=>s=j) 0 [.ref (gN (N+1))] (d8 n_ Cr) rfl (ai (ai (ai br))) (λs j e=>?_) (λs j v e ev=>?_) (λs e=>?_)
 ·refine d6 (n:=g8) ?_
  split
  ·exact Cr
  ·exact Cr
 ·subst e
  match s,ev with
  |0,ev=>
   (first|exact a7 ev|obtain rfl:=aY ev)
   refine dX (eu (n:=iR) (es:=[]) n_ (a_ n_ W2.tb.tb) (b8 (i.K.ref rfl) (i.K.keep rfl) (aB n_ aL) (tX (b:=b+1) rfl (.inr (aU _ rfl F6)) (S0.ok g) W2.tb.it W2.tb.free (ah ‹_› aJ)).cp) (rP▸(aq aW).trans ((K1.1 33 []|> λ_=>(C.same 33 [] bG bG (mA bG))).trans GL):h2 iR=aa (.dict [])) (b_ _) ?_ (by rw[se];rfl));exact x_ rfl bD u_ (aH (bK (LQ.next 1 rfl (ai (ai (ai br))))))
 ·obtain rfl:s=1:=e
  refine aH (bM bD ?_);have J0:lF R U N h ⟨[(N+1,J)],0,c+1,N+3,(h2.bX (N+2) (eP (N+2) J h2)).set iR (.dict [(df J,.int 0)])⟩:=by
   refine⟨⟨W2.bX.set,(show((h2.bX (N+2) (eP (N+2) J h2)).set iR (.dict [(df J,.int 0)])) iR=aa (.dict [(df J,.int 0)]) from aS),ko _ _,λp hp=>?_,AO⟩,Cr,λj _=>?_,(((rP▸K1.trans (M:=N+2) Kq.set (b6 _ _):Kq rt N h h2).trans (M:=N+2) (.bX (ar _)) (b6 _ _)).trans (M:=N+3) Kq.set (b6 _ _)),(b6 _ _:N≤N+3),⟨N+1,J,[],rfl,(.inr (A9 (IA _ _) ad C.clo))⟩⟩
   ·rw[bS.mp hp]
    exact(cF (by show N+1<N+3;exact bR _) ((lB (ar _) (N+1) [] (dq _)).trans F6) S0)
   ·show h2 (ir j)=af
    rw[←rP];exact(C.same 57 [j] bG bG (mA bG)).trans (hA j)
  generalize (h2.bX (N+2) (eP (N+2) J h2)).set iR (.dict [(df J,.int 0)])=h3 at J0;refine rK (σ:=IS) Ο IS.h (λs m=>m+s.n=U.length+1∧s.n≤s.P.length∧lF R U N h s) ⟨[(N+1,J)],0,c+1,N+3,h3⟩ (U.length+1) (cF rfl (b_ _) J0) (ai (ai (ai br))) ?_;rintro s m ⟨hm,hn,Js⟩;have bu:=Js.it.bu hU;refine(mr _ s.h (bt n_ (b8 (i.K.bi rfl) rfl (aB n_ aL) (oO (.own Js.C) (by rw[aI _];exact bd bu (bd hU bg)))) xV) (λe=>?_) (λe=>?_))
  ·exact aH (gJ n_ ⟨rfl,s.P,s.n,s.c,s.N,Js⟩)
  ·have e:s.n<s.P.length:=by
    have:=fC e;rw[aI] at this;exact ib.mp this
   obtain⟨p,hp⟩:∃p,s.P[s.n]? =aa p:=⟨_,fb e⟩;have Og:=bN hp;have E:=Js.it.each p Og;refine bM (v:=oQ p) (mx (j:=s.n) n_ n_ (.own Js.C) (bI e (ah bu (ah hU aJ))) (by rw[dv,hp];rfl)) ?_;refine x_ rfl bD u_ ?_;refine bM (gR (Js.A s.n (ar _))) ?_;refine SS.sub (ey:=oC s.n p.1) ?_ (ai (ai (ai (ai (ai br)))));refine V' (b:=b) g Js.it.w.tb.it (E.2.2.ok g) E.2.1 (Js.A s.n (ar _)) λes A=>?_;have kL:=A.str;have h7:=A.len;have J1:lF R U N h ⟨s.P,s.n+1,s.c,s.N,s.h.set (ir s.n) (.dict es)⟩:=
    ⟨⟨Js.it.w.set,Js.it.jV,Js.it.nd,λp hp=>(cF ((Js.it.each p hp).1) ((Js.it.each p hp).2.1) ((Js.it.each p hp).2.2)),AO⟩,Js.C,λj hj=>(aq λe=>by injection e with _ e;injection e with e;have:s.n+1≤j:=hj;exact dG ‹_› ‹_›).trans (Js.A j (ah (bR _) hj)),Js.kq.trans (M:=s.N) Kq.set Js.le,Js.le,Js.first⟩
   refine AC (σ:=IS) (λ_=>oC s.n p.1) IS.h (λt j m=>j+m=es.length∧lF R U N h ⟨t.P,s.n+1,t.c,t.N,t.h⟩∧p∈t.P∧t.h (ir s.n)=aa (.dict es)∧s.n<t.P.length) ⟨s.P,0,s.c,s.N,s.h.set (ir s.n) (.dict es)⟩ es.length (vb n_ aS kL) (s9 (mZ _) J1 Og aS e) .rfl ?_;rintro t j m2 ⟨hj,Jt,ZG,ht,hlt⟩;refine(cL _ (wd ht kL) (λ_=>?_) (λv ev=>?_))
   ·exact aH (aH (bK (LQ.next ⟨t.P,s.n+1,t.c,t.N,t.h⟩ (ik (m-1) (N8 hm (bI e (c8 bu))) (Pt hm (bI e (c8 bu))) hlt Jt) (ai (ai (ai br))))))
   ·have ig:=(cV.mp ev).1
    rw[aI] at ig;refine aj (A.2 v (bN ev)) λx hx ax=>?_;subst ax;refine dX (YH (b:=b) g hU Jt ZG hx ht λP' c' N' h' fr J' Aj bV j6 sb=>?_);have lt':s.n<P'.length:=bI hlt Aj;exact⟨LQ.next ⟨P',0,c',N',h'⟩ (yG (m2-1) (AI hj ig) (Ae hj ig) J' bV j6 lt') sb,LQ.cont ⟨P',0,c',N',h'⟩ (yG (m2-1) (AI hj ig) (Ae hj ig) J' bV j6 lt') sb⟩
theorem Ur{x y:Str}{p q tp pos:Pos}{k:Nat}{e:Expr}{Q:QS}{X:dP}(hq:F.q=ab)(hx:pY F x=ab)(hy:pY F y=ab)
  (hs:∀ae:Env,ae.scope=F.sc→Dr [.Tuple [.Name x p,.Name y q] k tp] e pos.line ae=pure an) (hw:∀ae:Env,ae.scope=F.sc→wV [.Tuple [.Name x p,.Name y q] k tp] e ae=pure (aa [x,y]))
  (w:WE G F b fr h e (λv ag=>∃u u',v=.tup [u,u']∧Q .next ((fr.put y u').put x u) ag) (λx h=>X x fr h)):WS G F b fr h (.Assign [.Tuple [.Name x p,.Name y q] k tp] e pos) Q X:=by
 refine .mk ?_;intro own ae A P m s Q' E' R c d;refine Assign_Tuple_swapped (names:=[x,y]) (w.run own ae A P m s _ _ R (λv ag v' aZ bW bU O7 hP hm hv a6=>?_) d.j8) (hs ae R.f.sc) (hw ae R.f.sc);refine ef O7 λu u' ax hQ=>?_;clear O7;subst ax;obtain⟨a,o,items,n,rfl,hp,h1,h2,h3⟩:=hv;refine bH (a6.rd hp) λo' e1 e2 e3=>?_;obtain⟨v1,r1,e4,FY,v2,r2,rfl,ET,rfl⟩:=h3;have hz:[x,y].length=items.size:=by rw[←fQ,e4];rfl
 rw[hz];refine unpackItems_tuple (a6.quiet hq) ⟨o',e1,by rw[e2,h1],n,by rw[e3,h2]⟩ λhh he=>?_;rw[e4];refine PY (bindName_ (Cz (a6.grow (s':={aZ with heap:=hh}) (λa o e=>he a o (du (jI e)) e) rfl rfl) ET hy λej cW=>?_));refine PY (bindName_ (Cz cW FY hx λnH fW=>?_));exact agc (c _ _ _ _ _ _ _ hQ hP hm rfl fW)
variable{k:List (List bx)}
theorem C5{x y:Str}{p q tp pos:Pos}{n:Nat}(a:EV i fr h e (.tup [u,w]) ag)(b:SS i ((fr.put x u).put y w) ag (rest::k) Q)(ok:autoParam ((i.l.contains x && i.l.contains y && iq e)=ab) bl):SS i fr h ((.Assign [.Tuple [.Name x p,.Name y q] n tp] e pos::rest)::k) Q:=by
 simp only[bO] at ok;exact fF (tI _ a.ep (λv' aC e fr' s Q' hq=>by refine xA e λcP bq=>?_;clear e;subst cP;subst bq;exact Ho i.q (λ_=>rfl) rfl (oE i.V (oE i.V (hq _ _ (b.run _ ((s.put _ _).put _ _))) ok.1.2) ok.1.1)) (by rw[ok.2];rfl))
theorem Ve{x y:Str}{p q tp pos:Pos}{n:Nat}(a:EV i fr h e (.tup [u,w]) ag)(b:SS i ((fr.put y w).put x u) ag (rest::k) Q)(hs:∀ae:Env,ae.scope=i.F.sc→Dr [.Tuple [.Name x p,.Name y q] n tp] e pos.line ae=pure an)
  (hw:∀ae:Env,ae.scope=i.F.sc→wV [.Tuple [.Name x p,.Name y q] n tp] e ae=pure (aa [x,y])) (ok:autoParam ((i.l.contains x && i.l.contains y)=ab) bl):SS i fr h ((.Assign [.Tuple [.Name x p,.Name y q] n tp] e pos::rest)::k) Q:=by
 rw[bO] at ok;exact fF ⟨λfr' s Q' hq=>Ur i.q (cq.v i.V ok.1).2.1 (cq.v i.V ok.2).2.1 hs hw (a.run fr' s _ _ (yq u w rfl (hq _ _ .next (b.run _ ((s.put _ _).put _ _)))))⟩
theorem SF.sub.b9{ey fr:SF}(s:ey.sub fr){x:Str}{v:SV}(hx:autoParam (ey.lookup x=af) dI):ey.sub (fr.put x v):=λy u e=>by
 rw[gj,aK (λz=>by subst z;rw[hx] at e;exact a7 e)];exact s y u e
theorem Ml{n:Nm}{fs:SF}(hn:h n=aa (.inst 100 fs))(hf:fs.lookup ("reduced":Str)=af∨∃k,fs.lookup ("reduced":Str)=aa (.int k)):∃k,OV i h [.ref n] (mJ λx=>m8 x "reduced" ab) (.int k) h:=by
 rcases hf with hf|⟨k,hf⟩
 ·exact⟨0,⟨λfr' Q X hq=>Pf i.K rfl hn hf hq⟩⟩
 ·exact⟨k,Oi hn hf⟩
theorem D4(hu:u=w)(ok:autoParam ((SV.data 6 u && SV.data 6 w)=ab) bl):OV i h [u,w] (bw (c5 .NotEq)) (.bool an) h:=by
 have:=MQ (i:=i) (h:=h) ok
 rwa [eQ hu] at this
theorem Lu(hu:u≠w)(ok:autoParam ((SV.data 6 u && SV.data 6 w)=ab) bl):OV i h [u,w] (bw (c5 .NotEq)) (.bool ab) h:=by
 have:=MQ (i:=i) (h:=h) ok
 rwa [i0 hu] at this
theorem VM{n m:Int}{pos:Pos}(a:EV i fr h e (.int n) ag)(hm:m=-n):EV i fr h (.UnaryOp .USub e pos) (.int m) ag:=hm▸AP a
variable{a:Int}
theorem Cm(z:a > c):OV i h [.int a,.int c] (bw (c5 .Gt)) (.bool ab) h:=eQ z▸KY
theorem yr(z:¬a > c):OV i h [.int a,.int c] (bw (c5 .Gt)) (.bool an) h:=i0 z▸KY
theorem MT(z:a<c):OV i h [.int a,.int c] (bw (c5 .Lt)) (.bool ab) h:=eQ z▸xV
theorem Rh(z:¬a<c):OV i h [.int a,.int c] (bw (c5 .Lt)) (.bool an) h:=i0 z▸xV
theorem Ka(z:a≥c):OV i h [.int a,.int c] (bw (c5 .GtE)) (.bool ab) h:=eQ z▸E0
theorem NN(z:¬a≥c):OV i h [.int a,.int c] (bw (c5 .GtE)) (.bool an) h:=i0 z▸E0
theorem tG{es:b7}{k v:SV}:(bj es k v).length≤es.length+1:=by
 induction es with
 |nil=>exact ar _
 |cons p r ih=>
  obtain⟨a,c⟩:=p;show(if _ then _ else _:b7).length≤_
  split
  ·exact bR _
  ·exact eG ih
variable{s:Str}{k m:Nat}{fq fN:b7}
noncomputable def pJ:SF:=[("Productions",.ref (.mk 35 [])),("Prodnames",.ref (.mk 36 [])),("Prodmap",.ref (.mk 37 [])),("Terminals",.ref (.mk 38 [])),("Nonterminals",.ref (.mk 39 [])),("First",.ref (.mk 45 [])),("Follow",.ref (.mk 46 [])),("Precedence",.ref (.mk 49 [])),("UsedPrecedence",.ref (.mk 50 [])),("Start",.str "S")]
noncomputable def dW:List Str:=["a","b","error"]
noncomputable def j9:List Str:=["a","b","error","$end"]
structure iI(R:bm)(h:SH):Prop where
 gr:h aX=aa (.inst 283 pJ)
 fg:h (.mk 35 [])=aa (.list ((bo R.length).map bA))
 term:∃es,h (.mk 38 [])=aa (.dict es)∧∀s,(es.lookup (.str s)).isSome=dW.contains s
 ii:∃es,h (.mk 39 [])=aa (.dict es)∧∀s,(es.lookup (.str s)).isSome=qE s
 nC:∃es,h (.mk 46 [])=aa (.dict es)∧∀s,qE s=ab→es.lookup (.str s)=aa (.ref (.mk 48 [sym s]))∧∃fs:List Str,h (.mk 48 [sym s])=aa (.list (fs.map .str))∧fs.Nodup∧∀f∈fs,f∈j9
 prec:h (.mk 49 [])=aa (.dict [])
noncomputable def rN:List Nat:=[34,35,38,39,46,48,49]
theorem iI.same(g:iI R h)(e:∀k l,rN.contains k=ab→h' (.mk k l)=h (.mk k l)):iI R h':=
 ⟨(e _ _ rfl).trans g.gr,(e _ _ rfl).trans g.fg,aj g.term λes a b=>⟨es,(e _ _ rfl).trans a,b⟩,aj g.ii λes a b=>⟨es,(e _ _ rfl).trans a,b⟩,
  aj g.nC λes a b=>⟨es,(e _ _ rfl).trans a,λs hs=>mP (b s hs) λp fs q r=>⟨p,fs,(e _ _ rfl).trans q,r⟩⟩,(e _ _ rfl).trans g.prec⟩
theorem iI.kq{B:List Nat}(g:iI R h)(kq:Kq B N h h')(hB:autoParam ((rN.all λk=>!(99::B).contains k)=ab) bl):iI R h':=
 g.same λk l hk=>kq.1 k l (mK (e9.mp hk) hB)
theorem iI.set{l:List Nat}{o:cy}(g:iI R h)(hk:autoParam (rN.contains k=an) dI):iI R (h.set (.mk k l) o):=
 g.same λk' l' dY=>aq λe=>by injection e with e;subst e;rw[hk] at dY;exact cM dY
noncomputable def uQ:List Nat:=[10,30,31,32,33,51,52,54,55,56,57,61,62,63,64,65]
structure ck(R:bm)(U:List (List aF))(P:List (Nat×List aF))(aN:Nat)(aA:SH)(st m:Nat)(c:Int)(N:Nat)(h:SH):Prop where
 it:s_ R U c N h P
 C:h g8=aa (.list (P.map oQ))
 gr:iI R h
 kq:Kq uQ aN aA h
 le:aN≤N
 ap:∃es,h (.mk 65 [])=aa (.dict es)∧es.length≤st
 ac:∃es,h (.mk 51 [])=aa (.dict es)∧es.length≤st
 go:∃es,h (.mk 52 [])=aa (.dict es)∧es.length≤st
 sr:∃vs,h (.mk 54 [])=aa (.list vs)∧vs.length≤m
 rr:∃vs,h (.mk 55 [])=aa (.list vs)∧vs.length≤m
 first:∃k L0 r,P=(k,L0)::r∧dF R [(0,0)] L0
 fresh:∀k∈([61,62,63,64]:List Nat),∀j,st<j→h (.mk k [j])=af
variable{aN st:Nat}{aA:SH}
theorem kZ{k a:Nat}{l l':List Nat}{B:List Nat}(hk:k∈B)(ha:autoParam (B.contains a=an) dI):Nm.mk k l≠Nm.mk a l':=λe=>by
 injection e with e;subst e;rw[e9.mpr hk] at ha;exact iY ha
theorem ck.yo{B:List Nat}(p:ck R U P aN aA st m c N h)(W:cX R U c' M h')(kq:Kq B N h h')(le:N≤M)(hB:(B.all (99::uQ).contains && ((33::51::52::54::55::56::65::rN).all λk=>!(99::B).contains k))=ab)
  (hf:∀k∈([61,62,63,64]:List Nat),∀j,st<j→h' (.mk k [j])=af):ck R U P aN aA st m c' M h':=by
 rw[bO] at hB;have f:∀{k l},(33::51::52::54::55::56::65::rN).contains k=ab→h' (.mk k l)=h (.mk k l):=λ{k l} hk=>kq.1 k l (mK (e9.mp hk) hB.2);have e:=p.it;exact⟨⟨W,(f (k:=33) rfl).trans e.jV,e.nd,λq hq=>(cF (bI (e.each q hq).1 le) ((kq.2 q.1 [] (e.each q hq).1).trans (e.each q hq).2.1) ((e.each q hq).2.2)),e.hU⟩,(f (k:=56) rfl).trans p.C,p.gr.same λk l hk=>f (by simp only[w8,hk,HW]),p.kq.trans (kq.mono hB.1) p.le,ah p.le le,
  p.ap.imp λes q=>⟨(f rfl).trans q.1,q.2⟩,p.ac.imp λes q=>⟨(f rfl).trans q.1,q.2⟩,p.go.imp λes q=>⟨(f rfl).trans q.1,q.2⟩,p.sr.imp λes q=>⟨(f rfl).trans q.1,q.2⟩,p.rr.imp λes q=>⟨(f rfl).trans q.1,q.2⟩,p.first,hf⟩
theorem ck.move{B:List Nat}(p:ck R U P aN aA st m c N h)(W:cX R U c' M h')(kq:Kq B N h h')(le:N≤M)(hB:autoParam ((B.all (99::uQ).contains && ((33::51::52::54::55::56::65::rN).all λk=>!(99::B).contains k))=ab) bl)
  (hF:autoParam ((([61,62,63,64]:List Nat).all λk=>!(99::B).contains k)=ab) bl):ck R U P aN aA st m c' M h':=
 p.yo W kq le hB λk hk j hj=>(kq.1 k [j] (mK hk hF)).trans (p.fresh k hk j hj)
theorem ck.iT{o:cy}(p:ck R U P aN aA st m c N h)(hk:autoParam (([61,62,63,64]:List Nat).contains k=ab) bl):ck R U P aN aA st m c N (h.set (.mk k [st]) o):=by
 have hf:∀k'∈([61,62,63,64]:List Nat),∀j,st<j→(h.set (.mk k [st]) o) (.mk k' [j])=af:=λk' dY j hj=>(aq λe=>by injection e with _ e;injection e with e;exact dG ‹_› ‹_›).trans (p.fresh k' dY j hj);have:k=61∨k=62∨k=63∨k=64:=by simpa using hk
 rcases this with rfl|rfl|rfl|rfl
 ·exact p.yo (B:=[61]) p.it.w.set .set (ar _) rfl hf
 ·exact p.yo (B:=[62]) p.it.w.set .set (ar _) rfl hf
 ·exact p.yo (B:=[63]) p.it.w.set .set (ar _) rfl hf
 ·exact p.yo (B:=[64]) p.it.w.set .set (ar _) rfl hf
theorem ck.up{m':Nat}(p:ck R U P aN aA st m c N h)(hm:m≤m'):ck R U P aN aA st m' c N h:=
 {p with sr:=p.sr.imp λ_ q=>⟨q.1,ah q.2 hm⟩,rr:=p.rr.imp λ_ q=>⟨q.1,ah q.2 hm⟩}
theorem ck.Jm{vs:List SV}(p:ck R U P aN aA st m c N h)(hv:h (.mk 54 [])=aa (.list vs)):ck R U P aN aA st (m+1) c N (h.set (.mk 54 []) (.list (vs++[v]))):=by
 obtain⟨a5,e,hl⟩:=p.sr;rw[hv] at e;cases e;exact⟨⟨(p.it.w.set:cX R U c N (h.set (.mk 54 []) (.list (vs++[v])))),p.it.jV,p.it.nd,p.it.each,p.it.hU⟩,p.C,p.gr.set,p.kq.trans (M:=N) .set p.le,p.le,p.ap,p.ac,p.go,(aU _ aS (by rw[cU];exact eG hl)),p.rr.imp λ_ q=>⟨q.1,c8 q.2⟩,p.first,λk hk j hj=>(aq (kZ hk)).trans (p.fresh k hk j hj)⟩
theorem ck.TG{vs:List SV}(p:ck R U P aN aA st m c N h)(hv:h (.mk 55 [])=aa (.list vs)):ck R U P aN aA st (m+1) c N (h.set (.mk 55 []) (.list (vs++[v]))):=by
 obtain⟨a5,e,hl⟩:=p.rr;rw[hv] at e;cases e;exact⟨⟨(p.it.w.set:cX R U c N (h.set (.mk 55 []) (.list (vs++[v])))),p.it.jV,p.it.nd,p.it.each,p.it.hU⟩,p.C,p.gr.set,p.kq.trans (M:=N) .set p.le,p.le,p.ap,p.ac,p.go,p.sr.imp λ_ q=>⟨q.1,c8 q.2⟩,(aU _ aS (by rw[cU];exact eG hl)),p.first,λk hk j hj=>(aq (kZ hk)).trans (p.fresh k hk j hj)⟩
theorem gV.ul{x:SF}(L:gV c x)(k:Int):gV c (x.put "reduced" (.int k)):=by
 have e1:(x.put "reduced" (.int k)).lookup ("reduced":Str)=aa (.int k):=by rw[gj,aP rfl]
 have e2:(x.put "reduced" (.int k)).lookup ("lr0_added":Str)=x.lookup ("lr0_added":Str):=by rw[gj,aK aW]
 refine⟨?_,by rw[e2];exact L.add,.inr ⟨k,e1⟩⟩;have:=L.len;rw[GA _ _ _,e1,e2];revert this
 cases(x.lookup ("reduced":Str)).isSome
 ·exact λq=>eG q
 ·exact λq=>q
theorem cX.ul{j:Nat}{x:SF}(W:cX R U c N h)(L:gV c x):cX R U c N (h.set (bf j) (.inst 100 (fX R j++x))):=
 ⟨⟨W.tb.free.same λ_ _ _=>rfl,W.tb.it,λj' ff=>by
  by_cases e:j'=j
  ·subst e;exact(aU x aS L)
  ·refine aj (W.tb.pr j' ff) λx' a l=>?_
   exact(aU x' ((aq λz=>by injection z with _ z;injection z with z;exact e z).trans a) l),W.tb.tb,W.tb.hc,W.tb.hR,W.tb.hr⟩,W.ca.imp λT ⟨es,C⟩=>⟨es,C.mono (λ_ _ _=>rfl) (ar _) (λ_=>rfl) rfl⟩,W.hU⟩
theorem ck.ul{j:Nat}{x:SF}(p:ck R U P aN aA st m c N h)(L:gV c x):ck R U P aN aA st m c N (h.set (bf j) (.inst 100 (fX R j++x))):=
 p.move (B:=[10]) (p.it.w.ul L) .set (ar _)
def Fj(R:bm)(S:List (List aF))(L:List aF)(s:Str)(v:SV):Prop:=
 (∃n:Nat,0<n∧n<R.length∧v=.int (-(n:Int)))∨∃(j:Nat) (L':List aF),0<j∧v=.int j∧dF R (cG R L s) L'∧(fL 0 S).lookup (df L')=aa (.int j)
structure kT(R:bm)(S:List (List aF))(L:List aF)(fq fN:b7):Prop where
 nd:(fq.map (·.1)).Nodup
 zF:(fN.map (·.1)).Nodup
 key:∀k v,fq.lookup k=aa v→∃s∈j9,k=.str s∧(L=[(0,1)]∨Fj R S L s v)
 pk:∀k v,fq.lookup k=aa v→L=[(0,1)]∨∃q,cY R q∧fN.lookup k=aa (a9 q)
 zj:∀k∈fN.map (·.1),∃s∈j9,k=.str s
variable{S:List (List aF)}
theorem xw{es:b7}(nd:(es.map (·.1)).Nodup)(h:∀k∈es.map (·.1),∃s∈j9,k=.str s):es.length≤4:=by
 have:=fO nd (l₂:=j9.map SV.str) λk hk=>by refine aj (h k hk) λx hx e=>?_;exact bB.mpr (aU x hx e.symm)
 rwa [aI] at this
theorem kT.bu(a:kT R S L fq fN):fq.length≤4:=xw a.nd λk hk=>by
 cases e:fq.lookup k with
 |none=>exact bc hk (lW.mp e)
 |some v=>refine bH (a.key k v e) λs h1 h2 _=>?_;exact(aU s h1 h2)
theorem kT.put{q:aF}(a:kT R S L fq fN)(hs:s∈j9)(hv:L=[(0,1)]∨Fj R S L s v)(hq:cY R q):kT R S L (bj fq (.str s) v) (bj fN (.str s) (a9 q)):=by
 refine⟨o9 a.nd,o9 a.zF,λk w e=>?_,λk w e=>?_,λk hk=>?_⟩
 ·rw[fw] at e
  split at e
  ·next z=>obtain rfl:=aY e;exact(cL s hs z hv)
  ·exact a.key k w e
 ·rw[fw] at e
  split at e
  ·next z=>obtain rfl:=aY e;exact .inr (aU q hq (by rw[fw _,aP z]))
  ·next z=>exact(a.pk k w e).imp id λ⟨q,hq,z'⟩=>⟨q,hq,by rw[fw _,aK z];exact z'⟩
 ·rcases(wH k).mp hk with rfl|hk
  ·exact(aU s hs rfl)
  ·exact a.zj k hk
theorem kT.nil:kT R S L [] []:=⟨.nil,.nil,λ_ _ e=>(by(first|exact a7 e|obtain rfl:=aY e)),λ_ _ e=>(by(first|exact a7 e|obtain rfl:=aY e)),λ_ e=>(cS e)⟩
variable{q:aF}
noncomputable def Lv:List Str:=["self","Productions","Precedence","goto","action","actionp","C","st","I","st_action","st_actionp","st_goto","p","laheads","a","r","sprec","slevel","rprec","rlevel","oldp","pp","chosenp","rejectp","i","g","j","nkeys","ii","s","n"]
theorem Jw:cq (bC 424) Lv=ab:=by kernel_rfl
theorem w_pt:cZ (bC 424) ["_place"]=ab:=by kernel_rfl
noncomputable def mH(i:FI)(b:Nat):FI:=i.fn (b+3) 424 Lv ["_place"] Jw w_pt
noncomputable def wG:List bx:=d_ (stN (ba 424) 8)
noncomputable def Le:bx:=stN (d_ (stN wG 3)) 0
noncomputable def XD:List bx:=xL (stN (d_ Le) 0)
noncomputable def KE:List bx:=d_ (stN XD 1)
noncomputable def WQ:List bx:=xL Le
noncomputable def fk(st:Nat):Nm:=.mk 61 [st]
noncomputable def fy(st:Nat):Nm:=.mk 62 [st]
noncomputable def jj(st:Nat):Nm:=.mk 63 [st]
noncomputable def vk(st k:Nat):SF:=[("self",.ref dg),("Productions",.ref (.mk 35 [])),("Precedence",.ref (.mk 49 [])),("goto",.ref (.mk 52 [])),("action",.ref (.mk 51 [])),("actionp",.ref (.mk 65 [])),("C",.ref g8),("st",.int st),("I",.ref (gN k)),("st_action",.ref (fk st)),("st_actionp",.ref (fy st)),("st_goto",.ref (jj st))]
noncomputable def tK(st k:Nat)(q:aF):SF:=(vk st k).put "p" (a9 q)
theorem az{k k':Nat}{l l':List Nat}(h:autoParam ((k==k')=an) dI):Nm.mk k l≠Nm.mk k' l':=λe=>k9.mp h (Nm.mk.inj e).1
theorem Ag{j:Nat}(hj:j<R.length):((bo R.length).map bA)[j]? =aa (bA j):=by rw[dv,w9 hj];rfl
theorem Z8(g:GR R)(p:ck R U P aN aA st m c N h)(a:kT R (P.map (·.2)) L fq fN)(h1:h (fk st)=aa (.dict fq))(h2:h (fy st)=aa (.dict fN))(hq:cY R q)(hn:0<q.1)(hs:s∈j9){v0:SV}
  (fin:∀rf rg h' fr,ck R U P aN aA st (m+1) c N h'→kT R (P.map (·.2)) L rf rg→h' (fk st)=aa (.dict rf)→h' (fy st)=aa (.dict rg)→Kq [10,54,55,61,62] N h h'→(tK st k q).sub fr→Q .next fr h'):
  SS (mH i b) (((tK st k q).put "a" (.str s)).put "r" v0) h [xL (stN KE 1),[]] Q:=by
 refine eu (v:=.int (-(q.1:Int))) (n:=fk st) (AP (a_ (n:=bh q) n_ ((p.it.w.tb.it q hq).1))) n_ n_ h1 (by have:=a.bu;refine(?_:_≤2^24);exact ah ‹_› aJ) ?_;refine eu (v:=a9 q) (n:=fy st) (es:=fN) n_ n_ n_ h2 (by have:=xw a.zF a.zj;refine(?_:_≤2^24);exact ah ‹_› aJ) ?_;have p2:ck R U P aN aA st m c N ((h.set (fk st) (.dict (bj fq (.str s) (.int (-(q.1:Int)))))).set (fy st) (.dict (bj fN (.str s) (a9 q)))):=ck.iT (k:=62) (ck.iT (k:=61) p);refine aj (p2.it.w.tb.pr q.1 hq.1) λx hx Cp=>?_;refine xE (Ml (i:=mH i b) hx (Cp.red.imp (λe=>e) (λ⟨k,e⟩=>⟨k,e⟩))) λkr hr=>?_;refine GH (n:=bf q.1) (mx (j:=q.1) n_ (a_ (n:=bh q) n_ (p2.it.w.tb.it q hq).1) (.own p2.gr.fg) (by have:=g.len;have:=hq.1;exact i4 (bI ‹_› ‹_›) bg) (Ag hq.1)) hx hr bD u_ hx Cp.le ?_;exact aH (aH (bK (fin _ _ _ _ ((p2.ul (Cp.ul _)).up (bR _)) (a.put hs (.inr (.inl (cL q.1 hn hq.1 rfl))) hq) ((aq az).trans ((aq az).trans aS)) ((aq az).trans aS) (((Kq.set (k:=61)).trans (Kq.set (k:=62)) (ar _)).trans (Kq.set (k:=10)) (ar _)) ((SF.sub.rfl.b9).b9))))
theorem kK{j:Nat}{e:Expr}{pos:Pos}{k:Expr}{h1:SH}(a:EV i fr h e (.ref (.mk 35 [])) h1)(w:EV i fr h1 k (.int j) h1)(pr:h1 (.mk 35 [])=aa (.list ((bo R.length).map bA)))(hR:R.length≤5)(hj:j<R.length)(ok:autoParam (qf k) i8):EV i fr h (.Subscript e k pos) (bA j) h1:=
 mx (j:=j) a w (.own pr) (i4 (bI ‹_› ‹_›) bg) (Ag hj) ok
theorem RL(g:GR R)(p:ck R U P aN aA st m c N h)(hm:m≤10000000)(a:kT R (P.map (·.2)) L fq fN)(h1:h (fk st)=aa (.dict fq))(h2:h (fy st)=aa (.dict fN))(hq:cY R q)(hn:0<q.1)(hL:L≠[(0,1)])(hs:s∈j9)
  (fin:∀rf rg h' fr,ck R U P aN aA st (m+1) c N h'→kT R (P.map (·.2)) L rf rg→h' (fk st)=aa (.dict rf)→h' (fy st)=aa (.dict rg)→Kq [10,54,55,61,62] N h h'→(tK st k q).sub fr→Q .next fr h'):
  SS (mH i b) ((tK st k q).put "a" (.str s)) h [KE] Q:=by
 have it:=(p.it.w.tb.it q hq).1
 cases e:fq.lookup (.str s) with
 |none=>
  refine bM (g9 n_ (jo h1) rfl (aB n_ aL) (vp h1 e)) ?_;exact cf (bt (u:=.none) n_ k7 vZ) (Z8 g p a h1 h2 hq hn hs fin)
 |some v=>
  refine bH (a.key _ _ e) λs' gW z av=>?_;obtain rfl:=Mine.Internal.SV.str.inj z;have av:=av.resolve_left hL;refine bM (g9 n_ (jo h1) rfl (aB n_ aL) (vB h1 e)) ?_;refine aj (p.it.w.tb.pr q.1 hq.1) λxq tW BU=>?_;rcases av with⟨n,n0,nR,rfl⟩|⟨j,L',j0,rfl,res,hj⟩
  ·refine aj (p.it.w.tb.pr n nR) λxn XZ akf=>?_
   refine cT (bt (u:=.int (-(n:Int))) n_ k7 vZ) ?_;refine cf (bt n_ bD (yr JI)) (cT (bt n_ bD (MT (Jr n0))) ?_);refine bM (v:=bA n) (kK n_ (VM n_ (Int.neg_neg _).symm) p.gr.fg g.len nR) ?_;refine bM (v:=bA q.1) (kK n_ (a_ (n:=bh q) n_ it) p.gr.fg g.len hq.1) ?_;refine cf (bt (a_ (n:=bf n) n_ XZ) (a_ (n:=bf q.1) n_ tW) (yr aW)) ?_;refine Ve (u:=bA n) (w:=bA q.1) (eY (aB n_ (aB n_ aL))) ?_ ?_ ?_
   ·obtain⟨vs,hv,hl⟩:=p.rr
    refine aH (fJ (dp (u:=.ref (.mk 55 [])) (a_ n_ p.it.w.tb.tb) (fV hv) ij (aB (eY (aB n_ (aB n_ (aB n_ aL)))) aL) (ga hv (by refine(?_:_≤2^24);exact ah (ah ‹_› ‹_›) aJ))) ?_)
    repeat refine aH ?_
    refine(bK (fin _ _ _ _ (p.TG hv) a ((aq az).trans h1) ((aq az).trans h2) .set ?_));exact(((((SF.sub.rfl.b9).b9).b9).b9).b9).b9
   ·exact λae he=>rfl
   ·intro ae he;cases ae;subst he;kernel_rfl
  ·refine cT (bt (u:=.int j) n_ k7 vZ) (cT (bt n_ bD (Cm (ib.mpr j0))) ?_)
   refine C5 (u:=.str "right") (w:=.int 0) (g9 n_ (jo p.gr.prec) rfl (aB n_ (aB (eY (aB cw (aB bD aL))) aL)) (zf p.gr.prec)) ?_;refine C5 (u:=.str "right") (w:=.int 0) (a_ (n:=bf q.1) (kK n_ (a_ (n:=bh q) n_ it) p.gr.fg g.len hq.1) tW) ?_;refine cf (qa (bt n_ n_ (Rh aW)) (qa (lH (bt n_ n_ (nN rfl)) (oN (bt n_ cw (lU aW)))) Ao)) ?_;refine cf (lH (bt n_ n_ (nN rfl)) (oN (bt n_ cw (lU aW)))) ?_;refine cT (fz (t:=an) (p_ n_ JE)) ?_;obtain⟨vs,hv,hl⟩:=p.sr;refine fJ (dp (u:=.ref (.mk 54 [])) (a_ n_ p.it.w.tb.tb) (fV hv) ij (aB (eY (aB n_ (aB n_ (aB cw aL)))) aL) (ga hv (by refine(?_:_≤2^24);exact ah (ah ‹_› ‹_›) aJ))) ?_
   repeat refine aH ?_
   refine(bK (fin _ _ _ _ (p.Jm hv) a ((aq az).trans h1) ((aq az).trans h2) .set ?_));exact(((((SF.sub.rfl.b9).b9).b9).b9).b9).b9
theorem Ht(hx:(aG R q.1)[q.2]? =aa x):((iN R q).map SV.str)[q.2+1]? =aa (.str x):=by
 have e:((aG R q.1).take q.2).length=q.2:=jH.trans (sA (cj ((cV.mp hx).1)));unfold iN;rw[dv,QU (ah (bF e) (bR _)),e,(show q.2.succ-q.2=1 from Df q.2 1),ai1,PN,Nat.add_zero _,hx];rfl
noncomputable def JD:List Nat:=[10,30,31,32,54,61,62]
theorem ZS(g:GR R)(p:ck R U P aN aA st m c N h)(hm:m≤10000000)(a:kT R (P.map (·.2)) L fq fN)(h1:h (fk st)=aa (.dict fq))(h2:h (fy st)=aa (.dict fN))(hP:(k,L)∈P)(o8:q∈L)(hx:(aG R q.1)[q.2]? =aa x)
  (fin:∀rf rg c' N' h' fr,ck R U P aN aA st (m+1) c' N' h'→kT R (P.map (·.2)) L rf rg→h' (fk st)=aa (.dict rf)→h' (fy st)=aa (.dict rg)→Kq JD N h h'→N≤N'→(vk st k).sub fr→Q .next fr h'):
  SS (mH i b) (tK st k q) h [WQ] Q:=by
 refine jF (p.it.each _ hP) λkN hk S=>?_;have hq:=S.ok g q o8;have it:=(p.it.w.tb.it q hq).1;have hL:L≠[(0,1)]:=λe=>by
  rw[e] at o8;rw[bS.mp o8] at hx;rw[show aG R (0,1).1=aG R 0 from rfl,g.pI] at hx
  (first|exact a7 hx|obtain rfl:=aY hx)
 refine bM (a_ (n:=bh q) n_ it) ?_;refine bM (v:=.str x) (mV (j:=q.2+1) (a_ (n:=bh q) n_ it) (fM n_ bD nW) (pC (bI ((cV.mp hx).1) (ah (g.bu q.1) aJ))) (Ht hx)) ?_;obtain⟨J7,ht,lE⟩:=p.gr.term
 cases jc:dW.contains x with
 |false=>
  refine cf (bt n_ (a_ (n:=aX) (a_ n_ p.it.w.tb.tb) p.gr.gr) ((lE x).trans jc▸qh ht)) (aH (aH (bK (fin fq fN c N h _ (p.up (bR _)) a h1 h2 .same (ar _) (((SF.sub.rfl.b9).b9).b9)))))
 |true=>
  refine cT (bt n_ (a_ (n:=aX) (a_ n_ p.it.w.tb.tb) p.gr.gr) ((lE x).trans jc▸qh ht)) ?_;have Jh:x∈dW:=e9.mp jc;have Jb:x∈j9:=(aW:∀x∈dW,x∈j9) x Jh;have Ri:x∈Sy:=(aW:∀x∈dW,x∈Sy) x Jh;refine kG (dp n_ (iU p.it.w.tb.tb rfl) (i.K.keep rfl) (aB n_ (aB n_ aL)) (y4 (b:=b+1) rfl (S.go g p.it.hU Ri) p.it.w kN hk).cp) ?_;rintro v gI ⟨L',c',M,G⟩;have dh:cG R L x≠[]:=λe=>by
   have:(q.1,q.2+1)∈cG R L x:=gQ.mpr (aU q o8 (aP hx));rw[e] at this;exact cS this
  have AM:L'≠[]:=λe=>dh (G.res.nil.mp e);have S':=S.next g G.res AM;have IQ:=S'.len g;have nb:=G.told.nb;have j5:Kq [10,30,31,32] N h gI:=G.kp.q;have p2:=p.move G.w j5 G.le;have p3:ck R U P aN aA st m c' (M+1) (gI.bX M (eP M L' gI)):=p2.move (B:=[]) G.w.bX (.bX (ar _)) (bR _);have hG:Kq [10,30,31,32] N h (gI.bX M (eP M L' gI)):=j5.trans (.bX (ar _)) G.le;have pl:FP ((mH i b).dn (b+3)) gI (.glob 318) [v] (is (df L') (gI.bX M (eP M L' gI))):=tX (b:=b+2) rfl G.told.told (S'.ok g) G.w.tb.it G.w.tb.free (ah ‹_› aJ);generalize gI.bX M (eP M L' gI)=mU at p3 hG pl;have sj:mU (fk st)=aa (.dict fq):=(hG.1 _ _ rfl).trans h1;have wt:mU (fy st)=aa (.dict fN):=(hG.1 _ _ rfl).trans h2;refine bM (v:=((fL 0 (P.map (·.2))).lookup (df L')).getD (.int (-1))) (g9 (a_ n_ p2.it.w.tb.tb) (jo p2.it.jV) rfl (aB (b8 (i.K.ref rfl) (i.K.keep rfl) (aB n_ aL) pl.cp) (aB (AP bD) aL)) (zf p3.it.jV se)) ?_
  cases hj:(fL 0 (P.map (·.2))).lookup (df L') with
  |none=>
   refine cf (bt (u:=.int (-1)) n_ bD (NN aW)) ?_
   repeat refine aH ?_
   refine bK (fin fq fN c' (M+1) mU _ (p3.up (bR _)) a sj wt (hG.mono) (c8 G.le) ?_);exact(((((SF.sub.rfl.b9).b9).b9).b9).b9)
  |some w=>
   refine aj (Cf hj) λj G0 ax=>?_;subst ax;rw[mZ] at hj ⊢;have j0:0<j:=oh λz=>by
    obtain⟨k0,L0,r,e,adv⟩:=p.first;subst z;rw[e] at G0;exact S.first g G.res AM adv (aY G0).symm
   have AV:Fj R (P.map (·.2)) L x (.int j):=.inr ⟨j,L',j0,rfl,G.res,hj⟩;refine cT (bt (u:=.int j) n_ bD (Ka (jq _))) ?_
   cases e:fq.lookup (.str x) with
   |none=>
    refine bM (g9 n_ (jo sj) rfl (aB n_ aL) (vp sj e)) (cf (bt (u:=.none) n_ k7 vZ) ?_);refine eu (v:=.int j) (n:=fk st) n_ n_ n_ sj (by have:=a.bu;refine(?_:_≤2^24);exact ah ‹_› aJ) ?_;refine eu (v:=a9 q) (n:=fy st) (es:=fN) n_ n_ n_ ((aq az).trans wt) (by have:=xw a.zF a.zj;refine(?_:_≤2^24);exact ah ‹_› aJ) ?_;have p4:=ck.iT (k:=62) (o:=.dict (bj fN (.str x) (a9 q))) (ck.iT (k:=61) (o:=.dict (bj fq (.str x) (.int j))) p3)
    repeat refine aH ?_
    refine bK (fin _ _ c' (M+1) _ _ (p4.up (bR _)) (a.put Jb (.inr AV) hq) ((aq az).trans aS) aS ((hG.mono.trans (M:=M+1) (.set (k:=61)) (c8 G.le)).trans (M:=M+1) (.set (k:=62)) (c8 G.le)) (c8 G.le) ((((((SF.sub.rfl.b9).b9).b9).b9).b9).b9))
   |some w=>
    refine bH (a.key _ _ e) λs' gW z av=>?_;obtain rfl:=Mine.Internal.SV.str.inj z;have av:=av.resolve_left hL;refine bM (g9 n_ (jo sj) rfl (aB n_ aL) (vB sj e)) ?_;rcases av with⟨n,n0,nR,rfl⟩|⟨j',L2,X8,rfl,ad0,rv⟩
    ·refine cT (bt (u:=.int (-(n:Int))) n_ k7 vZ) (cf (bt n_ bD (yr JI)) (cT (bt n_ bD (MT (Jr n0))) ?_))
     refine aj ((a.pk _ _ e).resolve_left hL) λq' fR bV=>?_;refine aj (p3.it.w.tb.pr q'.1 fR.1) λxq tW BU=>?_;have zy:=(p3.it.w.tb.it q' fR).1;refine C5 (u:=.str "right") (w:=.int 0) (g9 n_ (jo p3.gr.prec) rfl (aB n_ (aB (eY (aB cw (aB bD aL))) aL)) (zf p3.gr.prec)) ?_;refine C5 (u:=.str "right") (w:=.int 0) (a_ (n:=bf q'.1) (kK n_ (a_ (n:=bh q') (gY n_ n_ wt bV) zy) p3.gr.fg g.len fR.1) tW) ?_;refine cT (qa (bt n_ n_ (yr aW)) (zg (lH (bt n_ n_ (nN rfl)) (lH (bt n_ cw (nN rfl)) Bk)))) ?_;refine xE (Ml (i:=mH i b) tW (BU.red.imp (λe=>e) (λ⟨k,e⟩=>⟨k,e⟩))) λkr hr=>?_;refine GH (n:=bf q'.1) (kK n_ (a_ (n:=bh q') (gY n_ n_ wt bV) zy) p3.gr.fg g.len fR.1) tW hr bD I_ tW BU.le ?_;have p4:ck R U P aN aA st m c' (M+1) (mU.set (bf q'.1) (.inst 100 ((fX R q'.1++xq).put "reduced" (.int (kr-1))))):=p3.ul (BU.ul _);have OZ:Kq JD N h (mU.set (bf q'.1) (.inst 100 ((fX R q'.1++xq).put "reduced" (.int (kr-1))))):=hG.mono.trans (M:=M+1) .set (c8 G.le);have NA:(mU.set (bf q'.1) (.inst 100 ((fX R q'.1++xq).put "reduced" (.int (kr-1))))) (fk st)=aa (.dict fq):=sj;have PA:(mU.set (bf q'.1) (.inst 100 ((fX R q'.1++xq).put "reduced" (.int (kr-1))))) (fy st)=aa (.dict fN):=wt;generalize mU.set (bf q'.1) (.inst 100 ((fX R q'.1++xq).put "reduced" (.int (kr-1))))=h4 at p4 OZ NA PA ⊢;refine eu (v:=.int j) (n:=fk st) n_ n_ n_ NA (by have:=a.bu;refine(?_:_≤2^24);exact ah ‹_› aJ) ?_;refine eu (v:=a9 q) (n:=fy st) (es:=fN) n_ n_ n_ ((aq az).trans PA) (by have:=xw a.zF a.zj;refine(?_:_≤2^24);exact ah ‹_› aJ) ?_;have p5:=ck.iT (k:=62) (o:=.dict (bj fN (.str x) (a9 q))) (ck.iT (k:=61) (o:=.dict (bj fq (.str x) (.int j))) p4);refine cT (fz (t:=an) (p_ n_ JE)) ?_;obtain⟨vs,hv,hl⟩:=p5.sr;refine fJ (dp (u:=.ref (.mk 54 [])) (a_ n_ p5.it.w.tb.tb) (fV hv) ij (aB (eY (aB n_ (aB n_ (aB cw aL)))) aL) (ga hv (by refine(?_:_≤2^24);exact ah (ah ‹_› ‹_›) aJ))) ?_
     repeat refine aH ?_
     refine bK (fin _ _ c' (M+1) _ _ (p5.Jm hv) (a.put Jb (.inr AV) hq) ((aq az).trans ((aq az).trans aS)) ((aq az).trans aS) (((OZ.trans (M:=M+1) (.set (k:=61)) (c8 G.le)).trans (M:=M+1) (.set (k:=62)) (c8 G.le)).trans (M:=M+1) (.set (k:=54)) (c8 G.le)) (c8 G.le) ?_);exact(((((((((SF.sub.rfl.b9).b9).b9).b9).b9).b9).b9).b9).b9).b9
    ·obtain rfl:=ad0.det G.res
     rw[hj] at rv
     cases rv
     refine cT (bt (u:=.int j) n_ k7 vZ) (cT (bt n_ bD (Cm (ib.mpr X8))) (cf (bt n_ n_ (D4 rfl)) ?_))
     repeat refine aH ?_
     refine bK (fin fq fN c' (M+1) mU _ (p3.up (bR _)) a sj wt (hG.mono) (c8 G.le) ?_);exact(((((SF.sub.rfl.b9).b9).b9).b9).b9).b9
structure TS where
 ea:b7
 ep:b7
 c:Int
 N:Nat
 h:SH
noncomputable def SJ:List Nat:=[10,30,31,32,54,55,61,62]
structure TJ(R:bm)(U:List (List aF))(P:List (Nat×List aF))(L:List aF)(aN:Nat)(aA:SH)(vr:Nat)(ag:SH)(st m:Nat)(s:TS):Prop where
 p:ck R U P aN aA st m s.c s.N s.h
 a:kT R (P.map (·.2)) L s.ea s.ep
 ta:s.h (fk st)=aa (.dict s.ea)
 tp:s.h (fy st)=aa (.dict s.ep)
 kq:Kq SJ vr ag s.h
 le:vr≤s.N
variable{vr:Nat}
theorem Mx{a c:cy}:((h.set (fk st) a).set (fy st) c) (fk st)=aa a:=(aq az).trans aS
theorem Y0{t:TS}(g:GR R)(J:TJ R U P L aN aA vr ag st m t)(hm:m≤9999990)(hP:(k,L)∈P)(o8:q∈L)
  (fin:∀ea ep c N h fr,TJ R U P L aN aA vr ag st (m+4) ⟨ea,ep,c,N,h⟩→(vk st k).sub fr→Q .next fr h):
  SS (mH i b) (tK st k q) t.h [d_ (stN wG 3)] Q:=by
 refine jF (J.p.it.each _ hP) λkN hk S=>?_;have hq:=S.ok g q o8;have it:=(J.p.it.w.tb.it q hq).1;have h3:=g.bu q.1
 by_cases hc:q.2=(aG R q.1).length
 ·refine cT (bt (a_ (n:=bh q) n_ it) (fM (a_ (n:=bh q) n_ it) bD nW) (nN (by rw[hc];rfl))) ?_
  rcases sJ q.1 with z|hn
  ·have hL:L=[(0,1)]:=by
    rw[z,g.pI] at hc;obtain⟨u,w⟩:=q;subst z;subst hc;exact S.one g o8
   refine cT (bt (a_ (n:=bh q) n_ it) cw (nN (by rw[z,g.yl]))) ?_;refine eu (v:=.int 0) (n:=fk st) bD n_ cw J.ta (by have:=J.a.bu;refine(?_:_≤2^24);exact ah ‹_› aJ) ?_;refine eu (v:=a9 q) (n:=fy st) (es:=t.ep) n_ n_ cw ((aq az).trans J.tp) (by have:=xw J.a.zF J.a.zj;refine(?_:_≤2^24);exact ah ‹_› aJ) ?_
   repeat refine aH ?_
   exact bK (fin (bj t.ea (.str "$end") (.int 0)) (bj t.ep (.str "$end") (a9 q)) t.c t.N _ _ ⟨(ck.iT (k:=62) (o:=.dict (bj t.ep (.str "$end") (a9 q))) (ck.iT (k:=61) (o:=.dict (bj t.ea (.str "$end") (.int 0))) J.p)).up (b6 _ _),J.a.put aW (.inl hL) hq,Mx (c:=.dict (bj t.ep (.str "$end") (a9 q))),aS,(J.kq.trans (M:=t.N) (.set (k:=61)) J.le).trans (M:=t.N) (.set (k:=62)) J.le,J.le⟩ (SF.sub.rfl.b9))
  ·have xr:qE (bE R q.1)=ab:=by rcases g.nm q.1 hn hq.1 with e|e|e<;>rw[e]<;>rfl
   have ly:bE R q.1≠"S'":=λe=>by rw[e] at xr;revert xr;exact aW
   have hL:L≠[(0,1)]:=λe=>by
    rw[e] at o8;rw[bS.mp o8] at hn;exact bc hn (fo _)
   refine cf (bt (a_ (n:=bh q) n_ it) cw (lU λe=>ly (by injection e))) ?_;refine cf (bt (a_ n_ J.p.it.w.tb.tb) cw (lU aW)) ?_;obtain⟨Fd,hf,Hg⟩:=J.p.gr.nC;refine yS (Hg _ xr) λe1 fs e2 nd iy=>?_;have l4:fs.length≤4:=fO nd (l₂:=j9) iy;refine bM (gY (a_ (n:=aX) (a_ n_ J.p.it.w.tb.tb) J.p.gr.gr) (a_ (n:=bh q) n_ it) hf e1) ?_;refine aH ?_;refine eo (σ:=TS) (λ_=>tK st k q) TS.h (λt' j=>TJ R U P L aN aA vr ag st (m+j) t'∧t'.h (.mk 48 [sym (bE R q.1)])=aa (.list (fs.map .str))) t (fs.map .str) (d8 n_ e2) ⟨J,e2⟩ (SF.sub.rfl.b9) (λt' j Z=>d6 Z.2) (λt' j v Z e=>?_) λt' Z=>?_
   ·refine aj (dH e) λs hs ax=>?_;subst ax
    refine dX (RL g Z.1.p (ah (fp hm (cj (bI ((cV.mp hs).1) l4))) aJ) Z.1.a Z.1.ta Z.1.tp hq hn hL (iy s (bN hs)) λea ep h' fr p' a' ha hp kq sb=>LQ.next ⟨ea,ep,t'.c,t'.N,h'⟩ ⟨⟨p',a',ha,hp,Z.1.kq.trans (M:=t'.N) kq.mono Z.1.le,Z.1.le⟩,(kq.1 _ _ rfl).trans Z.2⟩ sb)
   ·repeat refine aH ?_
    rw[aI] at Z;exact bK (fin t'.ea t'.ep t'.c t'.N t'.h _ ⟨Z.1.p.up (e6 l4 _),Z.1.a,Z.1.ta,Z.1.tp,Z.1.kq,Z.1.le⟩ (SF.sub.rfl.b9))
 ·have hlt:q.2< (aG R q.1).length:=wO hq.2 hc
  refine cf (bt (a_ (n:=bh q) n_ it) (fM (a_ (n:=bh q) n_ it) bD nW) (lU λe=>by injection e with e;exact dG (pC hlt) (w7 e))) ?_;have:=ZS (i:=i) (b:=b) (Q:=Q) g J.p (ah ‹_› aJ) J.a J.ta J.tp hP o8 (fb hlt) λea ep c' N' h' fr p' a' ha hp kq le sb=>fin ea ep c' N' h' fr ⟨p'.up (e6 aJ _),a',ha,hp,J.kq.trans (M:=t.N) kq.mono J.le,ah J.le le⟩ sb;exact⟨λfr' s=>iH.imp (this.run fr' s) (λf fr h q=>by
   cases f with
   |next=>exact wf q
   |_=>exact q) λ_ _ _ q=>q⟩
noncomputable def iC(st:Nat):Nm:=.mk 64 [st]
noncomputable def rS(st k:Nat):SF:=(vk st k).put "nkeys" (.ref (iC st))
theorem XB(g:GR R)(p:ck R U P aN aA st m c N h)(ok:∀q∈L,cY R q)(hL:h (gN k)=aa (.list (L.map a9)))
  (fin:∀es,iA es→SS (mH i b) (rS st k) (h.set (iC st) (.dict es)) (wG.drop 6::kk) Q):
  SS (mH i b) (rS st k) (h.set (iC st) (.dict [])) (wG.drop 5::kk) Q:=by
 have it:=p.it.w.tb.it;have xz:∀(es:b7) q,cY R q→(h.set (iC st) (.dict es)) (bh q)=aa (.inst 135 (dV R q))∧(h.set (iC st) (.dict es)) (.mk 42 [q.1])=aa (.list ((qq R q.1).map .str)):=λes q hq=>⟨(it q hq).1,(it q hq).2.2⟩;refine eo (σ:=b7) (λ_=>rS st k) (λes=>h.set (iC st) (.dict es)) (λes _=>iA es) [] (L.map a9) (d8 (n:=gN k) n_ hL) ⟨.nil,λ_ h=>by exact cS h⟩ .rfl (λes j _=>d6 (n:=gN k) hL) (λes j v A e=>?_) λes A=>aH (fin es A);refine aj (dH e) λq hq ax=>?_;subst ax;have Q1:=xz es q (ok q (bN hq));refine dX (eo (σ:=b7) (λ_=>rS st k) (λes=>h.set (iC st) (.dict es)) (λes _=>iA es) es ((qq R q.1).map .str) (d8 (a_ (n:=bh q) n_ Q1.1) Q1.2) A (SF.sub.rfl.b9) (λes' j _=>d6 (xz es' q (ok q (bN hq))).2) (λes' j' v' A' e'=>?_) λes' A'=>aH (aH (bK (LQ.next es' A' .rfl))));refine aj (dH e') λs hs ax=>?_;subst ax;obtain⟨kf,hn,vj⟩:=p.gr.ii
 cases jc:qE s with
 |false=>
  exact dX (cf (bt n_ (a_ (n:=aX) (a_ (n:=dg) n_ p.it.w.tb.tb) p.gr.gr) ((vj s).trans jc▸qh (h:=h.set (iC st) (.dict es')) (n:=.mk 39 []) hn)) (aH (aH (bK (LQ.next es' A' (SF.sub.rfl.b9))))))
 |true=>
  refine dX (cT (bt n_ (a_ (n:=aX) (a_ (n:=dg) n_ p.it.w.tb.tb) p.gr.gr) ((vj s).trans jc▸qh (h:=h.set (iC st) (.dict es')) (n:=.mk 39 []) hn)) ?_);refine eu (n:=iC st) k7 n_ n_ aS (by have:=A'.len;refine(?_:_≤2^24);exact ah ‹_› aJ) ?_;exact aH (aH (bK (LQ.next (bj es' (.str s) .none) (A'.put (g.qq (bN hs))) (SF.sub.rfl.b9) (iF.symm))))
theorem iA.aex{es:b7}(a:iA es)(hs:s∈Sy):iA (bj es (.str s) v):=⟨o9 a.1,λk hk=>by
 rcases(wH k).mp hk with rfl|hk
 ·exact(aU s hs rfl)
 ·exact a.2 k hk⟩
theorem acs{eg:b7}(g:GR R)(p:ck R U P aN aA st m c N h)(hP:(k,L)∈P)(hx:x∈Sy)(hg:h (jj st)=aa (.dict eg))(A:iA eg)
  (fin:∀OW c' N' h' fr,ck R U P aN aA st m c' N' h'→h' (jj st)=aa (.dict OW)→iA OW→Kq [10,30,31,32,63] N h h'→N≤N'→(rS st k).sub fr→Q .next fr h'):
  SS (mH i b) ((rS st k).put "n" (.str x)) h [d_ (stN wG 6)] Q:=by
 refine jF (p.it.each _ hP) λkN hk S=>?_;refine kG (dp n_ (iU p.it.w.tb.tb rfl) (i.K.keep rfl) (aB n_ (aB n_ aL)) (y4 (b:=b+1) rfl (S.go g p.it.hU hx) p.it.w kN hk).cp) ?_;rintro v gI ⟨L',c',M,G⟩;have IQ:L'.length≤50:=G.res.len (ah vq (ah (S.len g) aJ)) p.it.w.tb.hR;have nb:=G.told.nb;have j5:Kq [10,30,31,32] N h gI:=G.kp.q;have p2:=p.move G.w j5 G.le;have p3:ck R U P aN aA st m c' (M+1) (gI.bX M (eP M L' gI)):=p2.move (B:=[]) G.w.bX (.bX (ar _)) (bR _);have hG:Kq [10,30,31,32] N h (gI.bX M (eP M L' gI)):=j5.trans (.bX (ar _)) G.le;have pl:FP ((mH i b).dn (b+3)) gI (.glob 318) [v] (is (df L') (gI.bX M (eP M L' gI))):=tX (b:=b+2) rfl G.told.told (G.res.ok (Ac (S.ok g))) G.w.tb.it G.w.tb.free (ah ‹_› aJ);generalize gI.bX M (eP M L' gI)=mU at p3 hG pl;have Ny:mU (jj st)=aa (.dict eg):=(hG.1 _ _ rfl).trans hg;refine bM (v:=((fL 0 (P.map (·.2))).lookup (df L')).getD (.int (-1))) (g9 (a_ n_ p2.it.w.tb.tb) (jo p2.it.jV) rfl (aB (b8 (i.K.ref rfl) (i.K.keep rfl) (aB n_ aL) pl.cp) (aB (AP bD) aL)) (zf p3.it.jV se)) ?_
 cases hj:(fL 0 (P.map (·.2))).lookup (df L') with
 |none=>
  refine cf (bt (u:=.int (-1)) n_ bD (NN aW)) ?_
  repeat refine aH ?_
  exact bK (fin eg c' (M+1) mU _ p3 Ny A hG.mono (c8 G.le) (((SF.sub.rfl.b9).b9).b9))
 |some w=>
  refine aj (Cf hj) λj G0 ax=>?_;subst ax;refine cT (bt (u:=.int (0+j:Nat)) n_ bD (Ka (jq _))) ?_;refine eu (v:=.int (0+j:Nat)) (n:=jj st) n_ n_ n_ Ny (by have:=A.len;refine(?_:_≤2^24);exact ah ‹_› aJ) ?_
  repeat refine aH ?_
  exact bK (fin (bj eg (.str x) (.int (0+j:Nat))) c' (M+1) _ _ (ck.iT (k:=63) (o:=.dict (bj eg (.str x) (.int (0+j:Nat)))) p3) aS (A.aex hx) (hG.mono.trans (M:=M+1) (.set (k:=63)) (c8 G.le)) (c8 G.le) (((SF.sub.rfl.b9).b9).b9))
structure OS where
 st:Nat
 c:Int
 N:Nat
 h:SH
def Hm(h:SH)(st:Nat):Prop:=∀k∈([61,62,63,64]:List Nat),∀j,st≤j→h (.mk k [j])=af
structure OJ(R:bm)(U:List (List aF))(P:List (Nat×List aF))(aN:Nat)(aA:SH)(s:OS)(j:Nat):Prop where
 st:s.st=j
 p:ck R U P aN aA j (56*j) s.c s.N s.h
 fr:Hm s.h j
noncomputable def Fa(s:OS):SF:=[("self",.ref dg),("Productions",.ref (.mk 35 [])),("Precedence",.ref (.mk 49 [])),("goto",.ref (.mk 52 [])),("action",.ref (.mk 51 [])),("actionp",.ref (.mk 65 [])),("C",.ref g8),("st",.int s.st)]
theorem ajk{v1 v2 v3:SV}{e1 e2 e3:b7}(p:ck R U P aN aA st m c N h)(h1:h (.mk 51 [])=aa (.dict e1))(h2:h (.mk 65 [])=aa (.dict e2))(h3:h (.mk 52 [])=aa (.dict e3)):
  ck R U P aN aA (st+1) m c N (((h.set (.mk 51 []) (.dict (bj e1 (.int st) v1))).set (.mk 65 []) (.dict (bj e2 (.int st) v2))).set (.mk 52 []) (.dict (bj e3 (.int st) v3))):=by
 obtain⟨a1,b1,c1⟩:=p.ac;obtain⟨a2,b2,c2⟩:=p.ap;obtain⟨a3,b3,c3⟩:=p.go;rw[h1] at b1;cases b1;rw[h2] at b2;cases b2;rw[h3] at b3;cases b3;have w1:cX R U c N (h.set (.mk 51 []) (.dict (bj e1 (.int st) v1))):=p.it.w.set;have w2:cX R U c N ((h.set (.mk 51 []) (.dict (bj e1 (.int st) v1))).set (.mk 65 []) (.dict (bj e2 (.int st) v2))):=w1.set;exact⟨⟨(w2.set:cX R U c N (((h.set (.mk 51 []) (.dict (bj e1 (.int st) v1))).set (.mk 65 []) (.dict (bj e2 (.int st) v2))).set (.mk 52 []) (.dict (bj e3 (.int st) v3)))),p.it.jV,p.it.nd,p.it.each,p.it.hU⟩,p.C,p.gr.same λk l hk=>(aq λe=>by injection e with e;subst e;exact cM hk).trans ((aq λe=>by injection e with e;subst e;exact cM hk).trans (aq λe=>by injection e with e;subst e;exact cM hk)),((p.kq.trans (M:=N) (.set (k:=51)) p.le).trans (M:=N) (.set (k:=65)) p.le).trans (M:=N) (.set (k:=52)) p.le,p.le,
  (aU _ ((aq az).trans aS) (ah tG (eG c2))),(aU _ ((aq az).trans ((aq az).trans aS)) (ah tG (eG c1))),(aU _ aS (ah tG (eG c3))),p.sr,p.rr,p.first,λk hk j hj=>(aq (kZ hk)).trans ((aq (kZ hk)).trans ((aq (kZ hk)).trans (p.fresh k hk j (oy hj))))⟩
theorem Χ{s:OS}{j:Nat}(g:GR R)(J:OJ R U P aN aA s j)(hj:j<109603)(hP:(k,L)∈P)
  (fin:∀c' N' h' fr,OJ R U P aN aA ⟨j+1,c',N',h'⟩ (j+1)→(Fa ⟨j+1,c',N',h'⟩).sub fr→Q .next fr h'):
  SS (mH i b) ((Fa s).put "I" (.ref (gN k))) s.h [wG] Q:=by
 obtain⟨rfl,p,qn⟩:=J;refine jF (p.it.each _ hP) λkN hk S=>?_;have Lw:L.length≤14:=S.len g;refine bM (gR (n:=fk s.st) (qn 61 bQ _ (ar _))) ?_;refine bM (gR (n:=fy s.st) ((aq az).trans (qn 62 bQ _ (ar _)))) ?_;refine bM (gR (n:=jj s.st) ((aq az).trans ((aq az).trans (qn 63 bQ _ (ar _))))) ?_;have p1:ck R U P aN aA s.st (56*s.st) s.c s.N (((s.h.set (fk s.st) (.dict [])).set (fy s.st) (.dict [])).set (jj s.st) (.dict [])):=ck.iT (k:=63) (o:=.dict []) (ck.iT (k:=62) (o:=.dict []) (ck.iT (k:=61) (o:=.dict []) p));have j5:Kq [61,62,63] s.N s.h (((s.h.set (fk s.st) (.dict [])).set (fy s.st) (.dict [])).set (jj s.st) (.dict [])):=((Kq.set (k:=61)).trans (Kq.set (k:=62)) (ar _)).trans (Kq.set (k:=63)) (ar _);have NQ:(((s.h.set (fk s.st) (.dict [])).set (fy s.st) (.dict [])).set (jj s.st) (.dict [])) (fk s.st)=aa (.dict []):=(aq az).trans Mx;have Km:(((s.h.set (fk s.st) (.dict [])).set (fy s.st) (.dict [])).set (jj s.st) (.dict [])) (fy s.st)=aa (.dict []):=(aq az).trans aS;have OM:(((s.h.set (fk s.st) (.dict [])).set (fy s.st) (.dict [])).set (jj s.st) (.dict [])) (jj s.st)=aa (.dict []):=aS;generalize ((s.h.set (fk s.st) (.dict [])).set (fy s.st) (.dict [])).set (jj s.st) (.dict [])=h1 at p1 j5 NQ Km OM ⊢;refine SS.sub (ey:=vk s.st k) ?_ (ai (ai (ai (ai (ai (ai (ai (ai (ai (ai (ai (ai br))))))))))));have rn:h1 (gN k)=aa (.list (L.map a9)):=(j5.2 k [] kN).trans hk;refine eo (σ:=TS) (λ_=>vk s.st k) TS.h (λt j=>TJ R U P L aN aA s.N h1 s.st (56*s.st+4*j) t) ⟨[],[],s.c,s.N,h1⟩ (L.map a9) (d8 n_ rn) ⟨p1,.nil,NQ,Km,.same,ar _⟩ .rfl (λt j J=>d6 ((J.kq.2 k [] kN).trans rn)) (λt j v J e=>?_) λt J=>?_
 ·refine aj (dH e) λq hq ax=>?_;subst ax
  exact dX (Y0 g J (ah (fp (pB 56 (eS hj)) (pB 4 (ah (cj ((cV.mp hq).1)) Lw))) aJ) hP (bN hq) λea ep c N h fr J' sb=>LQ.next ⟨ea,ep,c,N,h⟩ ⟨J'.p.up (ar _),J'.a,J'.ta,J'.tp,J'.kq,J'.le⟩ sb)
 ·rw[aI] at J
  refine aH ?_;refine bM (gR (n:=iC s.st) ((J.kq.1 _ _ rfl).trans ((j5.1 _ _ rfl).trans (qn 64 bQ _ (ar _))):t.h (iC s.st)=af)) ?_;refine SS.sub (ey:=rS s.st k) (XB g J.p (S.ok g) ((J.kq.2 k [] kN).trans rn:t.h (gN k)=aa (.list (L.map a9))) λes A=>?_) .rfl;have kL:=A.str;have p2:ck R U P aN aA s.st (56*s.st+4*L.length) t.c t.N (t.h.set (iC s.st) (.dict es)):=ck.iT (k:=64) (o:=.dict es) J.p;have hG:Kq [10,30,31,32,54,55,61,62,63,64] s.N s.h (t.h.set (iC s.st) (.dict es)):=(j5.mono.trans J.kq.mono (ar _)).trans (M:=t.N) (.set (k:=64)) J.le;have LG:(t.h.set (iC s.st) (.dict es)) (jj s.st)=aa (.dict []):=(aq az).trans ((J.kq.1 _ _ rfl).trans OM:t.h (jj s.st)=aa (.dict []));have Hi:(t.h.set (iC s.st) (.dict es)) (iC s.st)=aa (.dict es):=aS;generalize t.h.set (iC s.st) (.dict es)=h2 at p2 hG LG Hi ⊢;refine eo (σ:=TS) (λ_=>rS s.st k) TS.h (λu j=>ck R U P aN aA s.st (56*s.st+4*L.length) u.c u.N u.h∧u.h (jj s.st)=aa (.dict u.ea)∧iA u.ea∧u.h (iC s.st)=aa (.dict es)∧Kq [10,30,31,32,54,55,61,62,63,64] s.N s.h u.h∧s.N≤u.N) ⟨[],[],t.c,t.N,h2⟩ (es.map (·.1)) (vb n_ Hi kL) ⟨p2,LG,⟨.nil,λ_ h=>by exact cS h⟩,Hi,hG,J.le⟩ .rfl (λu j J=>wd J.2.2.2.1 kL) (λu j v Z e=>?_) λu Z=>?_
  ·refine aj (A.2 v (bN e)) λx hx ax=>?_;subst ax
   refine GV Z λz1 z2 z3 z4 z5 z6=>?_;clear Z;exact dX (acs g z1 hP hx z2 z3 λeg c N h fr p' hg A' kq le sb=>LQ.next ⟨eg,[],c,N,h⟩ ⟨p',hg,A',(kq.1 _ _ rfl).trans z4,(z5.trans (M:=u.N) kq.mono z6),ah z6 le⟩ sb)
  ·refine GV Z λz1 z2 z3 z4 z5 z6=>?_;clear Z
   refine aH ?_;obtain⟨e1,q1,l1⟩:=z1.ac;obtain⟨e2,q2,l2⟩:=z1.ap;obtain⟨e3,q3,l3⟩:=z1.go;refine eu (n:=.mk 51 []) n_ n_ n_ q1 (by refine(?_:_≤2^24);exact cj (bd l1 (bI hj aJ))) ?_;refine eu (n:=.mk 65 []) n_ n_ n_ ((aq az).trans q2) (by refine(?_:_≤2^24);exact cj (bd l2 (bI hj aJ))) ?_;refine eu (n:=.mk 52 []) n_ n_ n_ ((aq az).trans ((aq az).trans q3)) (by refine(?_:_≤2^24);exact cj (bd l3 (bI hj aJ))) ?_;refine x_ rfl bD u_ (aH (bK (fin u.c u.N _ _ ⟨rfl,((ajk (v1:=.ref (fk s.st)) (v2:=.ref (fy s.st)) (v3:=.ref (jj s.st)) z1 q1 q2 q3).up (m':=56*(s.st+1)) (e6 (ah (pB _ Lw) aJ) _)),λk hk j hj=>(aq (kZ hk)).trans ((aq (kZ hk)).trans ((aq (kZ hk)).trans (z1.fresh k hk j hj)))⟩ ?_)));exact ai (ai (ai (ai (ai (ai (ai (ai br)))))))
structure Pq(R:bm)(h:SH):Prop where
 gr:iI R h
 jV:h iR=aa (.dict [])
 cl:h g8=af
 as:∀j,h (ir j)=af
 ac:h (.mk 51 [])=aa (.dict [])
 go:h (.mk 52 [])=aa (.dict [])
 sr:h (.mk 54 [])=aa (.list [])
 rr:h (.mk 55 [])=aa (.list [])
 ap:h (.mk 65 [])=af
 fresh:Hm h 0
theorem VU(hb:i.b=b+4)(g:GR R)(AO:gz R ⊆ U)(W:cX R U c N h)(eO:Pq R h):FP i h (.glob 424) [.ref dg] (λv h'=>v=.none∧∃c' N',cX R U c' N' h'∧iI R h'∧Kq uQ N h h'∧N≤N'):=by
 refine enter i.K.ptable Jw w_pt hb rfl ?_;refine bM (a_ (n:=aX) (a_ n_ W.tb.tb) eO.gr.gr) ?_;refine bM (a_ (n:=aX) (a_ n_ W.tb.tb) eO.gr.gr) ?_;refine bM (a_ n_ W.tb.tb) ?_;refine bM (a_ n_ W.tb.tb) ?_;refine bM (gR (n:=.mk 65 []) eO.ap) ?_;have W1:cX R U c N (h.set (.mk 65 []) (.dict [])):=W.set;have j5:Kq uQ N h (h.set (.mk 65 []) (.dict [])):=.set;have ap1:(h.set (.mk 65 []) (.dict [])) (.mk 65 [])=aa (.dict []):=aS;have Ej:iI R (h.set (.mk 65 []) (.dict [])):=eO.gr.set;refine kG (dp n_ (iU W1.tb.tb rfl) (i.K.keep rfl) aL (Tp (b:=b) rfl g AO W1 ((aq az).trans eO.jV) Ej.gr rfl Ej.fg ((aq az).trans eO.cl) (λj=>(aq az).trans (eO.as j))).cp) ?_;rintro v h2 ⟨rfl,P,n,c2,N2,J⟩;have hG:Kq uQ N h h2:=j5.trans (M:=N) J.kq.mono (ar _);have e2:∀{k l},(99::rt).contains k=an→(65==k)=an→h2 (.mk k l)=h (.mk k l):=λ{k l} h1 h2=>(J.kq.1 k l h1).trans (aq λe=>bc (Nm.mk.inj e).1.symm (k9.mp h2));refine cf (bt (a_ n_ J.it.w.tb.tb) cw (lU aW)) (aH (bM bD ?_));have LP:Hm h2 0:=λk hk j hj=>by
  exact(e2 ((aW:∀k∈([61,62,63,64]:List Nat),(99::rt).contains k=an) k hk) ((aW:∀k∈([61,62,63,64]:List Nat),(65==k)=an) k hk)).trans (eO.fresh k hk j hj)
 have bu:P.length≤109603:=by
  have:=fO J.it.nd (l₂:=gz R) λL hL=>by refine aj (bB.mp hL) λp hp ax=>?_;subst ax;exact(J.it.each p hp).2.2.mem
  rw[aI] at this;exact ah this (EU g)
 refine eo (σ:=OS) Fa OS.h (OJ R U P N h) ⟨0,c2,N2,h2⟩ (P.map oQ) (d8 n_ J.C) ⟨rfl,(⟨J.it,J.C,Ej.kq J.kq,hG,J.le,(aU ([]) ((J.kq.1 65 [] rfl).trans ap1) (b_ _)),(aU ([]) ((e2 rfl rfl).trans eO.ac) (b_ _)),(aU ([]) ((e2 rfl rfl).trans eO.go) (b_ _)),(aU ([]) ((e2 rfl rfl).trans eO.sr) (b_ _)),(aU ([]) ((e2 rfl rfl).trans eO.rr) (b_ _)),J.first,λk hk j hj=>LP k hk j (b_ _)⟩:ck R U P N h 0 0 c2 N2 h2),LP⟩ (ai (ai (ai (ai (ai (ai (ai (ai br)))))))) (λs j Z=>d6 Z.p.C) (λs j v Z e=>?_) λs Z=>?_
 ·refine aj (dH e) λp hp ax=>?_;subst ax
  have ig:=(cV.mp hp).1;exact dX (Χ (k:=p.1) (L:=p.2) g Z (ah ‹_› ‹_›) (bN hp) λc' N' h' fr J' sb=>LQ.next ⟨j+1,c',N',h'⟩ J' sb)
 ·exact aH (aH (bK ⟨rfl,s.c,s.N,Z.p.it.w,Z.p.gr,Z.p.kq,Z.p.le⟩))
section
open Builtin Builtin.Str
theorem O'{e:Expr}{pos:Pos}{Q:QV}{X:QX}(w:WE G F b fr h e (λv ag=>∃y:Str,y.length≤1000∧(v=.str y∨∃ys:List Str,de G ag v (ys.map .str)∧y=(IB (ys.map .str)).shown)∧Q (.str y) ag) X):WE G F b fr h (.FormattedValue e 115 af pos) Q X:=by
 refine .mk ?_;intro own ae A P m s Q' E' R c d;show aw (aR G.prog G.w) A (do let v ←d9 e ae;kh pos;formatted pos (←ju [v] (converted 115 v)) af) Q' E' s;refine wb (w.run own ae A P m s _ _ R (λv ag v' aZ bW bU hq hP hm hv a6=>?_) d);refine bH hq λy hy hu hQ=>?_;clear hq;have hsz:1000≤cR:=aJ;refine wb (jJ ?_);have fin:∀(bz:ak) (t:Tok),(∀a o,aZ.heap.get? a=aa o→bz.heap.get? a=aa o)→bz.gens=aZ.gens→bz.os=aZ.os→aw (aR G.prog G.w) A (QW (.str y t) z9) Q' E' bz:=λbz t hk hg ho=>
  formatField_str (λt' tk=>c _ _ _ _ _ _ hQ hP hm ⟨_,rfl⟩ ((a6.grow hk hg ho).tok tk)) (ah ‹_› aJ)
 rcases hu with rfl|⟨ys,hl,rfl⟩
 ·refine xE hv λt2 bq=>?_;clear hv;subst bq
  show aw _ _ (do let v' ←ju [.str y t2] (habitSame "fstring-hands-on-the-str" (.str y t2));QW v' z9) Q' E' aZ;exact wb (dM (habitSame_str (λt' tk=>fin {aZ with toks:=tk} t' (λ_ _ e=>e) rfl rfl) (ah ‹_› aJ)))
 ·obtain⟨a2,zs,rfl,⟨o2,q8,rH,n2,ya⟩,hZ⟩:=a6.jd hl hv
  show aw _ _ (do let v' ←ju [.ref a2] (pyStrObj (.ref a2));QW v' z9) Q' E' aZ;refine wb (dM (pyStrObj_of_reads (d:=.list (ys.map .str)) (Reads.list q8 rH ya (hZ.reads aZ.heap)) (by simp only[PyData.showable];exact PyData.showableAll_strs ys)
   (λe=>by simp only[aio] at e;rw[noDict] at e;exact cM e) a6.guards (by rw[show(IB (ys.map .str)).depth=1 by simp only[aip];rw[JS]];exact bd (fp (b6 _ _) (lu _ _)) a6.units) (λ_ _ e=>e) (λh' u tk dY=>fin {aZ with heap:=h',toks:=tk} u dY rfl rfl) (ah ‹_› aJ)))
noncomputable def WJ(G:Gl)(F:FD)(b:Nat)(fr:SF):List Expr→Str→SH→QV→QX→Prop
 |[],acc,h,Q,_=>Q (.str acc) h
 |e::r,acc,h,Q,X=>WE G F b fr h e (λv ag=>∃y,v=.str y∧(acc++y).length≤cR∧WJ G F b fr r (acc++y) ag Q X) X
theorem K_{own:List au}{ae:Env}{A:dZ}{Q:QV}{X:QX}{Q':Value→ak→Prop}{E':Value→ak→Prop}:∀{es:List Expr} {acc:Str} {h:SH} {P:aV} {m:Mu} {s:ak},acc.length≤cR→WJ G F b fr es acc h Q X→Rel G F b own ae A P m fr h s→
  (∀v h' v' s' P' m',Q v h'→P.le P'→m.le m'→VR P' m' v v'→Rel G F b own ae A P' m' fr h' s'→Q' v' s')→g0 G F b own ae A P m fr X E'→
  aw (aR G.prog G.w) A (joinParts acc (evalEach es ae)) Q' E' s
 |[],acc,h,P,m,s,ha,w,R,c,d=>joinParts_nil (c _ _ _ _ _ _ w .rfl .rfl ⟨_,rfl⟩ (R.tok _)) ha
 |e::r,acc,h,P,m,s,ha,w,R,c,d=>by
  show aw _ _ (joinParts acc (d9 e ae::evalEach r ae)) _ _ _;refine joinParts_cons (w.run own ae A P m s _ _ R (λv ag v' aZ bW bU hq hP hm hv a6=>?_) d);refine bH hq λy bq hz w'=>?_;clear hq;subst bq;refine xE hv λt bq=>?_;clear hv;subst bq;exact⟨hz,K_ hz w' a6 (λv h' v' s' P' m' q a b=>c v h' v' s' P' m' q (hP.trans a) (hm.trans b)) (d.mono hP hm)⟩
theorem Xt{e e':Expr}{es:List Expr}{pos:Pos}{Q:QV}{X:QX}(w:WJ G F b fr (e::e'::es) z9 h Q X):WE G F b fr h (.JoinedStr (e::e'::es) pos) Q X:=by
 refine .mk ?_;intro own ae A P m s Q' E' R c d;exact JoinedStr_many (K_ aJ w R c d)
end
variable{k:List (List bx)}
theorem aE{k k':Nat}{l l':List Nat}{o:cy}{x:Option cy}(e:h (.mk k' l')=x)(hk:autoParam ((k'==k)=an) dI):(h.set (.mk k l) o) (.mk k' l')=x:=(aq (az hk)).trans e
theorem tR{k k':Nat}{l l':List Nat}{o:cy}(hk:autoParam ((k'==k)=an) dI):(h.set (.mk k l) o) (.mk k' l')=h (.mk k' l'):=aq (az hk)
theorem tM{k k' PD:Nat}{l l' l₂:List Nat}{o Xi:cy}(hk:autoParam ((k'==k)=an) dI)(An:autoParam ((k'==PD)=an) dI):((h.set (.mk k l) o).set (.mk PD l₂) Xi) (.mk k' l')=h (.mk k' l'):=(aq (az An)).trans (aq (az hk))
theorem Ab{n m:Nm}{a c:cy}(e:n≠m):(h.set n a).set m c=(h.set m c).set n a:=funext λx=>by
 unfold SH.set
 by_cases h1:x=m
 ·rw[aP h1,aK (by rw[h1];exact e.symm),aP h1]
 ·rw[aK h1]
  by_cases h2:x=n
  ·rw[aP h2,aP h2]
  ·rw[aK h2,aK h2,aK h1]
theorem Ra{n m:Nm}{a a' c:cy}(e:n≠m):((h.set m a).set n c).set m a'=(h.set m a').set n c:=by rw[Ab e,iF]
theorem Et{vs:List SV}{k:Nat}(hk:vs.length=k)(hz:vs.length<2^62):CP i h (.bi "len") [.tup vs] (is (.int k) h):=hk▸B4 hz
theorem M7{vs:List SV}{k:Nat}(hl:de i.G h u vs)(hk:vs.length=k)(hz:vs.length<2^62):CP i h (.bi "len") [u] (is (.int k) h):=hk▸oO hl hz
variable{n:Nm}{vs:List SV}
theorem AZ(hn:h n=aa (.dict es))(hl:es.lookup u=af)(ok:autoParam (SV.key 6 u=ab) bl):OV i h [u,.ref n] (bw (c5 .In)) (.bool an) h:=by have:=qh (i:=i) hn ok;rwa [hl] at this
theorem Od(hn:h n=aa (.dict es))(hl:es.lookup u=aa v)(ok:autoParam (SV.key 6 u=ab) bl):OV i h [u,.ref n] (bw (c5 .In)) (.bool ab) h:=by have:=qh (i:=i) hn ok;rwa [hl] at this
theorem LR(hn:h n=aa (.dict es))(hl:es.lookup u=af)(ok:autoParam (SV.key 6 u=ab) bl):OV i h [u,.ref n] (bw (c5 .NotIn)) (.bool ab) h:=by have:=Lx (i:=i) hn ok;rwa [hl] at this
theorem DX(hn:h n=aa (.dict es))(hl:es.lookup u=aa v)(ok:autoParam (SV.key 6 u=ab) bl):OV i h [u,.ref n] (bw (c5 .NotIn)) (.bool an) h:=by have:=Lx (i:=i) hn ok;rwa [hl] at this
theorem Tv(hl:de i.G h w vs)(hm:u∉vs)(hd:eK 6 vs=ab)(ok:autoParam (SV.data 6 u=ab) bl):OV i h [u,w] (bw (c5 .In)) (.bool an) h:=by have:=G5 (i:=i) hl hd ok;rwa [i0 hm] at this
theorem yD(hl:de i.G h w vs)(hm:u∉vs)(hd:eK 6 vs=ab)(ok:autoParam (SV.data 6 u=ab) bl):OV i h [u,w] (bw (c5 .NotIn)) (.bool ab) h:=by have:=Bf (i:=i) hl hd ok;rwa [i0 hm] at this
theorem v_(hl:de i.G h w vs)(hm:u∈vs)(hd:eK 6 vs=ab)(ok:autoParam (SV.data 6 u=ab) bl):OV i h [u,w] (bw (c5 .NotIn)) (.bool an) h:=by have:=Bf (i:=i) hl hd ok;rwa [eQ hm] at this
theorem fH{n:Nm}{C:au}{fs iG:SF}{a:Str}{q pos:Pos}(x:EV i fr (h.set n (.inst C fs)) e v (h.set n (.inst C fs)))(y:EV i fr (h.set n (.inst C fs)) o (.ref n) (h.set n (.inst C fs)))(b:SS i fr (h.set n (.inst C iG)) (rest::k) Q)
  (hp:autoParam (fs.put a v=iG) dI) (hz:autoParam (wL fs.length 100=ab) bl) (ok:autoParam ((qu C a && iq e)=ab) bl):SS i fr (h.set n (.inst C fs)) ((.Assign [.Attribute o a q] e pos::rest)::k) Q:=by
 refine jy x y aS (ah (jG hz) aJ) ?_ ok;rw[iF,hp];exact b
theorem j_{n m:Nm}{C:au}{fs iG:SF}{a:Str}{q pos:Pos}{ob:cy}(x:EV i fr (h.set n (.inst C fs)) e v ((h.set n (.inst C fs)).set m ob))(nm:n≠m)(y:EV i fr ((h.set m ob).set n (.inst C fs)) o (.ref n) ((h.set m ob).set n (.inst C fs)))(b:SS i fr ((h.set m ob).set n (.inst C iG)) (rest::k) Q)
  (hp:autoParam (fs.put a v=iG) dI) (hz:autoParam (wL fs.length 100=ab) bl) (ok:autoParam ((qu C a && iq e)=ab) bl):SS i fr (h.set n (.inst C fs)) ((.Assign [.Attribute o a q] e pos::rest)::k) Q:=by
 rw[Ab nm] at x;refine jy x y aS (ah (jG hz) aJ) ?_ ok;rw[iF,hp];exact b
noncomputable def yB(nm:Str)(aT:List Str):Str:=if aT=[] then nm++d5 " -> <empty>" else nm++d5 " -> "++z8 (d5 " ") aT
noncomputable def iX(nm:Str)(aT:List Str)(j:Nat)(li:Nm)(nx:SV):SF:=[("name",.str nm),("prod",.tup (aT.map .str)),("number",.int j),("func",.none),("callable",.none),("file",.str ""),("line",.int 0),("prec",wD),("len",.int aT.length),("usyms",.ref (.mk 42 [j])),("lr_items",.ref li),("lr_next",nx),("str",.str (yB nm aT))]
noncomputable def g6(u:List Str)(l:List Str):List Str:=l.foldl (λu s=>if s∈u then u else u++[s]) u
noncomputable def No:List Str:=["self","number","name","prod","precedence","func","file","line","s"]
theorem Fk:cq (bC 62) No=ab:=by kernel_rfl
theorem w_pi:cZ (bC 62) ["tuple","len"]=ab:=by kernel_rfl
noncomputable def HB(i:FI)(b:Nat):FI:=i.fn b 62 No ["tuple","len"] Fk w_pi
theorem mN:∀{l:List Str},eK 6 (l.map .str)=ab
 |[]=>rfl
 |_::r=>mN (l:=r)
theorem jQ{l:List Str}{s:Str}:(SV.str s∈l.map SV.str)↔s∈l:=⟨λh=>by refine aj (bB.mp h) λx hx e=>?_;injection e with e;exact e▸hx,λh=>bB.mpr (aU s h rfl)⟩
theorem Vn{x:Str}:MV i h (.str x) "join" (.bi "str.join"):=⟨λfr'=>Tz PySem.F.slot_str_join PySem.F.type_str_join⟩
theorem aa8{x:Str}{ys:List Str}(qy:(ys.map (·.length)).sum+ys.length*x.length≤16777216):CP i h (.bi "str.join") [.str x,.tup (ys.map .str)] (is (.str (z8 x ys)) h):=⟨λfr' Q' X hq=>WH qy (hq _ _ ⟨rfl,rfl⟩)⟩
theorem IL{ea eb:Expr}{x m y z:Str}{k:Nat}{p1 p2 p3 pos:Pos}(a:EV i fr h ea (.str x) ag)(c:EV i fr ag eb u aC)(hu:u=.str y∨∃ys:List Str,de i.G aC u (ys.map .str)∧y=(IB (ys.map .str)).shown)(hx:x.length≤1000)(hm:m.length≤1000)(hy:y.length≤1000)(he:x++m++y=z):
  EV i fr h (.JoinedStr [.FormattedValue ea 115 af p1,.Constant (.str m) k p2,.FormattedValue eb 115 af p3] pos) (.str z) aC:=by
 have e0:∀t:Str,z9++t=t:=λt=>by rw[Str.empty_append _]
 have l2:(x++m).length≤cR:=by rw[QY _ _];refine(?_:_≤2^24);exact ah (fp ‹_› ‹_›) aJ
 have l3:(x++m++y).length≤cR:=by rw[QY _ _,QY _ _];refine(?_:_≤2^24);exact ah (fp (fp hx hm) hy) aJ
 refine⟨λfr' s Q X hq=>Xt (O' (a.run fr' s _ _ ⟨x,hx,.inl rfl,x,rfl,by rw[e0 _];refine(?_:_≤2^24);exact ah ‹_› aJ,IU (cL m rfl (by rw[e0 _];exact l2) (O' (c.run fr' s _ _ ⟨y,hy,hu,y,rfl,by rw[e0 _];exact l3,?_⟩)))⟩))⟩;show Q (.str (z9++x++m++y)) aC;rw[e0 _,he];exact hq
theorem Yb{x:Str}(hx:x.length≤1000):OV i h [.str (d5 "%s -> <empty>"),.str x] (bw (m7 .Mod)) (.str (x++d5 " -> <empty>")) h:=⟨λfr' Q X hq=>X_ hx hq⟩
theorem Wb{nm:Str}{aT:List Str}(h:aT=[]):yB nm aT=nm++d5 " -> <empty>":=aP h
theorem Rb{nm:Str}{aT:List Str}(h:aT≠[]):yB nm aT=nm++d5 " -> "++z8 (d5 " ") aT:=aK h
noncomputable def lT:List Str:=["a","A","b","B","error","S"]
noncomputable def gm:List (List Str):=[]::(lT.map ([·])++lT.flatMap λx=>lT.map λy=>[x,y])
noncomputable def vS:List Str:=["S'","S","A","B"]
theorem YK{aT:List Str}(hl:aT.length≤2)(hs:∀s∈aT,s∈lT):aT∈gm:=by
 cases aT with
 |nil=>exact dA
 |cons x r=>cases r with
  |nil=>exact eT _ (i7 _ (bB.mpr (aU x (hs x dA) rfl)))
  |cons y r=>cases r with
   |nil=>exact eT _ (kj _ (sK.mpr (aU x (hs x dA) (bB.mpr (aU y (hs y (eT _ dA)) rfl)))))
   |cons z r=>exact bc (H9 (H9 hl)) (agw _)
noncomputable def vX(aT:List Str):Bool:=decide ((z8 (d5 " ") aT).length≤1000) && decide ((aT.map (·.length)).sum+aT.length*(d5 " ").length≤16777216) && decide (aT.length≤2) && aT.all λs=>decide (s∈lT)
theorem yX:gm.all vX=ab:=by decide +kernel
theorem S7:vS.all (λs=>decide (s.length≤1000))=ab:=by decide +kernel
theorem Zq{j:Nat}{nm:Str}{aT:List Str}{fs:SF}(hl:fr.lookup ("self":Str)=aa (.ref (bf j)))(Hg:fs=(iX nm aT j (.mk 66 [j]) .none).take 10)(hn:nm∈vS)(hs:aT∈gm)(tg:h (.mk 66 [j])=af)
  (bb:SS (HB i b) fr ((h.set (.mk 66 [j]) (.list [])).set (bf j) (.inst 100 (iX nm aT j (.mk 66 [j]) .none))) [[]] Q):
  SS (HB i b) fr (h.set (bf j) (.inst 100 fs)) [(ba 62).drop 11] Q:=by
 subst Hg;have hj:=dc.mp yX _ hs;simp only[vX,bO,h_] at hj;obtain⟨⟨⟨SG,rv⟩,hj3⟩,_⟩:=hj;have hn:=dc.mp S7 _ hn;rw[h_] at hn;refine j_ (m:=.mk 66 [j]) (eC aL ((aq az).trans tg)) az (n_ hl) ?_;refine fH k7 (n_ hl) ?_;have H:=aS (h:=h.set (.mk 66 [j]) (.list [])) (n:=bf j) (o:=.inst 100 ((iX nm aT j (.mk 66 [j]) .none).take 12))
 by_cases vn:aT=[]
 ·refine cf (p_ (a_ (n:=bf j) (n_ hl) H) (by rw[vn];exact BE bg)) ?_
  exact fH (v:=.str (yB nm aT)) (fM cw (a_ (n:=bf j) (n_ hl) H) (Wb vn▸Yb ‹_›)) (n_ hl) (aH bb)
 ·refine cT (p_ (a_ (n:=bf j) (n_ hl) H) ((by cases aT with|nil=>exact bc rfl vn|cons _ _=>rfl:(!(aT.map SV.str).isEmpty)=ab)▸BE (by rw[aI _];exact bd ‹_› bg))) ?_
  exact fH (v:=.str (yB nm aT)) (IL (a_ (n:=bf j) (n_ hl) H) (g9 cw Vn rfl (aB (a_ (n:=bf j) (n_ hl) H) aL) (aa8 rv)) (.inl rfl) ‹_› (by decide +kernel) SG (Rb vn).symm) (n_ hl) (aH bb)
variable{j:Nat}{nm:Str}{aT:List Str}{l:Nm}
noncomputable def tE(h:SH)(nm:Str)(aT:List Str)(j:Nat):SH:=((h.set (.mk 42 [j]) (.list ((g6 [] aT).map .str))).set (.mk 66 [j]) (.list [])).set (bf j) (.inst 100 (iX nm aT j (.mk 66 [j]) .none))
noncomputable def Uk(j:Nat)(nm:Str)(l:Nm):SF:=[("self",.ref (bf j)),("number",.int j),("name",.str nm),("prod",.ref l),("precedence",wD),("func",.none),("file",.str ""),("line",.int 0)]
theorem Rz{u l:List Str}{s:Str}:g6 u (l++[s])=if s∈g6 u l then g6 u l else g6 u l++[s]:=by unfold g6;rw[ai2];rfl
theorem MK(hn:nm∈vS)(hs:aT∈gm)(hl:h l=aa (.list (aT.map .str)))(hp:h (bf j)=af)(si:h (.mk 42 [j])=af)(tg:h (.mk 66 [j])=af):
  SS (HB i b) (Uk j nm l) (h.set (bf j) (.inst 100 [])) [ba 62] (λf _ h'=>f.val=.none∧h'=tE h nm aT j):=by
 have lp:l≠bf j:=λe=>by rw[e,hp] at hl;exact a7 hl
 have l42:l≠.mk 42 [j]:=λe=>by rw[e,si] at hl;exact a7 hl
 have hj:=dc.mp yX _ hs;simp only[vX,bO,h_] at hj;have hz:=hj.1.2;have zl:(aT.map SV.str).length≤2:=by rw[aI _];exact hz
 refine fH n_ n_ ?_;refine fH (v:=.tup (aT.map .str)) (b8 (i.K.ty rfl) rfl (aB n_ aL) (AN (.own ((aq lp).trans hl)) (by refine(?_:_≤2^24);exact ah ‹_› aJ))) n_ ?_;refine fH n_ n_ ?_;refine fH n_ n_ ?_;refine fH k7 n_ ?_;refine fH n_ n_ ?_;refine fH n_ n_ ?_;refine fH n_ n_ ?_;refine fH (v:=.int aT.length) (b8 (i.K.bi rfl) rfl (aB (a_ (n:=bf j) n_ aS) aL) (Et (aI _) (bd ‹_› bg))) n_ ?_;refine j_ (m:=.mk 42 [j]) (eC aL ((aq az).trans si)) az n_ ?_;have I:∀u:List Str,((h.set (.mk 42 [j]) (.list (u.map .str))).set (bf j) (.inst 100 ((iX nm aT j (.mk 66 [j]) .none).take 10))) (bf j)=aa (.inst 100 ((iX nm aT j (.mk 66 [j]) .none).take 10)):=λ_=>aS;have I2:∀u:List Str,((h.set (.mk 42 [j]) (.list (u.map .str))).set (bf j) (.inst 100 ((iX nm aT j (.mk 66 [j]) .none).take 10))) (.mk 42 [j])=aa (.list (u.map .str)):=λ_=>(aq az).trans aS;refine eo (σ:=List Str) (λ_=>[("self",.ref (bf j))]) (λu=>(h.set (.mk 42 [j]) (.list (u.map .str))).set (bf j) (.inst 100 ((iX nm aT j (.mk 66 [j]) .none).take 10))) (λu t=>u=g6 [] (aT.take t)∧u.length≤t) [] (aT.map .str) (Na (a_ (n:=bf j) n_ aS)) ⟨rfl,ar _⟩ (ai br) (λ_ _ _=>rfl) (λu t v U e=>?_) (λu U=>?_)
 ·refine aj (dH e) λs gW ax=>?_;subst ax
  refine xA U λcP hu=>?_;clear U;subst cP;have tl:=(cV.mp gW).1;have st:g6 [] (aT.take (t+1))=if s∈g6 [] (aT.take t) then g6 [] (aT.take t) else g6 [] (aT.take t)++[s]:=by
   rw[jN,gW];exact Rz
  refine dX ?_
  by_cases hm:s∈g6 [] (aT.take t)
  ·refine cf (bt n_ (a_ (n:=bf j) n_ (I _)) (v_ (.own (I2 _)) (jQ.mpr hm) mN)) (aH (aH (bK (LQ.next (g6 [] (aT.take t)) ⟨by rw[st,aP hm],by exact ah ‹_› (b6 _ _)⟩ (ai br)))))
  ·refine cT (bt n_ (a_ (n:=bf j) n_ (I _)) (yD (.own (I2 _)) (λz=>hm (jQ.mp z)) mN)) ?_
   refine fJ (dp (a_ (n:=bf j) n_ (I _)) (fV (I2 _)) ij (aB n_ aL) (ga (I2 _) (by rw[aI _];refine(?_:_≤2^24);exact cj (bd hu (bI tl (ah hz aJ)))))) ?_;refine aH (aH (bK (LQ.next (g6 [] (aT.take t)++[s]) ⟨by rw[st,aK hm],by rw[cU];exact eG hu⟩ (ai br) ?_)));rw[Ra az,dN];rfl
 ·rw[aI,zW] at U
  refine xA U λcP _=>?_;clear U;subst cP;refine aH (Zq (fr:=[("self",.ref (bf j))]) rfl rfl hn hs ((aq az).trans tg) (aH (bK ⟨rfl,rfl⟩)))
theorem Vw{n:Nm}{z:SV}{Q:QV}{X:QX}(hn:h n=aa (.dict []))(hq:Q z h):WC G F b fr h (.bi "dict.get") [.ref n,.none,z] Q X:=by
 first|refine jO ?_|refine jP ?_
 intro own ae A P m s Q' E' a5 R hv c d;refine ID hv λu kv zv zA jf R5=>?_;refine pH zA R hn λad xs D=>?_;obtain rfl:=jf;have h3:=D.o;have hx:xs=#[]:=Ix.mp D.ent;subst hx;refine i5 Ic (⟨_,h3,rfl⟩:s.TypeIs (.ref ad.1) "dict") Qn ?_ (ag3 _ _ _);show aw _ _ (sG ad.1 .none >>=_) _ _ s;have hr:A.units+1+7<ez:=R.room;unfold sG;refine wb ?_
 try with_reducible refine dM ?_
 refine wb (pyHash_laid .none .none _ s _ rfl .none (by show A.units+1+WData.none.depth<ez;exact bd (b6 _ _) hr) λtk=>wb ?_);unfold dictFind
 try with_reducible refine dM ?_
 refine wb (H_ (s:={s with toks:=tk}) h3 rfl ?_);refine aD (aD ?_);show aw _ _ (Ia ad.1 .none >>=_) _ _ _;exact wb (Ib D.sys (aD (aU zv rfl (c.here hq R5 (R.tok tk)))))
variable{e':Expr}
theorem adq{pos:Pos}(a:EV i fr h e u ag)(t:TV i ag u ab)(c:EV i fr ag e' v aC):EV i fr h (.BoolOp .And [e,e'] pos) v aC:=
 ⟨λfr' s Q X hq=>US (a.run fr' s _ _ (t.run fr' _ _ (by rw[aP rfl];exact KU (c.run fr' s _ _ hq))))⟩
noncomputable def Ug:Str:="abcdefghijklmnopqrstuvwxyzABCDEFGHIJKLMNOPQRSTUVWXYZ0123456789_-"
noncomputable def rQ(s:Str):List SV:=s.cps.toList.map λc=>.str ⟨#[c]⟩
noncomputable def Nq(s:Str):Bool:=s.cps.all (· <128) && (s.cps.toList.all λc=>Aw ⟨#[c]⟩ Ug) && decide (0<s.length) && decide (s.length≤1000) && decide (s.cps.toList.length≤1000)
theorem Vj:lT.all Nq=ab:=by decide +kernel
noncomputable def o_(h:SH)(N:Nat)(s:Str):SH:=h.set (gN N) (.list ((rQ s).map λ_=>.bool ab))
theorem Lr:cq (bC 39) ["s"]=ab:=by kernel_rfl
theorem w_id:cZ (bC 39) ["len","all"]=ab:=by kernel_rfl
noncomputable def IY(i:FI)(b:Nat):FI:=i.fn b 39 ["s"] ["len","all"] Lr w_id
theorem J9{s:Str}(hb:i.b=b+1)(hs:s∈lT)(B:bp h N):FP i h (.glob 39) [.str s] (is (.bool ab) (o_ h N s)):=by
 have ok:=dc.mp Vj _ hs;simp only[Nq,bO,h_] at ok;obtain⟨⟨⟨⟨o1,o2⟩,o3⟩,o4⟩,o5⟩:=ok;have o6:(rQ s).length≤1000:=by unfold rQ;rw[aI _];exact o5
 refine enter i.K.ident Lr w_id hb rfl ?_;refine gJ (adq (c_ (b8 (i.K.bi rfl) rfl (aB n_ aL) (⟨λfr' Q X hq=>Ru (bd ‹_› bg) (hq _ _ ⟨rfl,rfl⟩)⟩:CP (IY i b) h (.bi "len") [.str s] (is (.int s.length) h))) bD (Cm (ib.mpr o3))) i9 (b8 (i.K.bi rfl) rfl (aB (BD (acc:=gN N) (l:=["c"]) (ls:=["_IDENTIFIER"]) (vs:=rQ s) (us:=(rQ s).map λ_=>.bool ab) ?_ ?_ ?_ (ei (v:=.str s) (kk:=.str s) n_ (.str o1)) B.at ?_ (aI _) (by refine(?_:_≤2^24);exact ah ‹_› aJ) rfl ?_) aL) (⟨λfr' Q X hq=>XA (ts:=(rQ s).map λ_=>ab) rfl (.own aS) (by rw[pi,pi];rfl) (hq _ _ ⟨by congr 1;rw[ahs];exact dc.mpr λ_ _=>rfl,rfl⟩)⟩:CP (IY i b) (o_ h N s) (.bi "all") [.ref (gN N)] (is (.bool ab) (o_ h N s))))) ⟨rfl,rfl⟩
 ·kernel_rfl
 ·kernel_rfl
 ·rfl
 ·intro ws j
  show aa (s.cps[j]?.map λc=>SV.str ⟨#[c]⟩)=aa (rQ s)[j]?;unfold rQ;rw[dv,jt]
 ·intro ws j v u e1 e2
  rw[dv,e1] at e2
  (first|exact a7 e2|obtain rfl:=aY e2)
  refine aj (dH e1) λc hc ax=>?_;subst ax;have:=dc.mp o2 c (bN hc);exact c_ n_ (g_ i.K.D0) (this▸Mv)
theorem Lf:cq (bC 146) ["symbols","terminals","i"]=ab:=by kernel_rfl
theorem w_rm:cZ (bC 146) ["len"]=ab:=by kernel_rfl
noncomputable def Ry(i:FI)(b:Nat):FI:=i.fn b 146 ["symbols","terminals","i"] ["len"] Lf w_rm
theorem Y2{J7:b7}(hb:i.b=b+1)(hl:h l=aa (.list (aT.map .str)))(hz:aT.length≤1000)(ht:h (.mk 38 [])=aa (.dict J7)):FP i h (.glob 146) [.ref l,.ref (.mk 38 [])] (λv h'=>h'=h∧(v=.none∨∃s,v=.str s)):=by
 refine enter i.K.rightmost Lf w_rm hb rfl ?_;refine bM (v:=.int ((aT.length:Int) - 1)) (fM (b8 (i.K.bi rfl) rfl (aB n_ aL) (M7 (.own hl) (aI _) (by rw[aI _];exact bd ‹_› bg))) bD Al) ?_;refine rK (σ:=Nat) (λn=>[("symbols",.ref l),("terminals",.ref (.mk 38 [])),("i",.int ((n:Int) - 1))]) (λ_=>h) (λn m=>n=m∧n≤aT.length) aT.length aT.length ⟨rfl,ar _⟩ (ai (ai (ai br))) ?_;rintro n m ⟨rfl,hn⟩;refine(mr _ h (bt n_ bD E0) (λ_=>aH (gJ k7 ⟨rfl,.inl rfl⟩)) (λe=>?_));have n1:1≤n:=wZ.mp (Int.le_of_sub_nonneg (fC e));obtain⟨s,hs⟩:∃s,aT[n-1]? =aa s:=⟨_,fb (bI (sn n1 pf) hn)⟩;have sg:∀{p q r:Pos},EV (Ry i b) [("symbols",.ref l),("terminals",.ref (.mk 38 [])),("i",.int ((n:Int) - 1))] h (.Subscript (.Name "symbols" p) (.Name "i" q) r) (.str s) h:=λ{p q r}=>by
  rw[show(n:Int) - 1=((n-1:Nat):Int) from(ai3 n1).symm];exact mx (j:=n-1) n_ n_ (.own hl) (QZ (bd hn (bd hz bg))) (by rw[dv,hs];rfl)
 refine GN (bt sg n_ (qh ht)) (λ_=>?_) (λ_=>?_)
 ·exact gJ sg ⟨rfl,.inr ⟨s,rfl⟩⟩
 ·refine aH (x_ rfl bD I_ (aH (bK (LQ.next (n-1) (cL (n-1) (sn n1 pf) rfl (ah (ku _ _) ‹_›)) ?_))))
  refine ai (ai (ai br ?_));show aa (SV.int ((n:Int) - 1-1))=aa (.int (((n-1:Nat):Int) - 1));rw[show((n-1:Nat):Int)=(n:Int) - 1 from ai3 n1]
theorem ab2{n:Nm}{Q:QV}{X:QX}(hn:h n=af)(hq:Q (.ref n) (h.set n (.set []))):WC G F b fr h (.ty "set") [] Q X:=by
 first|refine jO ?_|refine jP ?_
 intro own ae A P m s Q' E' a5 R hv c d;obtain rfl:=hv;refine Lg (.inl rfl) PySem.F.typeCall_set_0 R hn λaZ led a6 le hs keep _=>?_;have gW:aZ.heap.get? s.heap.objs.size=aa {cls:=.type "set",dict:=af,data:=.set #[] 0 (.fresh 0 0 led)}:=hs;refine ah6 PySem.F.called_set.init.plain ah7 (check_set_init ⟨_,hs,rfl⟩ ?_);unfold Builtin.«set.__init__» noKeywords
 wp_walk
 exact⟨rfl,(c (.ref n) _ _ _ _ _ hq .rfl le ⟨_,Mu.jb,rfl⟩ a6)⟩
theorem abx:cq (bC 172) ["self","terminals","term"]=ab:=by kernel_rfl
theorem w_gi:cZ (bC 172) ["set"]=ab:=by kernel_rfl
noncomputable def kD:List Nat:=[34,35,36,37,38,39,41,45,46,49,50]
def Tc(h:SH)(B:List Nat):Prop:=∀k∈B,∀l,h (.mk k l)=af
noncomputable def io(t:Str):Nm:=.mk 41 [sym t]
noncomputable def iJ:b7:=[(.str "a",.ref (io "a")),(.str "b",.ref (io "b")),(.str "error",.ref (io "error"))]
noncomputable def pU(st:SV):SF:=[("Productions",.ref (.mk 35 [])),("Prodnames",.ref (.mk 36 [])),("Prodmap",.ref (.mk 37 [])),("Terminals",.ref (.mk 38 [])),("Nonterminals",.ref (.mk 39 [])),("First",.ref (.mk 45 [])),("Follow",.ref (.mk 46 [])),("Precedence",.ref (.mk 49 [])),("UsedPrecedence",.ref (.mk 50 [])),("Start",st)]
structure rL(h h':SH):Prop where
 gr:h' aX=aa (.inst 283 (pU .none))
 fg:h' (.mk 35 [])=aa (.list [.none])
 names:h' (.mk 36 [])=aa (.dict [])
 map:h' (.mk 37 [])=aa (.dict [])
 term:h' (.mk 38 [])=aa (.dict iJ)
 ta:h' (io "a")=aa (.list [])
 tb:h' (io "b")=aa (.list [])
 te:h' (io "error")=aa (.list [])
 ii:h' (.mk 39 [])=aa (.dict [])
 first:h' (.mk 45 [])=aa (.dict [])
 nC:h' (.mk 46 [])=aa (.dict [])
 prec:h' (.mk 49 [])=aa (.dict [])
 same:∀k l,kD.contains k=an→h' (.mk k l)=h (.mk k l)
theorem Vo{n:Nm}(hn:h n=af):CP i h (.ty "set") [] (is (.ref n) (h.set n (.set []))):=⟨λfr' Q' X hq=>ab2 hn (hq _ _ ⟨rfl,rfl⟩)⟩
noncomputable def uZ(h:SH):SH:=((((h.set (.mk 35 []) (.list [.none])).set (.mk 36 []) (.dict [])).set (.mk 37 []) (.dict [])).set (.mk 38 []) (.dict [])).set aX (.inst 283 ((pU .none).take 4))
noncomputable def pM(h:SH)(es:b7)(t:Str):SH:=(h.set (io t) (.list [])).set (.mk 38 []) (.dict (bj es (.str t) (.ref (io t))))
noncomputable def Gz(h:SH):Nat→SH
 |0=>uZ h
 |1=>pM (uZ h) [] "a"
 |_=>pM (pM (uZ h) [] "a") (iJ.take 1) "b"
noncomputable def OP(h:SH):SH:=pM (Gz h 2) (iJ.take 2) "error"
theorem ajl{x:SH}(h1:x aX=aa (.inst 283 (pU .none)))(h2:x (.mk 39 [])=aa (.dict []))(h3:x (.mk 45 [])=aa (.dict []))(h4:x (.mk 46 [])=aa (.dict []))(h5:x (.mk 49 [])=aa (.dict []))
  (e:∀k l,([34,39,45,46,49,50]:List Nat).contains k=an→x (.mk k l)=OP h (.mk k l)):rL h x:=by
 refine⟨h1,(e _ _ rfl).trans rfl,(e _ _ rfl).trans rfl,(e _ _ rfl).trans rfl,(e _ _ rfl).trans rfl,(e _ _ rfl).trans rfl,(e _ _ rfl).trans rfl,(e _ _ rfl).trans rfl,h2,h3,h4,h5,λk l hk=>?_⟩;have ne:∀a∈kD,∀l',Nm.mk k l≠.mk a l':=λa ha l' e=>by injection e with e;subst e;rw[e9.mpr ha] at hk;exact iY hk
 rw[e k l (by
  cases z:([34,39,45,46,49,50]:List Nat).contains k with
  |false=>rfl
  |true=>exact bc rfl (ne k ((aW:∀a∈([34,39,45,46,49,50]:List Nat),a∈kD) k (e9.mp z)) l))]
 show pM (pM (pM (uZ h) [] "a") (iJ.take 1) "b") (iJ.take 2) "error" (.mk k l)=_;unfold pM uZ;have χ:∀t,Nm.mk k l≠io t:=λt=>ne 41 bQ _;have Ek:Nm.mk k l≠aX:=ne 34 bQ _
 iterate 3 rw[aq (ne 38 bQ _),aq (χ _)]
 rw[aq Ek,aq (ne 38 bQ _),aq (ne 37 bQ _),aq (ne 36 bQ _),aq (ne 35 bQ _)]
theorem Y_(hb:i.b=b+1)(B:Tc h kD)(hl:h l=aa (.list [.str "a",.str "b"])):FP i (h.set aX (.inst 283 [])) (.glob 172) [.ref aX,.ref l] (λv h'=>v=.none∧rL h h'):=by
 have nl:∀k∈kD,∀l',l≠.mk k l':=λk hk l' e=>by rw[e,B k hk] at hl;exact a7 hl
 have hn:∀k∈kD,∀l,h (.mk k l)=af:=B;refine enter i.K.graminit abx w_gi hb rfl ?_;refine j_ (m:=.mk 35 []) (eC (aB k7 aL) (show h _=af from B 35 bQ _)) az n_ ?_;refine j_ (m:=.mk 36 []) (gR (show h _=af from B 36 bQ _)) az n_ ?_;refine j_ (m:=.mk 37 []) (gR (show h _=af from B 37 bQ _)) az n_ ?_;refine j_ (m:=.mk 38 []) (gR (show h _=af from B 38 bQ _)) az n_ ?_;have Nx:∀n,Gz h n l=aa (.list [.str "a",.str "b"]):=λn=>by
  have e0:uZ h l=aa (.list [.str "a",.str "b"]):=(aq (nl 34 bQ _)).trans ((aq (nl 38 bQ _)).trans ((aq (nl 37 bQ _)).trans ((aq (nl 36 bQ _)).trans ((aq (nl 35 bQ _)).trans hl))));have e1:∀{x:SH} {es t},x l=aa (.list [.str "a",.str "b"])→pM x es t l=aa (.list [.str "a",.str "b"]):=λe=>(aq (nl 38 bQ _)).trans ((aq (nl 41 bQ _)).trans e)
  match n with
  |0=>exact e0
  |1=>exact e1 e0
  |n+2=>exact e1 (e1 e0)
 refine eo (σ:=Nat) (λ_=>[("self",.ref aX),("terminals",.ref l)]) (Gz h) (λs j=>s=j) 0 [.str "a",.str "b"] (d8 n_ (Nx 0)) rfl (ai (ai br)) (λs j _=>d6 (Nx s)) (λs j v e ev=>?_) (λs e=>?_)
 ·subst e
  match s,ev with
  |0,ev=>
   (first|exact a7 ev|obtain rfl:=aY ev)
   refine dX (eu (n:=.mk 38 []) (es:=[]) (eC (n:=io "a") aL (show h _=af from B 41 bQ _)) (a_ (n:=aX) n_ rfl) n_ rfl aJ ?_);exact aH (bK (LQ.next 1 rfl (ai (ai br))))
  |1,ev=>
   (first|exact a7 ev|obtain rfl:=aY ev)
   refine dX (eu (n:=.mk 38 []) (es:=iJ.take 1) (eC (n:=io "b") aL (show h _=af from B 41 bQ _)) (a_ (n:=aX) n_ rfl) n_ rfl aJ ?_);exact aH (bK (LQ.next 2 rfl (ai (ai br))))
 ·obtain rfl:s=2:=e
  refine aH (eu (n:=.mk 38 []) (es:=iJ.take 2) (eC (n:=io "error") aL (show h _=af from B 41 bQ _)) (a_ (n:=aX) n_ rfl) cw rfl aJ ?_);refine(?_:SS _ _ (OP h) _ _);refine jy (n:=aX) (gR (n:=.mk 39 []) (show h _=af from B 39 bQ _)) n_ rfl aJ ?_;refine jy (n:=aX) (gR (n:=.mk 45 []) (show h _=af from B 45 bQ _)) n_ rfl aJ ?_;refine jy (n:=aX) (gR (n:=.mk 46 []) (show h _=af from B 46 bQ _)) n_ rfl aJ ?_;refine jy (n:=aX) (gR (n:=.mk 49 []) (show h _=af from B 49 bQ _)) n_ rfl aJ ?_;refine jy (n:=aX) (b8 (i.K.ty rfl) rfl aL (Vo (n:=.mk 50 []) (show h _=af from B 50 bQ _))) n_ rfl aJ ?_;refine jy (n:=aX) k7 n_ rfl aJ ?_;refine aH (bK ⟨rfl,ajl rfl rfl rfl rfl rfl λk l hk=>?_⟩);have ne:∀a∈([34,39,45,46,49,50]:List Nat),∀l',Nm.mk k l≠.mk a l':=λa ha l' e=>by injection e with e;subst e;rw[e9.mpr ha] at hk;exact iY hk
  have Ek:Nm.mk k l≠aX:=ne 34 bQ _
  iterate 11 rw[aq (by first|exact Ek|exact ne 39 bQ _|exact ne 45 bQ _|exact ne 46 bQ _|exact ne 49 bQ _|exact ne 50 bQ _)]
noncomputable def zG:List Str:=["self","prodname","syms","func","file","line","n","s","c","precname","prodprec","map","m","pnumber","t","p"]
theorem xj:cq (bC 201) zG=ab:=by kernel_rfl
noncomputable def Nw:List Str:=["_is_identifier","enumerate","rightmost_terminal","len","Production","KeyError"]
theorem w_ap:cZ (bC 201) Nw=ab:=by kernel_rfl
noncomputable def nM(i:FI)(b:Nat):FI:=i.fn (b+2) 201 zG Nw xj w_ap
noncomputable def CX(nm:Str)(l:Nm):SF:=[("self",.ref aX),("prodname",.str nm),("syms",.ref l),("func",.none),("file",.str ""),("line",.int 0)]
noncomputable def a8:List Str:=["S","A","B"]
noncomputable def E7(s:Str):Nat:=s.cps.getD 0 0
noncomputable def Ou(s:Str):Bool:=((oz 0 s.length).bind (s.cps[·]?))==aa (E7 s) && !Aw ⟨#[E7 s]⟩ "'\"" && decide (s.length≤1000)
theorem ψ:lT.all Ou=ab:=by decide +kernel
theorem VH:∀s∈a8,s∈lT:=aW
theorem TZ{s:Str}(h:s∈a8):s∈lT:=VH s h
theorem bp.o_{s:Str}(B:bp h N):bp (o_ h N s) (N+1):=B.new _ _
noncomputable def vE(vs:List SV):List SV:=vs.zipIdx.map λp=>.tup [.int p.2,p.1]
theorem Cn{vs:List SV}{j:Nat}:(vE vs)[j]? =vs[j]?.map λv=>.tup [.int j,v]:=by
 unfold vE;rw[dv,List.getElem?_zipIdx,mZ _]
 cases vs[j]? <;>rfl
theorem Zs{n:Nm}{vs:List SV}{j:Nat}(hn:h n=aa (.list vs)):jk (.enumL n) j h=aa (vE vs)[j]? :=(ay (yc · λvs=>vs[j]?.map λv=>.tup [.int j,v]) hn).trans (ay aa Cn.symm)
theorem Yl{vs:List SV}{j:Nat}:jk (.enumT vs) j h=aa (vE vs)[j]? :=ay aa Cn.symm
structure AS where
 N:Nat
 h:SH
theorem afp:∀s∈a8,(iJ.lookup (.str s)).isSome=an:=by decide +kernel
theorem IR{s:Str}(hs:s∈a8):iJ.lookup (.str s)=af:=Option.not_isSome_iff_eq_none.mp λe=>by rw[afp s hs] at e;exact cM e
theorem RG(hn:nm∈a8)(hs:aT∈gm)(hl:h l=aa (.list (aT.map .str)))(ny:∃m t,l=.mk 99 (m::t)∧m<N)(ht:h (.mk 38 [])=aa (.dict iJ))(hg:h aX=aa (.inst 283 (pU .none)))(B:bp h N)
  (fin:∀N' h',bp h' N'→Kq [] N h h'→N≤N'→SS (nM i b) (CX nm l) h' [(ba 201).drop 4] Q):SS (nM i b) (CX nm l) h [ba 201] Q:=by
 refine ef ny λm tl ax hm=>?_;clear ny;subst ax;have hj:=dc.mp yX _ hs;simp only[vX,bO,h_] at hj;have hz:=hj.1.2;refine cf (bt n_ (a_ (n:=aX) n_ hg) (AZ ht (IR hn))) (aH ?_);refine cf (bt n_ cw (lU λe=>by injection e with e;subst e;revert hn;exact aW)) (aH ?_);refine cf (fz (t:=ab) (p_ (b8 (i.K.ref rfl) (i.K.keep rfl) (aB n_ aL) (J9 (b:=b+1) rfl (TZ hn) B).cp) i9)) (aH ?_);have Pw:∀{h':SH},Kq [] N h h'→h' (.mk 99 (m::tl))=aa (.list (aT.map .str)):=λkq=>(kq.2 m tl hm).trans hl;have t_:Kq [] N h (o_ h N nm):=.new (ar _);refine eo (σ:=AS) (λ_=>CX nm (.mk 99 (m::tl))) AS.h (λs j=>bp s.h s.N∧Kq [] N h s.h∧N≤s.N) ⟨N+1,o_ h N nm⟩ (vE (aT.map .str)) (O5 (i.K.ty rfl) n_ (.lst (Pw t_))) (cF B.o_ t_ (bR _)) .rfl (λs j Z=>Zs (Pw Z.2.1)) (λs j v Z e=>?_) (λs Z=>aH (fin s.N s.h Z.1 Z.2.1 Z.2.2));rw[Cn,dv] at e
 cases gW:aT[j]? with
 |none=>rw[gW] at e;(first|exact a7 e|obtain rfl:=aY e)
 |some t=>
  rw[gW] at e
  (first|exact a7 e|obtain rfl:=aY e)
  have ht:=(λs h=>fC (dc.mp hj.2 s h):∀s∈aT,s∈lT) t (bN gW);have ok:=dc.mp ψ _ ht;simp only[Ou,bO,jL,h_] at ok;obtain⟨⟨o1,o2⟩,o3⟩:=ok;refine Es ?_;refine cf (bt (xo (v:=.str ⟨#[E7 t]⟩) n_ bD .str ⟨λfr' Q X hq=>ady aW aW (eq_of_beq o1) hq⟩) cw (o2▸Mv)) (aH ?_);refine cf (oN (fz (t:=ab) (p_ (b8 (i.K.ref rfl) (i.K.keep rfl) (aB n_ aL) (J9 (b:=b+1) rfl ht Z.1).cp) i9))) (aH (aH (bK ?_)));exact LQ.next ⟨s.N+1,o_ s.h s.N t⟩ (cF Z.1.o_ (Z.2.1.trans (M:=s.N) (.new (ar _)) Z.2.2) (c8 Z.2.2)) (SF.sub.rfl.b9.b9)
noncomputable def ua(aT:List Str):Str:=(IB (aT.map .str)).shown
noncomputable def CD:List Str:=(["[]","['a']","['A']","['b']","['B']","['error']","['S']","['a', 'a']","['a', 'A']","['a', 'b']","['a', 'B']","['a', 'error']","['a', 'S']","['A', 'a']","['A', 'A']","['A', 'b']","['A', 'B']","['A', 'error']","['A', 'S']","['b', 'a']","['b', 'A']","['b', 'b']","['b', 'B']","['b', 'error']","['b', 'S']","['B', 'a']","['B', 'A']","['B', 'b']","['B', 'B']","['B', 'error']","['B', 'S']","['error', 'a']","['error', 'A']","['error', 'b']","['error', 'B']","['error', 'error']","['error', 'S']","['S', 'a']","['S', 'A']","['S', 'b']","['S', 'B']","['S', 'error']","['S', 'S']"]:List String).map d5
theorem Nt:∀l:List Str,Q2 (l.map .str)=l.map λx=>Q3 (.str x)
 |[]=>by simp only[DN,Q2]
 |x::r=>by simp only[sI,Q2];rw[Nt r]
theorem XY(l:List Str):ua l=listText (l.map reprText):=by
 unfold ua;simp only[Q3];rw[Nt _];simp only[Q3]
theorem Rx:(gm.map λl=>listText (l.map reprText))=CD:=by decide +kernel
theorem Vs:CD.Nodup:=by decide +kernel
theorem RV:CD.all (λs=>decide (s.length≤1000))=ab:=by decide +kernel
noncomputable def ZW:Str:=d5 " -> "
noncomputable def oP(nm:Str)(aT:List Str):Str:=nm++ZW++ua aT
theorem EO:a8.all (λs=>decide (s.cps.toList.length=1) && decide (s.length≤1000))=ab:=by decide +kernel
theorem FX{n:Nat}{aT:List Str}(h:gm[n]? =aa aT):CD[n]? =aa (ua aT):=by
 rw[←Rx,dv,h,Option.map_some _ _,XY _]
theorem Zj{aT:List Str}(h:aT∈gm):(ua aT).length≤1000:=by
 refine xE (uE h) λn hn=>?_;exact fC (dc.mp RV _ (bN (FX hn)))
theorem Sa{s t:List Str}(hs:s∈gm)(ht:t∈gm)(e:ua s=ua t):s=t:=by
 refine xE (uE hs) λn hn=>?_;refine xE (uE ht) λm hm=>?_;have a:=FX hn;rw[e] at a;have:=(Qm ((cV.mp a).1) Vs).mp (a.trans (FX hm).symm);subst this;exact aY (hn.symm.trans hm)
theorem Zn{a c:Str}{s t:List Str}(ha:a∈a8)(hc:c∈a8)(hs:s∈gm)(ht:t∈gm)(e:oP a s=oP c t):a=c∧s=t:=by
 have la:=dc.mp EO _ ha;have lc:=dc.mp EO _ hc;simp only[bO,h_] at la lc;have e2:=ay (λs:Str=>s.cps.toList) e;simp only[oP,Str.cps_append,ahf] at e2;refine xA (ai4 e2 (by rw[cU,cU,la.1,lc.1])) λh1 h2=>?_;refine xA (ai4 h1 (by rw[la.1,lc.1])) λh3 _=>?_;have I5:∀x y:Str,x.cps.toList=y.cps.toList→x=y:=λx y e=>by
  cases x;cases y;exact ay Str.mk (Ix.mp e)
 exact⟨I5 _ _ h3,Sa hs ht (I5 _ _ h2)⟩
variable{Rs:bm}
noncomputable def gA(Rs:bm)(s:Str):List Nat:=(bo Rs.length).filter λj=>decide (j≠0) && decide (bE Rs j=s)
noncomputable def gd(s:Str):Nm:=.mk 40 [sym s]
noncomputable def gc(s:Str):Nm:=.mk 44 [sym s]
structure gS(h:SH)(es:b7)(m:Nat):Prop where
 nd:(es.map (·.1)).Nodup
 key:∀k v,es.lookup k=aa v→∃s∈a8,k=.str s∧v=.ref (gc s)∧∃vs,h (gc s)=aa (.list vs)∧vs.length≤m
 no:∀s∈a8,es.lookup (.str s)=af→h (gc s)=af
def oR(h:SH)(m:Nat):Prop:=h (.mk 38 [])=aa (.dict iJ)∧∀t∈dW,∃vs,h (io t)=aa (.list vs)∧vs.length≤m
noncomputable def va:List Str:=["a","A","b","B","error"]
structure GB(Rs:bm)(h:SH):Prop where
 gr:h aX=aa (.inst 283 (pU .none))
 fg:h (.mk 35 [])=aa (.list (.none::(bo Rs.length).tail.map bA))
 names:∃es,h (.mk 36 [])=aa (.dict es)∧(es.map (·.1)).Nodup∧(∀k∈es.map (·.1),∃s∈a8,k=.str s)∧∀s∈a8,(gA Rs s≠[]→es.lookup (.str s)=aa (.ref (gd s))∧h (gd s)=aa (.list ((gA Rs s).map bA)))∧(gA Rs s=[]→es.lookup (.str s)=af∧h (gd s)=af)
 map:∃es,h (.mk 37 [])=aa (.dict es)∧(∀k∈es.map (·.1),∃r∈Rs.tail,k=.str (oP r.1 r.2))∧es.length≤Rs.length
 wJ:oR h (3*Rs.length)
 ii:∃es,h (.mk 39 [])=aa (.dict es)∧gS h es (3*Rs.length)∧∀j,0<j→j<Rs.length→(es.lookup (.str (bE Rs j))).isSome=ab
 first:h (.mk 45 [])=aa (.dict [])
 nC:h (.mk 46 [])=aa (.dict [])
 prec:h (.mk 49 [])=aa (.dict [])
 pr:∀j,0<j→j<Rs.length→h (bf j)=aa (.inst 100 (iX (bE Rs j) (aG Rs j) j (.mk 66 [j]) .none))∧h (.mk 42 [j])=aa (.list ((g6 [] (aG Rs j)).map .str))
 free:∀j,j=0∨Rs.length≤j→h (bf j)=af∧h (.mk 42 [j])=af∧h (.mk 66 [j])=af
 shape:∀r∈Rs.tail,r.1∈a8∧r.2∈gm∧∀s∈r.2,s∈va
 len:Rs.length≤5
 pos:0<Rs.length
noncomputable def rk(nm:Str)(l:Nm)(aT:List Str)(n:Nat):SF:=[("self",.ref aX),("prodname",.str nm),("syms",.ref l),("func",.none),("file",.str ""),("line",.int 0),("prodprec",wD),("map",.str (oP nm aT)),("pnumber",.int n)]
theorem FC{n:Nat}:(bo n).tail.length=n-1:=by rw[pF,dS]
theorem Wt:gm.all (λaT=>aT.all λs=>decide (s≠"%prec"))=ab:=by decide +kernel
theorem Wz{n:Nm}(hn:h n=aa (.dict []))(hv:v=.none∨∃s,v=.str s):CP i h (.bi "dict.get") [.ref n,v,w] (is w h):=by
 rcases hv with rfl|⟨s,rfl⟩
 ·exact⟨λfr' Q X hq=>Vw hn (hq _ _ ⟨rfl,rfl⟩)⟩
 ·exact zf hn
theorem WK(G:GB Rs h)(hn:nm∈a8)(hs:aT∈gm)(hl:h l=aa (.list (aT.map .str)))(Gb:(nm,aT)∉Rs.tail)
  (fin:SS (nM i b) (rk nm l aT Rs.length) h [(ba 201).drop 8] Q):SS (nM i b) (CX nm l) h [(ba 201).drop 4] Q:=by
 have hj:=dc.mp yX _ hs;simp only[vX,bO,h_] at hj;have hz:=hj.1.2;have hp:(SV.str "%prec")∉aT.map SV.str:=λz=>by
  have:=dc.mp (dc.mp Wt _ hs) _ (jQ.mp z);exact fC this rfl
 have nl:=dc.mp EO _ hn;simp only[bO,h_] at nl;refine cf (bt cw n_ (Tv (.own hl) hp mN)) ?_;refine kG (nZ (i.K.ref rfl) (i.K.keep rfl) (aB n_ (aB (a_ (n:=aX) n_ G.gr) aL)) (Y2 (b:=b+1) rfl hl (ah ‹_› aJ) G.wJ.1).cp) ?_;rintro v h1 ⟨rfl,hv⟩;have nb:l8 v=ab:=by rcases hv with rfl|⟨s,rfl⟩<;>rfl
 refine bM (v:=wD) (g9 (a_ (n:=aX) n_ G.gr) (jo G.prec) rfl (aB n_ (aB (eY (aB cw (aB bD aL))) aL)) (Wz G.prec hv)) ?_;refine aH (bM (v:=.str (oP nm aT)) (IL n_ n_ (.inr (aU aT (.own hl) rfl)) nl.2 (by decide +kernel) (Zj hs) rfl) ?_);obtain⟨WP,hm,hk,hml⟩:=G.map;have U9:WP.lookup (.str (oP nm aT))=af:=lW.mpr λz=>by
  refine aj (hk _ z) λr hr e=>?_;injection e with e;refine jF (G.shape r hr) λh1 h2 _=>?_;refine xA (Zn hn h1 hs h2 e) λe1 e2=>?_;exact Gb (by rw[e1,e2];exact hr)
 refine cf (bt n_ (a_ (n:=aX) n_ G.gr) (AZ hm U9)) (aH ?_);have p9:=G.pos;refine bM (v:=.int Rs.length) (b8 (i.K.bi rfl) rfl (aB (a_ (n:=aX) n_ G.gr) aL) (M7 (.own G.fg) (by rw[iE,aI _,FC];exact qT ‹_›) (by rw[iE,aI _,FC];exact pC (QZ (bd G.len bg))))) ?_;exact fin.sub (ai (ai (ai (ai (ai (ai (ai (ai (ai br)))))))))
theorem GQ:∀x∈a8,∀y∈a8,sym x=sym y→x=y:=by decide +kernel
theorem Xk:∀x∈dW,∀y∈dW,sym x=sym y→x=y:=by decide +kernel
theorem Ct{x y:Str}(hx:x∈a8)(hy:y∈a8)(e:gc x=gc y):x=y:=by injection e with _ e;injection e with e;exact GQ x hx y hy e
theorem RS{x y:Str}(hx:x∈dW)(hy:y∈dW)(e:io x=io y):x=y:=by injection e with _ e;injection e with e;exact Xk x hx y hy e
theorem gS.add(I:gS h es m)(hs:s∈a8)(hl:es.lookup (.str s)=af):gS ((h.set (gc s) (.list [])).set (.mk 39 []) (.dict (bj es (.str s) (.ref (gc s))))) (bj es (.str s) (.ref (gc s))) m:=by
 refine⟨o9 I.nd,λk v e=>?_,λt ht e=>?_⟩
 ·rw[fw] at e
  split at e
  ·next z=>obtain rfl:=aY e;exact(xy s hs z rfl ([]) ((aq az).trans aS) (b_ _))
  ·next z=>
   refine xT (I.key k v e) λt ht ax zd vs a c=>?_;subst ax;subst zd;exact(xy t ht rfl rfl vs ((aq az).trans ((aq λq=>z (ay SV.str (Ct ht hs q))).trans a)) c)
 ·rw[fw] at e
  split at e
  ·exact fu e
  ·next z=>exact(aq az).trans ((aq λq=>z (ay SV.str (Ct ht hs q))).trans (I.no t ht e))
theorem gS.app{vs:List SV}{x:SV}(I:gS h es m)(hs:s∈a8)(hl:es.lookup (.str s)=aa (.ref (gc s)))(hv:h (gc s)=aa (.list vs)):gS (h.set (gc s) (.list (vs++[x]))) es (m+1):=by
 refine⟨I.nd,λk v e=>?_,λt ht e=>?_⟩
 ·refine xT (I.key k v e) λt ht ax zd ws a c=>?_;subst ax;subst zd
  by_cases z:t=s
  ·subst z
   rw[hv] at a;cases a;exact(xy t ht rfl rfl _ aS (by rw[cU];exact eG c))
  ·exact(xy t ht rfl rfl ws ((aq λq=>z (Ct ht hs q)).trans a) (c8 c))
 ·exact(aq λq=>by rw[Ct ht hs q,hl] at e;exact fu e).trans (I.no t ht e)
theorem gS.same(I:gS h es m){n:Nat}(e:∀l,h' (.mk 44 l)=h (.mk 44 l))(hm:m≤n):gS h' es n:=
 ⟨I.nd,λk v q=>by refine xT (I.key k v q) λt ht a c vs d f=>?_;exact(xy t ht a c vs ((e _).trans d) (ah f hm)),λs hs q=>(e _).trans (I.no s hs q)⟩
theorem oR.same(I:oR h m){n:Nat}(e:∀l,h' (.mk 41 l)=h (.mk 41 l))(e2:h' (.mk 38 [])=h (.mk 38 []))(hm:m≤n):oR h' n:=
 ⟨e2.trans I.1,λt ht=>by refine aj (I.2 t ht) λvs a c=>?_;exact(aU vs ((e _).trans a) (ah c hm))⟩
theorem oR.app{vs:List SV}{x:SV}(I:oR h m)(hs:s∈dW)(hv:h (io s)=aa (.list vs)):oR (h.set (io s) (.list (vs++[x]))) (m+1):=by
 refine⟨(aq az).trans I.1,λt ht=>?_⟩;refine aj (I.2 t ht) λws a c=>?_
 by_cases z:t=s
 ·subst z
  rw[hv] at a;cases a;exact(aU _ aS (by rw[cU];exact eG c))
 ·exact(aU ws ((aq λq=>z (RS ht hs q)).trans a) (c8 c))
theorem Pp(I:gS h es m):es.length≤3:=by
 have:=fO I.nd (l₂:=a8.map SV.str) λk hk=>by
  cases e:es.lookup k with
  |none=>exact bc hk (lW.mp e)
  |some v=>refine bH (I.key k v e) λs hs z _=>?_;exact bB.mpr (aU s hs z.symm)
 rwa [aI] at this
theorem Mi:∀s∈dW,iJ.lookup (.str s)=aa (.ref (io s)):=by
 intro s hs;have:s="a"∨s="b"∨s="error":=by simpa [dW] using hs
 rcases this with rfl|rfl|rfl<;>rfl
theorem W9:∀s∈va,s∈dW∨s∈a8:=aW
structure DS where
 es:b7
 h:SH
structure DJ(aA:SH)(nm:Str)(m:Nat)(s:DS):Prop where
 d:s.h (.mk 39 [])=aa (.dict s.es)
 nt:gS s.h s.es m
 tm:oR s.h m
 kq:∀M,Kq [39,41,44] M aA s.h
 has:(s.es.lookup (.str nm)).isSome=ab
theorem ac6(G:GB Rs h)(hn:nm∈a8)(hs:aT∈gm)(h5:∀s∈aT,s∈va)(hl:h l=aa (.list (aT.map .str)))(ny:∃m t,l=.mk 99 (m::t))
  (fin:∀es h',DJ h nm (3*(Rs.length+1)) ⟨es,h'⟩→(∀qd,h (.mk 39 [])=aa (.dict qd)→∀k,(qd.lookup k).isSome=ab→(es.lookup k).isSome=ab)→SS (nM i b) (rk nm l aT Rs.length) h' [(ba 201).drop 10] Q):SS (nM i b) (rk nm l aT Rs.length) h [(ba 201).drop 8] Q:=by
 refine kc ny λm tl ax=>?_;clear ny;subst ax;have hj:=dc.mp yX _ hs;simp only[vX,bO,h_] at hj;have hz:=hj.1.2;have c7:=G.len;obtain⟨ns,hd,I0,_⟩:=G.ii;have rT:∀s0:DS,DJ h nm (3*Rs.length) s0→(∀k,(ns.lookup k).isSome=ab→(s0.es.lookup k).isSome=ab)→SS (nM i b) (rk nm (.mk 99 (m::tl)) aT Rs.length) s0.h [(ba 201).drop 9] Q:=by
  intro s0 J0 K0;have hL:∀s:DS,∀m',DJ h nm m' s→s.h (.mk 99 (m::tl))=aa (.list (aT.map .str)):=λs m' J=>((J.kq (m+1)).2 m tl (dq _)).trans hl;refine eo (σ:=DS) (λ_=>rk nm (.mk 99 (m::tl)) aT Rs.length) DS.h (λs j=>DJ h nm (3*Rs.length+j) s∧∀k,(ns.lookup k).isSome=ab→(s.es.lookup k).isSome=ab) s0 (aT.map .str) (d8 n_ (hL s0 _ J0)) ⟨J0,K0⟩ .rfl (λs j Z=>d6 (hL s _ Z.1)) (λs j v Z e=>?_) (λs Z=>aH ?_)
  ·refine aj (dH e) λt ht ax=>?_;subst ax
   refine xA Z λJ K=>?_;clear Z;have jl:=(cV.mp ht).1;have nJ:s.h aX=aa (.inst 283 (pU .none)):=((J.kq 0).1 _ _ rfl).trans G.gr;refine dX ?_;rcases W9 t (h5 t (bN ht)) with h1|h1
   ·refine aj (J.tm.2 t h1) λvs hv zb=>?_
    refine cT (bt n_ (a_ (n:=aX) n_ nJ) (Od J.tm.1 (Mi t h1))) ?_;refine fJ (dp (gY (a_ (n:=aX) n_ nJ) n_ J.tm.1 (Mi t h1)) (fV hv) ij (aB n_ aL) (ga hv (by refine(?_:_≤2^24);exact ah zb (ah (fp (pB 3 c7) (cj (bI jl hz))) aJ)))) ?_;exact aH (aH (bK (LQ.next ⟨s.es,s.h.set (io t) (.list (vs++[.int Rs.length]))⟩ ⟨⟨(by dsimp only;exact aE J.d),J.nt.same (λ_=>by dsimp only;exact tR) (bR _),J.tm.app h1 hv,λM=>(J.kq M).trans (M:=M) .set (ar _),J.has⟩,K⟩ (SF.sub.rfl.b9))))
   ·refine cf (bt n_ (a_ (n:=aX) n_ nJ) (AZ J.tm.1 (IR h1))) ?_
    have MA:∀s1:DS,DJ h nm (3*Rs.length+j) s1→(∀k,(ns.lookup k).isSome=ab→(s1.es.lookup k).isSome=ab)→s1.es.lookup (.str t)=aa (.ref (gc t))→SS (nM i b) ((rk nm (.mk 99 (m::tl)) aT Rs.length).put "t" (.str t)) s1.h ([(xL (stN (d_ (stN (ba 201) 9)) 0)).drop 1,[]]) (LQ (nM i b) (λ_=>rk nm (.mk 99 (m::tl)) aT Rs.length) DS.h (λs'=>DJ h nm (3*Rs.length+(j+1)) s'∧∀k,(ns.lookup k).isSome=ab→(s'.es.lookup k).isSome=ab) ((ba 201).drop 10::[]) Q):=by
     intro s1 J1 K1 sX;refine xT (J1.nt.key _ _ sX) λt' ht' e1 e2 vs hv zb=>?_;obtain rfl:=Mine.Internal.SV.str.inj e1;refine fJ (dp (gY (a_ (n:=aX) n_ (((J1.kq 0).1 _ _ rfl).trans G.gr:s1.h aX=aa (.inst 283 (pU .none)))) n_ J1.d sX) (fV hv) ij (aB n_ aL) (ga hv (by refine(?_:_≤2^24);exact ah zb (ah (fp (pB 3 c7) (cj (bI jl hz))) aJ)))) ?_;exact aH (aH (bK (LQ.next ⟨s1.es,s1.h.set (gc t) (.list (vs++[.int Rs.length]))⟩ ⟨⟨(by dsimp only;exact aE J1.d),J1.nt.app h1 sX hv,J1.tm.same (λ_=>by dsimp only;exact tR) (by dsimp only;exact tR) (bR _),λM=>(J1.kq M).trans (M:=M) .set (ar _),J1.has⟩,K1⟩ (SF.sub.rfl.b9))))
    cases ja:s.es.lookup (.str t) with
    |some v=>
     have hv:v=.ref (gc t):=by refine gU (J.nt.key _ _ ja) λt' _ e1 e2 _=>?_;obtain rfl:=Mine.Internal.SV.str.inj e1;exact e2
     subst hv;exact cf (bt n_ (a_ (n:=aX) n_ nJ) (DX J.d ja)) (aH (MA s J K ja))
    |none=>
     refine cT (bt n_ (a_ (n:=aX) n_ nJ) (LR J.d ja)) ?_;refine eu (n:=.mk 39 []) (es:=s.es) (eC (n:=gc t) aL (J.nt.no t h1 ja)) (a_ (n:=aX) n_ (aE nJ)) n_ (aE J.d) (by have:=Pp J.nt;refine(?_:_≤2^24);exact ah ‹_› aJ) ?_;refine aH (MA ⟨bj s.es (.str t) (.ref (gc t)),(s.h.set (gc t) (.list [])).set (.mk 39 []) (.dict (bj s.es (.str t) (.ref (gc t))))⟩ ⟨(by dsimp only;exact aS),J.nt.add h1 ja,J.tm.same (λ_=>by dsimp only;exact tM) (by dsimp only;exact tM) (ar _),λM=>((J.kq M).trans (M:=M) (.set (k:=44)) (ar _)).trans (M:=M) (.set (k:=39)) (ar _),?_⟩ (λk hk=>?_) ?_)
     ·show((bj s.es _ _).lookup _).isSome=ab
      rw[fw _];split
      ·rfl
      ·exact J.has
     ·show((bj s.es _ _).lookup _).isSome=ab
      rw[fw _];split
      ·rfl
      ·exact K k hk
     ·show(bj s.es _ _).lookup _=_
      rw[fw _,aP rfl]
  ·rw[aI] at Z
   refine xA Z λJ K=>?_;clear Z;refine fin s.es s.h ⟨J.d,J.nt.same (λ_=>rfl) (c8 (e6 hz _)),J.tm.same (λ_=>rfl) rfl (c8 (e6 hz _)),J.kq,J.has⟩ λqd e k hk=>K k ?_;rw[hd] at e;cases e;exact hk
 cases ja:ns.lookup (.str nm) with
 |some v=>
  refine cf (bt n_ (a_ (n:=aX) n_ G.gr) (DX hd ja)) (aH (rT ⟨ns,h⟩ ⟨hd,I0,G.wJ,λM=>.same,by show(ns.lookup (.str nm)).isSome=ab;rw[ja];rfl⟩ λ_=>id))
 |none=>
  refine cT (bt n_ (a_ (n:=aX) n_ G.gr) (LR hd ja)) ?_;refine eu (n:=.mk 39 []) (es:=ns) (eC (n:=gc nm) aL (I0.no nm hn ja)) (a_ (n:=aX) n_ (aE G.gr)) n_ (aE hd) (by have:=Pp I0;refine(?_:_≤2^24);exact ah ‹_› aJ) ?_;refine aH (rT ⟨bj ns (.str nm) (.ref (gc nm)),(h.set (gc nm) (.list [])).set (.mk 39 []) (.dict (bj ns (.str nm) (.ref (gc nm))))⟩ ⟨(by dsimp only;exact aS),I0.add hn ja,G.wJ.same (λ_=>by dsimp only;exact tM) (by dsimp only;exact tM) (ar _),λM=>(Kq.set (k:=44)).trans (M:=M) (.set (k:=39)) (ar _),?_⟩ (λk hk=>?_))
  ·show((bj ns _ _).lookup _).isSome=ab
   rw[fw _,aP rfl];rfl
  ·show((bj ns _ _).lookup _).isSome=ab
   rw[fw _];split
   ·rfl
   ·exact hk
theorem Wh{vs:List SV}{i:Nat}{Q:QV}{X:QX}(hF:F.q=ab)(yA:i<2^40)(ho:vs.length≤i)(hx:X "IndexError" h):
  WO G F b fr h [.tup vs,.int i] (bw i6) Q X:=by
 refine .mk ?_;intro own ae A P m s Q' E' a5 R d7 c d;refine gu d7 λu' i' hu zB=>?_
 first|refine nc zB λt=>?_|refine pG zB λt=>?_
 refine bP (R.rY hu) λa xs ax hL hX=>?_;subst ax;rw[hX.size] at ho;have hA:=R.quiet hF;have hE:∀h' tk e,ag0 s.heap h' e "IndexError"→E' (.ref e) {s with heap:=h',toks:=tk}:=λh' tk e N=>by
  refine xA (R.newExc N tk) λR' x=>?_;exact d _ _ e _ P m hx .rfl .rfl x R'
 have hi:oz (i:Int) xs.size=af:=by
  unfold oz;simp;lia
 show aw _ _ (i6 (.ref a) (.int i t)) _ _ _;unfold i6
 try with_reducible refine dM ?_
 first|refine wb (aD ?_)|skip
 refine wb (zR hL.typeIs aW ?_);refine wb (qK (name:=d5 "__getitem__") hL.typeIs DG
  (i5 DG hL.typeIs ahn ?_ (aho _ _)))
 show aw _ _ (Ql (.ref a) >>=_) _ _ s;refine wb (tupleItemsOf_ hL ?_);refine wb (uF (typeIs_int s i t) ?_);rw[aK aW];refine wb (qN (T:="int") (typeIs_int s i t) int_index ?_);rw[aK (by simp)];refine wb (qL (a:=(i:Int)) rfl ?_);rw[aK (by simp only[DP,decide_eq_true_eq];lia)];rw[hi]
 first
  |exact wb (jK (by exact_raiseError Q4 hA hE))
  |exact wb (jK (wb (by exact_raiseError Q4 hA hE)))
  |exact jK (by exact_raiseError Q4 hA hE)
variable{bv:SF}{t:Expr}{c:SV}{x:String}{body vg:List bx}{wF:bx}{BQ:Pos}
def XG(i:FI)(fr:SF)(h:SH)(e:Expr)(x:String)(h':SH):Prop:=
 ∀fr',fr.sub fr'→∀(Q:QV) (X:QX),X x h'→WE i.G i.F i.b fr' h e Q X
abbrev EX(i:FI)(fr:SF)(h:SH)(e:Expr)(x:String)(h':SH):Prop:=Bx (XG i fr h e x h')
theorem Ky{kx:Expr}(a:EV i fr h e (.ref n) ag)(d:EV i fr ag kx w aC)(hn:aC n=aa (.dict es))(hl:es.lookup w=af)(ok:autoParam (SV.key 6 w=ab) bl)(Hv:autoParam (qf kx) i8):EX i fr h (.Subscript e kx pos) "KeyError" aC:=
 ⟨λfr' s Q X hq=>B7 Hv (a.run fr' s _ _ (d.run fr' s _ _ ⟨.dict hn,Zo i.q hn ok hl hq⟩))⟩
theorem Κ{kx:Expr}{vs:List SV}{j:Nat}(a:EV i fr h e (.tup vs) ag)(d:EV i fr ag kx (.int j) aC)(hj:j<2^40)(ho:vs.length≤j)(ok:autoParam (qf kx) i8):EX i fr h (.Subscript e kx pos) "IndexError" aC:=
 ⟨λfr' s Q X hq=>B7 (ok) (a.run fr' s _ _ (d.run fr' s _ _ ⟨.tup,Wh i.q hj ho hq⟩))⟩
theorem Xw{kx:Expr}(a:EV i fr h e u ag)(d:EX i fr ag kx x aC)(ok:autoParam (qf kx) i8):EX i fr h (.Subscript e kx pos) x aC:=
 ⟨λfr' s Q X hq=>B7 (ok) (a.run fr' s _ _ (d.run fr' s _ _ hq))⟩
theorem aa2{name:Str}{gE:Pos}{args:List Expr}(a:EX i fr h o x ag)(ok:autoParam ((args.all iQ && (gE.endLine==pos.line && decide (args.length<20)))=ab) bl)(pK:autoParam (xk o) xR):EX i fr h (.Call (.Attribute o name gE) args [] pos) x ag:=by
 have p:=(bO _ _).mp ok;exact⟨λfr' s Q X hq=>MC (a.run fr' s _ _ hq) (pK _) p.1 p.2⟩
def SXb(i:FI)(fr:SF)(h:SH)(body:List bx)(x:String)(h':SH):Prop:=
 ∀fr',fr.sub fr'→∀(Q:QS) (X:dP),(∀bv,fr.sub bv→X x bv h')→j4 i.G i.F i.b fr' h body Q X
abbrev SX(i:FI)(fr:SF)(h:SH)(body:List bx)(x:String)(h':SH):Prop:=Bx (SXb i fr h body x h')
theorem TP(a:EX i fr h e x ag)(ok:autoParam (iq e=ab) bl):SX i fr h (.Expr e pos::rest) x ag:=
 ⟨λfr' s Q X hq=>xx (Mj (λae=>IH ok) (a.run fr' s _ _ (hq fr' s)))⟩
theorem PJ(a:EX i fr h e x ag)(ok:autoParam ((iq e && uS t)=ab) bl):SX i fr h (.Assign [t] e pos::rest) x ag:=by
 rw[bO] at ok;exact⟨λfr' s Q X hq=>xx (Cw (a.run fr' s _ _ (hq fr' s)) (λae=>Q8 ok.1) (λae=>Q9 ok.1 ok.2) λae=>Q_ ok.2)⟩
theorem Ey(w:SS i fr h (body::rest::k) Q):SS i fr h ((.Try body [.ExceptHandler (aa t) af (wF::vg) BQ] [] [] pos::rest)::k) Q:=
 fF ⟨λfr' s Q' hq=>LW (iH.imp (w.run _ s) (λf bv ag q=>hq _ _ f q) λ_ _ _ q=>q.elim)⟩
theorem I9(a:SX i fr h body x ag)(hx:x≠"tuple"∧x≠"range")(ht:∀fr',WE i.G i.F.loud i.b fr' ag t (λv h'=>v=c∧h'=ag) lX)(hm:XM i.G x c ab)
  (hd:∀fr',fr.sub fr'→∀Q:QS,(∀ew,bv.sub ew→Q .next ew aC)→j4 i.G i.F.loud i.b fr' ag (wF::vg) Q nX) (w:SS i bv aC (rest::k) Q):SS i fr h ((.Try body [.ExceptHandler (aa t) af (wF::vg) BQ] [] [] pos::rest)::k) Q:=
 fF ⟨λfr' s Q' hq=>LW (a.run fr' s _ _ λbv aZ=>⟨hx,WV.imp (ht bv) (λv h' ⟨e1,e2⟩=>by subst e1;subst e2;exact⟨hm,hd bv aZ _ λew bz=>hq _ _ .next (w.run ew bz)⟩) λ_ _ q=>q⟩)⟩
theorem II{x:Str}{v:SV}(hg:jm i.G x v)(hl:i.gs.contains x=ab):∀fr' h,WE i.G i.F.loud i.b fr' h (.Name x pos) (λv' h'=>v'=v∧h'=h) lX:=λfr' h=>
 Ez hg (F:=i.F.loud) (cZ.get i.W hl).1 (cZ.get i.W hl).2 ⟨rfl,rfl⟩
theorem Om:("KeyError":String)≠"tuple"∧("KeyError":String)≠"range":=aW
theorem R_:("IndexError":String)≠"tuple"∧("IndexError":String)≠"range":=aW
variable{hf:SH}
theorem D5{r:Str×List Str}(hj:j<Rs.length):bE (Rs++[r]) j=bE Rs j:=by unfold bE;rw[Di hj]
theorem Gv{r:Str×List Str}:bE (Rs++[r]) Rs.length=r.1:=by unfold bE;rw[QU (ar _),zJ _];rfl
theorem YX{r:Str×List Str}(hj:j<Rs.length):aG (Rs++[r]) j=aG Rs j:=by unfold aG;rw[Di hj]
theorem Yo{r:Str×List Str}:aG (Rs++[r]) Rs.length=r.2:=by unfold aG;rw[QU (ar _),zJ _];rfl
theorem adf{r:Str×List Str}(hp:0<Rs.length):gA (Rs++[r]) s=gA Rs s++if r.1=s then [Rs.length] else []:=by
 unfold gA;rw[cU,zU,w_,ai5 _ _];have e1:(bo Rs.length).filter (λj=>decide (j≠0) && decide (bE (Rs++[r]) j=s))=(bo Rs.length).filter (λj=>decide (j≠0) && decide (bE Rs j=s)):=
  List.filter_congr λj hj=>by rw[D5 (dR.mp hj)]
 rw[e1]
 congr 1
 rw[HX,Gv];have:decide (Rs.length≠0)=ab:=eQ (ai6.mp hp);rw[this,ai7 _]
 by_cases hs:r.1=s
 ·rw[eQ hs,aP rfl,aP hs];rfl
 ·rw[i0 hs,aK iD,aK hs];rfl
theorem aff{n:Nat}(hp:0<n):(bo (n+1)).tail=(bo n).tail++[n]:=by
 rw[w_]
 cases h:bo n with
 |nil=>have:=ay oq h;rw[dS] at this;subst this;exact bc hp (fo _)
 |cons a r=>rfl
theorem Kr{x y:Str}(hx:x∈a8)(hy:y∈a8)(e:gd x=gd y):x=y:=by injection e with _ e;injection e with e;exact GQ x hx y hy e
theorem GB.add(G:GB Rs h)(hn:nm∈a8)(hs:aT∈gm)(h5:∀s∈aT,s∈va)(c7:Rs.length<5)
  (xH:hf (.mk 35 [])=aa (.list (.none::(bo Rs.length).tail.map bA++[bA Rs.length])))
  (NU:∃ns nj,h (.mk 36 [])=aa (.dict ns)∧hf (.mk 36 [])=aa (.dict nj)∧(((ns.lookup (.str nm)).isSome=ab∧nj=ns)∨(ns.lookup (.str nm)=af∧nj=bj ns (.str nm) (.ref (gd nm)))))
  (uV:hf (gd nm)=aa (.list ((gA Rs nm++[Rs.length]).map bA))) (Α:∀s∈a8,s≠nm→hf (gd s)=h (gd s))
  (v9:∃ms,h (.mk 37 [])=aa (.dict ms)∧hf (.mk 37 [])=aa (.dict (bj ms (.str (oP nm aT)) (bA Rs.length))))
  (Kn:∃es,hf (.mk 39 [])=aa (.dict es)∧gS hf es (3*(Rs.length+1))∧(es.lookup (.str nm)).isSome=ab∧∀qd,h (.mk 39 [])=aa (.dict qd)→∀k,(qd.lookup k).isSome=ab→(es.lookup k).isSome=ab)
  (tm:oR hf (3*(Rs.length+1)))
  (pr:hf (bf Rs.length)=aa (.inst 100 (iX nm aT Rs.length (.mk 66 [Rs.length]) .none))∧hf (.mk 42 [Rs.length])=aa (.list ((g6 [] aT).map .str)))
  (y6:∀k∈([10,42,66]:List Nat),∀j,j≠Rs.length→hf (.mk k [j])=h (.mk k [j]))
  (same:∀k∈([34,45,46,49]:List Nat),hf (.mk k [])=h (.mk k [])):GB (Rs++[(nm,aT)]) hf:=by
 have hp:=G.pos;have hL:(Rs++[(nm,aT)]).length=Rs.length+1:=by rw[cU];rfl
 refine⟨(same 34 bQ).trans G.gr,?_,?_,?_,by rw[hL];exact tm,?_,(same 45 bQ).trans G.first,(same 46 bQ).trans G.nC,(same 49 bQ).trans G.prec,λj h0 hj=>?_,λj hj=>?_,λr hr=>?_,by rw[hL];assumption,by rw[hL];exact dK _⟩
 ·rw[hL,aff hp,xH,dN];rfl
 ·refine bP NU λns nj a1 a2 a3=>?_;clear NU
  obtain⟨ns2,b1,b2,b3,b4⟩:=G.names;rw[a1] at b1;cases b1;refine(ik nj a2 ?_ (λk hk=>?_) (λs gW=>?_))
  ·rcases a3 with⟨_,rfl⟩|⟨_,rfl⟩
   ·exact b2
   ·exact o9 b2
  ·rcases a3 with⟨_,rfl⟩|⟨_,rfl⟩
   ·exact b3 k hk
   ·rcases(wH k).mp hk with rfl|hk
    ·exact(aU nm hn rfl)
    ·exact b3 k hk
  ·rw[adf hp]
   by_cases Bp:nm=s
   ·subst Bp
    rw[aP rfl];refine⟨λ_=>⟨?_,uV⟩,λz=>bc z (by simp)⟩;rcases a3 with⟨z,rfl⟩|⟨_,rfl⟩
    ·by_cases q:gA Rs nm=[]
     ·rw[((b4 nm hn).2 q).1] at z;exact cM z
     ·exact((b4 nm hn).1 q).1
    ·rw[fw _,aP rfl]
   ·rw[aK Bp,gP _]
    have el:nj.lookup (.str s)=ns.lookup (.str s):=by
     rcases a3 with⟨_,rfl⟩|⟨_,rfl⟩
     ·rfl
     ·rw[fw _,aK (λz=>Bp (by injection z with z;exact z.symm))]
    rw[el,Α s gW (Ne.symm Bp)];exact b4 s gW
 ·refine aj v9 λms a1 a2=>?_;clear v9
  obtain⟨ms2,b1,b2,b3⟩:=G.map;rw[a1] at b1;cases b1;have tl:(Rs++[(nm,aT)]).tail=Rs.tail++[(nm,aT)]:=by cases Rs with|nil=>exact bc hp (fo _)|cons a r=>rfl
  refine(cL _ a2 (λk hk=>?_) (by rw[hL];exact ah tG (eG b3)));rw[tl];rcases(wH k).mp hk with rfl|hk
  ·exact(aU ((nm,aT)) (kj _ (bS.mpr rfl)) rfl)
  ·refine aj (b2 k hk) λr hr e=>?_
   exact(aU r (i7 _ hr) e)
 ·refine gU Kn λes a1 a2 a3 a4=>?_;clear Kn
  obtain⟨C7,b1,b2,b3⟩:=G.ii;refine(cL es a1 (by rw[hL];exact a2) (λj h0 hj=>?_));rw[hL] at hj;rcases wP (eS hj) with rfl|hj
  ·rw[Gv];exact a3
  ·rw[D5 hj];exact a4 C7 b1 _ (b3 j h0 hj)
 ·rw[hL] at hj
  rcases wP (eS hj) with rfl|hj
  ·rw[Gv,Yo];exact pr
  ·rw[D5 hj,YX hj]
   have:=G.pr j h0 hj;exact⟨(y6 10 bQ j (du hj)).trans this.1,(y6 42 bQ j (du hj)).trans this.2⟩
 ·rw[hL] at hj
  have ff:j≠Rs.length:=hj.elim (λz=>z▸du hp) λz=>dG z;have:=G.free j (hj.imp id gg);exact(cF ((y6 10 bQ j ff).trans this.1) ((y6 42 bQ j ff).trans this.2.1) ((y6 66 bQ j ff).trans this.2.2))
 ·rw[(by cases Rs with|nil=>exact bc hp (fo _)|cons a r=>rfl:(Rs++[(nm,aT)]).tail=Rs.tail++[(nm,aT)])] at hr
  rcases dw.mp hr with hr|hr
  ·exact G.shape r hr
  ·rw[bS.mp hr];exact(cF hn hs h5)
variable{ms ns:b7}
theorem V3(hb:i.b=b+2)(hn:nm∈vS)(hs:aT∈gm)(hl:h l=aa (.list (aT.map .str)))(hp:h (bf j)=af)(si:h (.mk 42 [j])=af)(tg:h (.mk 66 [j])=af):
  FP i h (.glob 100) [.int j,.str nm,.ref l,wD,.none,.str "",.int 0] (is (.ref (bf j)) (tE h nm aT j)):=
 cls rfl hb hp (enter (b:=b) i.K.prodinit7 Fk w_pi rfl rfl ((MK (b:=b) hn hs hl hp si tg).imp λf fr h' q=>(cF q.1 rfl q.2)))
theorem Xh(hb:i.b=b+2)(hn:nm∈vS)(hs:aT∈gm)(hl:h l=aa (.list (aT.map .str)))(hp:h (bf j)=af)(si:h (.mk 42 [j])=af)(tg:h (.mk 66 [j])=af):
  FP i h (.glob 100) [.int j,.str nm,.ref l] (is (.ref (bf j)) (tE h nm aT j)):=
 cls rfl hb hp (enter (b:=b) i.K.prodinit3 Fk w_pi rfl rfl ((MK (b:=b) hn hs hl hp si tg).imp λf fr h' q=>(cF q.1 rfl q.2)))
noncomputable def iO(h:SH)(nm:Str)(aT:List Str)(n:Nat)(ms:b7):SH:=((tE h nm aT n).set (.mk 35 []) (.list (.none::(bo n).tail.map bA++[bA n]))).set (.mk 37 []) (.dict (bj ms (.str (oP nm aT)) (bA n)))
theorem KN{k:Nat}{l:List Nat}(hk:([10,42,66,35,37]:List Nat).contains k=an):iO h nm aT j ms (.mk k l)=h (.mk k l):=
 (sQ hk).trans ((sQ hk).trans ((sQ hk).trans ((sQ hk).trans (sQ hk))))
theorem Ux{k a:Nat}(hk:k∈([10,42,66]:List Nat))(ha:a≠j):iO h nm aT j ms (.mk k [a])=h (.mk k [a]):=
 have ne {k'}:Nm.mk k [a]≠.mk k' [j]:=λe=>ha (lw (Nm.mk.inj e).2).1
 (sQ (mK (L':=[35,37]) hk)).trans ((sQ (mK (L':=[35,37]) hk)).trans ((aq ne).trans ((aq ne).trans (aq ne))))
noncomputable def vh:List Nat:=[10,35,36,37,39,40,41,42,44,66]
theorem Ξ:Kq vh N h (iO h nm aT j ms):=((((Kq.set (k:=42)).trans (M:=N) (Kq.set (k:=66)) (ar _)).trans (M:=N) (Kq.set (k:=10)) (ar _)).trans (M:=N) (Kq.set (k:=35)) (ar _)).trans (M:=N) (Kq.set (k:=37)) (ar _)
theorem Ya(G:GB Rs h)(hn:nm∈a8)(hs:aT∈gm)(h5:∀s∈aT,s∈va)(c7:Rs.length<5)(hl:h l=aa (.list (aT.map .str)))(ny:∃m t,l=.mk 99 (m::t)){es:b7}{hD:SH}(J:DJ h nm (3*(Rs.length+1)) ⟨es,hD⟩)
  (mono:∀qd,h (.mk 39 [])=aa (.dict qd)→∀k,(qd.lookup k).isSome=ab→(es.lookup k).isSome=ab)
  (fin:∀h' fr,GB (Rs++[(nm,aT)]) h'→(∀M,Kq vh M h h')→(∀a c,h' (.mk 40 [a,c])=h (.mk 40 [a,c]))→Q .next fr h'):SS (nM i b) (rk nm l aT Rs.length) hD [(ba 201).drop 10] Q:=by
 refine kc ny λlm tl ax=>?_;clear ny;subst ax;refine jF (G.free Rs.length (.inr (ar _))) λf1 f2 f3=>?_;have dk:∀{k l},(99::[39,41,44]:List Nat).contains k=an→hD (.mk k l)=h (.mk k l):=λ{k l} hk=>(J.kq 0).1 k l hk;refine bM (b8 (i.K.ref rfl) (i.K.keep rfl) (aB n_ (aB n_ (aB n_ (aB n_ (aB n_ (aB n_ (aB n_ aL))))))) (V3 (b:=b) rfl (eT _ hn:nm∈vS) hs (((J.kq (lm+1)).2 lm tl (dq _)).trans hl:hD (.mk 99 (lm::tl))=aa (.list (aT.map .str))) ((dk rfl).trans f1) ((dk rfl).trans f2) ((dk rfl).trans f3)).cp) ?_;have nJ:tE hD nm aT Rs.length aX=aa (.inst 283 (pU .none)):=aE (aE (aE ((dk rfl).trans G.gr)));have IJ:tE hD nm aT Rs.length (.mk 35 [])=aa (.list (.none::(bo Rs.length).tail.map bA)):=aE (aE (aE ((dk rfl).trans G.fg)));refine fJ (dp (a_ (n:=aX) n_ nJ) (fV IJ) ij (aB n_ aL) (ga IJ (by rw[iE,aI _,FC];refine(?_:_≤2^24);exact sH (QZ (bI c7 aJ))))) ?_;obtain⟨ms,m1,m2,m3⟩:=G.map;refine eu (v:=bA Rs.length) (n:=.mk 37 []) (es:=ms) n_ (a_ (n:=aX) n_ (aE nJ)) n_ (aE (aE (aE (aE ((dk rfl).trans m1)))):((tE hD nm aT Rs.length).set (.mk 35 []) (.list (.none::(bo Rs.length).tail.map bA++[bA Rs.length]))) (.mk 37 [])=aa (.dict ms)) (by refine(?_:_≤2^24);exact cj (bd m3 (bI c7 aJ))) ?_;refine(?_:SS _ _ (iO hD nm aT Rs.length ms) _ _);obtain⟨ns,p1,p2,p3,p4⟩:=G.names;have ek:∀{k l},([10,42,66,35,37,99,39,41,44]:List Nat).contains k=an→iO hD nm aT Rs.length ms (.mk k l)=h (.mk k l):=λhk=>(KN (sO hk)).trans (dk (sO hk));have ze:iO hD nm aT Rs.length ms (.mk 36 [])=aa (.dict ns):=(ek rfl).trans p1;have Bg:iO hD nm aT Rs.length ms aX=aa (.inst 283 (pU .none)):=(ek rfl).trans G.gr;have xH:iO hD nm aT Rs.length ms (.mk 35 [])=aa (.list (.none::(bo Rs.length).tail.map bA++[bA Rs.length])):=aE aS;have v9:iO hD nm aT Rs.length ms (.mk 37 [])=aa (.dict (bj ms (.str (oP nm aT)) (bA Rs.length))):=aS;have FQ:iO hD nm aT Rs.length ms (bf Rs.length)=aa (.inst 100 (iX nm aT Rs.length (.mk 66 [Rs.length]) .none)):=aE (aE aS);have Fc:iO hD nm aT Rs.length ms (.mk 42 [Rs.length])=aa (.list ((g6 [] aT).map .str)):=aE (aE (aE (aE aS)));have d3:∀{k l},([39,41,44,38]:List Nat).contains k=ab→iO hD nm aT Rs.length ms (.mk k l)=hD (.mk k l):=λhk=>KN (mK (e9.mp hk));have NT:gS (iO hD nm aT Rs.length ms) es (3*(Rs.length+1)):=J.nt.same (λl=>d3 rfl) (ar _);have TM:oR (iO hD nm aT Rs.length ms) (3*(Rs.length+1)):=J.tm.same (λl=>d3 rfl) (d3 rfl) (ar _);have Gf:iO hD nm aT Rs.length ms (.mk 39 [])=aa (.dict es):=(d3 rfl).trans J.d;have pj:∀k∈([10,42,66]:List Nat),∀a,a≠Rs.length→iO hD nm aT Rs.length ms (.mk k [a])=h (.mk k [a]):=λk hk a ha=>(Ux hk ha).trans (dk (mK hk));have kq:∀M,Kq vh M h (iO hD nm aT Rs.length ms):=λM=>(J.kq M).mono.trans (M:=M) Ξ (ar _);generalize iO hD nm aT Rs.length ms=hE at ek ze Bg xH v9 FQ Fc d3 NT TM Gf pj kq
 by_cases hp:gA Rs nm=[]
 ·refine xA ((p4 nm hn).2 hp) λq1 q2=>?_
  refine I9 (x:="KeyError") (c:=.ty "KeyError") (ag:=hE) (aC:=(hE.set (gd nm) (.list [bA Rs.length])).set (.mk 36 []) (.dict (bj ns (.str nm) (.ref (gd nm))))) (bv:=[]) (TP (aa2 (Ky (a_ (n:=aX) n_ Bg) n_ ze q1))) Om (λfr'=>II (i:=nM i b) (i.K.ty rfl) rfl fr' hE) Xn (λfr' s pR hq=>?_) ?_
  ·refine xx (Cw (list (wn rfl) (tf (nv (l:=zG) xj (s _ _ rfl) (tz (q9 rfl (gd nm) ((ek rfl).trans q2) (Gi (at_ (nv (l:=zG) xj (s _ _ rfl) (Gs i.K rfl (aE Bg:(hE.set (gd nm) (.list [bA Rs.length])) aX=_) rfl rfl (nv (l:=zG) xj (s _ _ rfl) (Ph (aE ze) rfl ?_ (wf (hq fr' br))))))))))))))
   exact ah (ah (bF (aI _).symm) (fO p2 (l₂:=a8.map SV.str) λk hk=>aj (p3 k hk) λs hs e=>bB.mpr ⟨s,hs,e.symm⟩)) (aJ:3≤cR)
  ·refine aH (bK (fin _ _ (G.add hn hs h5 c7 (aE (aE xH)) (mr ns _ p1 aS (.inr ⟨q1,rfl⟩)) (aE (by rw[hp];exact aS)) (λs gW ne=>(aq az).trans ((aq λe=>ne (Kr gW hn e)).trans (ek rfl))) (aU ms m1 (aE (aE v9))) (ik es (aE (aE Gf)) (NT.same (λl=>tM) (ar _)) J.has mono) (TM.same (λl=>tM) tM (ar _)) ⟨aE (aE FQ),aE (aE Fc)⟩ (λk hk a ha=>?_) λk hk=>?_) (λM=>((kq M).trans (M:=M) (.set (k:=40)) (ar _)).trans (M:=M) (.set (k:=36)) (ar _)) λa c=>(aq az).trans ((aq λz=>jz (lw (Nm.mk.inj z).2).2).trans (ek rfl))))
   ·exact(aq (kZ hk)).trans ((aq (kZ hk)).trans (pj k hk a ha))
   ·exact(aq (kZ hk)).trans ((aq (kZ hk)).trans (ek (mK hk)))
 ·refine xA ((p4 nm hn).1 hp) λq1 q2=>?_
  have q3:hE (gd nm)=aa (.list ((gA Rs nm).map bA)):=(ek rfl).trans q2;refine Ey (fJ (dp (gY (a_ (n:=aX) n_ Bg) n_ ze q1) (fV q3) ij (aB n_ aL) (ga q3 (by rw[aI _];refine(?_:_≤2^24);exact cj (bd (ah (IC _ _) (by rw[dS];exact ar _):(gA Rs nm).length≤Rs.length) (bI c7 aJ))))) (aH (aH ?_)));refine bK (fin _ _ (G.add hn hs h5 c7 (aE xH) (mr ns ns p1 (aE ze) (.inl ⟨by rw[q1];rfl,rfl⟩)) (by rw[dN];exact aS) (λs gW ne=>(aq λe=>ne (Kr gW hn e)).trans (ek rfl)) (aU ms m1 (aE v9)) (ik es (aE Gf) (NT.same (λl=>tR) (ar _)) J.has mono) (TM.same (λl=>tR) tR (ar _)) ⟨aE FQ,aE Fc⟩ (λk hk a ha=>?_) λk hk=>?_) (λM=>(kq M).trans (M:=M) (.set (k:=40)) (ar _)) λa c=>(aq λz=>jz (lw (Nm.mk.inj z).2).2).trans (ek rfl))
  ·exact(aq (kZ hk)).trans (pj k hk a ha)
  ·exact(aq (kZ hk)).trans (ek (mK hk))
theorem gS.eq{n:Nat}(I:gS h es n)(e:∀k l,k≠99→h' (.mk k l)=h (.mk k l)):gS h' es n:=I.same (λl=>e 44 l bG) (ar _)
theorem GB.eq(G:GB Rs h)(e:∀k l,k≠99→h' (.mk k l)=h (.mk k l)):GB Rs h':=by
 refine⟨(e _ _ bG).trans G.gr,(e _ _ bG).trans G.fg,?_,?_,G.wJ.same (λl=>e 41 l bG) (e _ _ bG) (ar _),?_,(e _ _ bG).trans G.first,(e _ _ bG).trans G.nC,(e _ _ bG).trans G.prec,λj h0 hj=>⟨(e _ _ bG).trans (G.pr j h0 hj).1,(e _ _ bG).trans (G.pr j h0 hj).2⟩,
  λj hj=>(cF ((e _ _ bG).trans (G.free j hj).1) ((e _ _ bG).trans (G.free j hj).2.1) ((e _ _ bG).trans (G.free j hj).2.2)),G.shape,G.len,G.pos⟩
 ·obtain⟨es,a,c,d,f⟩:=G.names
  exact(ik es ((e _ _ bG).trans a) c d (λs hs=>⟨λz=>⟨((f s hs).1 z).1,(e _ _ bG).trans ((f s hs).1 z).2⟩,λz=>⟨((f s hs).2 z).1,(e _ _ bG).trans ((f s hs).2 z).2⟩⟩))
 ·obtain⟨es,a,c⟩:=G.map
  exact(aU es ((e _ _ bG).trans a) c)
 ·obtain⟨es,a,c,d⟩:=G.ii
  exact(cL es ((e _ _ bG).trans a) (c.eq e) d)
theorem Kq.FU(k:Kq [] N h h'):∀k l,k≠99→h' (.mk k l)=h (.mk k l):=λk' l hk=>k.1 k' l (by rw[w8,propext Dz];exact⟨k9.mpr hk,rfl⟩)
theorem bp.kq{B:List Nat}(F:bp h N)(kq:∀M,Kq B M h h'):bp h' N:=λk l hk=>((kq (k+1)).2 k l (dq _)).trans (F k l hk)
theorem Xd(hb:i.b=b+3)(G:GB Rs h)(B:bp h N)(hn:nm∈a8)(hs:aT∈gm)(h5:∀s∈aT,s∈va)(Gb:(nm,aT)∉Rs.tail)(c7:Rs.length<5)(hl:h l=aa (.list (aT.map .str)))(ny:∃m t,l=.mk 99 (m::t)∧m<N):
  FP i h (.glob 201) [.ref aX,.str nm,.ref l] (λv h'=>v=.none∧∃N',GB (Rs++[(nm,aT)]) h'∧bp h' N'∧N≤N'∧Kq vh N h h'∧∀a c,h' (.mk 40 [a,c])=h (.mk 40 [a,c])):=by
 refine enter i.K.addprod xj w_ap hb rfl ?_;refine ef ny λlm tl ax hm=>?_;clear ny;subst ax;refine RG hn hs hl (yq lm tl rfl hm) G.wJ.1 G.gr B λN1 h1 B1 k1 le=>?_;have G1:=G.eq k1.FU;have sX:h1 (.mk 99 (lm::tl))=aa (.list (aT.map .str)):=(k1.2 lm tl hm).trans hl;refine WK (b:=b) G1 hn hs sX Gb (ac6 (b:=b) G1 hn hs h5 sX (ud lm tl rfl) λes h2 J mono=>Ya (b:=b) G1 hn hs h5 c7 sX (ud lm tl rfl) J mono λh3 fr G3 k3 GD=>⟨rfl,N1,G3,B1.kq k3,le,k1.mono.trans (k3 N1) le,λa c=>(GD a c).trans (k1.1 40 _ rfl)⟩)
theorem Yx{n:Nm}{y:SV}{vs:List SV}{v:SV}{Q:QV}{X:QX}(hn:h n=aa (.list (y::vs)))(hq:Q .none (h.set n (.list (v::vs)))):
  WO G F b fr h [.ref n,.int 0,v] (Hr λx y z=>do ux x y z;pure .none) Q X:=by
 refine .mk ?_;intro own ae A P m s Q' E' a5 R hv c d;refine ID hv λ_ _ xv zA zB Eu=>?_;refine uN zA λad hm=>?_;refine nc zB λt=>?_;refine R.mG hn hm λxs k h3 h4=>?_;have hl:s.heap.IsList ad.1 xs:=⟨_,h3,rfl,_,rfl⟩;have hsz:=h4.size;rw[iE] at hsz;have fin:=λt'=>c .none _ .none _ _ _ hq .rfl .rfl rfl (R.Bj hn hm h3 (·.setIfInBounds 0 xv) (by rw[Array.toList_setIfInBounds];exact h4.set Eu 0) t');show aw _ _ (do ux (.ref ad.1) (.int 0 t) xv;pure eH) _ _ _;generalize hk:(0:Int)=kk;refine wb ?_;unfold ux
 try with_reducible refine dM ?_
 first|refine wb (aD ?_)|skip
 refine wb (zR hl.typeIs aW ?_);refine wb (qK (name:=d5 "__setitem__") hl.typeIs ai8
  (i5 ai8 hl.typeIs entry_list_setitem ?_ (args_list_setitem _ _ _)))
 show aw _ _ (al8 (.int kk t) >>=_) _ _ s;refine wb (wpAny_listSubscript_int (Qx (Int.le_of_eq hk) (hk▸aW)) ?_);subst hk;show aw _ _ ((seqItemAt ad.1 0 >>=λr=>pure (r.map (0,·))) >>=_) _ _ s;refine wb (wb (wpAny_seqItemAt h3 rfl (aD ?_)));rw[(jr (lr (ah (lu _ _) (bF hsz))):xs[0]? =aa xs[0])];show aw _ _ (setSeqItemAt ad.1 0 xv >>=_) _ _ s;refine wb (wpAny_setSeqItemAt h3 rfl ?_)
 first
  |exact wb (aD (aD (aU .none rfl (aD (aD (fin s.toks))))))
  |exact aD ⟨.none,rfl,aD (aD (fin s.toks))⟩
variable{y:SV}
theorem Ti{vs:List SV}{kx:Expr}{q pos:Pos}(x:EV i fr h e v ag)(yy:EV i fr ag o (.ref n) aC)(z:EV i fr aC kx (.int 0) cK)(hn:cK n=aa (.list (y::vs)))(b:SS i fr (cK.set n (.list (v::vs))) (rest::k) Q)(ok:autoParam (iq e=ab) bl):
  SS i fr h ((.Assign [.Subscript o kx q] e pos::rest)::k) Q:=
 fF (tI _ x.ep (λv' aC e fr' s Q' hq=>by refine xA e λcP bq=>?_;clear e;subst cP;subst bq;exact Gi (yy.run fr' s _ _ (z.run fr' s _ _ (Yx hn (hq _ _ (b.run _ s)))))) (by rw[ok];rfl))
structure GW(Rs:bm)(h:SH):Prop where
 gr:h aX=aa (.inst 283 pJ)
 fg:h (.mk 35 [])=aa (.list ((bo Rs.length).map bA))
 names:∃es,h (.mk 36 [])=aa (.dict es)∧(∀s∈a8,es.lookup (.str s)=aa (.ref (gd s))∧h (gd s)=aa (.list ((gA Rs s).map bA)))∧∀s,s∉a8→es.lookup (.str s)=af
 term:h (.mk 38 [])=aa (.dict iJ)
 ii:∃es,h (.mk 39 [])=aa (.dict es)∧gS h es 20∧∀s∈a8,(es.lookup (.str s)).isSome=ab
 first:h (.mk 45 [])=aa (.dict [])
 nC:h (.mk 46 [])=aa (.dict [])
 prec:h (.mk 49 [])=aa (.dict [])
 pr:∀j,j<Rs.length→h (bf j)=aa (.inst 100 (iX (bE Rs j) (aG Rs j) j (.mk 66 [j]) .none))∧h (.mk 42 [j])=aa (.list ((g6 [] (aG Rs j)).map .str))
noncomputable def F_:List Nat:=[10,34,35,42,44,66]
theorem JA:cq (bC 209) ["self","start"]=ab:=by kernel_rfl
theorem w_ss:cZ (bC 209) ["Production"]=ab:=by kernel_rfl
theorem ρ(hb:i.b=b+3)(G:GB Rs h)(B:bp h N)(h0:bE Rs 0="S'"∧aG Rs 0=[("S":Str)])(h1:1<Rs.length∧bE Rs 1="S")(all:∀s∈a8,∃j,0<j∧j<Rs.length∧bE Rs j=s):
  FP i h (.glob 209) [.ref aX] (λv h'=>v=.none∧∃N',GW Rs h'∧bp h' N'∧N≤N'∧Kq F_ N h h'):=by
 refine enter (b:=b+2) i.K.setstart JA w_ss hb rfl ?_;refine xA (G.pr 1 pf h1.1) λp1 p2=>?_;have Xp:(SV.none::(bo Rs.length).tail.map bA)[1]? =aa (bA 1):=by
  rw[ai1,dv,Q5,w9 h1.1];rfl
 refine cT (fz (t:=an) (p_ n_ nu)) ?_;refine bM (v:=.str "S") (a_ (n:=bf 1) (mx (j:=1) (a_ (n:=aX) n_ G.gr) bD (.own G.fg) bg Xp) p1 (ay (λz=>aa (SV.str z)) h1.2)) (aH ?_);obtain⟨ns,n1,n2,n3⟩:=G.ii;have nS:ns.lookup (.str "S")=aa (.ref (gc "S")):=by
  have:=n3 1 pf h1.1;rw[h1.2] at this
  cases e:ns.lookup (.str "S") with
  |none=>rw[e] at this;exact cM this
  |some v=>refine gU (n2.key _ _ e) λt _ e1 e2 _=>?_;obtain rfl:=Mine.Internal.SV.str.inj e1;rw[e2]
 refine cf (bt n_ (a_ (n:=aX) n_ G.gr) (DX n1 nS)) (aH ?_);refine jF (G.free 0 (.inl rfl)) λf1 f2 f3=>?_;have vn:([("S":Str)]:List Str)∈gm:=by decide +kernel
 have hh:∀{k l},k≠99→(h.set (gN N) (.list [.str "S"])) (.mk k l)=h (.mk k l):=λ{k l} hk=>aq λe=>hk (Nm.mk.inj e).1;have G2:GB Rs (h.set (gN N) (.list [.str "S"])):=G.eq λk l hk=>hh hk;have M6:(h.set (gN N) (.list [.str "S"])) (gN N)=aa (.list (([("S":Str)]:List Str).map .str)):=aS;have B2:bp (h.set (gN N) (.list [.str "S"])) (N+1):=B.new _ _;have hG:Kq F_ N h (h.set (gN N) (.list [.str "S"])):=.new (ar _);refine Ti (v:=bA 0) (n:=.mk 35 []) (y:=.none) (vs:=(bo Rs.length).tail.map bA) (b8 (i.K.ref rfl) (i.K.keep rfl) (aB bD (aB cw (aB (eC (n:=gN N) (aB n_ aL) B.at) aL))) (Xh (i:=i.fn (b+2) 209 ["self","start"] ["Production"] JA w_ss) (b:=b) (j:=0) (nm:="S'") (l:=gN N) rfl (dA) vn M6 ((hh bG).trans f1) ((hh bG).trans f2) ((hh bG).trans f3)).cp) (a_ (n:=aX) n_ (aE (aE (aE G2.gr)))) bD (aE (aE (aE G2.fg))) ?_;have E8:gS (h.set (gN N) (.list [.str "S"])) ns (3*Rs.length):=n2.same (λl=>hh bG) (ar _);have D6:(h.set (gN N) (.list [.str "S"])) (.mk 39 [])=aa (.dict ns):=(hh bG).trans n1;generalize h.set (gN N) (.list [.str "S"])=hA at G2 M6 B2 hG E8 D6 ⊢;refine xT (E8.key _ _ nS) λt _ e1 _ vs hv zb=>?_;obtain rfl:=Mine.Internal.SV.str.inj e1;have c7:=G.len;refine fJ (dp (gY (a_ (n:=aX) n_ (aE (aE (aE (aE G2.gr))))) n_ (aE (aE (aE (aE D6)))) nS) (fV (aE (aE (aE (aE hv))))) ij (aB bD aL) (ga (aE (aE (aE (aE hv)))) (by refine(?_:_≤2^24);exact ah zb (ah (pB _ c7) aJ)))) ?_;refine jy (n:=aX) n_ n_ (aE (aE (aE (aE (aE G2.gr))))) aJ ?_;refine aH (bK ⟨rfl,N+1,⟨aS,aE (aE ?_),?_,aE (aE (aE (aE (aE (aE G2.wJ.1))))),?_,aE (aE (aE (aE (aE (aE G2.first))))),aE (aE (aE (aE (aE (aE G2.nC))))),aE (aE (aE (aE (aE (aE G2.prec))))),λj hj=>?_⟩,?_,bR _,?_⟩)
 ·rw[aS]
  congr 2
  have:=G.pos
  cases hR:bo Rs.length with
  |nil=>have z:=ay oq hR;rw[dS] at z;exact bc (show 0<Rs.length from by assumption) (z▸fo 0)
  |cons a r=>
   have:a=0:=by
    have z:=ay (·[0]?) hR;rw[w9 G.pos] at z;exact(aY z).symm
   rw[this];rfl
 ·obtain⟨es,a1,a2,a3,a4⟩:=G2.names
  refine(cL es (aE (aE (aE (aE (aE (aE a1)))))) (λs hs=>?_) (λs hs=>lW.mpr λz=>?_))
  ·refine bH (all s hs) λj j0 jl je=>?_
   have hp:gA Rs s≠[]:=λz=>by
    have:j∈gA Rs s:=m9.mpr ⟨dR.mpr jl,by rw[eQ je,eQ (ai6.mp j0)];rfl⟩;rw[z] at this;exact cS this
   exact⟨((a4 s hs).1 hp).1,aE (aE (aE (aE (aE (aE ((a4 s hs).1 hp).2)))))⟩
  ·refine aj (a3 _ z) λt ht e=>?_
   injection e with e;exact hs (e▸ht)
 ·refine(cL ns (aE (aE (aE (aE (aE (aE D6)))))) ?_ (λs hs=>?_))
  ·have:=(E8.same (h':=((((hA.set (.mk 42 [0]) (.list ((g6 [] [("S":Str)]).map .str))).set (.mk 66 [0]) (.list [])).set (bf 0) (.inst 100 (iX "S'" [("S":Str)] 0 (.mk 66 [0]) .none))).set (.mk 35 []) (.list (bA 0::(bo Rs.length).tail.map bA)))) (λl=>aE (aE (aE (aE rfl)))) (ar _)).app (x:=.int 0) (dA:("S":Str)∈a8) nS (aE (aE (aE (aE hv))))
   exact this.same (λl=>tR) (sH (bd (pB _ c7) bg))
  ·refine bH (all s hs) λj j0 jl je=>?_
   rw[←je];exact n3 j j0 jl
 ·rcases sJ j with rfl|j0
  ·rw[h0.1,h0.2]
   exact⟨aE (aE (aE aS)),aE (aE (aE (aE (aE aS))))⟩
  ·have z:=G2.pr j j0 hj
   have ne:∀k,Nm.mk k [j]≠.mk k [0]:=λk e=>by injection e with _ e;injection e with e;exact dG ‹_› ‹_›
   exact⟨aE (aE (aE ((aq (ne 10)).trans (aE (aE z.1))))),aE (aE (aE (aE (aE ((aq (ne 42)).trans z.2)))))⟩
 ·exact B2.kq (B:=F_) λM=>(((((Kq.set (k:=42)).trans (M:=M) (Kq.set (k:=66)) (ar _)).trans (M:=M) (Kq.set (k:=10)) (ar _)).trans (M:=M) (Kq.set (k:=35)) (ar _)).trans (M:=M) (Kq.set (k:=44)) (ar _)).trans (M:=M) (Kq.set (k:=34)) (ar _)
 ·exact(((((hG.trans (M:=N) (Kq.set (k:=42)) (ar _)).trans (M:=N) (Kq.set (k:=66)) (ar _)).trans (M:=N) (Kq.set (k:=10)) (ar _)).trans (M:=N) (Kq.set (k:=35)) (ar _)).trans (M:=N) (Kq.set (k:=44)) (ar _)).trans (M:=N) (Kq.set (k:=34)) (ar _)
theorem UK:cq (bC 83) ["self"]=ab:=by kernel_rfl
theorem w_pl:cZ (bC 83) ["len"]=ab:=by kernel_rfl
theorem Rk{fs:SF}{vs:List SV}(hb:i.b=b+2)(hn:h n=aa (.inst 100 fs))(hp:fs.lookup ("prod":Str)=aa (.tup vs))(hz:vs.length≤1000):CP i h (.bi "len") [.ref n] (is (.int vs.length) h):=
 Vb hb hn (bd ‹_› bg) (enter (b:=b) i.K.plen UK w_pl rfl rfl (gJ (b8 (i.K.bi rfl) rfl (aB (a_ (n:=n) n_ hn hp) aL) (B4 (bd ‹_› bg))) ⟨rfl,rfl⟩))
theorem Ui:cq (bC 118) ["self","p","n"]=ab:=by kernel_rfl
theorem w_li:cZ (bC 118) ["list","tuple","len"]=ab:=by kernel_rfl
theorem ae8{vs:List SV}(hn:h n=aa (.list vs)):MV i h (.ref n) "insert" (.bi "list.insert"):=⟨λfr'=>FN hn ahe PySem.F.type_list_insert⟩
theorem υ{vs:List SV}(hn:h n=aa (.list vs))(hz:vs.length≤cR)(hd:d≤vs.length):CP i h (.bi "list.insert") [.ref n,.int d,v] (is .none (h.set n (.list (vs.take d++v::vs.drop d)))):=⟨λfr' Q X hq=>Xa hn hz hd (hq _ _ ⟨rfl,rfl⟩)⟩
theorem Oq{vs:List SV}(hz:vs.length≤cR)(hn:h n=af):CP i h (.ty "list") [.tup vs] (is (.ref n) (h.set n (.list vs))):=⟨λfr' Q X hq=>Yp (.inr rfl) hz hn (hq _ _ ⟨rfl,rfl⟩)⟩
noncomputable def yR(R:bm)(q:aF):SF:=(dV R q).take 7
noncomputable def wI(h:SH)(N:Nat)(R:bm)(q:aF):SH:=((h.set (gN N) (.list ((iN R q).map .str))).set (.mk 60 [q.1,q.2]) (.dict [])).set (bh q) (.inst 135 (yR R q))
theorem Vh{q:aF}:((aG R q.1).map SV.str).take q.2++SV.str "."::((aG R q.1).map SV.str).drop q.2=(iN R q).map .str:=by
 unfold iN;rw[dN,sI,Im,zZ]
theorem Fp{q:aF}(hq:q.2≤(aG R q.1).length):(iN R q).length=(aG R q.1).length+1:=by
 unfold iN;rw[cU,iE,jH,zX,sA hq];exact ay (· +1) (uv hq)
theorem Yh{fs:SF}{q:aF}(hb:i.b=b+2)(hp:h (bf q.1)=aa (.inst 100 fs))(f1:fs.lookup ("name":Str)=aa (.str (bE R q.1)))(f2:fs.lookup ("prod":Str)=aa (.tup ((aG R q.1).map .str)))(f3:fs.lookup ("number":Str)=aa (.int q.1))(f4:fs.lookup ("usyms":Str)=aa (.ref (.mk 42 [q.1])))
  (hq:q.2≤(aG R q.1).length) (hz:(aG R q.1).length≤100) (B:bp h N) (ZA:h (.mk 60 [q.1,q.2])=af) (hi:h (bh q)=af):FP i h (.glob 135) [.ref (bf q.1),.int q.2] (is (.ref (bh q)) (wI h N R q)):=by
 refine cls (b:=b+1) (fI:=118) (n:=bh q) rfl hb hi (enter (b:=b) i.K.iteminit Ui w_li rfl rfl ?_);have hz2:((aG R q.1).map SV.str).length≤100:=by rw[aI _];exact hz
 have p0:∀iG,(h.set (bh q) (.inst 135 iG)) (bf q.1)=aa (.inst 100 fs):=λiG=>aE hp;refine fH (a_ (n:=bf q.1) n_ (p0 _) f1) n_ ?_;refine j_ (m:=gN N) (b8 (i.K.ty rfl) rfl (aB (a_ (n:=bf q.1) n_ (p0 _) f2) aL) (Oq (by refine(?_:_≤2^24);exact ah ‹_› aJ) (aE B.at))) az n_ ?_;refine fH (a_ (n:=bf q.1) n_ ((λiG=>aE (aE hp):∀iG,((h.set (gN N) (.list ((aG R q.1).map .str))).set (bh q) (.inst 135 iG)) (bf q.1)=aa (.inst 100 fs)) _) f3) n_ ?_;refine fH n_ n_ ?_;refine j_ (m:=.mk 60 [q.1,q.2]) (gR (aE (aE ZA))) az n_ ?_;have hl:∀iG,((((h.set (gN N) (.list ((aG R q.1).map .str))).set (.mk 60 [q.1,q.2]) (.dict [])).set (bh q) (.inst 135 iG))) (gN N)=aa (.list ((aG R q.1).map .str)):=λiG=>aE (aE aS);refine fJ (dp (a_ (n:=bh q) n_ aS) (ae8 (hl _)) rfl (aB n_ (aB cw aL)) (υ (hl _) (by refine(?_:_≤2^24);exact ah ‹_› aJ) (by rw[aI _];exact hq))) ?_;rw[Vh];have sw:∀iG (l:List SV),((((h.set (gN N) (.list ((aG R q.1).map .str))).set (.mk 60 [q.1,q.2]) (.dict [])).set (bh q) (.inst 135 iG))).set (gN N) (.list l)=(((h.set (gN N) (.list l)).set (.mk 60 [q.1,q.2]) (.dict [])).set (bh q) (.inst 135 iG)):=λiG l=>by
  rw[Ab (n:=bh q) (m:=gN N) az,Ra (n:=.mk 60 [q.1,q.2]) (m:=gN N) az]
 rw[sw _ _];have dz:((iN R q).map SV.str).length=(aG R q.1).length+1:=by rw[aI _];exact(Fp hq)
 refine fH (v:=.tup ((iN R q).map .str)) (b8 (i.K.ty rfl) rfl (aB (a_ (n:=bh q) n_ aS) aL) (AN (.own (aE (aE aS))) (by refine(?_:_≤2^24);exact ah (bF dz) (sH (bd hz bg))))) n_ ?_;refine fH (v:=.int ((aG R q.1).length+1:Nat)) (b8 (i.K.bi rfl) rfl (aB (a_ (n:=bh q) n_ aS) aL) (Et dz (bd (bF dz) (pC (bd hz bg))))) n_ ?_;refine fH (a_ (n:=bf q.1) n_ (aE (aE (aE hp))) f4) n_ ?_;exact aH (bK (cF rfl rfl rfl))
noncomputable def Er:List Str:=["self","p","lastlri","i","lr_items","lri"]
theorem Fo:cq (bC 280) Er=ab:=by kernel_rfl
theorem w_bl:cZ (bC 280) ["len","LRItem","IndexError","KeyError"]=ab:=by kernel_rfl
noncomputable def kV(i:FI)(b:Nat):FI:=i.fn (b+2) 280 Er ["len","LRItem","IndexError","KeyError"] Fo w_bl
noncomputable def Vy(s:bx):List bx:=(kS s).1
noncomputable def Ν:List bx:=d_ (stN (ba 280) 0)
noncomputable def EZ:List bx:=d_ (stN Ν 3)
noncomputable def wk:List bx:=xL (stN EZ 0)
theorem JP(hs:(aG R q.1)[q.2]? =aa s):dO R q=gA R s:=by unfold dO gA;rw[hs]
theorem ξ(hs:(aG R q.1)[q.2]? =af):dO R q=[]:=by unfold dO;rw[hs]
def C3(R:bm)(h:SH):Prop:=∃es,h (.mk 36 [])=aa (.dict es)∧(∀s∈a8,es.lookup (.str s)=aa (.ref (gd s))∧h (gd s)=aa (.list ((gA R s).map bA)))∧∀s,s∉a8→es.lookup (.str s)=af
theorem wC:qE s=ab↔s∈a8:=e9
theorem aa1(hR:∀j,0<j→j<R.length→bE R j∈a8)(hs:s∉a8):gA R s=[]:=List.filter_eq_nil_iff.mpr λj hj z=>by
 rw[bO,h_,h_] at z;exact hs (z.2▸hR j (oh z.1) (dR.mp hj))
theorem SP(hR:∀j,0<j→j<R.length→bE R j∈a8)(hq:q.2≤(aG R q.1).length)(hz:(aG R q.1).length≤100)(hg:h aX=aa (.inst 283 pJ))(T:C3 R h)(hi:h (bh q)=aa (.inst 135 (yR R q)))(h40:h (.mk 40 [q.1,q.2])=af)
  (f1:fr.lookup ("self":Str)=aa (.ref aX)) (f2:fr.lookup ("lri":Str)=aa (a9 q)) (f3:fr.lookup ("i":Str)=aa (.int q.2))
  (fin:∀h',h' (bh q)=aa (.inst 135 ((dV R q).take 8))→h' (gM R q)=aa (.list ((dO R q).map bA))→(∀x,x≠bh q→x≠.mk 40 [q.1,q.2]→h' x=h x)→SS (kV i b) fr h' (wk.drop 2::k) Q):
  SS (kV i b) fr h (wk.drop 1::k) Q:=by
 refine bH T λes e1 e2 e3=>?_;clear T
 have Jp:∀(x:String),SX (kV i b) fr h (Vy (stN wk 1)) x h→XM i.G x (.tup [.ty "IndexError",.ty "KeyError"]) ab→(x≠"tuple"∧x≠"range")→dO R q=[]→wi R q=[q.1,q.2]→SS (kV i b) fr h (wk.drop 1::k) Q:=λx sx xm hx ea el=>by
  refine I9 (x:=x) (c:=.tup [.ty "IndexError",.ty "KeyError"]) (ag:=h) (aC:=(h.set (.mk 40 [q.1,q.2]) (.list [])).set (bh q) (.inst 135 ((dV R q).take 8))) (bv:=fr) sx hx (λfr'=>?_) xm (λfr' s pR hq=>?_) (fin _ aS ?_ λx n1 n2=>(aq n1).trans (aq n2))
  ·exact tuple (wn rfl) (tf (WV.imp (II (i:=kV i b) (i.K.ty rfl) rfl fr' h) (λv h' ⟨z1,z2⟩=>by subst z1;subst z2;exact tf (WV.imp (II (i:=kV i b) (i.K.ty rfl) rfl fr' h') (λv h' ⟨z1,z2⟩=>by subst z1;subst z2;exact tz (cF rfl rfl rfl)) λ_ _ z=>z)) λ_ _ z=>z))
  ·have ha:gM R q=.mk 40 [q.1,q.2]:=ay (Nm.mk 40) el
   refine xx (Cw (list (wn rfl) (tz (q9 rfl (.mk 40 [q.1,q.2]) h40 (NS (nv (l:=Er) Fo (s _ _ f2) (El i.K rfl (aE hi) (jG rfl) ?_)))))));rw[show(yR R q).put "lr_after" (.ref (.mk 40 [q.1,q.2]))=(dV R q).take 8 from by rw[←ha];rfl];exact wf (hq fr' s)
  ·rw[show gM R q=.mk 40 [q.1,q.2] from ay (Nm.mk 40) el,ea]
   exact aE aS
 have pr:(yR R q).lookup ("prod":Str)=aa (.tup ((iN R q).map .str)):=rfl;have dl:((iN R q).map SV.str).length=(aG R q.1).length+1:=by rw[aI _];exact Fp hq
 cases hs:(aG R q.1)[q.2]? with
 |none=>
  have Aj:=km.mp hs;refine Jp "IndexError" (PJ (Xw (a_ (n:=aX) (n_ f1) hg) (Κ (j:=q.2+1) (a_ (n:=bh q) (n_ f2) hi pr) (fM (n_ f3) bD nW) (pC (bd hq (bd hz bg))) (by rw[dl];exact eG ‹_›)))) aen R_ (ξ hs) (by unfold wi;rw[hs])
 |some s=>
  have hlt:=(cV.mp hs).1
  by_cases hn:s∈a8
  ·have ha:gM R q=gd s:=by unfold gM wi gd;rw[hs];dsimp only;rw[aP (wC.mpr hn)]
   refine Ey (jy (n:=bh q) (v:=.ref (gd s)) (gY (a_ (n:=aX) (n_ f1) hg) (mV (j:=q.2+1) (a_ (n:=bh q) (n_ f2) hi pr) (fM (n_ f3) bD nW) (pC (bI hlt (ah hz aJ))) (Ht hs)) e1 (e2 s hn).1) (n_ f2) hi (jG rfl) (aH ?_));rw[show(yR R q).put "lr_after" (.ref (gd s))=(dV R q).take 8 from by rw[←ha];rfl];refine fin _ aS ?_ λx n1 n2=>aq n1;rw[ha,JP hs];exact aE (e2 s hn).2
  ·refine Jp "KeyError" (PJ (Ky (a_ (n:=aX) (n_ f1) hg) (mV (j:=q.2+1) (a_ (n:=bh q) (n_ f2) hi pr) (fM (n_ f3) bD nW) (pC (bI hlt (ah hz aJ))) (Ht hs)) e1 (e3 s hn))) Y9 Om (by rw[JP hs,aa1 hR hn]) ?_
   have:qE s=an:=by cases z:qE s with|false=>rfl|true=>exact bc (wC.mp z) hn
   unfold wi;rw[hs];dsimp only;rw[this];rfl
theorem SQ{vs:List SV}{kx:Expr}{pos:Pos}{z:Int}{j:Nat}(a:EV i fr h e (.tup vs) ag)(b:EV i fr ag kx (.int z) aC)(h1:-1≤z)(h2:z<1000)(hj:oz z vs.length=aa j)(hv:vs[j]? =aa v)(ok:autoParam (qf kx) i8):EV i fr h (.Subscript e kx pos) v aC:=
 xo a b .tup ⟨λfr' Q X hq=>JB (DB aW h1) (sv h2 aW) hj hv hq⟩ ok
theorem ab8(hq:q.2≤(aG R q.1).length):∃j,oz ((q.2:Int) - 1) ((iN R q).map SV.str).length=aa j∧((iN R q).map SV.str)[j]? =aa (.str (wB R q)):=by
 have dl:=Fp hq;unfold wB;rcases sJ q.2 with z|z
 ·rw[aP z,z]
  refine(aU ((aG R q.1).length) ?_ ?_)
  ·rw[aI _,dl];exact Zz
  ·rw[dv,show(aG R q.1).length=(iN R q).length-1 from(ay (· - 1) dl).symm,←List.getLast?_eq_getElem?]
   cases hd:(iN R q).getLast? with
   |none=>rw[List.getLast?_eq_none_iff] at hd;rw[hd] at dl;cases dl
   |some s=>rw[List.getLastD_eq_getLast?,hd];rfl
 ·rw[aK (dG z)]
  have lt:q.2-1<q.2:=sn z pf;have hlt:q.2-1< (aG R q.1).length:=bI lt hq;refine(aU (q.2-1) ?_ ?_)
  ·rw[aI _,dl,show(q.2:Int) - 1=((q.2-1:Nat):Int) from(Int.natCast_sub z).symm];exact Ec (pE hlt)
  ·unfold iN
   rw[dv,Di (jH▸Nat.lt_min.mpr ⟨lt,hlt⟩),List.getElem?_take,aP lt,fb hlt];rfl
theorem ae3(hq:q.2≤(aG R q.1).length)(hz:(aG R q.1).length≤100)(hi:h (bh q)=aa (.inst 135 ((dV R q).take 8)))
  (f2:fr.lookup ("lri":Str)=aa (a9 q)) (f3:fr.lookup ("i":Str)=aa (.int q.2))
  (fin:SS (kV i b) fr (h.set (bh q) (.inst 135 ((dV R q).take 9))) ([]::k) Q):SS (kV i b) fr h (wk.drop 2::k) Q:=by
 refine aj (ab8 hq) λj hj hv=>?_;exact Ey (jy (n:=bh q) (v:=.str (wB R q)) (SQ (a_ (n:=bh q) (n_ f2) hi) (fM (n_ f3) bD Al) (Int.sub_le_sub_right (jq q.2) 1) (ago (Int.sub_le_self _ aW) (ib.mpr (bd hq (bd hz bg)))) hj hv) (n_ f2) hi (jG rfl) (aH fin))
def Vx(R:bm)(h:SH)(q:aF):Prop:=h (bh q)=aa (.inst 135 (dV R q))∧h (gM R q)=aa (.list ((dO R q).map bA))
structure BJ(R:bm)(aN:Nat)(aA:SH)(j d N:Nat)(h:SH):Prop where
 kq:Kq [10,20,40,43,60] aN aA h
 tJ:∀x,h (.mk 40 [x])=aA (.mk 40 [x])
 done:∀q,cY R q→q.1<j∨(q.1=j∧q.2+1<d)→Vx R h q
 kK:∀j',j'<j→j'<R.length→h (bf j')=aa (.inst 100 (fX R j'))∧h (.mk 43 [j'])=aa (.list ((bo ((aG R j').length+1)).map λd=>a9 (j',d)))
 CA:∀j',j<j'→h (bf j')=aA (bf j')
 fresh:∀a d',j<a∨(a=j∧d≤d')→h (bh (a,d'))=af∧h (.mk 60 [a,d'])=af∧h (.mk 40 [a,d'])=af
 CH:∀a,j<a→h (.mk 43 [a])=af
 free:bp h N
 le:aN≤N
structure BW(R:bm)(aN:Nat)(aA:SH)(j d N:Nat)(h:SH):Prop extends BJ R aN aA j d N h where
 pr:h (bf j)=aa (.inst 100 (iX (bE R j) (aG R j) j (.mk 66 [j]) (if d=0 then .none else a9 (j,0))))
 lst:h (.mk 43 [j])=aa (.list ((bo d).map λd'=>a9 (j,d')))
 last:0<d→h (bh (j,d-1))=aa (.inst 135 ((dV R (j,d-1)).take 9))∧h (gM R (j,d-1))=aa (.list ((dO R (j,d-1)).map bA))
noncomputable def yd(j d:Nat):SF:=[("self",.ref aX),("p",bA j),("lastlri",if d=0 then bA j else a9 (j,d-1)),("i",.int d),("lr_items",.ref (.mk 43 [j]))]
structure BS where
 d:Nat
 N:Nat
 h:SH
theorem um{p q:aF}(e:bh p=bh q):p=q:=by injection e with _ e;injection e with e1 e;injection e with e2 _;exact jw e1 e2
theorem yJ{q:aF}:gM R q=.mk 40 [q.1,q.2]∨∃x,gM R q=.mk 40 [x]:=by
 unfold gM wi
 split
 ·split
  ·exact .inr ⟨_,rfl⟩
  ·exact .inl rfl
 ·exact .inl rfl
variable{h5:SH}
theorem n8{k k':Nat}{a c:List Nat}(h:a≠c):Nm.mk k a≠.mk k' c:=λe=>h (Nm.mk.inj e).2
theorem BW.step(W:BW R aN aA j d N h)(hd:d≤(aG R j).length)(E:∀x,x≠gN N→x≠.mk 60 [j,d]→x≠bh (j,d)→x≠.mk 40 [j,d]→(x≠bf j)→(0<d→x≠bh (j,d-1))→x≠.mk 43 [j]→h5 x=h x)
  (e1:h5 (bh (j,d))=aa (.inst 135 ((dV R (j,d)).take 9))) (e2:h5 (gM R (j,d))=aa (.list ((dO R (j,d)).map bA))) (e3:h5 (.mk 43 [j])=aa (.list ((bo (d+1)).map λd'=>a9 (j,d'))))
  (e4:h5 (bf j)=aa (.inst 100 (iX (bE R j) (aG R j) j (.mk 66 [j]) (a9 (j,0))))) (e5:0<d→h5 (bh (j,d-1))=aa (.inst 135 (dV R (j,d-1)))) (kq:Kq [10,20,40,43,60] N h h5) (free:bp h5 (N+1)):BW R aN aA j (d+1) (N+1) h5:=by
 have uV:∀l:List Nat,l≠[j,d]→h5 (.mk 40 l)=h (.mk 40 l):=λl hl=>E _ az az az (n8 hl) az (λ_=>az) az;have Kx:∀q:aF,q≠(j,d)→h5 (gM R q)=h (gM R q):=λq hq=>by
  rcases yJ (R:=R) (q:=q) with e|⟨x,e⟩<;>rw[e]
  ·exact uV _ λz=>hq (by injection z with z1 z;injection z with z2;exact jw z1 z2)
  ·exact uV _ λz=>by injection z with _ z;exact wy z
 refine⟨⟨W.kq.trans kq W.le,λx=>(uV [x] λz=>by injection z with _ z;exact wy z).trans (W.tJ x),λq hq hc=>?_,λj' ff hl=>?_,λj' ff=>?_,λa d' hc=>?_,λa ha=>?_,free,c8 W.le⟩,?_,e3,λ_=>⟨e1,e2⟩⟩
 ·by_cases hz:0<d∧q=(j,d-1)
  ·refine xA hz λh0 bq=>?_;clear hz;subst bq
   exact⟨e5 h0,(Kx _ λz=>by injection z with _ z;exact ma (bF z.symm) (sn h0 bg)).trans (W.last h0).2⟩
  ·have fR:q.1<j∨(q.1=j∧q.2+1<d):=by
    rcases hc with hc|⟨nA,rH⟩
    ·exact .inl hc
    ·refine .inr ⟨nA,?_⟩
     have:¬(q.2+1=d):=λz=>hz ⟨by exact Is (bd (lu _ _) rH),jw nA (by show q.2=d-1;exact Nat.eq_sub_of_add_eq z)⟩;exact wO (eS rH) this
   have dh:q≠(j,d):=λz=>by subst z;exact fR.elim (fo _) λw=>ma (bR _) w.2
   have:=W.done q hq fR;exact⟨(E _ az az (λz=>dh (um z)) az az (λh0 z=>hz ⟨h0,um z⟩) az).trans this.1,(Kx q dh).trans this.2⟩
 ·have:=W.kK j' ff hl
  exact⟨(E _ az az az az (n8 λz=>by injection z with z;exact mi ff (bF z.symm)) (λ_=>az) az).trans this.1,(E _ az az az az az (λ_=>az) (n8 λz=>by injection z with z;exact mi ff (bF z.symm))).trans this.2⟩
 ·exact(E _ az az az az (n8 λz=>by injection z with z;exact dG ‹_› ‹_›) (λ_=>az) az).trans (W.CA j' ff)
 ·have dh:(a,d')≠(j,d):=λz=>by injection z with z1 z2;exact hc.elim (λw=>dG w z1) λw=>mi w.2 (bF z2)
  have hl:[a,d']≠[j,d]:=λz=>by injection z with z1 z;injection z with z2;exact dh (jw z1 z2)
  have:=W.fresh a d' (hc.imp id λw=>⟨w.1,gg w.2⟩);exact(cF ((E _ az az (λz=>dh (um z)) az az (λh0 z=>by have:=um z;injection this with z1 z2;exact hc.elim (λw=>dG w z1) λw=>mi w.2 (ah (bF z2) (ku _ _))) az).trans this.1) ((E _ az (n8 hl) az az az (λ_=>az) az).trans this.2.1) ((uV _ hl).trans this.2.2))
 ·exact(E _ az az az az az (λ_=>az) (n8 λz=>by injection z with z;exact dG ‹_› ‹_›)).trans (W.CH a ha)
 ·rw[aK (z0 d)];exact e4
theorem BW.stop(W:BW R aN aA j ((aG R j).length+1) N h)(E:∀x,x≠bf j→x≠bh (j,(aG R j).length)→h5 x=h x)(hj:j<R.length)
  (e4:h5 (bf j)=aa (.inst 100 (fX R j))) (e5:h5 (bh (j,(aG R j).length))=aa (.inst 135 (dV R (j,(aG R j).length)))) (kq:Kq [10,20,40,43,60] N h h5) (free:bp h5 N):BJ R aN aA (j+1) 0 N h5:=by
 have ea:∀q:aF,h5 (gM R q)=h (gM R q):=λq=>E _ az az;refine⟨W.kq.trans kq W.le,λx=>(E _ az az).trans (W.tJ x),λq hq hc=>?_,λj' ff hl=>?_,λj' ff=>?_,λa d' hc=>?_,λa ha=>?_,free,W.le⟩
 ·by_cases hz:q=(j,(aG R j).length)
  ·subst hz
   exact⟨e5,(ea _).trans (W.last (dK _)).2⟩
  ·have fR:q.1<j∨(q.1=j∧q.2+1< (aG R j).length+1):=by
    rcases Qk q.1 j with z|z
    ·exact .inl z
    ·have z1:q.1=j:=qQ (hc.elim (λw=>eS w) λw=>bc w.2 (m5 _)) z
     refine .inr ⟨z1,?_⟩;have h2:=hq.2;rw[z1] at h2;have:q.2≠(aG R j).length:=λz2=>hz (jw z1 z2);exact pC (wO h2 this)
   have:=W.done q hq fR;exact⟨(E _ az λz=>hz (um z)).trans this.1,(ea q).trans this.2⟩
 ·rcases wP (eS ff) with rfl|hlt
  ·exact⟨e4,(E _ az az).trans W.lst⟩
  ·have:=W.kK j' hlt hl
   exact⟨(E _ (n8 λz=>by injection z with z;exact du ‹_› ‹_›) az).trans this.1,(E _ az az).trans this.2⟩
 ·exact(E _ (n8 λz=>by injection z with z;exact mi ff (c8 (bF z))) az).trans (W.CA j' (cj ‹_›))
 ·have:=W.fresh a d' (.inl (hc.elim (λw=>oy w) λw=>lr (bF w.1.symm)))
  exact(cF ((E _ az (λz=>by have:=um z;injection this with z1 z2;exact dG (hc.elim (λw=>oy w) λw=>lr (bF w.1.symm)) z1)).trans this.1) ((E _ az az).trans this.2.1) ((E _ az az).trans this.2.2))
 ·exact(E _ az az).trans (W.CH a (cj ‹_›))
noncomputable def uR:List Nat:=[10,20,40,43,60]
structure yh(R:bm)(h:SH):Prop where
 g:GW R h
 nt:∀j,0<j→j<R.length→bE R j∈a8
 len:R.length≤5
 bu:∀j,(aG R j).length≤2
theorem MM{h':SH}(G:yh R aA)(kq:Kq uR N aA h')(tJ:∀x,h' (.mk 40 [x])=aA (.mk 40 [x])):C3 R h':=by
 obtain⟨es,a,c,d⟩:=G.g.names;exact⟨es,(kq.1 _ _ rfl).trans a,λs hs=>⟨(c s hs).1,(tJ _).trans (c s hs).2⟩,d⟩
theorem Te{w:BS}(G:yh R aA)(W:BW R aN aA j w.d w.N w.h)(hj:j<R.length)(hd:w.d≤(aG R j).length){rest:List bx}
  (fin:∀h5 fr',BW R aN aA j (w.d+1) (w.N+1) h5→(yd j (w.d+1)).sub fr'→SS (kV i b) fr' h5 ([]::k) Q):
  SS (kV i b) (yd j w.d) w.h (wk::EZ.drop 1::k) Q:=by
 obtain⟨d,N,h⟩:=w;dsimp only at W hd fin ⊢;have hz:=G.bu j;refine jF (W.fresh j d (.inr ⟨rfl,ar _⟩)) λfI R8 X5=>?_;refine bM (v:=a9 (j,d)) (b8 (i.K.ref rfl) (i.K.keep rfl) (aB n_ (aB n_ aL)) (Yh (i:=kV i b) (q:=(j,d)) (b:=b) (N:=N) rfl W.pr rfl rfl rfl rfl hd (by show(aG R j).length≤100;exact ah ‹_› aJ) W.free R8 fI).cp) ?_;have j5:Kq uR N h (wI h N R (j,d)):=((Kq.new (ar _)).trans (M:=N) (.set (k:=60)) (ar _)).trans (M:=N) (.set (k:=20)) (ar _);have F1:bp (wI h N R (j,d)) (N+1):=(W.free.new [] _).same λk l _=>aE (aE rfl);refine SP (q:=(j,d)) G.nt hd (by show(aG R j).length≤100;exact ah ‹_› aJ) ((j5.1 _ _ rfl).trans ((W.kq.1 _ _ rfl).trans G.g.gr:h aX=aa (.inst 283 pJ))) (MM G (W.kq.trans j5 W.le) λx=>(aE (aE (aE rfl)):wI h N R (j,d) (.mk 40 [x])=h (.mk 40 [x])).trans (W.tJ x):C3 R (wI h N R (j,d))) aS (aE (aE (aE X5))) rfl rfl rfl λh2 a1 a2 E2=>?_;refine ae3 (q:=(j,d)) hd (by show(aG R j).length≤100;exact ah ‹_› aJ) a1 rfl rfl (aH ?_);have i3:(h2.set (bh (j,d)) (.inst 135 ((dV R (j,d)).take 9))) (bh (j,d))=aa (.inst 135 ((dV R (j,d)).take 9)):=aS;have a3:(h2.set (bh (j,d)) (.inst 135 ((dV R (j,d)).take 9))) (gM R (j,d))=aa (.list ((dO R (j,d)).map bA)):=by
  rcases yJ (R:=R) (q:=(j,d)) with e|⟨x,e⟩<;>rw[e] at a2 ⊢<;>exact aE a2
 have E3:∀x,x≠gN N→x≠.mk 60 [j,d]→x≠bh (j,d)→x≠.mk 40 [j,d]→(h2.set (bh (j,d)) (.inst 135 ((dV R (j,d)).take 9))) x=h x:=λx n1 n2 n3 n4=>(aq n3).trans ((E2 x n3 n4).trans ((λx n1 n2 n3=>(aq n3).trans ((aq n2).trans (aq n1)):∀x,x≠gN N→x≠.mk 60 [j,d]→x≠bh (j,d)→wI h N R (j,d) x=h x) x n1 n2 n3));have Hn:Kq uR N h (h2.set (bh (j,d)) (.inst 135 ((dV R (j,d)).take 9))):=⟨λk l hk=>by
  have f:∀a,(99::uR).contains a=ab→k≠a:=λa ha=>iz hk ha;exact E3 _ (λe=>f 99 rfl (Nm.mk.inj e).1) (λe=>f 60 rfl (Nm.mk.inj e).1) (λe=>f 20 rfl (Nm.mk.inj e).1) (λe=>f 40 rfl (Nm.mk.inj e).1),λk l hk=>E3 _ (λe=>by have:=mW e;exact du ‹_› ‹_›) az az az⟩
 have F3:bp (h2.set (bh (j,d)) (.inst 135 ((dV R (j,d)).take 9))) (N+1):=λk l hk=>(E3 _ (λe=>by have:=mW e;exact dG ‹_› ‹_›) az az az).trans (W.free k l (cj ‹_›));generalize h2.set (bh (j,d)) (.inst 135 ((dV R (j,d)).take 9))=h3 at i3 a3 E3 Hn F3 ⊢
 have Kz:∀h4,h4 (bh (j,d))=aa (.inst 135 ((dV R (j,d)).take 9))→h4 (gM R (j,d))=aa (.list ((dO R (j,d)).map bA))→(∀x,x≠bf j→(0<d→x≠bh (j,d-1))→h4 x=h3 x)→h4 (bf j)=aa (.inst 100 (iX (bE R j) (aG R j) j (.mk 66 [j]) (a9 (j,0))))→(0<d→h4 (bh (j,d-1))=aa (.inst 135 (dV R (j,d-1))))→
   SS (kV i b) ((yd j d).put "lri" (a9 (j,d))) h4 (EZ.drop 2::k) Q:=λh4 b1 b2 E4 b4 b5=>by
  refine cf (fz (t:=ab) (p_ n_ (FR (n:=bh (j,d)) b1))) (aH ?_);have hl:h4 (.mk 43 [j])=aa (.list ((bo d).map λd'=>a9 (j,d'))):=(E4 _ az λ_=>az).trans ((E3 _ az az az az).trans W.lst);refine fJ (dp n_ (fV hl) ij (aB n_ aL) (ga hl (by rw[aI _,dS];refine(?_:_≤2^24);exact ah (ah ‹_› ‹_›) aJ))) ?_;refine bM n_ (x_ rfl bD u_ ?_);refine fin _ _ (W.step (N:=N) hd (λx n1 n2 n3 n4 n5 n6 n7=>(aq n7).trans ((E4 x n5 n6).trans (E3 x n1 n2 n3 n4))) (aE b1) ?_ ?_ (aE b4) (λh0=>aE (b5 h0)) ?_ ?_) ?_
  ·rcases yJ (R:=R) (q:=(j,d)) with e|⟨x,e⟩<;>rw[e] at b2 ⊢<;>exact aE b2
  ·rw[w_,dN];exact aS
  ·refine Kq.trans (M:=N) (h':=h4) ⟨λk l hk=>?_,λk l hk=>?_⟩ (.set (k:=43)) (ar _)
   ·exact(E4 _ (λe=>iz hk (a:=10) rfl (Nm.mk.inj e).1) (λ_ e=>iz hk (a:=20) rfl (Nm.mk.inj e).1)).trans (Hn.1 k l hk)
   ·exact(E4 _ az λ_=>az).trans (Hn.2 k l hk)
  ·exact λk l hk=>(aq az).trans ((E4 _ az λ_=>az).trans (F3 k l hk))
  ·exact ai (ai (ai (ai (ai br)) (by show aa (a9 (j,d))=aa (if d+1=0 then bA j else a9 (j,d+1-1));rw[aK (z0 d)];rfl)))
 rcases sJ d with rfl|h0
 ·refine jy (n:=bf j) n_ (n_ (v:=bA j)) ((E3 _ az az az az).trans W.pr:h3 (bf j)=aa (.inst 100 (iX (bE R j) (aG R j) j (.mk 66 [j]) .none))) (jG rfl) ?_
  exact Kz _ (aE i3) (by rcases yJ (R:=R) (q:=(j,0)) with e|⟨x,e⟩<;>rw[e] at a3 ⊢<;>exact aE a3) (λx n1 _=>aq n1) aS (λz=>bc z (fo _))
 ·have dh:d≠0:=dG ‹_›
  have ll:=W.last h0;have nq:bh (j,d-1)≠bh (j,d):=λe=>by have:=um e;injection this with _ z;exact ma (bF z.symm) (sn h0 bg)
  have ne:qU R (j,d-1)=a9 (j,d):=by unfold qU;rw[aP (show d-1< (aG R j).length by exact bI (sn ‹_› pf) ‹_›)];congr 3;exact qT ‹_›
  refine jy (n:=bh (j,d-1)) n_ (n_ (v:=a9 (j,d-1)) (by show aa (if d=0 then bA j else a9 (j,d-1))=_;rw[aK dh])) ((E3 _ az az nq az).trans ll.1:h3 (bh (j,d-1))=aa (.inst 135 ((dV R (j,d-1)).take 9))) (jG rfl) ?_;refine Kz _ (aq nq.symm|>.trans i3) (by rcases yJ (R:=R) (q:=(j,d)) with e|⟨x,e⟩<;>rw[e] at a3 ⊢<;>exact aE a3) (λx _ n2=>aq (n2 h0)) (aE ((E3 _ az az az az).trans (by have:=W.pr;rwa [aK dh] at this))) (λ_=>?_);rw[←ne];exact aS
theorem BJ.enter(J:BJ R aN aA j 0 N h)(G:yh R aA)(hj:j<R.length)(hp:h (bf j)=aA (bf j)):BW R aN aA j 0 N (h.set (.mk 43 [j]) (.list [])):=by
 have E:∀x,x≠.mk 43 [j]→(h.set (.mk 43 [j]) (.list [])) x=h x:=λx hx=>aq hx;refine⟨⟨J.kq.trans (M:=N) .set J.le,λx=>(E _ az).trans (J.tJ x),λq hq hc=>⟨(E _ az).trans (J.done q hq hc).1,((λq=>E _ az:∀q:aF,(h.set (.mk 43 [j]) (.list [])) (gM R q)=h (gM R q)) q).trans (J.done q hq hc).2⟩,λj' ff hl=>⟨(E _ az).trans (J.kK j' ff hl).1,(E _ (n8 λz=>by injection z with z;exact mi ff (bF z.symm))).trans (J.kK j' ff hl).2⟩,λj' ff=>(E _ az).trans (J.CA j' ff),λa d' hc=>(cF ((E _ az).trans (J.fresh a d' hc).1) ((E _ az).trans (J.fresh a d' hc).2.1) ((E _ az).trans (J.fresh a d' hc).2.2)),λa ha=>(E _ (n8 λz=>by injection z with z;exact dG ‹_› ‹_›)).trans (J.CH a ha),λk l hk=>(E _ az).trans (J.free k l hk),J.le⟩,?_,aS,λz=>bc z (fo _)⟩;exact(E _ az).trans (hp.trans (G.g.pr j hj).1)
theorem Zv(hb:i.b=b+3)(G:yh R h)(B:bp h N)(ZY:∀q,h (bh q)=af)(n60:∀a c,h (.mk 60 [a,c])=af)(iM:∀a c,h (.mk 40 [a,c])=af)(Lz:∀a,h (.mk 43 [a])=af):
  FP i h (.glob 280) [.ref aX] (λv h'=>v=.none∧∃N',BJ R N h R.length 0 N' h'):=by
 refine enter (b:=b+2) i.K.blr Fo w_bl hb rfl ?_;have c7:=G.len;refine eo (σ:=AS) (λ_=>[("self",.ref aX)]) AS.h (λs j=>BJ R N h j 0 s.N s.h∧s.h (bf j)=h (bf j)∧s.h (.mk 43 [j])=af) ⟨N,h⟩ ((bo R.length).map bA) (d8 (a_ (n:=aX) n_ G.g.gr) G.g.fg) (cF (⟨.same,λ_=>rfl,λq hq hc=>(hc.elim (λw=>m5 _ w) λw=>m5 _ w.2).elim,λj' ff=>bc ff (m5 _),λ_ _=>rfl,λa d' _=>(cF (ZY (a,d')) (n60 a d') (iM a d')),λa _=>Lz a,B,ar _⟩:BJ R N h 0 0 N h) rfl (Lz 0)) (ai br) (λs j Z=>d6 ((Z.1.kq.1 _ _ rfl).trans G.g.fg)) (λs j v Z e=>?_) (λs Z=>?_)
 ·refine jF Z λJ hp WY=>?_;clear Z
  have ig:j<R.length:=by have:=(cV.mp e).1;rwa [aI,dS] at this
  rw[Ag ig] at e;obtain rfl:=aY e;refine dX (bM n_ (bM bD (bM (eC aL WY) ?_)));refine SS.sub (ey:=yd j 0) ?_ (ai (ai (ai (ai (ai br)))));have hz:=G.bu j;refine rK (σ:=BS) (λs=>yd j s.d) BS.h (λw m=>m+w.d=(aG R j).length+2∧w.d≤(aG R j).length+1∧BW R N h j w.d w.N w.h) ⟨0,s.N,s.h.set (.mk 43 [j]) (.list [])⟩ ((aG R j).length+2) (cF rfl (b_ _) (J.enter G ig hp)) .rfl ?_;rintro w m ⟨hm,hd,W⟩;refine(mr ab w.h (p_ jD i9) (λz=>(iY z)) (λ_=>?_));have Ew:CP (kV i b) w.h (.bi "len") [.ref (bf j)] (is (.int (aG R j).length) w.h):=by
   have:=Rk (i:=kV i b) (b:=b) (n:=bf j) rfl W.pr rfl (by rw[aI _];exact ah ‹_› aJ)
   rwa [aI] at this
  by_cases hc:w.d≤(aG R j).length
  ·refine cf (bt n_ (b8 (i.K.bi rfl) rfl (aB (n_ (v:=bA j)) aL) Ew) (yr (qG.mpr (wZ.mpr hc)))) ?_
   exact Te G W ig hc (rest:=[]) λh5 fr' W5 sb=>aH (bK (LQ.next ⟨w.d+1,w.N+1,h5⟩ (ik (m-1) (N8 hm (bd hc (qS (dK 1)))) (Pt hm (bd hc (qS (dK 1)))) (by show w.d+1≤_;exact eG ‹_›) W5) sb))
  ·have vw:w.d=(aG R j).length+1:=qQ hd (sH (Nat.not_le.mp hc))
   obtain⟨d,N',h'⟩:=w;dsimp only at vw W Ew hm;subst vw;have h0:0< (aG R j).length+1:=dK _;refine cT (bt n_ (b8 (i.K.bi rfl) rfl (aB (n_ (v:=bA j)) aL) Ew) (Cm (ib.mpr (lr hd)))) (bM k7 (aH ?_));refine jy (n:=bh (j,(aG R j).length)) n_ (n_ (v:=a9 (j,(aG R j).length)) (by show aa (if(aG R j).length+1=0 then bA j else a9 (j,(aG R j).length+1-1))=_;rw[aK (z0 _)];rfl)) ((W.last h0).1) (jG rfl) ?_;have nv:qU R (j,(aG R j).length)=.none:=by unfold qU;rw[aK (fo _)]
   have eI:SF.put ((dV R (j,(aG R j).length)).take 9) "lr_next" (qU R (j,(aG R j).length))=dV R (j,(aG R j).length):=rfl;rw[nv] at eI;rw[show(j,(aG R j).length+1-1)=(j,(aG R j).length) from rfl,eI];refine cT (fz (t:=an) (p_ n_ nu)) (Cq ?_);have pp:h' (bf j)=aa (.inst 100 (iX (bE R j) (aG R j) j (.mk 66 [j]) (a9 (j,0)))):=by have:=W.pr;rwa [aK (z0 _)] at this
   refine jy (n:=bf j) n_ (n_ (v:=bA j)) (aE pp) (jG rfl) ?_;refine(?_:SS _ _ ((h'.set (bh (j,(aG R j).length)) (.inst 135 (dV R (j,(aG R j).length)))).set (bf j) (.inst 100 (fX R j))) _ _);have E:∀x,x≠bf j→x≠bh (j,(aG R j).length)→((h'.set (bh (j,(aG R j).length)) (.inst 135 (dV R (j,(aG R j).length)))).set (bf j) (.inst 100 (fX R j))) x=h' x:=λx n1 n2=>(aq n1).trans (aq n2);have e1:((h'.set (bh (j,(aG R j).length)) (.inst 135 (dV R (j,(aG R j).length)))).set (bf j) (.inst 100 (fX R j))) (bf j)=aa (.inst 100 (fX R j)):=aS;have e2:((h'.set (bh (j,(aG R j).length)) (.inst 135 (dV R (j,(aG R j).length)))).set (bf j) (.inst 100 (fX R j))) (bh (j,(aG R j).length))=aa (.inst 135 (dV R (j,(aG R j).length))):=aE aS;have kz:Kq [10,20,40,43,60] N' h' ((h'.set (bh (j,(aG R j).length)) (.inst 135 (dV R (j,(aG R j).length)))).set (bf j) (.inst 100 (fX R j))):=(Kq.set (k:=20)).trans (M:=N') (.set (k:=10)) (ar _);generalize (h'.set (bh (j,(aG R j).length)) (.inst 135 (dV R (j,(aG R j).length)))).set (bf j) (.inst 100 (fX R j))=hz at E e1 e2 kz ⊢;exact aH (bK (LQ.next ⟨N',hz⟩ (cF (W.stop E ig e1 e2 kz (λk l hk=>(E _ az az).trans (W.free k l hk))) ((E _ (n8 λz=>by injection z with z;exact fo _ (lb (bF z))) az).trans (W.CA (j+1) (dq _))) ((E _ az az).trans (W.CH (j+1) (dq _)))) (ai br)))
 ·rw[aI,dS] at Z
  exact aH (aH (bK (A9 rfl s.N Z.1)))
noncomputable def iK:Str:="<empty>"
noncomputable def iB(acc:List Str)(l:List Str):List Str:=l.foldl (λa f=>if f=iK then a else if f∈a then a else a++[f]) acc
noncomputable def frs(F:Str→List Str):List Str→List Str→List Str
 |acc,[]=>acc++[iK]
 |acc,x::r=>if iK∈F x then frs F (iB acc (F x)) r else iB acc (F x)
noncomputable def gn(s:Str):Nm:=.mk 47 [sym s]
noncomputable def e8:List Str:=["a","b","error","$end","S","A","B"]
noncomputable def oB:List Str:=["a","b","error","$end","<empty>"]
def lG(l:List Str):Prop:=l.Nodup∧∀x∈l,x∈oB
def nz(F:Str→List Str)(h:SH):Prop:=∃es,h (.mk 45 [])=aa (.dict es)∧∀s∈e8,es.lookup (.str s)=aa (.ref (gn s))∧h (gn s)=aa (.list ((F s).map .str))
theorem lG.len{l:List Str}(s:lG l):l.length≤5:=fO s.1 (l₂:=oB) s.2
theorem Pd{acc l:List Str}{f:Str}:iB acc (l++[f])=if f=iK then iB acc l else if f∈iB acc l then iB acc l else iB acc l++[f]:=by unfold iB;rw[ai2];rfl
def lK(l:List Str):Prop:=l.Nodup∧∀x∈l,x∈oB∧x≠iK
theorem lK.add{acc l:List Str}(a:lK acc)(hl:∀x∈l,x∈oB):lK (iB acc l):=by
 induction l generalizing acc with
 |nil=>exact a
 |cons f r ih=>
  have hr:∀x∈r,x∈oB:=λx hx=>hl x (eT _ hx);show lK (iB (if f=iK then acc else if f∈acc then acc else acc++[f]) r)
  split
  ·exact ih a hr
  ·next h1=>
   split
   ·exact ih a hr
   ·next h2=>
    refine ih ⟨lq.mpr (cF a.1 (ko _ _) (λx hx y hy e=>h2 (by rw[bS.mp hy] at e;exact e▸hx))),λx hx=>?_⟩ hr;rcases dw.mp hx with z|z
    ·exact a.2 x z
    ·rw[bS.mp z];exact⟨hl f dA,h1⟩
theorem lK.frs{F:Str→List Str}{acc l:List Str}(a:lK acc)(hF:∀x∈l,lG (F x)):lG (frs F acc l):=by
 induction l generalizing acc with
 |nil=>
  refine⟨lq.mpr (cF a.1 (ko _ _) (λx hx y hy e=>(a.2 x hx).2 (by rw[e,bS.mp hy]))),λx hx=>?_⟩;rcases dw.mp hx with z|z
  ·exact(a.2 x z).1
  ·rw[bS.mp z];exact aW
 |cons x r ih=>
  have a':=a.add (hF x dA).2;show lG (if iK∈F x then Mine.Internal.frs F (iB acc (F x)) r else iB acc (F x))
  split
  ·exact ih a' λy hy=>hF y (eT _ hy)
  ·exact⟨a'.1,λy hy=>(a'.2 y hy).1⟩
theorem lK.nil:lK []:=⟨.nil,λ_ h=>by exact cS h⟩
noncomputable def vF:List Str:=["self","beta","result","x","x_produces_empty","f"]
theorem adz:cq (bC 258) vF=ab:=by kernel_rfl
theorem w_fi:cZ (bC 258) []=ab:=rfl
structure Jc where
 a:List Str
 e:Bool
noncomputable def X4(N:Nat)(t:Jc):SF:=[("self",.ref aX),("result",.ref (gN N)),("x_produces_empty",.bool t.e)]
theorem OX{F:Str→List Str}{l:List Str}(hb:i.b=b+1)(hg:h aX=aa (.inst 283 pJ))(I:nz F h)(hl:∀x∈l,x∈e8)(hF:∀x∈e8,lG (F x))(B:bp h N):
  FP i h (.glob 258) [.ref aX,.tup (l.map .str)] (is (.ref (gN N)) (h.set (gN N) (.list ((frs F [] l).map .str)))):=by
 refine enter (b:=b) i.K.first adz w_fi hb rfl ?_;refine aj I λes Tj xQ=>?_;clear I;refine bM (eC (n:=gN N) aL B.at) ?_;have o:∀(a:List Str) {k l},k≠99→(h.set (gN N) (.list (a.map .str))) (.mk k l)=h (.mk k l):=λa {k l} hk=>aq λe=>hk (Nm.mk.inj e).1;refine AC (σ:=List Str) (λ_=>[("self",.ref aX),("result",.ref (gN N))]) (λa=>h.set (gN N) (.list (a.map .str))) (λa j m=>j+m=l.length∧frs F a (l.drop j)=frs F [] l∧lK a) [] l.length (Na n_) (cF (mZ _) rfl lK.nil) (ai (ai br)) ?_;rintro a j m ⟨hj,hf,ha⟩;refine(cL ((l.map SV.str)[j]?) rfl (λe=>?_) (λv e=>?_))
 ·have Aj:l.length≤j:=by have:=km.mp e;rwa [aI] at this
  rw[List.drop_of_length_le Aj] at hf;have hf:a++[iK]=frs F [] l:=hf;have la:a.length≤5:=fO ha.1 (l₂:=oB) λx hx=>(ha.2 x hx).1;refine fJ (dp n_ (fV aS) ij (aB cw aL) (ga aS (by rw[aI _];refine(?_:_≤2^24);exact ah ‹_› aJ))) (aH (gJ n_ ⟨rfl,?_⟩));rw[iF,←hf,dN];rfl
 ·refine aj (dH e) λx hx ax=>?_;subst ax
  have ig:=(cV.mp hx).1;have Pe:=hl x (bN hx);refine xA (xQ x Pe) λk1 k2=>?_;have sx:=hF x Pe;have dr:l.drop j=x::l.drop (j+1):=by rw[Iy ig];congr 1;exact aY ((fb ig).symm.trans hx)
  rw[dr] at hf;refine dX (bM jD ?_);refine eo (σ:=Jc) (X4 N) (λt=>h.set (gN N) (.list (t.a.map .str))) (λt n=>t.a=iB a ((F x).take n)∧t.e=decide (iK∈(F x).take n)) ⟨a,an⟩ ((F x).map .str) (d8 (gY (a_ (n:=aX) n_ ((o a bG).trans hg)) n_ ((o a bG).trans Tj) k1) ((o a bG).trans k2)) ⟨rfl,rfl⟩ (ai (ai (ai br))) (λt n _=>d6 ((o _ bG).trans k2)) (λt n v T e2=>?_) λt T=>?_
  ·refine aj (dH e2) λf Y4 ax=>?_;subst ax
   refine xA T λT1 T2=>?_;clear T;have tk:(F x).take (n+1)=(F x).take n++[f]:=by rw[jN,Y4];rfl
   have s4:lK (iB a ((F x).take n)):=ha.add λy hy=>sx.2 y (DL hy);refine dX ?_
   by_cases mz:f=iK
   ·subst mz
    refine cT (bt n_ cw (nN rfl)) (bM jD (aH (aH (bK (LQ.next ⟨t.a,ab⟩ ⟨by rw[tk,Pd,aP rfl];exact T1,?_⟩ (ai (ai (ai br))))))));rw[tk];exact(eQ (kj _ (bS.mpr rfl))).symm
   ·have me:decide (iK∈(F x).take (n+1))=decide (iK∈(F x).take n):=by
     rw[tk];refine mY.mpr ⟨λz=>(dw.mp z).resolve_right λz=>mz (bS.mp z).symm,λz=>i7 _ z⟩
    refine cf (bt n_ cw (lU λz=>mz (by injection z))) ?_;have st:iB a ((F x).take (n+1))=if f∈t.a then t.a else t.a++[f]:=by rw[tk,Pd,aK mz,←T1]
    by_cases hm:f∈t.a
    ·refine cf (bt n_ n_ (v_ (.own aS) (jQ.mpr hm) mN)) (aH (aH (aH (bK (LQ.next t ⟨by rw[st,aP hm],by rw[me];exact T2⟩ (ai (ai (ai br))))))))
    ·have la:t.a.length≤5:=by rw[T1];exact fO s4.1 (l₂:=oB) λx hx=>(s4.2 x hx).1
     refine cT (bt n_ n_ (yD (.own aS) (λz=>hm (jQ.mp z)) mN)) ?_;refine fJ (dp n_ (fV aS) ij (aB n_ aL) (ga aS (by rw[aI _];refine(?_:_≤2^24);exact ah ‹_› aJ))) ?_;refine aH (aH (aH (bK (LQ.next ⟨t.a++[f],t.e⟩ ⟨by rw[st,aK hm],by rw[me];exact T2⟩ (ai (ai (ai br))) ?_))));rw[iF,dN];rfl
  ·rw[aI,zW] at T
   refine xA T λT1 T2=>?_;clear T;refine aH ?_
   by_cases u9:iK∈F x
   ·rw[show frs F a (x::l.drop (j+1))=if iK∈F x then frs F (iB a (F x)) (l.drop (j+1)) else iB a (F x) from rfl,aP u9] at hf
    refine cT (p_ n_ (by rw[T2,eQ u9];exact i9)) (Z' (aH (aH (bK (LQ.next t.a (ik (m-1) (AI hj ig) (Ae hj ig) (by rw[T1];exact hf) (by rw[T1];exact ha.add sx.2)) (ai (ai br)))))))
   ·rw[show frs F a (x::l.drop (j+1))=if iK∈F x then frs F (iB a (F x)) (l.drop (j+1)) else iB a (F x) from rfl,aK u9] at hf
    refine cf (p_ n_ (by rw[T2,i0 u9];exact i9)) (Cq ?_);exact gJ n_ ⟨rfl,by rw[T1,hf]⟩
theorem Wv:∀x∈e8,∀y∈e8,sym x=sym y→x=y:=by decide +kernel
theorem Gc{x y:Str}(hx:x∈e8)(hy:y∈e8)(e:gn x=gn y):x=y:=by injection e with _ e;injection e with e;exact Wv x hx y hy e
structure GX(R:bm)(h:SH):Prop where
 gr:h aX=aa (.inst 283 pJ)
 names:C3 R h
 term:h (.mk 38 [])=aa (.dict iJ)
 ii:∃es,h (.mk 39 [])=aa (.dict es)∧∃ns:List Str,es.map (·.1)=ns.map .str∧ns.Nodup∧(∀s∈ns,s∈a8)∧∀s∈a8,s∈ns
 pr:∀j,j<R.length→h (bf j)=aa (.inst 100 (fX R j))
 fg:h (.mk 35 [])=aa (.list ((bo R.length).map bA))
 prec:h (.mk 49 [])=aa (.dict [])
 len:R.length≤5
 sy:∀j,j<R.length→∀s∈aG R j,s∈e8
 bu:∀j,(aG R j).length≤2
 nt:∀j,0<j→j<R.length→bE R j∈a8
theorem GX.kq{B:List Nat}(G:GX R h)(kq:Kq B N h h')(hB:autoParam ((([34,36,40,38,39,10,35,49]:List Nat).all λk=>!(99::B).contains k)=ab) bl):GX R h':=by
 have f:∀{k l},([34,36,40,38,39,10,35,49]:List Nat).contains k=ab→h' (.mk k l)=h (.mk k l):=λ{k l} hk=>kq.1 k l (mK (e9.mp hk) hB);exact⟨(f (k:=34) rfl).trans G.gr,bH G.names λes a c d=>⟨es,(f rfl).trans a,λs hs=>⟨(c s hs).1,(f (k:=40) rfl).trans (c s hs).2⟩,d⟩,(f rfl).trans G.term,aj G.ii λns a2 c2=>⟨ns,(f rfl).trans a2,c2⟩,λj hj=>(f (k:=10) rfl).trans (G.pr j hj),(f rfl).trans G.fg,(f rfl).trans G.prec,G.len,G.sy,G.bu,G.nt⟩
theorem EL{es:b7}{ns:List Str}(h:es.map (·.1)=ns.map .str):oV es=ab:=dc.mpr λp hp=>by
 exact aj (bB.mp (h▸agj (f:=(·.1)) hp:p.1∈ns.map SV.str)) λs _ e=>e▸rfl
noncomputable def F0(s:Str):List Str:=if s∈a8 then [] else [s]
structure qg(done:List Str)(aA h:SH)(es:b7):Prop where
 d:h (.mk 45 [])=aa (.dict es)
 ok:∀s∈done,es.lookup (.str s)=aa (.ref (gn s))∧h (gn s)=aa (.list ((F0 s).map .str))
 no:∀s∈e8,s∉done→h (gn s)=af
 len:es.length≤done.length
 kq:∀M,Kq [45,47] M aA h
theorem qg.step{done:List Str}{es:b7}(I:qg done aA h es)(hd:∀s∈done,s∈e8)(hs:s∈e8)(hn:s∉done):qg (done++[s]) aA ((h.set (gn s) (.list ((F0 s).map .str))).set (.mk 45 []) (.dict (bj es (.str s) (.ref (gn s))))) (bj es (.str s) (.ref (gn s))):=by
 refine⟨aS,λt ht=>?_,λt ht pX=>?_,?_,λM=>((I.kq M).trans (M:=M) (.set (k:=47)) (ar _)).trans (M:=M) (.set (k:=45)) (ar _)⟩
 ·rcases dw.mp ht with z|z
  ·have ne:t≠s:=λe=>hn (e▸z)
   refine xA (I.ok t z) λa c=>?_;exact⟨by rw[fw _,aK (λe=>ne (by injection e))];exact a,(aq az).trans ((aq λe=>ne (Gc (hd t z) hs e)).trans c)⟩
  ·rw[bS.mp z]
   exact⟨by rw[fw _,aP rfl],(aq az).trans aS⟩
 ·exact(aq az).trans ((aq λe=>(λe=>pX (kj _ (bS.mpr e)):t≠s) (Gc ht hs e)).trans (I.no t ht λz=>pX (i7 _ z)))
 ·rw[cU];exact ah tG (eG I.len)
structure wg where
 es:b7
 h:SH
noncomputable def vC:List Str:=["self","t","n","some_change","p","f"]
theorem JG:cq (bC 265) vC=ab:=by kernel_rfl
theorem w_cf:cZ (bC 265) []=ab:=rfl
noncomputable def xJ(i:FI)(b:Nat):FI:=i.fn (b+1) 265 vC [] JG w_cf
theorem Dd:∀s∈dW,s∈e8:=aW
theorem vH:∀s∈a8,s∈e8:=aW
theorem abu:∀s∈dW,s∉a8:=aW
theorem W_(h:s∈a8):F0 s=[]:=aP h
theorem JM(h:s∉a8):F0 s=[s]:=aK h
theorem Sb(G:GX R h)(kb:h (.mk 45 [])=aa (.dict []))(Fv:∀l,h (.mk 47 l)=af)
  (fin:∀h',nz F0 h'→(∃es,h' (.mk 45 [])=aa (.dict es)∧es.length≤10)→(∀M,Kq [45,47] M h h')→SS (xJ i b) [("self",.ref aX)] h' [(ba 265).drop 4] Q):SS (xJ i b) [("self",.ref aX)] h [ba 265] Q:=by
 refine cf (p_ (a_ (n:=aX) n_ G.gr) (zq kb bg)) (aH ?_);have gk:∀{done es h'},qg done h h' es→h' aX=aa (.inst 283 pJ):=λI=>((I.kq 0).1 _ _ rfl).trans G.gr;refine eo (σ:=wg) (λ_=>[("self",.ref aX)]) wg.h (λs j=>qg (dW.take j) h s.h s.es) ⟨[],h⟩ (iJ.map (·.1)) (vb (a_ (n:=aX) n_ G.gr) G.term rfl) (⟨kb,λs z=>(cS z),λs _ _=>Fv _,ar _,λM=>.same⟩:qg [] h h []) .rfl (λs j I=>wd (((I.kq 0).1 _ _ rfl).trans G.term) rfl) (λs j v I e=>?_) (λs I=>?_)
 ·have:∃t,dW[j]? =aa t∧v=.str t∧t∈dW∧t∉dW.take j:=by
   match j,e with
   |0,e=>(first|exact a7 e|obtain rfl:=aY e);exact(ik ("a") rfl rfl aW aW)
   |1,e=>(first|exact a7 e|obtain rfl:=aY e);exact(ik ("b") rfl rfl aW aW)
   |2,e=>(first|exact a7 e|obtain rfl:=aY e);exact(ik ("error") rfl rfl aW aW)
  refine gU this λt ht ax lE pd=>?_;clear this;subst ax;have tk:dW.take (j+1)=dW.take j++[t]:=by rw[jN,ht];rfl
  have l3:(dW.take j).length≤3:=by rw[jH];exact pD _ _
  refine dX (eu (n:=.mk 45 []) (es:=s.es) (eC (n:=gn t) (aB n_ aL) (I.no t (Dd t lE) pd)) (a_ (n:=aX) n_ (aE (gk I))) n_ (aE I.d) (by have:=I.len;refine(?_:_≤2^24);exact ah (ah ‹_› ‹_›) aJ) ?_);have st:=I.step (λs hs=>Dd s (DL hs)) (Dd t lE) pd;rw[JM (abu t lE)] at st;exact aH (bK (LQ.next ⟨_,_⟩ (by rw[tk];exact st) (ai br)))
 ·have I:qg dW h s.h s.es:=I
  refine aH (eu (n:=.mk 45 []) (es:=s.es) (eC (n:=gn "$end") (aB cw aL) (I.no "$end" aW aW)) (a_ (n:=aX) n_ (aE (gk I))) cw (aE I.d) (by have:=I.len;refine(?_:_≤2^24);exact ah this aJ) ?_);have st:=I.step (s:="$end") Dd aW aW;rw[JM aW] at st;refine(?_:SS _ _ ((s.h.set (gn "$end") (.list [.str "$end"])).set (.mk 45 []) (.dict (bj s.es (.str "$end") (.ref (gn "$end"))))) _ _);obtain⟨kf,hn,ns,e1,e2,e3,e4⟩:=G.ii;have kL:=EL e1;have st:qg (dW++[("$end":Str)]) h ((s.h.set (gn "$end") (.list [.str "$end"])).set (.mk 45 []) (.dict (bj s.es (.str "$end") (.ref (gn "$end"))))) (bj s.es (.str "$end") (.ref (gn "$end"))):=st;generalize bj s.es (.str "$end") (.ref (gn "$end"))=aB at st ⊢;generalize (s.h.set (gn "$end") (.list [.str "$end"])).set (.mk 45 []) (.dict aB)=h1 at st ⊢;have BV:ns.length≤3:=fO e2 (l₂:=a8) e3;refine eo (σ:=wg) (λ_=>[("self",.ref aX)]) wg.h (λs j=>qg (dW++[("$end":Str)]++ns.take j) h s.h s.es) ⟨aB,h1⟩ (kf.map (·.1)) (vb (a_ (n:=aX) n_ (gk st)) (((st.kq 0).1 _ _ rfl).trans hn) kL) (by rw[List.take_zero,gP _];exact st) .rfl (λs j I=>wd (((I.kq 0).1 _ _ rfl).trans hn) kL) (λs j v I e=>?_) (λs I=>?_)
  ·rw[e1] at e
   refine aj (dH e) λt ht ax=>?_;subst ax;have lE:=e3 t (bN ht);have tk:ns.take (j+1)=ns.take j++[t]:=by rw[jN,ht];rfl
   have pd:t∉dW++[("$end":Str)]++ns.take j:=λz=>by
    rcases dw.mp z with z|z
    ·exact(aW:∀t∈a8,t∉dW++[("$end":Str)]) t lE z
    ·have nd:=(HG (j+1) ns).nodup e2
     rw[tk,lq] at nd;exact nd.2.2 t z t (bS.mpr rfl) rfl
   have l7:(dW++[("$end":Str)]++ns.take j).length≤7:=by
    rw[cU,jH];exact ah (e6 (ah (pD _ _) BV) _) aJ
   refine dX (eu (n:=.mk 45 []) (es:=s.es) (eC (n:=gn t) aL (I.no t (vH t lE) pd)) (a_ (n:=aX) n_ (aE (gk I))) n_ (aE I.d) (by have:=I.len;refine(?_:_≤2^24);exact ah (ah ‹_› ‹_›) aJ) ?_);have st:=I.step (λs hs=>by
    rcases dw.mp hs with z|z
    ·exact(aW:∀t∈dW++[("$end":Str)],t∈e8) s z
    ·exact vH s (e3 s (DL z))) (vH t lE) pd
   rw[W_ lE] at st;exact aH (bK (LQ.next ⟨_,_⟩ (by rw[tk,←wR];exact st) (ai br)))
  ·rw[e1,aI,zW] at I
   refine aH (fin s.h ⟨s.es,I.d,λt ht=>I.ok t ?_⟩ (aU s.es I.d (ah I.len (by rw[cU];exact ah (e6 BV _) aJ))) I.kq);have:t∈dW++[("$end":Str)]∨t∈a8:=by
    have:∀t∈e8,t∈dW++[("$end":Str)]∨t∈a8:=aW;exact this t ht
   rcases this with z|z
   ·exact i7 _ z
   ·exact kj _ (e4 t z)
variable{f:Str}{F:Str→List Str}
structure gb where
 F:Str→List Str
 c:Bool
 N:Nat
 h:SH
noncomputable def g7(F:Str→List Str):Nat:=(F "S").length+(F "A").length+(F "B").length
noncomputable def lZ(F:Str→List Str)(n f:Str):Str→List Str:=λs=>if s=n then F n++[f] else F s
theorem E1(hn:s∈a8):g7 F<g7 (lZ F s f):=by
 have:s="S"∨s="A"∨s="B":=by simpa [a8] using hn
 have d1:("S":Str)≠"A"∧("S":Str)≠"B"∧("A":Str)≠"S"∧("A":Str)≠"B"∧("B":Str)≠"S"∧("B":Str)≠"A":=aW;unfold g7 lZ;rcases this with rfl|rfl|rfl
 ·rw[aP rfl,aK d1.2.2.1,aK d1.2.2.2.2.1,cU];simp only[zU];exact De (De (dq _) _) _
 ·rw[aK d1.1,aP rfl,aK d1.2.2.2.2.2,cU];simp only[zU];exact De (dq _) _
 ·rw[aK d1.2.1,aK d1.2.2.2.1,aP rfl,cU];simp only[zU];exact ar _
structure FB(F:Str→List Str)(aN:Nat)(aA:SH)(N:Nat)(h:SH):Prop where
 I:nz F h
 s5:∀s∈e8,lG (F s)
 free:bp h N
 kq:Kq [45,47] aN aA h
 le:aN≤N
 kb:∃es,h (.mk 45 [])=aa (.dict es)∧es.length≤10
theorem FB.sum(B:FB F aN aA N h):g7 F≤15:=PB (k:=5) (B.s5 "S" aW).len (B.s5 "A" aW).len (B.s5 "B" aW).len
theorem FB.iT{o:cy}(B:FB F aN aA N h):FB F aN aA (N+1) (h.set (gN N) o):=by
 obtain⟨es,a,c⟩:=B.I;exact⟨⟨es,aE a,λs hs=>⟨(c s hs).1,aE (c s hs).2⟩⟩,B.s5,B.free.new _ _,B.kq.trans (M:=N) (.new (ar _)) B.le,c8 B.le,B.kb.imp λes q=>⟨aE q.1,q.2⟩⟩
theorem FB.upd(B:FB F aN aA N h)(hn:s∈e8)(hf:f∈oB)(hm:f∉F s):FB (lZ F s f) aN aA N (h.set (gn s) (.list ((F s).map .str++[.str f]))):=by
 obtain⟨es,a,c⟩:=B.I;refine⟨⟨es,aE a,λt ht=>⟨(c t ht).1,?_⟩⟩,λt ht=>?_,λk l hk=>aE (B.free k l hk),B.kq.trans (M:=N) (.set (k:=47)) B.le,B.le,B.kb.imp λes q=>⟨aE q.1,q.2⟩⟩
 ·unfold lZ
  by_cases e:t=s
  ·subst e;rw[aP rfl,dN];exact aS
  ·rw[aK e];exact(aq λz=>e (Gc ht hn z)).trans (c t ht).2
 ·unfold lZ
  by_cases e:t=s
  ·rw[aP e]
   have z:=B.s5 s hn;refine⟨lq.mpr (cF z.1 (ko _ _) (λx hx y hy w=>hm (by rw[bS.mp hy] at w;exact w▸hx))),λx hx=>?_⟩;rcases dw.mp hx with w|w
   ·exact z.2 x w
   ·rw[bS.mp w];exact hf
  ·rw[aK e];exact B.s5 t ht
structure FJ(gZ:Nat)(aN:Nat)(aA:SH)(s:gb):Prop where
 B:FB s.F aN aA s.N s.h
 le:gZ≤g7 s.F
 lt:s.c=ab→gZ<g7 s.F
noncomputable def Ρ:List bx:=d_ (stN (ba 265) 4)
noncomputable def Zb:List bx:=d_ (stN Ρ 1)
theorem WR{s:gb}{gZ p:Nat}{nm:Str}(G:GX R aA)(J:FJ gZ aN aA s)(hp:p<R.length)(hn:nm∈a8)(fin:∀F c N h fr,FJ gZ aN aA ⟨F,c,N,h⟩→(SF.sub [("self",.ref aX),("n",.str nm),("some_change",.bool c)] fr)→Q .next fr h):
  SS (xJ i b) [("self",.ref aX),("n",.str nm),("some_change",.bool s.c),("p",bA p)] s.h [d_ (stN Zb 0)] Q:=by
 have G1:=G.kq J.B.kq;have S5:lG (frs s.F [] (aG R p)):=lK.nil.frs λx hx=>J.B.s5 x (G.sy p hp x hx);have hL:(s.h.set (gN s.N) (.list ((frs s.F [] (aG R p)).map .str))) (gN s.N)=aa (.list ((frs s.F [] (aG R p)).map .str)):=aS;refine eo (σ:=gb) (λt=>[("self",.ref aX),("n",.str nm),("some_change",.bool t.c)]) gb.h (λt j=>FJ gZ aN aA t∧t.N=s.N+1∧t.h (gN s.N)=aa (.list ((frs s.F [] (aG R p)).map .str))) ⟨s.F,s.c,s.N+1,s.h.set (gN s.N) (.list ((frs s.F [] (aG R p)).map .str))⟩ ((frs s.F [] (aG R p)).map .str) (d8 (EP.ev (dp n_ (iU G1.gr rfl) (i.K.keep rfl) (aB (a_ (n:=bf p) n_ (G1.pr p hp)) aL) (OX (i:=xJ i b) (b:=b) (l:=aG R p) rfl G1.gr J.B.I (G.sy p hp) J.B.s5 J.B.free).cp)) hL) (cF ⟨(J.B.iT (o:=.list ((frs s.F [] (aG R p)).map .str))),J.le,J.lt⟩ rfl hL) (ai (ai (ai br))) (λt j Z=>d6 Z.2.2) (λt j v Z e=>?_) (λt Z=>?_)
 ·refine aj (dH e) λf hf ax=>?_;subst ax
  refine jF Z λJ2 tN wj=>?_;clear Z;have G2:=G.kq J2.B.kq;obtain⟨es,a,c⟩:=J2.B.I;refine xA (c nm (vH nm hn)) λc1 c2=>?_;have l5:=(J2.B.s5 nm (vH nm hn)).len;refine dX ?_
  by_cases hm:f∈t.F nm
  ·exact cf (bt n_ (gY (a_ (n:=aX) n_ G2.gr) n_ a c1) (v_ (.own c2) (jQ.mpr hm) mN)) (aH (aH (bK (LQ.next t (cF J2 tN wj) (ai (ai (ai br)))))))
  ·refine cT (bt n_ (gY (a_ (n:=aX) n_ G2.gr) n_ a c1) (yD (.own c2) (λz=>hm (jQ.mp z)) mN)) ?_
   refine fJ (dp (gY (a_ (n:=aX) n_ G2.gr) n_ a c1) (fV c2) ij (aB n_ aL) (ga c2 (by rw[aI _];refine(?_:_≤2^24);exact ah ‹_› aJ))) (bM jD ?_);have su:=E1 (F:=t.F) (f:=f) hn;exact aH (aH (bK (LQ.next ⟨lZ t.F nm f,ab,t.N,t.h.set (gn nm) (.list ((t.F nm).map .str++[.str f]))⟩ (cF ⟨J2.B.upd (vH nm hn) (S5.2 f (bN hf)) hm,ah J2.le (cj su),λ_=>bd J2.le su⟩ tN (by dsimp only;exact aE wj)) (ai (ai (ai br))))))
 ·exact aH (aH (bK (fin t.F t.c t.N t.h _ Z.1 .rfl)))
theorem TF(G:GX R aA)(I:nz F0 h)(kb:∃es,h (.mk 45 [])=aa (.dict es)∧es.length≤10)(kq:Kq [45,47] N aA h)(B:bp h N):SS (xJ i b) [("self",.ref aX)] h [(ba 265).drop 4] (λf _ h'=>f.val=.ref (.mk 45 [])∧∃F N',FB F N aA N' h'):=by
 have RR:∀s∈e8,lG (F0 s):=λs hs=>by
  unfold F0
  split
  ·exact⟨.nil,λ_ h=>by exact cS h⟩
  ·next z=>
   refine⟨ko _ _,λx hx=>?_⟩;rw[bS.mp hx];have:∀s∈e8,s∉a8→s∈oB:=aW;exact this s hs z
 refine rK (σ:=gb) (λ_=>[("self",.ref aX)]) gb.h (λs m=>m+g7 s.F=16∧FB s.F N aA s.N s.h) ⟨F0,an,N,h⟩ (16-g7 F0) ⟨by rfl,I,RR,B,kq,ar _,kb⟩ .rfl ?_;rintro s m ⟨hm,Bs⟩;refine(mr ab s.h (p_ jD i9) (λz=>(iY z)) (λ_=>?_));have G1:=G.kq Bs.kq;obtain⟨kf,hn,ns,e1,e2,e3,e4⟩:=G.ii;have uk:∀{N' h'} {F':Str→List Str},FB F' N aA N' h'→h' (.mk 39 [])=aa (.dict kf):=λZ=>(Z.kq.1 _ _ rfl).trans hn;have kL:=EL e1;refine bM jD ?_;refine eo (σ:=gb) (λt=>[("self",.ref aX),("some_change",.bool t.c)]) gb.h (λt j=>FJ (g7 s.F) N aA t) ⟨s.F,an,s.N,s.h⟩ (kf.map (·.1)) (vb (a_ (n:=aX) n_ G1.gr) (uk Bs) kL) ⟨Bs,ar _,λz=>by exact cM z⟩ (ai (ai br)) (λt j J=>wd (uk J.B) kL) (λt j v J e=>?_) (λt J=>?_)
 ·rw[e1] at e
  refine aj (dH e) λnm vj ax=>?_;subst ax;have yU:=e3 nm (bN vj);obtain⟨VP,p1,p2,p3⟩:=G.names;have pk:∀{N' h'} {F':Str→List Str},FB F' N aA N' h'→h' (.mk 36 [])=aa (.dict VP)∧h' (gd nm)=aa (.list ((gA R nm).map bA)):=λZ=>⟨(Z.kq.1 _ _ rfl).trans p1,(Z.kq.1 _ _ rfl).trans (p2 nm yU).2⟩;refine dX (eo (σ:=gb) (λt=>[("self",.ref aX),("n",.str nm),("some_change",.bool t.c)]) gb.h (λt j=>FJ (g7 s.F) N aA t) t ((gA R nm).map bA) (d8 (gY (a_ (n:=aX) n_ (G.kq J.B.kq).gr) n_ (pk J.B).1 (p2 nm yU).1) (pk J.B).2) J (ai (ai (ai br))) (λt j J=>d6 (pk J.B).2) (λt2 j2 v2 J2 SN=>?_) (λt2 J2=>?_))
  ·refine aj (dH SN) λp hp ax=>?_;subst ax
   have p9:=dR.mp (m9.mp (bN hp)).1;exact dX (SS.sub (WR G J2 p9 yU λF' c' N' h' fr J' sb=>LQ.next ⟨F',c',N',h'⟩ J' sb) (ai (ai (ai (ai br)))))
  ·exact aH (aH (bK (LQ.next t2 J2 (ai (ai br)))))
 ·refine aH ?_
  cases hc:t.c with
  |true=>
   have lt:=J.lt hc;have LH:=J.B.sum;refine cf (fz (t:=ab) (p_ n_ i9)) (aH (aH (bK (LQ.next t (cL (16-g7 t.F) (Ki hm lt (c8 LH)) (qT (c8 LH)) J.B) (ai br)))))
  |false=>
   refine cT (fz (t:=an) (p_ n_ i9)) (Cq ?_);obtain⟨es,a,c⟩:=J.B.I;exact gJ (a_ (n:=aX) n_ (G.kq J.B.kq).gr) ⟨rfl,t.F,t.N,J.B⟩
theorem ν(hb:i.b=b+2)(G:GX R h)(kb:h (.mk 45 [])=aa (.dict []))(Fv:∀l,h (.mk 47 l)=af)(B:bp h N):FP i h (.glob 265) [.ref aX] (λv h'=>v=.ref (.mk 45 [])∧∃F N',FB F N h N' h'):=by
 refine enter (b:=b+1) i.K.cfirst JG w_cf hb rfl (Sb (b:=b) G kb Fv λh' I kb kq=>?_);exact(TF (b:=b) G I kb (kq N) (B.kq kq)).imp λf fr h q=>q
variable{B:Str}{Fl:Str→List Str}
theorem BF{vs:List SV}{j:Nat}(hj:j≤vs.length):fh vs (aa (j:Int)) af=vs.drop j:=by
 show(vs.drop (fE vs.length j)).take (vs.length-fE vs.length j)=_;rw[show fE vs.length (j:Int)=j from B5.trans (sA hj)];exact na (bF zX)
noncomputable def jp(s:Str):Nm:=.mk 48 [sym s]
theorem B8{x y:Str}(hx:x∈a8)(hy:y∈a8)(e:jp x=jp y):x=y:=by injection e with _ e;injection e with e;exact GQ x hx y hy e
def SubL(l:List Str):Prop:=l.Nodup∧∀x∈l,x∈j9
def ZX(Fl:Str→List Str)(h:SH):Prop:=∃es,h (.mk 46 [])=aa (.dict es)∧∀s∈a8,es.lookup (.str s)=aa (.ref (jp s))∧h (jp s)=aa (.list ((Fl s).map .str))
structure LB(Fl:Str→List Str)(aN:Nat)(aA:SH)(N:Nat)(h:SH):Prop where
 I:ZX Fl h
 s4:∀s∈a8,SubL (Fl s)
 free:bp h N
 kq:Kq [46,48,67] aN aA h
 le:aN≤N
theorem SubL.len{l:List Str}(s:SubL l):l.length≤4:=fO s.1 (l₂:=j9) s.2
theorem LB.sum(L:LB Fl aN aA N h):g7 Fl≤12:=PB (k:=4) (L.s4 "S" aW).len (L.s4 "A" aW).len (L.s4 "B" aW).len
theorem LB.iT{o:cy}(L:LB Fl aN aA N h):LB Fl aN aA (N+1) (h.set (gN N) o):=by
 obtain⟨es,a,c⟩:=L.I;exact⟨⟨es,aE a,λs hs=>⟨(c s hs).1,aE (c s hs).2⟩⟩,L.s4,L.free.new _ _,L.kq.trans (M:=N) (.new (ar _)) L.le,c8 L.le⟩
theorem LB.upd(L:LB Fl aN aA N h)(hn:s∈a8)(hf:f∈j9)(hm:f∉Fl s):LB (lZ Fl s f) aN aA N (h.set (jp s) (.list ((Fl s).map .str++[.str f]))):=by
 obtain⟨es,a,c⟩:=L.I;refine⟨⟨es,aE a,λt ht=>⟨(c t ht).1,?_⟩⟩,λt ht=>?_,λk l hk=>aE (L.free k l hk),L.kq.trans (M:=N) (.set (k:=48)) L.le,L.le⟩
 ·unfold lZ
  by_cases e:t=s
  ·subst e;rw[aP rfl,dN];exact aS
  ·rw[aK e];exact(aq λz=>e (B8 ht hn z)).trans (c t ht).2
 ·unfold lZ
  by_cases e:t=s
  ·rw[aP e]
   have z:=L.s4 s hn;refine⟨lq.mpr (cF z.1 (ko _ _) (λx hx y hy w=>hm (by rw[bS.mp hy] at w;exact w▸hx))),λx hx=>?_⟩;rcases dw.mp hx with w|w
   ·exact z.2 x w
   ·rw[bS.mp w];exact hf
  ·rw[aK e];exact L.s4 t ht
structure LJ(gZ:Nat)(aN:Nat)(aA:SH)(s:gb):Prop where
 L:LB s.F aN aA s.N s.h
 le:gZ≤g7 s.F
 lt:s.c=ab→gZ<g7 s.F
noncomputable def MO:List Str:=["self","start","k","didadd","p","i","B","fst","hasempty","f"]
theorem Pn:cq (bC 273) MO=ab:=by kernel_rfl
theorem w_fo:cZ (bC 273) ["enumerate","len"]=ab:=by kernel_rfl
noncomputable def mS(i:FI)(b:Nat):FI:=i.fn (b+1) 273 MO ["enumerate","len"] Pn w_fo
noncomputable def Hu:List bx:=d_ (stN (ba 273) 5)
noncomputable def foP:List bx:=d_ (stN Hu 1)
noncomputable def OH:List bx:=d_ (stN foP 0)
noncomputable def yK:List bx:=d_ (stN OH 0)
noncomputable def wv(p:Nat)(i:Nat)(B:Str)(c:Bool):SF:=[("self",.ref aX),("p",bA p),("i",.int i),("B",.str B),("didadd",.bool c)]
theorem abj:∀f∈oB,f≠iK→f∈j9:=aW
theorem afl{s:gb}{gZ p ix:Nat}(G:GX R aA)(hp:p<R.length)(ye:bE R p∈a8)(J:LJ gZ aN aA s)(hB:B∈a8)(fin:∀F c N h fr,LJ gZ aN aA ⟨F,c,N,h⟩→(wv p ix B c).sub fr→Q .next fr h):
  SS (mS i b) (wv p ix B s.c) s.h [d_ (stN yK 3)] Q:=by
 have pr:∀{h' N'} {F':Str→List Str},LB F' aN aA N' h'→GX R h':=λL=>G.kq L.kq;obtain⟨es,a,c⟩:=J.L.I;refine xA (c (bE R p) ye) λk1 k2=>?_;refine eo (σ:=gb) (λt=>wv p ix B t.c) gb.h (λt j=>LJ gZ aN aA t∧t.F (bE R p)=s.F (bE R p)) s ((s.F (bE R p)).map .str) (d8 (gY (a_ (n:=aX) n_ (pr J.L).gr) (a_ (n:=bf p) n_ ((pr J.L).pr p hp)) a k1) k2) ⟨J,rfl⟩ .rfl (λt j Z=>?_) (λt j v Z e=>?_) (λt Z=>aH (aH (bK (fin t.F t.c t.N t.h _ Z.1 .rfl))))
 ·refine aj Z.1.L.I λC7 a2 c2=>?_
  exact d6 (by rw[←Z.2];exact(c2 _ ye).2)
 ·refine aj (dH e) λf hf ax=>?_;subst ax
  refine xA Z λJ2 eF=>?_;clear Z;have NG:=bN hf;obtain⟨C7,a2,c2⟩:=J2.L.I;refine xA (c2 B hB) λq1 q2=>?_;have l4:=(J2.L.s4 B hB).len;refine dX ?_
  by_cases hm:f∈t.F B
  ·exact cf (bt n_ (gY (a_ (n:=aX) n_ (pr J2.L).gr) n_ a2 q1) (v_ (.own q2) (jQ.mpr hm) mN)) (aH (aH (bK (LQ.next t ⟨J2,eF⟩ (SF.sub.rfl.b9)))))
  ·refine cT (bt n_ (gY (a_ (n:=aX) n_ (pr J2.L).gr) n_ a2 q1) (yD (.own q2) (λz=>hm (jQ.mp z)) mN)) ?_
   refine fJ (dp (gY (a_ (n:=aX) n_ (pr J2.L).gr) n_ a2 q1) (fV q2) ij (aB n_ aL) (ga q2 (by rw[aI _];refine(?_:_≤2^24);exact ah ‹_› aJ))) (bM jD ?_);have su:=E1 (F:=t.F) (f:=f) hB;refine aH (aH (bK (LQ.next ⟨lZ t.F B f,ab,t.N,t.h.set (jp B) (.list ((t.F B).map .str++[.str f]))⟩ ⟨⟨J2.L.upd hB ((J.L.s4 _ ye).2 f NG) hm,ah J2.le (cj su),λ_=>bd J2.le su⟩,?_⟩ (ai (ai (ai (ai (ai br))))))));show lZ t.F B f (bE R p)=_;unfold lZ;rw[aK (λz=>hm (by rw[←z,eF];exact NG):bE R p≠B)];exact eF
structure vM where
 F:Str→List Str
 c:Bool
 e:Bool
 N:Nat
 h:SH
noncomputable def vo(p ix N:Nat)(B:Str)(t:vM):SF:=[("self",.ref aX),("p",bA p),("i",.int ix),("B",.str B),("didadd",.bool t.c),("fst",.ref (gN N)),("hasempty",.bool t.e)]
theorem aek{s:gb}{gZ p ix:Nat}(G:GX R aA)(I0:nz F aA)(hF:∀x∈e8,lG (F x))(hp:p<R.length)(ye:bE R p∈a8)(J:LJ gZ aN aA s)(hB:(aG R p)[ix]? =aa B)(fin:∀F c N h fr,LJ gZ aN aA ⟨F,c,N,h⟩→(SF.sub [("self",.ref aX),("p",bA p),("didadd",.bool c)] fr)→Q .next fr h):
  SS (mS i b) (wv p ix B s.c) s.h [OH] Q:=by
 have gx:∀{h' N'} {F':Str→List Str},LB F' aN aA N' h'→GX R h':=λL=>G.kq L.kq;have fx:∀{h' N'} {F':Str→List Str},LB F' aN aA N' h'→nz F h':=λL=>by
  refine aj I0 λes a c=>?_;clear I0;exact⟨es,(L.kq.1 _ _ rfl).trans a,λs hs=>⟨(c s hs).1,(L.kq.1 _ _ rfl).trans (c s hs).2⟩⟩
 obtain⟨kf,hn,ns,e1,e2,e3,e4⟩:=G.ii;have uk:∀{N' h'} {F':Str→List Str},LB F' aN aA N' h'→h' (.mk 39 [])=aa (.dict kf):=λZ=>(Z.kq.1 _ _ rfl).trans hn;have hlt:=(cV.mp hB).1
 cases ja:kf.lookup (.str B) with
 |none=>exact cf (bt n_ (a_ (n:=aX) n_ (gx J.L).gr) (AZ (uk J.L) ja)) (aH (aH (bK (fin s.F s.c s.N s.h _ J (ai (ai (ai br)))))))
 |some v=>
  have yi:B∈a8:=by
   have:(SV.str B)∈kf.map (·.1):=by
    cases z:decide (SV.str B∈kf.map (·.1)) with
    |true=>exact fC z
    |false=>rw[lW.mpr (sk z)] at ja;exact a7 ja
   rw[e1] at this;exact e3 B (jQ.mp this)
  refine cT (bt n_ (a_ (n:=aX) n_ (gx J.L).gr) (Od (uk J.L) ja)) ?_;have sZ:∀x∈(aG R p).drop (ix+1),x∈e8:=λx hx=>G.sy p hp x (List.mem_of_mem_drop hx);have P:=OX (i:=mS i b) (b:=b) (l:=(aG R p).drop (ix+1)) rfl (gx J.L).gr (fx J.L) sZ hF J.L.free;have S5:lG (frs F [] ((aG R p).drop (ix+1))):=lK.nil.frs λx hx=>hF x (sZ x hx);have L2:=J.L.iT (o:=.list ((frs F [] ((aG R p).drop (ix+1))).map .str));have hL:(s.h.set (gN s.N) (.list ((frs F [] ((aG R p).drop (ix+1))).map .str))) (gN s.N)=aa (.list ((frs F [] ((aG R p).drop (ix+1))).map .str)):=aS;have sl:fh ((aG R p).map SV.str) (aa ((ix:Int)+1)) af=((aG R p).drop (ix+1)).map SV.str:=by
   have:=BF (vs:=(aG R p).map SV.str) (j:=ix+1) (by rw[aI _];exact hlt);rw[zZ];exact this
  have bu:=G.bu p;have AG:=(gx J.L).pr p hp;refine bM (v:=.ref (gN s.N)) (EP.ev (dp n_ (iU (gx J.L).gr rfl) (i.K.keep rfl) (aB (sl▸act (a_ (n:=bf p) n_ AG) (fM n_ bD nW) (by rw[aI _];refine(?_:_≤2^24);exact ah ‹_› aJ)) aL) P.cp)) ?_;refine bM jD ?_
  have rest:∀t:vM,LJ gZ aN aA ⟨t.F,t.c,t.N,t.h⟩→SS (mS i b) (vo p ix s.N B t) t.h [yK.drop 3,[]] Q:=λt J3=>by
   have AG:=(gx J3.L).pr p hp;have fj:SS (mS i b) (vo p ix s.N B t) t.h [d_ (stN yK 3),[],[]] Q:=by
    have:=afl (i:=i) (b:=b) (s:=⟨t.F,t.c,t.N,t.h⟩) (ix:=ix) G hp ye J3 yi (Q:=Q) λF c N h fr J4 sb=>fin F c N h fr J4 (λy v hv=>sb y v (by
     have:SF.sub [("self",.ref aX),("p",bA p),("didadd",.bool c)] (wv p ix B c):=ai (ai (ai br));exact this y v hv))
    exact SS.sub (ey:=wv p ix B t.c) ⟨λfr' s'=>iH.imp (this.run fr' s') (λf fr h q=>by cases f with|next=>exact wf (wf q)|_=>exact q) λ_ _ _ q=>q⟩ (ai (ai (ai (ai (ai br)))))
   have no:SS (mS i b) (vo p ix s.N B t) t.h [[],[],[]] Q:=aH (aH (aH (bK (fin t.F t.c t.N t.h _ J3 (ai (ai (ai br)))))));have ln:CP (mS i b) t.h (.bi "len") [.tup ((aG R p).map .str)] (is (.int (aG R p).length) t.h):=Et (aI _) (by rw[aI _];exact bd ‹_› bg)
   cases he:t.e with
   |true=>
    exact cT (zg (p_ n_ (by show TV (mS i b) t.h (.bool t.e) ab;rw[he];exact i9))) fj
   |false=>
    by_cases hl:ix+1=(aG R p).length
    ·exact cT (qa (p_ (n_ (v:=.bool t.e)) (by rw[he];exact i9)) (zg (bt n_ (fM (b8 (i.K.bi rfl) rfl (aB (a_ (n:=bf p) n_ AG) aL) ln) bD Al) (nN (by rw[←hl];show SV.int _=SV.int _;exact ay SV.int (Int.add_sub_cancel _ 1).symm))))) fj
    ·exact cf (qa (p_ (n_ (v:=.bool t.e)) (by rw[he];exact i9)) (qa (bt n_ (fM (b8 (i.K.bi rfl) rfl (aB (a_ (n:=bf p) n_ AG) aL) ln) bD Al) (lU λz=>hl (by injection z with z;exact w7 ((ay (· +1) z).trans (ahk _ _))))) Ao)) no
  refine eo (σ:=vM) (vo p ix s.N B) vM.h (λt j=>LJ gZ aN aA ⟨t.F,t.c,t.N,t.h⟩∧t.h (gN s.N)=aa (.list ((frs F [] ((aG R p).drop (ix+1))).map .str))) ⟨s.F,s.c,an,s.N+1,s.h.set (gN s.N) (.list ((frs F [] ((aG R p).drop (ix+1))).map .str))⟩ ((frs F [] ((aG R p).drop (ix+1))).map .str) (d8 n_ hL) ⟨⟨L2,J.le,J.lt⟩,hL⟩ (ai (ai (ai (ai (ai (ai (ai br))))))) (λt j Z=>d6 Z.2) (λt j v Z e=>?_) (λt Z=>aH (rest t Z.1));refine aj (dH e) λf hf ax=>?_;subst ax;refine xA Z λJ2 wj=>?_;clear Z;have hfV:=S5.2 f (bN hf);obtain⟨C7,a2,c2⟩:=J2.L.I;refine xA (c2 B yi) λq1 q2=>?_;have l4:=(J2.L.s4 B yi).len
  have tail:∀t2:vM,LJ gZ aN aA ⟨t2.F,t2.c,t2.N,t2.h⟩→t2.h (gN s.N)=aa (.list ((frs F [] ((aG R p).drop (ix+1))).map .str))→SS (mS i b) ((vo p ix s.N B t2).put "f" (.str f)) t2.h [(d_ (stN yK 2)).drop 1] (LQ (mS i b) (vo p ix s.N B) vM.h (λt=>LJ gZ aN aA ⟨t.F,t.c,t.N,t.h⟩∧t.h (gN s.N)=aa (.list ((frs F [] ((aG R p).drop (ix+1))).map .str))) (yK.drop 3::[[]]) Q):=λt2 J4 L8=>by
   by_cases mz:f=iK
   ·subst mz
    exact cT (bt n_ cw (nN rfl)) (bM jD (aH (aH (bK (LQ.next ⟨t2.F,t2.c,ab,t2.N,t2.h⟩ ⟨J4,L8⟩ (ai (ai (ai (ai (ai (ai (ai br))))))))))))
   ·exact cf (bt n_ cw (lU λz=>mz (by injection z))) (aH (aH (bK (LQ.next t2 ⟨J4,L8⟩ (SF.sub.rfl.b9)))))
  refine dX ?_
  by_cases mz:f=iK
  ·refine cf (oN (bt n_ cw (D4 (by rw[mz];rfl)))) (aH (tail t J2 wj))
  ·have Se:=abj f hfV mz
   by_cases hm:f∈t.F B
   ·exact cf (lH (bt n_ cw (Lu λz=>mz (by injection z))) (oN (bt n_ (gY (a_ (n:=aX) n_ (gx J2.L).gr) n_ a2 q1) (v_ (.own q2) (jQ.mpr hm) mN)))) (aH (tail t J2 wj))
   ·refine cT (lH (bt n_ cw (Lu λz=>mz (by injection z))) (lH (bt n_ (gY (a_ (n:=aX) n_ (gx J2.L).gr) n_ a2 q1) (yD (.own q2) (λz=>hm (jQ.mp z)) mN)) Bk)) ?_
    refine fJ (dp (gY (a_ (n:=aX) n_ (gx J2.L).gr) n_ a2 q1) (fV q2) ij (aB n_ aL) (ga q2 (by rw[aI _];refine(?_:_≤2^24);exact ah ‹_› aJ))) (bM jD (aH ?_));have su:=E1 (F:=t.F) (f:=f) yi;refine SS.sub (tail ⟨lZ t.F B f,ab,t.e,t.N,t.h.set (jp B) (.list ((t.F B).map .str++[.str f]))⟩ ⟨J2.L.upd yi Se hm,ah J2.le (cj su),λ_=>bd J2.le su⟩ (by dsimp only;exact aE wj)) ?_;exact ai (ai (ai (ai (ai (ai (ai (ai br)))))))
noncomputable def xO(s:Str):List Str:=if s="S" then ["$end"] else []
noncomputable def pN(s:Str):Nm:=if s="S" then .mk 67 [] else jp s
structure tT(done:List Str)(aA h:SH)(es:b7):Prop where
 d:h (.mk 46 [])=aa (.dict es)
 ok:∀s∈done,s≠"S"→es.lookup (.str s)=aa (.ref (jp s))∧h (jp s)=aa (.list [])
 no:∀s∈a8,s∉done∨s="S"→h (jp s)=af
 Bd:("S":Str)∉done→h (.mk 67 [])=af
 len:es.length≤done.length
 kq:∀M,Kq [46,48,67] M aA h
theorem tT.step{done:List Str}{es:b7}(I:tT done aA h es)(hd:∀s∈done,s∈a8)(hs:s∈a8)(hn:s∉done):h (pN s)=af∧tT (done++[s]) aA ((h.set (pN s) (.list [])).set (.mk 46 []) (.dict (bj es (.str s) (.ref (pN s))))) (bj es (.str s) (.ref (pN s))):=by
 by_cases hS:s="S"
 ·subst hS
  have e0:pN "S"=.mk 67 []:=aP rfl;rw[e0];refine⟨I.Bd hn,aS,λt ht dh=>?_,λt ht hc=>?_,λz=>bc (kj _ (bS.mpr rfl)) z,by rw[cU];exact ah tG (eG I.len),λM=>((I.kq M).trans (M:=M) (.set (k:=67)) (ar _)).trans (M:=M) (.set (k:=46)) (ar _)⟩
  ·have z:=(dw.mp ht).resolve_right λz=>dh (bS.mp z)
   refine xA (I.ok t z dh) λa c=>?_;exact⟨by rw[fw _,aK (λe=>dh (by injection e))];exact a,aE (aE c)⟩
  ·exact aE (aE (I.no t ht (hc.imp (λz w=>z (i7 _ w)) id)))
 ·have e0:pN s=jp s:=aK hS
  rw[e0];refine⟨I.no s hs (.inl hn),aS,λt ht dh=>?_,λt ht hc=>?_,λz=>aE (aE (I.Bd λw=>z (i7 _ w))),by rw[cU];exact ah tG (eG I.len),λM=>((I.kq M).trans (M:=M) (.set (k:=48)) (ar _)).trans (M:=M) (.set (k:=46)) (ar _)⟩
  ·rcases dw.mp ht with z|z
   ·have ne:t≠s:=λe=>hn (e▸z)
    refine xA (I.ok t z dh) λa c=>?_;exact⟨by rw[fw _,aK (λe=>ne (by injection e))];exact a,aE ((aq λe=>ne (B8 (hd t z) hs e)).trans c)⟩
   ·rw[bS.mp z]
    exact⟨by rw[fw _,aP rfl],aE aS⟩
  ·have ne:t≠s:=λe=>hc.elim (λz=>z (kj _ (bS.mpr e))) λz=>hS (e▸z)
   exact aE ((aq λe=>ne (B8 ht hs e)).trans (I.no t ht (hc.imp (λz w=>z (i7 _ w)) id)))
theorem Fx{n m:Nm}{vs ws:List SV}{lo e:Expr}{j:Int}{p pos:Pos}(a:EV i fr h e (.ref n) ag)(b:EV i fr ag lo (.int j) aC)(hn:aC n=aa (.list vs))(hz:vs.length≤cR)(hm:aC m=af)(hw:fh vs (aa j) af=ws):EV i fr h (.Subscript e (.Slice (aa lo) af af p) pos) (.ref m) (aC.set m (.list ws)):=hw▸RX a b hn hz hm
theorem nz.kq{B:List Nat}(I:nz F h)(kq:Kq B N h h')(hB:autoParam ((!(99::B).contains 45 && !(99::B).contains 47)=ab) bl):nz F h':=by
 rw[bO,jL,jL] at hB;refine aj I λes a c=>?_;clear I;exact⟨es,(kq.1 _ _ hB.1).trans a,λs hs=>⟨(c s hs).1,(kq.1 _ _ hB.2).trans (c s hs).2⟩⟩
theorem aa0{s:gb}(G:GX R aA)(I0:nz F aA)(hF:∀x∈e8,lG (F x))(L:LB s.F aN aA s.N s.h)(hR:0<R.length)
  (fin:∀t:gb,LJ (g7 s.F) aN aA t→SS (mS i b) [("self",.ref aX),("didadd",.bool t.c)] t.h (Hu.drop 2::k) Q):SS (mS i b) [("self",.ref aX)] s.h (Hu::k) Q:=by
 have c7:=G.len;have gs:=G.kq L.kq;refine bM jD ?_;have sl:fh ((bo R.length).map bA) (aa (1:Int)) af=(bo R.length).tail.map bA:=by
  have:=BF (vs:=(bo R.length).map bA) (j:=1) (by rw[aI _,dS];exact hR);rw[show((1:Nat):Int)=1 from rfl] at this;rw[this,←zZ,ai9]
 have L2:=L.iT (o:=.list ((bo R.length).tail.map bA));have hL:(s.h.set (gN s.N) (.list ((bo R.length).tail.map bA))) (gN s.N)=aa (.list ((bo R.length).tail.map bA)):=aS;refine eo (σ:=gb) (λt=>[("self",.ref aX),("didadd",.bool t.c)]) gb.h (λt j=>LJ (g7 s.F) (s.N+1) (s.h.set (gN s.N) (.list ((bo R.length).tail.map bA))) t) ⟨s.F,an,s.N+1,s.h.set (gN s.N) (.list ((bo R.length).tail.map bA))⟩ ((bo R.length).tail.map bA) (d8 (Fx (m:=gN s.N) (a_ (n:=aX) n_ gs.gr) bD gs.fg (by rw[aI _,dS];refine(?_:_≤2^24);exact ah ‹_› aJ) L.free.at sl) hL) ⟨⟨L2.I,L2.s4,L2.free,.same,ar _⟩,ar _,λz=>by exact cM z⟩ (ai (ai br)) (λt j Z=>d6 ((Z.L.kq.2 s.N [] (dq _)).trans hL)) (λt j v Z e=>?_) (λt Z=>aH (fin t ⟨⟨Z.L.I,Z.L.s4,Z.L.free,L2.kq.trans Z.L.kq L2.le,ah L2.le Z.L.le⟩,Z.le,Z.lt⟩));refine aj (dH e) λp hp ax=>?_;subst ax;refine xA (Ay.mp (bN hp)) λp0 pl=>?_;have G2:=G.kq L2.kq;refine dX (eo (σ:=gb) (λt=>[("self",.ref aX),("p",bA p),("didadd",.bool t.c)]) gb.h (λt _=>LJ (g7 s.F) (s.N+1) (s.h.set (gN s.N) (.list ((bo R.length).tail.map bA))) t) t (vE ((aG R p).map .str)) (O5 (i.K.ty rfl) (a_ (n:=bf p) n_ (((λL=>G2.kq L.kq:∀{h' N'} {F':Str→List Str},LB F' (s.N+1) (s.h.set (gN s.N) (.list ((bo R.length).tail.map bA))) N' h'→GX R h') Z.L).pr p pl)) .tup) Z (ai (ai (ai br))) (λt j Z=>Yl) (λt2 j2 v2 Z2 e2=>?_) (λt2 Z2=>aH (aH (bK (LQ.next t2 Z2 (ai (ai br)))))));rw[Cn,dv] at e2
 cases hB:(aG R p)[j2]? with
 |none=>rw[hB] at e2;(first|exact a7 e2|obtain rfl:=aY e2)
 |some B=>
  rw[hB] at e2
  (first|exact a7 e2|obtain rfl:=aY e2)
  refine Es (SS.sub (aek (i:=i) (b:=b) G2 (I0.kq L2.kq) hF pl (G.nt p p0 pl) Z2 hB λF c N h fr J' sb=>LQ.next ⟨F,c,N,h⟩ J' sb) ?_);exact ai (ai (ai (ai (ai br))))
theorem adg(hb:i.b=b+2)(G:GX R h)(I0:nz F h)(kb:∃es,h (.mk 45 [])=aa (.dict es)∧es.length≤10)(hF:∀x∈e8,lG (F x))(hR:1<R.length)(h1:bE R 1="S")(IV:h (.mk 46 [])=aa (.dict []))(XI:∀l,h (.mk 48 l)=af)(Bd:h (.mk 67 [])=af)(B:bp h N):
  FP i h (.glob 273) [.ref aX] (λv h'=>v=.ref (.mk 46 [])∧∃Fl N',LB Fl N h N' h'):=by
 refine enter (b:=b+1) i.K.cfollow Pn w_fo hb rfl ?_;have c7:=G.len;refine cf (p_ (a_ (n:=aX) n_ G.gr) (zq IV bg)) (aH ?_);refine aj kb λFd f1 f3=>?_;clear kb;have T8:(!Fd.isEmpty)=ab:=by
  refine aj I0 λajq JQ f2=>?_;clear I0;rw[f1] at JQ;cases JQ
  cases Fd with
  |nil=>have:=(f2 "a" aW).1;(first|exact a7 this|obtain rfl:=aY this)
  |cons _ _=>rfl
 refine cf (fz (t:=ab) (p_ (a_ (n:=aX) n_ G.gr) (T8▸zq f1 (bd ‹_› bg)))) (aH ?_);obtain⟨kf,hn,ns,e1,e2,e3,e4⟩:=G.ii;have kL:=EL e1;have BV:ns.length≤3:=fO e2 (l₂:=a8) e3;have uk:∀{done es h'},tT done h h' es→h' (.mk 39 [])=aa (.dict kf):=λI=>((I.kq 0).1 _ _ rfl).trans hn;have gk:∀{done es h'},tT done h h' es→h' aX=aa (.inst 283 pJ):=λI=>((I.kq 0).1 _ _ rfl).trans G.gr;have Yg:tT [] h h []:=⟨IV,λs z=>(cS z),λs _ _=>XI _,λ_=>Bd,ar _,λM=>.same⟩;refine eo (σ:=wg) (λ_=>[("self",.ref aX),("start",.none)]) wg.h (λs j=>tT (ns.take j) h s.h s.es) ⟨[],h⟩ (kf.map (·.1)) (vb (a_ (n:=aX) n_ G.gr) hn kL) Yg (ai (ai br)) (λs j I=>wd (uk I) kL) (λs j v I e=>?_) (λs I=>?_)
 ·rw[e1] at e
  refine aj (dH e) λt ht ax=>?_;subst ax;have lE:=e3 t (bN ht);have tk:ns.take (j+1)=ns.take j++[t]:=by rw[jN,ht];rfl
  have pd:t∉ns.take j:=λz=>by
   have nd:=(HG (j+1) ns).nodup e2;rw[tk,lq] at nd;exact nd.2.2 t z t (bS.mpr rfl) rfl
  have l3:(ns.take j).length≤3:=by rw[jH];exact ah (pD _ _) BV
  refine xA (I.step (λs hs=>e3 s (DL hs)) lE pd) λfr0 st=>?_;have nk:∀k l,k≠67→k≠48→(s.h.set (pN t) (.list [])) (.mk k l)=s.h (.mk k l):=λk l h1 h2=>aq λe=>by
   unfold pN at e
   split at e
   ·injection e with e;exact h1 e
   ·injection e with e;exact h2 e
  refine dX (eu (n:=.mk 46 []) (es:=s.es) (eC (n:=pN t) aL fr0) (a_ (n:=aX) n_ ((nk _ _ bG bG).trans (gk I))) n_ ((nk _ _ bG bG).trans I.d) (by have:=I.len;refine(?_:_≤2^24);exact ah (ah ‹_› ‹_›) aJ) ?_);exact aH (bK (LQ.next ⟨_,_⟩ (by rw[tk];exact st) (ai (ai br))))
 ·rw[e1,aI,zW] at I
  have hS:("S":Str)∈a8:=aW;refine aH (cT (fz (t:=an) (p_ n_ nu)) ?_);have VZ:((bo R.length).map bA)[1]? =aa (bA 1):=Ag hR;refine bM (v:=.str "S") (a_ (n:=bf 1) (mx (j:=1) (a_ (n:=aX) n_ (gk I)) bD (.own (((I.kq 0).1 _ _ rfl).trans G.fg)) bg VZ) (((I.kq 0).1 _ _ rfl).trans (G.pr 1 hR)) (ay (λz=>aa (SV.str z)) h1)) (aH ?_);refine eu (n:=.mk 46 []) (es:=s.es) (eC (n:=jp "S") (aB cw aL) (I.no "S" hS (.inr rfl))) (a_ (n:=aX) n_ (aE (gk I))) n_ (aE I.d) (by have:=I.len;refine(?_:_≤2^24);exact ah (ah ‹_› ‹_›) aJ) ?_;have L0:LB xO N h N ((s.h.set (jp "S") (.list [.str "$end"])).set (.mk 46 []) (.dict (bj s.es (.str "S") (.ref (jp "S"))))):=by
   refine⟨⟨_,aS,λt ht=>?_⟩,λt ht=>?_,λk l hk=>aE (aE (B.kq I.kq k l hk)),((I.kq N).trans (M:=N) (.set (k:=48)) (ar _)).trans (M:=N) (.set (k:=46)) (ar _),ar _⟩
   ·by_cases e:t="S"
    ·subst e
     exact⟨by rw[fw _,aP rfl],aE aS⟩
    ·refine xA (I.ok t (e4 t ht) e) λa c=>?_
     refine⟨by rw[fw _,aK (λz=>e (by injection z))];exact a,aE ((aq λz=>e (B8 ht hS z)).trans ?_)⟩;unfold xO;rw[aK e];exact c
   ·unfold xO
    split
    ·exact⟨ko _ _,by exact aW⟩
    ·exact⟨.nil,λ_ z=>by exact cS z⟩
  generalize (s.h.set (jp "S") (.list [.str "$end"])).set (.mk 46 []) (.dict (bj s.es (.str "S") (.ref (jp "S"))))=h2 at L0 ⊢;refine rK (σ:=gb) (λ_=>[("self",.ref aX)]) gb.h (λs m=>m+g7 s.F=13∧LB s.F N h s.N s.h) ⟨xO,an,N,h2⟩ (13-g7 xO) ⟨by rfl,L0⟩ (ai br) ?_;rintro s m ⟨hm,L⟩;refine(mr ab s.h (p_ jD i9) (λz=>(iY z)) (λ_=>?_));refine aa0 (b:=b) G I0 hF L (cj ‹_›) λt J=>?_
  cases hc:t.c with
  |true=>
   have Of:=J.L.sum;exact cf (fz (t:=ab) (p_ n_ i9)) (aH (aH (bK (LQ.next t (cL (13-g7 t.F) (Ki hm (J.lt hc) (c8 Of)) (qT (c8 Of)) J.L) (ai br)))))
  |false=>
   exact cT (fz (t:=an) (p_ n_ i9)) (Cq (gJ (a_ (n:=aX) n_ (G.kq J.L.kq).gr) ⟨rfl,t.F,t.N,J.L⟩))
noncomputable def vTi:List Str:=["self","grammar","method","log"]
theorem RI:cq (bC 333) vTi=ab:=by kernel_rfl
theorem w_ti:cZ (bC 333) []=ab:=rfl
noncomputable def yu:List Nat:=[20,30,31,32,33,43,47,48,51,52,53,54,55,56,57,60,61,62,63,64,65,67]
noncomputable def tU:List Nat:=[10,40,45,46]++yu
noncomputable def jg(h:SH):SH:=(((((((h.set (.mk 51 []) (.dict [])).set (.mk 52 []) (.dict [])).set jn (.dict [])).set iR (.dict [])).set (.mk 53 []) (.list [])).set (.mk 54 []) (.list [])).set (.mk 55 []) (.list [])).set dg (.inst 427 (nK 0))
theorem yw{k:Nat}{l:List Nat}(hk:([51,52,32,33,53,54,55,30]:List Nat).contains k=an):jg h (.mk k l)=h (.mk k l):=by
 have ne:∀a∈([51,52,32,33,53,54,55,30]:List Nat),∀l',Nm.mk k l≠.mk a l':=λa ha l' e=>by injection e with e;subst e;rw[e9.mpr ha] at hk;exact iY hk
 unfold jg;exact(aq (ne 30 bQ _)).trans ((aq (ne 55 bQ _)).trans ((aq (ne 54 bQ _)).trans ((aq (ne 53 bQ _)).trans ((aq (ne 33 bQ _)).trans ((aq (ne 32 bQ _)).trans ((aq (ne 52 bQ _)).trans (aq (ne 51 bQ _))))))))
theorem Jv(M:Nat):Kq tU M h (jg h):=⟨λk l hk=>yw (by
 cases z:([51,52,32,33,53,54,55,30]:List Nat).contains k with
 |false=>rfl
 |true=>rw[(aW:∀a∈([51,52,32,33,53,54,55,30]:List Nat),(99::tU).contains a=ab) k (e9.mp z)] at hk;exact iY hk),λk l _=>yw rfl⟩
theorem GW.same(G:GW R h)(e:∀k l,(kD++[10,40,42,44]:List Nat).contains k=ab→h' (.mk k l)=h (.mk k l)):GW R h':=by
 obtain⟨es,a,c,d⟩:=G.names;obtain⟨ns,a2,c2,d2⟩:=G.ii;exact⟨(e 34 _ rfl).trans G.gr,(e _ _ rfl).trans G.fg,(cL es ((e _ _ rfl).trans a) (λs hs=>⟨(c s hs).1,(e 40 _ rfl).trans (c s hs).2⟩) d),(e _ _ rfl).trans G.term,(cL ns ((e _ _ rfl).trans a2) (c2.same (λl=>e 44 l rfl) (ar _)) d2),(e _ _ rfl).trans G.first,(e _ _ rfl).trans G.nC,(e _ _ rfl).trans G.prec,λj hj=>⟨(e 10 _ rfl).trans (G.pr j hj).1,(e 42 _ rfl).trans (G.pr j hj).2⟩⟩
theorem ab0:∀s:Str,(iJ.lookup (.str s)).isSome=dW.contains s:=λs=>by
 have d:∀t:Str,(SV.str s==SV.str t)=(s==t):=λt=>by
  by_cases e:s=t
  ·subst e;rw[qF _,qF _]
  ·rw[k9.mpr e,k9.mpr λz=>e (by injection z)]
 unfold iJ dW;simp only[k_,w8,d]
 cases(s==("a":Str))<;>cases(s==("b":Str))<;>cases(s==("error":Str))<;>rfl
theorem Τ{es:b7}(I:gS h es m)(all:∀s∈a8,(es.lookup (.str s)).isSome=ab):∃ns:List Str,es.map (·.1)=ns.map .str∧ns.Nodup∧(∀s∈ns,s∈a8)∧∀s∈a8,s∈ns:=by
 have key:∀p∈es,∃s∈a8,p.1=.str s:=λp hp=>by
  cases e:es.lookup p.1 with
  |none=>exact bc (bB.mpr (aU p hp rfl):p.1∈es.map (·.1)) (lW.mp e)
  |some v=>refine bH (I.key _ _ e) λs hs z _=>?_;exact(aU s hs z)
 have hn:∃ns:List Str,es.map (·.1)=ns.map .str∧∀s∈ns,s∈a8:=by
  clear I all
  induction es with
  |nil=>exact(aU ([]) rfl (λ_ z=>by exact cS z))
  |cons p r ih=>
   refine aj (ih λp hp=>key p (eT _ hp)) λns a c=>?_;refine aj (key p dA) λs hs e=>?_;exact(aU (s::ns) (by rw[sI,sI,a,e]) (λt ht=>(dE.mp ht).elim (λz=>z▸hs) (c t)))
 refine aj hn λns a c=>?_;clear hn;refine(ik ns a ?_ c (λs hs=>?_))
 ·have nd:=I.nd
  rw[a] at nd;exact aja SV.str (λa b z e=>z (ay _ e)) nd
 ·have:(SV.str s)∈es.map (·.1):=by
   cases z:decide (SV.str s∈es.map (·.1)) with
   |true=>exact fC z
   |false=>have:=all s hs;rw[lW.mpr (sk z)] at this;exact cM this
  rw[a] at this;exact jQ.mp this
theorem Vd(g:GR R)(J:BJ R aN aA R.length 0 N h)(si:∀j,j<R.length→h (.mk 42 [j])=aa (.list ((g6 [] (aG R j)).map .str)))(tb:h dg=aa (.inst 427 (nK 0)))(ca:h jn=aa (.dict []))(Sp:∀l,h (.mk 31 l)=af):cX R (gz R) 0 N h:=by
 have hl:=g.len;refine⟨⟨J.free,λq hq=>?_,λj hj=>(aU ([]) ?_ ⟨b_ _,.inl rfl,.inl rfl⟩),tb,QQ _,by exact ah ‹_› aJ,λj=>by have:=g.bu j;exact ah ‹_› aJ⟩,⟨λ_ _=>af,[],ca,.nil,λ_ _ e=>(by(first|exact a7 e|obtain rfl:=aY e)),λx _ ps=>Sp _,λ_ _ _ _ e=>(a7 e),λ_ _ e=>(cM e),λ_ _ _ _ e=>(cM e)⟩,by have:=EU g;exact ah ‹_› aJ⟩
 ·have:=J.done q hq (.inl hq.1)
  exact(cF this.1 this.2 (si q.1 hq.1))
 ·rw[gP _];exact(J.kK j hj hj).1
theorem GR.Hq(g:GR R):∀j,0<j→j<R.length→bE R j∈a8:=λj h0 hj=>by
 rcases g.nm j h0 hj with e|e|e<;>rw[e]<;>exact aW
theorem GR.MU(g:GR R):∀j,j<R.length→∀s∈aG R j,s∈e8:=λj hj s hs=>by
 rcases sJ j with rfl|h0
 ·rw[g.pI,bS] at hs;subst hs;exact aW
 ·have:∀s∈(["a","A","b","B","error"]:List Str),s∈e8:=aW
  exact this s (g.sy j s h0 hs)
structure ZE(R:bm)(N:Nat)(h h':SH)(c':Int)(N':Nat):Prop where
 w:cX R (gz R) c' N' h'
 gr:iI R h'
 nB:∀j,j<R.length→h' (.mk 43 [j])=aa (.list ((bo ((aG R j).length+1)).map λd=>a9 (j,d)))
 kq:Kq tU N h h'
 le:N≤N'
theorem Wj{ns:List (SV×SV)}{nj:List Str}{s:Str}(e1:ns.map (·.1)=nj.map .str)(e3:∀s∈nj,s∈a8)(e4:∀s∈a8,s∈nj):(ns.lookup (.str s)).isSome=qE s:=by
 cases z:ns.lookup (.str s) with
 |some v=>exact(wC.mpr (e3 s (jQ.mp (e1▸Dh λn=>a7 ((lW.mpr n).symm.trans z))))).symm
 |none=>exact(DC.mpr λw=>lW.mp z (e1▸jQ.mpr (e4 s (wC.mp w)))).symm
theorem ae2(hb:i.b=b+6)(g:GR R)(h1:1<R.length∧bE R 1="S")(G:GW R h)(B:bp h N)(no:∀k∈yu,∀l,h (.mk k l)=af)(iM:∀a c,h (.mk 40 [a,c])=af):
  FP i h (.glob 427) [.ref aX,.str "SLR"] (λv h'=>v=.ref dg∧∃c' N',ZE R N h h' c' N'):=by
 refine cls (b:=b+5) (fI:=333) (n:=dg) rfl hb (no 30 bQ _) (enter (b:=b+4) i.K.tabinit RI w_ti rfl rfl ?_);have c7:=g.len;refine cf (bt n_ (eC (n:=gN N) (aB cw (aB cw aL)) (aE B.at)) (v_ (.own aS) aW (by rfl))) (aH ?_);refine(?_:SS _ _ ((h.set dg (.inst 427 [])).set (gN N) (.list [.str "SLR",.str "LALR"])) _ _);rw[Ab (n:=dg) (m:=gN N) az]
 have kg:Kq tU N h (h.set (gN N) (.list [.str "SLR",.str "LALR"])):=.new (ar _);have og:∀{k l},k≠99→(h.set (gN N) (.list [.str "SLR",.str "LALR"])) (.mk k l)=h (.mk k l):=λ{k l} hk=>aq λe=>hk (Nm.mk.inj e).1;have B1:bp (h.set (gN N) (.list [.str "SLR",.str "LALR"])) (N+1):=B.new _ _;have G1:GW R (h.set (gN N) (.list [.str "SLR",.str "LALR"])):=G.same λk l hk=>og λe=>by subst e;exact cM hk
 have qB:∀k∈yu,∀l,(h.set (gN N) (.list [.str "SLR",.str "LALR"])) (.mk k l)=af:=λk hk l=>(og λe=>by subst e;revert hk;exact aW).trans (no k hk l);have JC:∀a c,(h.set (gN N) (.list [.str "SLR",.str "LALR"])) (.mk 40 [a,c])=af:=λa c=>(og bG).trans (iM a c);have Hd:N≤N+1:=bR N;generalize h.set (gN N) (.list [.str "SLR",.str "LALR"])=hg at kg B1 G1 qB JC ⊢;refine fH n_ n_ ?_;refine fH n_ n_ ?_;refine j_ (m:=.mk 51 []) (gR (show hg _=af from qB 51 bQ _)) az n_ ?_;refine j_ (m:=.mk 52 []) (gR (show hg _=af from qB 52 bQ _)) az n_ ?_;refine fH (a_ (n:=aX) n_ (aE (aE (aE G1.gr)))) n_ ?_;refine j_ (m:=jn) (gR (show hg _=af from qB 32 bQ _)) az n_ ?_;refine j_ (m:=iR) (gR (show hg _=af from qB 33 bQ _)) az n_ ?_;refine fH bD n_ ?_;refine fH bD n_ ?_;refine fH bD n_ ?_;refine j_ (m:=.mk 53 []) (eC aL (show hg _=af from qB 53 bQ _)) az n_ ?_;refine j_ (m:=.mk 54 []) (eC aL (show hg _=af from qB 54 bQ _)) az n_ ?_;refine j_ (m:=.mk 55 []) (eC aL (show hg _=af from qB 55 bQ _)) az n_ ?_;refine(?_:SS _ _ (jg hg) _ _);refine SS.sub (ey:=[("self",.ref dg)]) ?_ (ai br);have kt:Kq tU N h (jg hg):=kg.trans (Jv _) (ar _);have Gt:GW R (jg hg):=G1.same λk l hk=>yw (by
  exact(aW:∀k∈(kD++[10,40,42,44]:List Nat),([51,52,32,33,53,54,55,30]:List Nat).contains k=an) k (e9.mp hk))
 have Bt:bp (jg hg) (N+1):=B1.kq λM=>Jv M;have nt:∀k∈yu,([51,52,32,33,53,54,55,30]:List Nat).contains k=an→∀l,jg hg (.mk k l)=af:=λk hk hc l=>(yw hc).trans (qB k hk l);have xC:jg hg dg=aa (.inst 427 (nK 0)):=aS;have OF:jg hg jn=aa (.dict []):=rfl;have Mh:jg hg iR=aa (.dict []):=rfl;have Op:jg hg (.mk 51 [])=aa (.dict []):=rfl;have JR:jg hg (.mk 52 [])=aa (.dict []):=rfl;have MZ:jg hg (.mk 54 [])=aa (.list []):=rfl;have I4:jg hg (.mk 55 [])=aa (.list []):=rfl;have MH:∀a c,jg hg (.mk 40 [a,c])=af:=λa c=>(yw rfl).trans (JC a c);generalize jg hg=tj at kt Gt Bt nt xC OF Mh Op JR MZ I4 MH ⊢;have BI:yh R tj:=⟨Gt,g.Hq,g.len,g.bu⟩;refine r_ (dp (a_ n_ xC) (iU Gt.gr rfl) (i.K.keep rfl) aL (Zv (b:=b+1) rfl BI Bt (λq=>nt 20 bQ rfl _) (λa c=>nt 60 bQ rfl _) MH (λa=>nt 43 bQ rfl _)).cp) ?_;rintro v h2 ⟨rfl,N2,J⟩;have k2:Kq uR (N+1) tj h2:=J.kq;have o2:∀{k l},(99::uR).contains k=an→h2 (.mk k l)=tj (.mk k l):=λ{k l} hk=>k2.1 k l hk;obtain⟨kf,m1,m2,m3⟩:=Gt.ii;have G2:GX R h2:=⟨(o2 rfl).trans Gt.gr,MM BI k2 J.tJ,(o2 rfl).trans Gt.term,(aU kf ((o2 rfl).trans m1) (Τ m2 m3)),λj hj=>(J.kK j hj hj).1,(o2 rfl).trans Gt.fg,(o2 rfl).trans Gt.prec,g.len,g.MU,g.bu,g.Hq⟩;refine r_ (dp (a_ n_ ((o2 rfl).trans xC)) (iU G2.gr rfl) (i.K.keep rfl) aL (ν (b:=b+2) rfl G2 ((o2 rfl).trans Gt.first) (λl=>(o2 rfl).trans (nt 47 bQ rfl l)) J.free).cp) ?_;rintro v h3 ⟨rfl,F,N3,lC⟩;have o3:∀{k l},(99::[45,47]:List Nat).contains k=an→h3 (.mk k l)=h2 (.mk k l):=λ{k l} hk=>lC.kq.1 k l hk;have G3:=G2.kq lC.kq;refine r_ (dp (a_ n_ ((o3 rfl).trans ((o2 rfl).trans xC))) (iU G3.gr rfl) (i.K.keep rfl) aL (adg (b:=b+2) rfl G3 lC.I lC.kb lC.s5 h1.1 h1.2 ((o3 rfl).trans ((o2 rfl).trans Gt.nC)) (λl=>(o3 rfl).trans ((o2 rfl).trans (nt 48 bQ rfl l))) ((o3 rfl).trans ((o2 rfl).trans (nt 67 bQ rfl []))) lC.free).cp) ?_;rintro v h4 ⟨rfl,Fl,N4,L⟩;have pS:∀{k l},(99::[45,46,47,48,67]:List Nat).contains k=an→h4 (.mk k l)=h2 (.mk k l):=λhk=>((λ{k l} hk=>L.kq.1 k l hk:∀{k l},(99::[46,48,67]:List Nat).contains k=an→h4 (.mk k l)=h3 (.mk k l)) (sO hk)).trans (o3 (sO hk));have qc:∀{k l},(99::[10,20,40,43,60,45,46,47,48,67]:List Nat).contains k=an→h4 (.mk k l)=tj (.mk k l):=λhk=>(pS (sO hk)).trans (o2 (sO hk));have G4:=G3.kq L.kq;have W2:cX R (gz R) 0 N2 h2:=Vd g J (λj hj=>(o2 rfl).trans (Gt.pr j hj).2) ((o2 rfl).trans xC) ((o2 rfl).trans OF) (λl=>(o2 rfl).trans (nt 31 bQ rfl l));have W4:cX R (gz R) 0 N4 h4:=kc W2.ca λT es C=>
  ⟨⟨L.free,λq hq=>have z:=W2.tb.it q hq;⟨(pS rfl).trans z.1,(pS rfl).trans z.2.1,(pS rfl).trans z.2.2⟩,λj hj=>aj (W2.tb.pr j hj) λx a c=>⟨x,(pS rfl).trans a,c⟩,(pS rfl).trans W2.tb.tb,W2.tb.hc,W2.tb.hR,W2.tb.hr⟩,⟨T,es,C.mono (lC.kq.2.trans L.kq.2 lC.le) (ah lC.le L.le) (λl=>pS rfl) (pS rfl)⟩,W2.hU⟩
 have Uj:iI R h4:=aj L.I λes a c=>Λ G4.ii λns n1 nj e1 e2 e3 e4=>⟨G4.gr,G4.fg,⟨iJ,G4.term,ab0⟩,⟨ns,n1,λs=>Wj e1 e3 e4⟩,⟨es,a,λs hs=>have z:=c s (wC.mp hs);have y:=L.s4 s (wC.mp hs);⟨z.1,Fl s,z.2,y.1,y.2⟩⟩,G4.prec⟩;refine r_ (dp n_ (iU W4.tb.tb rfl) (i.K.keep rfl) aL (VU (b:=b) rfl g (List.Subset.refl _) W4 (⟨Uj,(qc rfl).trans Mh,(qc rfl).trans (nt 56 bQ rfl _),λj=>(qc rfl).trans (nt 57 bQ rfl _),(qc rfl).trans Op,(qc rfl).trans JR,(qc rfl).trans MZ,(qc rfl).trans I4,(qc rfl).trans (nt 65 bQ rfl _),λk hk j _=>(qc (mK hk)).trans (nt k (VE hk) (mK hk) _)⟩:Pq R h4)).cp) ?_;rintro v h5 ⟨rfl,c',N',W5,RF,k5,tS⟩;refine aH (bK ⟨rfl,rfl,c',N',W5,RF,λj hj=>(k5.1 _ _ rfl).trans ((pS rfl).trans (J.kK j hj hj).2),?_,?_⟩)
 ·exact(kt.trans ((k2.mono.trans lC.kq.mono J.le).trans (L.kq.mono) (ah J.le lC.le):Kq tU (N+1) tj h4) Hd).trans (M:=N4) k5.mono (ah Hd (ah J.le (ah lC.le L.le)):N≤N4)
 ·exact ah Hd (ah J.le (ah lC.le (ah L.le tS)))
theorem Ea(hb:i.b=b+1)(B:bp h N):FP i h (.glob 438) [] (is (.ref (gN N)) (h.set (gN N) (.list (a8.map .str)))):=
 enter (l:=[]) (gs:=[]) i.K.NAMES rfl rfl hb rfl (gJ (eC (aB cw (aB cw (aB cw aL))) B.at) ⟨rfl,rfl⟩)
noncomputable def Ask:List Str:=["a","A","b","B","error","S","c"]
theorem YV(hb:i.b=b+1)(B:bp h N):FP i h (.glob 446) [] (is (.ref (gN N)) (h.set (gN N) (.list (Ask.map .str)))):=
 enter (l:=[]) (gs:=[]) i.K.ASKED rfl rfl hb rfl (gJ (eC (aB cw (aB cw (aB cw (aB cw (aB cw (aB cw (aB cw aL))))))) B.at) ⟨rfl,rfl⟩)
noncomputable def oS(F:FD)(l:List Str):Bool:=l.all λx=>sW F x && !(x==("__debug__":Str))
theorem lY{l:List Str}{v:SV}{x:Str}{pos:Pos}(V:oS i.F l=ab)(hx:autoParam (fr.lookup x=aa v) dI)(hl:autoParam (l.contains x=ab) bl):EV i fr h (.Name x pos) v h:=by
 have p:=(bO _ _).mp (dc.mp V x (e9.mp hl));exact⟨λfr' s Q X hq=>Nb (s _ _ hx) p.1 ((jL _).mp p.2) hq⟩
noncomputable def gB(t:List Int):Int:=t.headD 0
theorem Ni{vs:List SV}(hn:h n=aa (.list vs)):MV i h (.ref n) "pop" (.bi "list.pop"):=⟨λfr'=>FN hn Qw PySem.F.type_list_pop⟩
theorem Wo{vs:List SV}{v:SV}(hn:h n=aa (.list (v::vs)))(hz:vs.length<cR):CP i h (.bi "list.pop") [.ref n,.int 0] (is v (h.set n (.list vs))):=⟨λfr' Q X hq=>Wu hn hz (hq _ _ ⟨rfl,rfl⟩)⟩
theorem acl{vs:List SV}{v:SV}(hn:h n=aa (.list (vs++[v])))(hz:vs.length<cR):CP i h (.bi "list.pop") [.ref n] (is v (h.set n (.list vs))):=⟨λfr' Q X hq=>U3 hn hz (hq _ _ ⟨rfl,rfl⟩)⟩
theorem vV{t:List Int}(hb:i.b=b+1)(hn:h n=aa (.list (t.map .int)))(hz:t.length≤20):FP i h (.glob 453) [.ref n] (is (.int (gB t)) (h.set n (.list (t.tail.map .int)))):=by
 refine enter (l:=["tape"]) (gs:=[]) i.K.next (by kernel_rfl) rfl hb rfl (gJ ?_ ⟨rfl,rfl⟩)
 cases t with
 |nil=>rw[show h.set n (.list (([]:List Int).tail.map .int))=h from SH.jb hn];exact Kg (p_ n_ (lS (.own hn) bg)) bD
 |cons x r=>exact Nj (p_ n_ (lS (.own hn) (by rw[aI _];exact bd ‹_› bg))) (g9 n_ (Ni hn) rfl (aB bD aL) (Wo (vs:=r.map .int) hn (by rw[aI _];refine(?_:_≤2^24);have:=hz;rw[iE] at this;exact ah ‹_› aJ)))
theorem t8{n j:Nat}{h:SH}:jk (.range 0 n) j h=aa (if j<n then aa (.int j) else af):=by
 rw[jk,Int.zero_add _]
noncomputable def mI:List Str:=["a","A","b","B","error"]
noncomputable def uT(x:Int):Nat:=(x % 5).toNat
theorem GU{x:Int}:uT x<5:=uY (k:=5) (dK _)
theorem Zc{x:Int}:x % 5=(uT x:Int):=xD (k:=5) (dK _)
noncomputable def gp(t:List Int)(j:Nat):List Str:=(bo j).map λk=>mI.getD (uT (t.getD k 0)) ""
theorem Tf{t:List Int}{j:Nat}:gB (t.drop j)=t.getD j 0:=by
 unfold gB;rw[List.headD_eq_head?_getD,List.head?_drop,pn]
theorem W6{t:List Int}{j:Nat}:∀s∈gp t j,s∈mI:=λs hs=>by
 obtain⟨k,_,rfl⟩:=bB.mp hs;have:=@GU (t.getD k 0);exact(aW:∀m<5,mI.getD m ""∈mI) _ this
theorem FT{t:List Int}{j:Nat}:(gp t j).length=j:=by unfold gp;rw[aI _,dS]
noncomputable def ft(t:List Int):Nat:=(gB t % 3).toNat
theorem tZ{n:Int}:CP i h (.ty "range") [.int n] (is (.range 0 n) h):=⟨λfr' Q X hq=>Sz (hq _ _ ⟨rfl,rfl⟩)⟩
noncomputable def nI(s:bx):Expr:=(kS s).2.2.1.getD (.Constant .none 0 ⟨0,0,0,0⟩)
noncomputable def kE:Expr→List Expr×cb×List Expr
 |.Call _ as _ _=>(as,default,[])
 |.Tuple as _ _=>(as,default,[])
 |.List as _=>(as,default,[])
 |.BinOp a _ b _=>([a,b],default,[])
 |.IfExp _ a _ _=>([a],default,[])
 |.ListComp a gs sc _=>([a],sc,gs.flatMap (·.ifs))
 |_=>([],default,[])
noncomputable def qA(k:Nat)(e:Expr):Expr:=(kE e).1.getD k (.Constant .none 0 ⟨0,0,0,0⟩)
noncomputable def dD(e:Expr):cb:=(kE e).2.1
noncomputable def FA:Expr:=qA 0 (qA 1 (nI (stN (ba 458) 1)))
theorem Yi:cq (bC 458) ["tape","name","count"]=ab:=by kernel_rfl
theorem w_ru:cZ (bC 458) ["_law_next","range","tuple"]=ab:=by kernel_rfl
theorem adu:cq (da (dD FA) (bC 458)) ["_"]=ab:=by kernel_rfl
theorem Y3:oS (da (dD FA) (bC 458)) ["tape"]=ab:=by kernel_rfl
theorem w_ru1:cZ (da (dD FA) (bC 458)) ["_law_SYMBOLS","_law_next"]=ab:=by kernel_rfl
theorem Pg{t:List Int}(hb:i.b=b+2)(hn:h (.mk m [])=aa (.list (t.map .int)))(hm:m≠99)(hz:t.length≤20)(B:bp h N):FP i h (.glob 458) [.ref (.mk m []),.str nm]
  (is (.tup [.str nm,.tup ((gp t.tail (ft t)).map .str)]) ((h.set (.mk m []) (.list ((t.tail.drop (ft t)).map .int))).set (gN N) (.list ((gp t.tail (ft t)).map .str)))):=by
 have l3:ft t<3:=uY (k:=3) (dK _);have CY:Nm.mk m []≠gN N:=λe=>hm (Nm.mk.inj e).1;refine enter (b:=b+1) i.K.rule Yi w_ru hb rfl ?_;refine bM (fM (b8 (i.K.ref rfl) (i.K.keep rfl) (aB n_ aL) (vV (b:=b) rfl hn hz).cp) bD (tO aW)) ?_;rw[(xD (k:=3) (dK _):gB t % 3=(ft t:Int))];have qn:(h.set (.mk m []) (.list (t.tail.map .int))) (gN N)=af:=(aq λe=>CY e.symm).trans B.at;refine gJ (eY (aB n_ (aB (b8 (i.K.ty rfl) rfl (aB (EP.ev (EP.imp (yx (acc:=gN N) (P:=λh'=>h'=((h.set (.mk m []) (.list (t.tail.map .int))).set (.mk m []) (.list ((t.tail.drop (ft t)).map .int))).set (gN N) (.list ((gp t.tail (ft t)).map .str))) adu w_ru1 rfl (uu (b8 (i.K.ty rfl) rfl (aB n_ aL) tZ) (ah ‹_› aJ)) qn ?_) λv h' q=>q)) aL) (AN (vs:=(gp t.tail (ft t)).map .str) (.own aS) (by rw[aI _,FT];refine(?_:_≤2^24);exact cj (i4 ‹_› bg)))) aL))) ?_
 ·refine rF (σ:=Nat) (λj=>((h.set (.mk m []) (.list (t.tail.map .int))).set (.mk m []) (.list ((t.tail.drop j).map .int))).set (gN N) (.list ((gp t.tail j).map .str))) (λs j=>s=j∧j≤ft t) 0 (ft t) ⟨rfl,b_ _⟩ (λ_ _ e=>e.2) (λs j e=>?_) rfl rfl ?_
  ·obtain⟨rfl,hj⟩:=e
   refine(cL _ t8 (λe=>?_) (λv e=>?_))
   ·split at e
    ·exact fu e
    ·have:s=ft t:=qQ hj (js.mp ‹_›)
     subst this;rfl
   ·split at e
    ·next hlt=>
     obtain rfl:=aY e;refine(t9 hlt _ ab (l9 rfl) (gv rfl) xN (λe=>(iY e)) (λ_=>?_));have l1:(t.tail.drop s).length≤20:=by rw[zX,pF];exact ah (ku _ _) (ah (ku _ _) ‹_›)
     refine qe (P:=is (.str (mI.getD (uT (t.tail.getD s 0)) "")) (((((h.set (.mk m []) (.list (t.tail.map .int))).set (.mk m []) (.list ((t.tail.drop s).map .int))).set (gN N) (.list ((gp t.tail s).map .str)))).set (.mk m []) (.list ((t.tail.drop s).tail.map .int)))) ?_ ?_
     ·refine EV.ep (mx (j:=uT (t.tail.getD s 0)) (vs:=mI.map .str) (g_ (v:=.glob 439) (i.K.ref rfl)) (fM (b8 (i.K.ref rfl) (i.K.keep rfl) (aB (lY Y3) aL) (vV (b:=b) rfl ((aq CY).trans aS:(((h.set (.mk m []) (.list (t.tail.map .int))).set (.mk m []) (.list ((t.tail.drop s).map .int))).set (gN N) (.list ((gp t.tail s).map .str))) (.mk m [])=aa (.list ((t.tail.drop s).map .int))) l1).cp) bD ?_) (.base i.K.sym) (i4 GU bg) ?_)
      ·rw[←Zc,←Tf];exact tO aW
      ·exact(aW:∀m<5,(mI.map SV.str)[m]? =aa (.str (mI.getD m ""))) _ GU
     ·rintro v h1 ⟨rfl,rfl⟩
      refine(nQ _ ((aq CY.symm).trans aS) (by rw[aI _,FT];refine(?_:_≤2^24);exact cj (bd hj (bI l3 aJ))) (s+1) ⟨rfl,hlt⟩ ?_);rw[Ab CY.symm,iF,iF,List.tail_drop,iF,iF,show gp t.tail (s+1)=gp t.tail s++[mI.getD (uT (t.tail.getD s 0)) ""] from by unfold gp;rw[w_,dN];rfl,dN];rfl
    ·exact a7 e
  ·rw[show t.tail.drop 0=t.tail from rfl,iF];rfl
 ·exact⟨rfl,by rw[iF]⟩
theorem Y7:cq (bC 473) ["items"]=ab:=by kernel_rfl
noncomputable def YR(e:Expr):Expr:=qA 0 e
noncomputable def R4:Expr:=YR (nI (stN (ba 473) 0))
theorem RK:cq (da (dD R4) (bC 473)) ["item"]=ab:=by kernel_rfl
theorem Gy{v:SV}(hb:i.b=b+1)(hv:Told h v I)(hI:∀q∈I,cY R q)(it:vP R h)(B:bp h N)(hz:I.length≤1000):FP i h (.glob 473) [v] (is (.ref (gN N)) (h.set (gN N) (.list (I.map aM)))):=by
 refine enter (gs:=[]) i.K.told Y7 rfl hb rfl (gJ ?_ ⟨rfl,rfl⟩)
 by_cases rh:I=[]
 ·subst rh
  refine Kg (ag:=h) (p_ n_ ?_) (eC aL B.at);rcases hv with⟨rfl,_⟩|⟨n,rfl,hn⟩
  ·exact nu
  ·exact lS (.own hn) bg
 ·refine aj (hv.resolve_left λe=>rh e.2) λn bq hn=>?_;subst bq
  have ng:n≠gN N:=λe=>by rw[e,gN,B.at] at hn;exact a7 hn
  refine Nj (p_ n_ ((by cases I with|nil=>exact bc rfl rh|cons _ _=>rfl:(!(I.map a9).isEmpty)=ab)▸lS (.own hn) (by rw[aI _];exact bd ‹_› bg))) (BD (l:=["item"]) (ls:=[]) (us:=I.map aM) RK rfl ?_ (d8 n_ hn) (B.at (l:=[])) (λws j=>d6 ((aq ng).trans hn)) (by rw[aI _,aI _]) (by rw[aI _];refine(?_:_≤2^24);exact ah ‹_› aJ) rfl ?_)
  ·kernel_rfl
  ·intro ws j v u e1 e2
   refine aj (dH e1) λq hq ax=>?_;subst ax;rw[dv,hq] at e2
   (first|exact a7 e2|obtain rfl:=aY e2)
   have A:=(it q (hI q (bN hq))).1;exact eY (aB (a_ (n:=bh q) n_ A) (aB (a_ (n:=bh q) n_ A) aL))
noncomputable def pV(p:Str×Str):SV:=.tup [.str p.1,.str p.2]
noncomputable def di(r:Str×List Str):SV:=.tup [.str r.1,.tup (r.2.map .str)]
noncomputable def gK(r:Str×List Str):Option (Str×Str):=match r.2 with
 |s::_=>if s∈a8 then aa (r.1,s) else af
 |[]=>af
noncomputable def sq(P:List (Str×Str)):List (Str×Str):=P.flatMap λp=>P.filterMap λq=>if q.1=p.2 then aa (p.1,q.2) else af
noncomputable def GP:Expr:=nI (stN (ba 463) 0)
noncomputable def GY:Expr:=qA 1 (qA 0 (qA 0 (nI (stN (d_ (stN (ba 463) 1)) 0))))
theorem NC:cq (bC 463) ["rules","pairs","_"]=ab:=by kernel_rfl
theorem w_co:cZ (bC 463) ["range","sorted","set"]=ab:=by kernel_rfl
theorem Wx:cq (da (dD GP) (bC 463)) ["name","symbols"]=ab:=by kernel_rfl
theorem w_co1:cZ (da (dD GP) (bC 463)) ["_law_NAMES"]=ab:=by kernel_rfl
theorem XP:cq (da (dD GY) (bC 463)) ["one","y","x","z"]=ab:=by kernel_rfl
theorem Xx:oS (da (dD GY) (bC 463)) ["pairs"]=ab:=by kernel_rfl
theorem J6{t:Bool}{pos:Pos}(a:EB i fr h e t ag):EB i fr h (.BoolOp .And [e] pos) t ag:=by
 cases t with
 |false=>exact oN a
 |true=>exact lH a Bk
structure NM where
 ps:List (Str×Str)
 N:Nat
 h:SH
structure Af(aN:Nat)(aA:SH)(ps:List (Str×Str))(N:Nat)(h:SH):Prop where
 acc:h (gN aN)=aa (.list (ps.map pV))
 free:bp h N
 le:aN+1≤N
 kq:Kq [] aN aA h
noncomputable def xc(i:FI)(b:Nat):FI:=i.fn b 463 ["rules","pairs","_"] ["range","sorted","set"] NC w_co
theorem kA{a c:Nat}(e:a≠c):gN a≠gN c:=λz=>e (by injection z with _ z;injection z)
theorem ZK{s:Str}{l:List Str}:(SV.str s∈l.map SV.str)↔s∈l:=⟨λh=>by refine aj (bB.mp h) λt a c=>?_;injection c with c;exact c▸a,λh=>bB.mpr (aU s h rfl)⟩
theorem Rq(hn:h (.mk 71 [])=aa (.list (R.map di)))(hz:R.length≤5)(hr:∀r∈R,r.2.length≤2)(F:bp h N)
  (fin:∀h' M,Af N h (R.filterMap gK) M h'→SS (xc i (b+1)) [("rules",.ref (.mk 71 [])),("pairs",.ref (gN N))] h' [(ba 463).drop 1] Q):
  SS (xc i (b+1)) [("rules",.ref (.mk 71 []))] h [ba 463] Q:=by
 refine wz (acc:=gN N) (P:=λh'=>∃M,Af N h (R.filterMap gK) M h') Wx w_co1 (by kernel_rfl) (d8 n_ hn) F.at ?_ λh' ⟨M,J⟩=>fin h' M J;refine Am (σ:=NM) NM.h (λs j=>s.ps=(R.take j).filterMap gK∧Af N h s.ps s.N s.h) ⟨[],N+1,_⟩ R.length ⟨rfl,aS,F.new _ _,ar _,.new (ar _)⟩ ?_;rintro t j ⟨e1,J⟩;refine(cL _ (d6 ((J.kq.1 _ _ rfl).trans hn:t.h (.mk 71 [])=aa (.list (R.map di)))) (λe=>?_) (λv e=>?_))
 ·have:R.length≤j:=by have:=km.mp e;rwa [aI] at this
  rw[na this] at e1;exact⟨t.N,e1▸J⟩
 ·refine aj (dH e) λr q_ ax=>?_;subst ax
  have T_:=hr r (bN q_);have tk:(R.take (j+1)).filterMap gK=(R.take j).filterMap gK++(gK r).toList:=by
   rw[jN,q_,sD];refine ay (_++·) ?_;show uK gK [r]=_;rw[qP]
   cases gK r<;>rfl
  have plen:t.ps.length≤5:=by rw[e1];exact ah (uM _ _) (ah (by rw[jH];exact pD _ _) hz)
  refine(A9 ((cV.mp q_).1) (((gX (dD GP) [("rules",SV.ref (.mk 71 []))]).put "name" (.str r.1)).put "symbols" (.tup (r.2.map .str))) ?_);obtain⟨a,ss⟩:=r
  cases ss with
  |nil=>exact⟨an,t.h,at2 rfl,((gv rfl).trans (gv rfl)),(B6 (oN (p_ n_ (BE (vs:=[]) bg)))),(λ_=>(aU t ⟨by rw[tk,e1];exact(gP _).symm,J⟩ rfl)),(λe=>(cM e))⟩
  |cons s0 sr=>
   have J2:Af N h t.ps (t.N+1) (t.h.set (gN t.N) (.list (a8.map .str))):=⟨(aq (kA (by have:=J.le;exact du ‹_›))).trans J.acc,J.free.new _ _,c8 J.le,J.kq.trans (.new (ar _)) (ah (bR _) J.le)⟩;refine⟨decide (s0∈a8),(t.h.set (gN t.N) (.list (a8.map .str))),at2 rfl,((gv rfl).trans (gv rfl)),(B6 (lH (ag:=t.h) (p_ n_ (BE (vs:=.str s0::sr.map .str) (by rw[iE,aI _];rw[iE] at T_;exact bd ‹_› bg))) (J6 (ag:=t.h.set (gN t.N) (.list (a8.map .str))) (bt (u:=.str s0) (w:=.ref (gN t.N)) (mV (j:=0) n_ bD bg rfl) (b8 (i.K.ref rfl) (i.K.keep rfl) aL (Ea (b:=b) rfl J.free).cp) ?_)))),λe=>?_,λe=>?_⟩
   ·rw[show decide (s0∈a8)=decide (SV.str s0∈a8.map SV.str) from mY.mpr ZK.symm]
    exact G5 (.own aS) rfl
   ·exact(aU ⟨t.ps,_,_⟩ ⟨by rw[tk,e1,show gK (a,s0::sr)=af from aK (sk e)];exact(gP _).symm,J2⟩ rfl)
   ·refine qe (EV.ep (eY (aB n_ (aB (mV (j:=0) n_ bD bg rfl) aL)))) ?_
    rintro v h1 ⟨rfl,rfl⟩;refine(nQ _ J2.acc (by rw[aI _];refine(?_:_≤2^24);exact ah ‹_› aJ) ⟨t.ps++[(a,s0)],t.N+1,_⟩ ⟨by rw[tk,e1,show gK (a,s0::sr)=aa (a,s0) from aP (fC e)];rfl,?_⟩ rfl);exact⟨aS.trans (by rw[dN];rfl),J2.free.same λk l hk=>aq λz=>by injection z with _ z;injection z with z;have:=J2.le;exact mi (lb (bF z)) (ah this hk),J2.le,J2.kq.trans ⟨λk l hk=>aq λz=>by injection z with z;exact iz hk (by subst z;rfl) rfl,λk l hk=>aq λz=>by injection z with _ z;injection z with z;exact du ‹_› ‹_›⟩ (ar _)⟩
theorem uc{x:Str}{q pos:Pos}{f:SV}{P Q:QV}(hg:jm i.G x f)(hc:callable i.G f=ab)(a:EP i fr h e P)(b:∀v ag,P v ag→CP i ag f [v] Q)(ok:autoParam ((i.gs.contains x && iQ e)=ab) bl):EP i fr h (.Call (.Name x q) [e] [] pos) Q:=by
 rw[bO] at ok;exact⟨λfr' s Q' X hq=>JY hg (cZ.get i.W ok.1).1 hc (tf (a.run fr' s _ _ λv ag hp=>tz ((b v ag hp).run fr' _ _ hq)) ok.2) (cZ.get i.W ok.1).2 (by rw[DH,ok.2];rfl)⟩
theorem Hc{op:wS}{pos:Pos}{P:QV}{P2:QV}(a:EV i fr h e u ag)(b:EP i fr ag r P)(o:∀w aC,P w aC→∃v cK,OV i aC [u,w] (bw (m7 op)) v cK∧P2 v cK):EP i fr h (.BinOp e op r pos) P2:=
 ⟨λfr' s Q X hq=>Pb (a.run fr' s _ _ (b.run fr' s _ _ λw aC p=>by refine ef (o w aC p) λv cK o p2=>?_;exact o.run fr' _ _ (hq _ _ p2)))⟩
def Wi(i:FI)(fr:SF)(h:SH)(e:Expr)(t:Bool)(P:SH→Prop):Prop:=
 ∀fr',fr.sub fr'→∀Q X,(∀h',P h'→Q t h')→WB i.G i.F i.b fr' h e Q X
abbrev sN(i:FI)(fr:SF)(h:SH)(e:Expr)(t:Bool)(P:SH→Prop):Prop:=Bx (Wi i fr h e t P)
theorem EB.tB{t:Bool}(a:EB i fr h e t h'):sN i fr h e t (· =h'):=⟨λfr' s Q X hq=>a.run fr' s _ _ (hq _ rfl)⟩
theorem BX{op:CmpOp}{pos:Pos}{t:Bool}{P1:QV}{P2:SV→QV}{P:SH→Prop}(a:EP i fr h e P1)(b:∀u ag,P1 u ag→EP i fr ag r (P2 u))(o:∀u w aC,P2 u w aC→OV i aC [u,w] (bw (c5 op)) (.bool t) aC∧P aC)(ok:autoParam (Dp op r=an) dI):sN i fr h (.Compare e [op] [r] pos) t P:=
 ⟨λfr' s Q X hq=>L9 ok (a.run fr' s _ _ λu ag p=>(b u ag p).run fr' s _ _ λw aC p2=>by refine xA (o u w aC p2) λo p=>?_;exact o.run fr' _ _ (Dc (hq _ p)))⟩
theorem Fz{es:List Expr}{t:Bool}{pos:Pos}{P P2:SH→Prop}(a:sN i fr h e an P)(b:∀ag,P ag→sN i fr ag (.BoolOp .Or es pos) t P2):sN i fr h (.BoolOp .Or (e::es) pos) t P2:=
 ⟨λfr' s Q X hq=>ER (a.run fr' s _ _ λag p=>by rw[aK iD];exact(b ag p).run fr' s _ _ hq)⟩
theorem aey{pos:Pos}:sN i fr h (.BoolOp .Or [] pos) an (· =h):=Ao.tB
theorem Ce{t:Expr}{body eZ:List bx}{pos:Pos}{P:SH→Prop}(a:sN i fr h t an P)(b:∀ag,P ag→SS i fr ag (eZ::rest::k) Q):SS i fr h ((.If t body eZ pos::rest)::k) Q:=
 fF ⟨λfr' s Q' hq=>GZ (a.run fr' s _ _ λag p=>by rw[aK iD];exact iH.imp ((b ag p).run _ s) (λf bv ag q=>hq _ _ f q) λ_ _ _ q=>q)⟩
theorem Cc{vs ws:List SV}(hu:de i.G h u vs)(hw:de i.G h w ws)(hz:vs.length+ws.length≤cR)(hn:h n=af):OV i h [u,w] (bw (m7 .Add)) (.ref n) (h.set n (.list (vs++ws))):=⟨λfr' Q X hq=>ach hu hw hz hn hq⟩
theorem CW{vs:List SV}(hu:de i.G h u vs)(hw:de i.G h w vs)(d:eK 6 vs=ab):OV i h [u,w] (bw (c5 .NotEq)) (.bool an) h:=⟨λfr' Q X hq=>U7 hu hw d d (by rw[eQ rfl];exact hq)⟩
theorem Bz{l U:List SV}(hu:de i.G h u l)(iy:∀v∈l,fc v=ab)(hU:U.length<18)(s8:∀v∈l,v∈U)(hn:h n=af):
  CP i h (.ty "set") [u] (λv h'=>v=.ref n∧∃vs:List SV,vs.Nodup∧(∀y,y∈vs↔y∈l)∧h'=h.set n (.set vs)):=⟨λfr' Q X hq=>Rv i.q hu iy hU s8 hn λvs a c=>hq _ _ ⟨rfl,vs,a,c,rfl⟩⟩
theorem Sq{ns n:Nm}{vs:List SV}(hs:h ns=aa (.set vs))(qw:uC vs)(iZ:vs.length<64)(hn:h n=af){Q:QV}(k:∀out:List SV,out.Perm vs→Q (.ref n) (h.set n (.list out))):CP i h (.bi "sorted") [.ref ns] Q:=⟨λfr' Q X hq=>Yf i.q hs qw iZ hn λvs a=>hq _ _ (k vs a)⟩
theorem JW{vs:List SV}{key:SV→Int}(hu:de i.G h u vs)(qw:uC vs)(iZ:vs.length<64)(F5:∀x∈vs,∀y∈vs,lA x y=decide (key x<key y))(nd:(vs.map key).Nodup)(hn:h n=af){Q:QV}
  (k:∀out:List SV,out.Perm vs→out.Pairwise (λx y=>key x<key y)→Q (.ref n) (h.set n (.list out))):CP i h (.bi "sorted") [u] Q:=⟨λfr' Q X hq=>aba hu qw iZ hn λvs a c=>hq _ _ (k vs a (c key F5 nd))⟩
theorem W0{n n':Nm}{vs ws:List SV}(hn:h n=aa (.set vs))(pX:h n'=aa (.set ws))(he:∀y,y∈vs↔y∈ws):OV i h [.ref n,.ref n'] (bw (c5 .NotEq)) (.bool an) h:=⟨λfr' Q X hq=>Zx hn pX λr hr=>by rw[hr.mpr he];exact hq⟩
theorem Z_{vs:List SV}(hn:h n=aa (.set vs))(hz:vs.length<1000):CP i h (.bi "len") [.ref n] (is (.int vs.length) h):=⟨λfr' Q X hq=>YT hn hz (hq _ _ ⟨rfl,rfl⟩)⟩
theorem Wq{vs:List SV}{ts:List Bool}(hl:de i.G h u vs)(ht:vs.map rI=ts.map aa):CP i h (.bi "any") [u] (is (.bool (ts.any id)) h):=⟨λfr' Q X hq=>RT i.q hl ht (hq _ _ ⟨rfl,rfl⟩)⟩
variable{ps:List (Str×Str)}
noncomputable def oX(ps:List (Str×Str))(p:Str×Str):List (Str×Str):=ps.filterMap λq=>if q.1=p.2 then aa (p.1,q.2) else af
theorem Pu{p:Str×Str}:(oX ps p).length≤ps.length:=uM _ _
theorem yE{α β:Type}{f:α→List β}{k:Nat}:∀{l:List α},(∀x∈l,(f x).length≤k)→(l.flatMap f).length≤l.length*k
 |[],_=>b_ _
 |x::l,h=>by
  rw[List.flatMap_cons,cU,iE,QP _ _,sp _ _];exact fp (yE λy hy=>h y (eT _ hy)) (h x dA)
theorem Ze:(sq ps).length≤ps.length*ps.length:=yE λp _=>uM _ _
noncomputable def C8(m:Nat):SF:=[("rules",.ref (.mk 71 [])),("pairs",.ref (gN m))]
theorem Yz(hn:h (gN m)=aa (.list (ps.map pV)))(hz:ps.length≤12)(F:bp h N)(hm:m<N):EV (xc i b) (C8 m) h GY (.ref (gN N)) (h.set (gN N) (.list ((sq ps).map pV))):=by
 have hs:∀(a:List (Str×Str)),(h.set (gN N) (.list (a.map pV))) (gN m)=aa (.list (ps.map pV)):=λa=>(aq (kA (du ‹_›))).trans hn;refine EP.ev (yx (acc:=gN N) (P:=λh'=>h'=h.set (gN N) (.list ((sq ps).map pV))) XP (ls:=[]) rfl (by kernel_rfl) (d8 n_ hn) F.at ?_);refine rF (σ:=List (Str×Str)) (λa=>h.set (gN N) (.list (a.map pV))) (λa j=>j≤ps.length∧a=(ps.take j).flatMap (oX ps)) [] ps.length ⟨b_ _,rfl⟩ (λ_ _ e=>e.1) (λa j ⟨hj,ea⟩=>(cL _ (d6 (hs a)) (λe=>?_) (λv e=>?_))) rfl rfl rfl
 ·have:ps.length≤j:=by have:=km.mp e;rwa [aI] at this
  rw[ea,na this];rfl
 ·refine aj (dH e) λp hp ax=>?_;subst ax
  have hj:=(cV.mp hp).1;have tk:(ps.take (j+1)).flatMap (oX ps)=a++oX ps p:=by rw[jN,hp,ajb,ea];exact ay (_++·) (gP _)
  have al:a.length≤144:=by
   rw[ea];refine ah (yE (k:=12) λx _=>ah Pu hz) ?_;rw[jH];exact ah (qR _ (ah (pD _ _) hz)) aJ
  refine(t9 hj _ ab (at2 rfl) ((gv rfl).trans (gv rfl)) xN (λe=>(iY e)) (λ_=>?_));refine JH (kk:=.list (gN m)) (ag:=h.set (gN N) (.list (a.map pV))) ?_ ?_ rfl rfl
  ·exact d8 (lY Xx) (hs a)
  refine rF (σ:=List (Str×Str)) (λa=>h.set (gN N) (.list (a.map pV))) (λc j=>j≤ps.length∧c=a++oX (ps.take j) p) a ps.length ⟨b_ _,(gP _).symm⟩ (λ_ _ e=>e.1) (λc j' ⟨ff,ec⟩=>(cL _ (d6 (hs c)) (λe=>?_) (λv e=>?_))) rfl rfl rfl
  ·have:ps.length≤j':=by have:=km.mp e;rwa [aI] at this
   rw[na this] at ec;exact(aU c ⟨hj,by rw[tk,ec]⟩ rfl)
  ·refine aj (dH e) λq hq ax=>?_;subst ax
   have rv:=(cV.mp hq).1;have t2:oX (ps.take (j'+1)) p=oX (ps.take j') p++(if q.1=p.2 then aa (p.1,q.2) else af).toList:=by
    rw[jN,hq,oX,sD];refine ay (oX (ps.take j') p++·) ?_;show uK _ [q]=_;rw[qP]
    split<;>simp_all
   refine(t9 rv _ (decide (q.1=p.2)) (at2 rfl) ((gv rfl).trans (gv rfl)) (Ee (bt n_ n_ ((mY.mpr ⟨λz=>by injection z,λz=>by rw[z]⟩:decide (SV.str q.1=SV.str p.2)=decide (q.1=p.2))▸xU))) (λe=>(aU c ⟨rv,by rw[t2,aK (sk e),ec];exact ay (a++·) (gP _).symm⟩ rfl)) (λe=>?_));refine qe (EV.ep (eY (aB n_ (aB n_ aL)))) ?_;rintro v h1 ⟨rfl,rfl⟩;refine(nQ _ aS ?_ (c++[(p.1,q.2)]) ⟨rv,by rw[t2,aP (fC e),ec,wR _ _ _];rfl⟩ ?_)
   ·rw[aI _,ec,cU]
    have:(oX (ps.take j') p).length≤12:=ah Pu (by rw[jH];exact ah (pD _ _) hz);refine(?_:_≤2^24);exact ah (fp ‹_› ‹_›) aJ
   ·show h.set (gN N) (.list ((c++[(p.1,q.2)]).map pV))=_
    rw[iF,dN];rfl
noncomputable def lO:List (Str×Str):=(["A","B","S","S'"]:List Str).flatMap λa=>(["A","B","S"]:List Str).map λc=>(a,c)
noncomputable def uW:List SV:=lO.map pV
theorem JJ:uW.length=12:=by decide +kernel
theorem acq:∀v∈uW,fc v=ab:=by decide +kernel
theorem yT{p:Str×Str}:p∈sq ps↔∃y,(p.1,y)∈ps∧(y,p.2)∈ps:=by
 unfold sq;rw[propext sK]
 constructor
 ·rintro⟨a,ha,h⟩
  refine aj (gQ.mp h) λc hc e=>?_
  split at e
  ·next z=>obtain rfl:=aY e;exact(aU a.2 ha (by rw[←z];exact hc))
  ·exact a7 e
 ·rintro⟨y,h1,h2⟩
  exact(aU _ h1 (gQ.mpr (aU _ h2 (aP rfl))))
theorem qC{p:Str×Str}:p∈lO↔p.1∈(["A","B","S","S'"]:List Str)∧p.2∈(["A","B","S"]:List Str):=by
 unfold lO;rw[propext sK];exact⟨λ⟨a,ha,h⟩=>by refine aj (bB.mp h) λc hc ax=>?_;subst ax;exact⟨ha,hc⟩,λ⟨h1,h2⟩=>⟨_,h1,bB.mpr ⟨_,h2,rfl⟩⟩⟩
theorem IK(h:ps ⊆ lO):sq ps ⊆ lO:=λp hp=>by
 refine aj (yT.mp hp) λy a c=>?_;exact qC.mpr ⟨(qC.mp (h a)).1,(qC.mp (h c)).2⟩
noncomputable def Pj(R:bm):Nat→List (Str×Str)
 |0=>R.filterMap gK
 |j+1=>Pj R j++sq (Pj R j)
theorem rO(hC:R.filterMap gK ⊆ lO):∀{j},Pj R j ⊆ lO
 |0=>hC
 |j+1=>ajc.mpr ⟨rO hC,IK (rO hC)⟩
structure vT where
 ps:List (Str×Str)
 m:Nat
 M:Nat
 h:SH
structure C_(R:bm)(N:Nat)(aA:SH)(j:Nat)(s:vT):Prop where
 at':s.h (gN s.m)=aa (.list (s.ps.map pV))
 lt:s.m<s.M
 le:N≤s.m
 free:bp s.h s.M
 kq:Kq [] N aA s.h
 len:s.ps.length≤12
 mem:∀p,p∈s.ps↔p∈Pj R j
theorem NK:∀{l:List SV},(∀v∈l,v∈uW)→∃ps:List (Str×Str),l=ps.map pV
 |[],_=>⟨[],rfl⟩
 |v::l,h=>by
  refine xE (NK λx hx=>h x (eT _ hx)) λps e=>?_;refine aj (bB.mp (h v dA)) λp _ ax=>?_;subst ax;exact⟨p::ps,by rw[e];rfl⟩
theorem SU{p q:Str×Str}(e:pV p=pV q):p=q:=by
 obtain⟨a,c⟩:=p;obtain⟨a',c'⟩:=q;injection e with e;injection e with e1 e;injection e with e2 _;injection e1 with e1;injection e2 with e2;exact jw e1 e2
theorem Ef{p:Str×Str}:pV p∈ps.map pV↔p∈ps:=⟨λh=>by refine aj (bB.mp h) λq a c=>?_;exact SU c▸a,λh=>bB.mpr (aU _ h rfl)⟩
theorem V2{ps qs:List (Str×Str)}(e:∀p,p∈ps↔p∈qs){p:Str×Str}:p∈sq ps↔p∈sq qs:=by
 rw[propext yT,propext yT];exact⟨λ⟨y,a,c⟩=>⟨y,(e _).mp a,(e _).mp c⟩,λ⟨y,a,c⟩=>⟨y,(e _).mpr a,(e _).mpr c⟩⟩
theorem Kq.at'{B:List Nat}{o:cy}{M:Nat}(a:Kq B N h h')(hM:N≤M):Kq B N h (h'.set (gN M) o):=a.trans (M:=N) (.new hM) (ar _)
theorem Xc(hC:R.filterMap gK ⊆ lO){s:vT}{aA:SH}(J:C_ R N aA j s)(fin:∀s':vT,C_ R N aA (j+1) s'→SS (xc i (b+1)) (C8 s'.m) s'.h ((d_ (stN (ba 463) 1)).drop 1::k) Q):
  SS (xc i (b+1)) (C8 s.m) s.h (d_ (stN (ba 463) 1)::k) Q:=by
 obtain⟨ps,m,M,h⟩:=s;have F:=J.free;have lt:=J.lt;have le:=J.le;dsimp only at F lt le;have sub:ps ⊆ lO:=λp hp=>rO hC ((J.mem p).mp hp);have sl:(sq ps).length≤144:=ah Ze (af4 J.len J.len);have F1:=F.new [] (.list ((sq ps).map pV));have F2:bp ((h.set (gN M) (.list ((sq ps).map pV))).set (gN (M+1)) (.list (ps.map pV++(sq ps).map pV))) (M+2):=F1.new [] _;have hU:∀v∈ps.map pV++(sq ps).map pV,v∈uW:=λv hv=>by
  rw[←dN] at hv;refine aj (bB.mp hv) λp hp ax=>?_;subst ax;exact bB.mpr (aU p ((ajc.mpr ⟨sub,IK sub⟩) hp) rfl)
 have pl:ps.length≤12:=J.len;generalize rP:(h.set (gN M) (.list ((sq ps).map pV))).set (gN (M+1)) (.list (ps.map pV++(sq ps).map pV))=h2 at F2;have l2:h2 (gN (M+1))=aa (.list (ps.map pV++(sq ps).map pV)):=rP▸aS;have k2:Kq [] N aA h2:=rP▸(J.kq.at' (cj (bd le lt))).at' (cj (pE (bd le lt)));refine kG (P:=λv h1=>∃vs out,v=.ref (gN (M+3))∧(∀y,y∈out↔y∈ps.map pV++(sq ps).map pV)∧out.length≤12∧h1=(h2.set (gN (M+2)) (.set vs)).set (gN (M+3)) (.list out)) (uc (P:=λv h1=>v=.ref (gN (M+2))∧∃vs:List SV,vs.Nodup∧(∀y,y∈vs↔y∈ps.map pV++(sq ps).map pV)∧h1=h2.set (gN (M+2)) (.set vs)) (i.K.bi rfl) rfl (uc (P:=is (.ref (gN (M+1))) h2) (i.K.ty rfl) rfl (EV.ep (fM (cK:=h2) n_ (Yz J.at' pl F lt) ?_)) (λv h1 p=>?_)) λv h1 p=>?_) λv h1 p=>?_
 ·rw[←rP]
  exact Cc (n:=gN (M+1)) (.own ((aq (kA (du ‹_›))).trans J.at':(h.set (gN M) (.list ((sq ps).map pV))) (gN m)=aa (.list (ps.map pV)))) (.own aS) (by rw[aI _,aI _];refine(?_:_≤2^24);exact ah (fp ‹_› ‹_›) aJ) F1.at
 ·refine xA p λcP bq=>?_;clear p;subst cP;subst bq
  exact Bz (U:=uW) (.own l2) (λv hv=>acq v (hU v hv)) (by rw[JJ];exact bg) hU F2.at
 ·refine yS p λcP vs nd mm j3=>?_;clear p;subst cP;subst j3
  have sb:vs ⊆ uW:=λv hv=>hU v ((mm v).mp hv);have vl:=fO nd sb;rw[JJ] at vl;exact Sq aS ⟨an,λv hv=>aj (bB.mp (sb hv)) λp _ e=>e▸⟨_,_,rfl,⟨_,rfl⟩,_,rfl⟩⟩ (bd vl bg) (F2.new [] (.set vs)).at λout pm=>⟨vs,out,rfl,λy=>pm.mem_iff.trans (mm y),pm.length_eq▸vl,rfl⟩
 ·refine gO p λvs out ax om ol ZJ=>?_;clear p;subst ax;subst ZJ
  refine xE (NK λv hv=>hU v ((om v).mp hv)) λqs bq=>?_;subst bq;rw[aI] at ol;refine SS.sub (fin ⟨qs,M+3,M+4,_⟩ ⟨aS,dq _,by show N≤M+3;exact cj (bd le (bI lt (b6 _ _))),(F2.new _ _).new _ _,(k2.at' (cj (pE (pE (bd le lt))))).at' (cj (bd le (bI lt (b6 _ _)))),ol,λp=>?_⟩) (ai (ai br));rw[←Ef,om,←dN,propext Ef,Pj,propext dw,propext dw,propext (J.mem p),propext (V2 J.mem)]
theorem Η(hb:i.b=b+2)(hn:h (.mk 71 [])=aa (.list (R.map di)))(hz:R.length≤5)(hr:∀r∈R,r.2.length≤2)(hC:R.filterMap gK ⊆ lO)(F:bp h N):
  FP i h (.glob 463) [.ref (.mk 71 [])] (λv h'=>∃s:vT,v=.ref (gN s.m)∧s.h=h'∧C_ R N h 2 s):=by
 refine enter (b:=b+1) i.K.corners NC w_co hb rfl (Rq hn hz hr F λh1 M J=>?_);refine eo (σ:=vT) (λs=>C8 s.m) vT.h (λs j=>C_ R N h j s) ⟨R.filterMap gK,N,M,h1⟩ [.int 0,.int 1] (uu (n:=2) (b8 (i.K.ty rfl) rfl (aB bD aL) tZ) bg) ?_ (ai (ai br)) (λs j J=>t8.trans ?_) (λs j v J e=>?_) (λs J=>?_)
 ·exact⟨J.acc,by have:=J.le;assumption,ar _,J.free,J.kq,ah (ah (uM _ _) hz) aJ,λ_=>Iff.rfl⟩
 ·match j with
  |0=>rfl
  |1=>rfl
  |j+2=>exact ay aa (aK (ma (lu 2 j)))
 ·refine dX (SS.sub (Xc hC J λs' J'=>aH (bK (LQ.next s' J' .rfl))) (ai (ai br)))
 ·exact aH (gJ n_ (cL s rfl rfl J))
theorem orV{pos:Pos}{t t':Bool}(a:EV i fr h e (.bool t) h)(c:EV i fr h e' (.bool t') h):EV i fr h (.BoolOp .Or [e,e'] pos) (.bool (t||t')) h:=
 ⟨λfr' s Q X hq=>aas (a.run fr' s _ _ (Dc (by
  cases t with
  |true=>rw[aP rfl];exact hq
  |false=>rw[aK iD];exact KU (c.run fr' s _ _ hq))))⟩
theorem k8{o:cy}(a:Kq [] N h h')(F:bp h N)(hn:h n=aa o)(hx:n≠.mk 99 []):h' n=aa o:=by
 obtain⟨k,l⟩:=n
 by_cases e:k=99
 ·subst e
  match l,hn,hx with
  |[],_,hx=>exact bc rfl hx
  |j::r,hn,_=>
   by_cases z:j<N
   ·exact(a.2 _ _ z).trans hn
   ·rw[F j r (js.mp ‹_›)] at hn;exact a7 hn
 ·exact(a.1 k l (by simp[e])).trans hn
noncomputable def e7(R:bm)(I:List aF):List Str:=I.filterMap λq=>(aG R q.1)[q.2]?
noncomputable def oI(R:bm)(ps:List (Str×Str))(n:Nat)(s:Str):Bool:=decide (s=bE R n)||decide ((s,bE R n)∈ps)
noncomputable def iL(R:bm)(ps:List (Str×Str))(I:List aF):List Nat:=(bo R.length).filter λn=>(e7 R I).any (oI R ps n)
noncomputable def Gh:Expr:=nI (stN (ba 468) 0)
noncomputable def mE:Expr:=nI (stN (ba 468) 1)
noncomputable def YB(e:Expr):Expr:=(kE e).2.2.headD (.Constant .none 0 ⟨0,0,0,0⟩)
noncomputable def tH:Expr:=qA 0 (YB mE)
noncomputable def XJ(e:Expr):Expr:=qA 0 e
theorem Nh:cq (bC 468) ["rules","corners","items","after"]=ab:=by kernel_rfl
theorem w_ad:cZ (bC 468) ["range","len"]=ab:=by kernel_rfl
theorem abm:cq (da (dD Gh) (bC 468)) ["n","dot"]=ab:=by kernel_rfl
theorem w_ad1:cZ (da (dD Gh) (bC 468)) ["len"]=ab:=by kernel_rfl
theorem Oh:oS (da (dD Gh) (bC 468)) ["rules"]=ab:=by kernel_rfl
theorem yO:cq (da (dD mE) (bC 468)) ["n"]=ab:=by kernel_rfl
theorem w_ad2:cZ (da (dD mE) (bC 468)) ["any"]=ab:=by kernel_rfl
theorem Zl:oS (da (dD mE) (bC 468)) ["after"]=ab:=by kernel_rfl
theorem yb:cq (da (dD tH) (da (dD mE) (bC 468))) ["s"]=ab:=by kernel_rfl
theorem GK:oS (da (dD tH) (da (dD mE) (bC 468))) ["corners","n","rules"]=ab:=by kernel_rfl
noncomputable def sY(i:FI)(b:Nat):FI:=i.fn b 468 ["rules","corners","items","after"] ["range","len"] Nh w_ad
theorem CK{a:Nat}(ha:a<R.length):R[a]? =aa (bE R a,aG R a):=by
 unfold bE aG;rw[fb ha];rfl
theorem vJ{x y:Str}{p p' pos:Pos}{a:Nat}(r:EV i fr h (.Name x p) (.ref (.mk 71 [])) h)(c:EV i fr h (.Name y p') (.int a) h)(hR:h (.mk 71 [])=aa (.list (R.map di)))(hz:R.length≤5)(ha:a<R.length):EV i fr h (.Subscript (.Name x p) (.Name y p') pos) (di (bE R a,aG R a)) h:=
 mx r c (.own hR) (i4 (bI ‹_› ‹_›) bg) (by rw[dv,CK ha];rfl)
theorem Ut(hR:h (.mk 71 [])=aa (.list (R.map di)))(hz:R.length≤5)(hr:∀j,(aG R j).length≤2)(hi:h n=aa (.list (I.map aM)))(hx:n≠.mk 99 [])(ok:∀q∈I,cY R q)(il:I.length≤30)(F:bp h N)
  (fin:SS (sY i (b+1)) [("rules",.ref (.mk 71 [])),("corners",u),("after",.ref (gN N))] (h.set (gN N) (.list ((e7 R I).map .str))) [(ba 468).drop 1] Q):
  SS (sY i (b+1)) [("rules",.ref (.mk 71 [])),("corners",u),("items",.ref n)] h [ba 468] Q:=by
 have ne:n≠gN N:=λz=>by rw[z,gN,F.at] at hi;exact a7 hi
 refine wz (acc:=gN N) (P:=λh'=>h'=h.set (gN N) (.list ((e7 R I).map .str))) abm w_ad1 (by kernel_rfl) (d8 n_ hi) F.at ?_ λh' e=>e▸SS.sub fin (ai (ai (ai br)));refine rF (σ:=Nat) (λj=>h.set (gN N) (.list ((e7 R (I.take j)).map .str))) (λs j=>s=j∧j≤I.length) 0 I.length ⟨rfl,b_ _⟩ (λ_ _ e=>e.2) (λs j ⟨es,hj⟩=>?_) rfl rfl rfl;subst es;have Jz:(h.set (gN N) (.list ((e7 R (I.take s)).map .str))) (.mk 71 [])=aa (.list (R.map di)):=(aq az).trans hR;refine(cL _ (d6 ((aq ne).trans hi:(h.set (gN N) (.list ((e7 R (I.take s)).map .str))) n=aa (.list (I.map aM)))) (λe=>?_) (λv e=>?_))
 ·have:I.length≤s:=by have:=km.mp e;rwa [aI] at this
  show h.set (gN N) (.list ((e7 R (I.take s)).map .str))=_;rw[na this]
 ·refine aj (dH e) λq hq ax=>?_;subst ax
  have hj:=(cV.mp hq).1;refine xA (ok q (bN hq)) λo1 o2=>?_;have tk:e7 R (I.take (s+1))=e7 R (I.take s)++((aG R q.1)[q.2]?).toList:=by
   unfold e7;rw[jN,hq,sD];refine ay (_++·) ?_;show uK _ [q]=_;rw[qP]
   cases(aG R q.1)[q.2]? <;>rfl
  have hlt:decide ((q.2:Int) < ((aG R q.1).map SV.str).length)=decide (q.2< (aG R q.1).length):=by rw[aI _];exact mY.mpr ib
  refine(t9 hj _ (decide (q.2< (aG R q.1).length)) (at2 rfl) ((gv rfl).trans (gv rfl)) (Ee (bt n_ (b8 (i.K.bi rfl) rfl (aB (mV (j:=1) (vJ (lY Oh) n_ Jz hz o1) bD bg rfl) aL) (B4 (by rw[aI _];exact bd (hr q.1) bg))) (hlt▸xV))) (λe=>?_) (λe=>?_))
  ·have:=sk e
   rw[md (js.mp ‹_›)] at tk;exact(aU (s+1) ⟨rfl,hj⟩ (by rw[tk];show _=h.set _ _;rw[ajd,gP _]))
  ·have:=fC e
   obtain⟨x,hx⟩:∃x,(aG R q.1)[q.2]? =aa x:=⟨_,fb this⟩;rw[hx] at tk;refine qe (EV.ep (mV (j:=q.2) (mV (j:=1) (vJ (lY Oh) n_ Jz hz o1) bD bg rfl) n_ (by have z:=hr q.1;exact i4 (bI ‹_› ‹_›) bg) (v:=.str x) (by rw[dv,hx];rfl))) ?_;rintro v h1 ⟨rfl,rfl⟩;refine(nQ _ aS ?_ (s+1) ⟨rfl,hj⟩ ?_)
   ·rw[aI _]
    refine ah (uM _ _) ?_;rw[jH];refine(?_:_≤2^24);exact ah (pD _ _) (ah il aJ)
   ·show h.set (gN N) (.list ((e7 R (I.take (s+1))).map .str))=_
    rw[iF,tk,dN];rfl
theorem Lp:∀{l:List (Str×Str)},eK 6 (l.map pV)=ab
 |[]=>rfl
 |p::r=>by
  show(SV.data 6 (pV p) && eK 6 (r.map pV))=ab;rw[Lp,Ig _];rfl
theorem Ww(sub:SF.sub [("rules",.ref (.mk 71 [])),("corners",.ref l),("n",.int j)] fr)(hj:j<R.length)(hR:h (.mk 71 [])=aa (.list (R.map di)))(hz:R.length≤5)(hc:h l=aa (.list (ps.map pV))):
  EV (((sY i b).comp (dD mE) ["n"] ["any"] yO w_ad2).comp (dD tH) ["s"] [] yb rfl) (fr.put "s" (.str s)) h (XJ tH) (.bool (oI R ps j s)) h:=by
 have r0:∀{p:Pos},EV (((sY i b).comp (dD mE) ["n"] ["any"] yO w_ad2).comp (dD tH) ["s"] [] yb rfl) (fr.put "s" (.str s)) h (.Name "rules" p) (.ref (.mk 71 [])) h:=λ{p}=>lY GK (by rw[gj,aK aW];exact sub _ _ rfl);have n0:∀{p:Pos},EV (((sY i b).comp (dD mE) ["n"] ["any"] yO w_ad2).comp (dD tH) ["s"] [] yb rfl) (fr.put "s" (.str s)) h (.Name "n" p) (.int j) h:=λ{p}=>lY GK (by rw[gj,aK aW];exact sub _ _ rfl);have s0:∀{p:Pos},EV (((sY i b).comp (dD mE) ["n"] ["any"] yO w_ad2).comp (dD tH) ["s"] [] yb rfl) (fr.put "s" (.str s)) h (.Name "s" p) (.str s) h:=λ{p}=>n_ (by rw[gj,aP rfl]);refine orV (t:=decide (s=bE R j)) (t':=decide ((s,bE R j)∈ps)) (c_ s0 (mV (j:=0) (vJ r0 n0 hR hz hj) bD bg rfl) ((mY.mpr ⟨λz=>by injection z,λz=>by rw[z]⟩:decide (SV.str s=.str (bE R j))=decide (s=bE R j))▸xU)) (c_ (eY (aB s0 (aB (mV (j:=0) (vJ r0 n0 hR hz hj) bD bg rfl) aL))) (lY GK (by rw[gj,aK aW];exact sub _ _ rfl)) ((mY.mpr (Ef (p:=(s,bE R j))):decide (SV.tup [.str s,.str (bE R j)]∈ps.map pV)=decide ((s,bE R j)∈ps))▸G5 (.own hc) ?_));exact Lp
structure nD(aN:Nat)(aA:SH)(acc:Nat)(vs:List SV)(N:Nat)(h:SH):Prop where
 own:h (gN acc)=aa (.list vs)
 lt:acc<N
 ge:aN≤acc
 free:bp h N
 kq:Kq [] aN aA h
theorem nD.new{aN acc:Nat}{vs:List SV}{o:cy}(J:nD aN aA acc vs N h):nD aN aA acc vs (N+1) (h.set (gN N) o):=
 ⟨(aq (kA (by have:=J.lt;exact du ‹_›))).trans J.own,pE J.lt,J.ge,J.free.new _ _,J.kq.at' (cj (bd J.ge J.lt))⟩
theorem nD.put{aN acc:Nat}{vs ws:List SV}(J:nD aN aA acc vs N h):nD aN aA acc ws N (h.set (gN acc) (.list ws)):=
 ⟨aS,J.lt,J.ge,J.free.same λk l hk=>aq λz=>by injection z with _ z;injection z with z;have:=J.lt;exact mi this (ah hk (bF z)),J.kq.trans (M:=aN) ⟨λk l hk=>aq λz=>by injection z with z;exact iz hk (by subst z;rfl) rfl,λk l hk=>aq λz=>by injection z with _ z;injection z with z;have:=J.ge;exact mi hk (ah this (bF z.symm))⟩ (ar _)⟩
structure ve where
 N:Nat
 h:SH
noncomputable def pL(R:bm)(ps:List (Str×Str))(I:List aF)(j:Nat):List SV:=((bo j).filter λn=>(e7 R I).any (oI R ps n)).map λn=>aM (n,0)
theorem Us:(pL R ps I j).length≤j:=by
 unfold pL;rw[aI _];exact ah (IC _ _) (bF dS)
theorem aax(hR:h (.mk 71 [])=aa (.list (R.map di)))(hz:R.length≤5)(hc:h l=aa (.list (ps.map pV)))(hl:l≠.mk 99 [])(hn:n=gN m)(hm:m<N)(ha:h n=aa (.list ((e7 R I).map .str)))(il:I.length≤30)(F:bp h N):
  EP (sY i (b+1)) [("rules",.ref (.mk 71 [])),("corners",.ref l),("after",.ref n)] h mE (λv h'=>v=.ref (gN N)∧∃M,nD N h N (pL R ps I R.length) M h'):=by
 have YP:n≠.mk 99 []:=λz=>by rw[hn] at z;injection z with _ z;exact jz z
 refine yx (acc:=gN N) (P:=λh'=>∃M,nD N h N (pL R ps I R.length) M h') yO w_ad2 (by kernel_rfl) (uu (b8 (i.K.ty rfl) rfl (aB (b8 (i.K.bi rfl) rfl (aB n_ aL) (oO (.own hR) (by rw[aI _];exact bd ‹_› bg))) aL) tZ) (by rw[aI _];exact bd ‹_› bg)) F.at ?_;rw[aI _];refine Am (σ:=ve) ve.h (λs j=>j≤R.length∧nD N h N (pL R ps I j) s.N s.h) ⟨N+1,_⟩ R.length ⟨b_ _,aS,dq _,ar _,F.new _ _,Kq.same.at' (ar _)⟩ (λt j ⟨hj,J⟩=>?_) rfl rfl rfl;refine(cL _ t8 (λe=>?_) (λv e=>?_))
 ·split at e
  ·exact fu e
  ·have:j=R.length:=qQ hj (js.mp ‹_›)
   subst this;exact⟨_,J⟩
 ·split at e
  ·next hlt=>
   obtain rfl:=aY e;have ea:t.h n=aa (.list ((e7 R I).map .str)):=k8 J.kq F ha YP;have ec:t.h l=aa (.list (ps.map pV)):=k8 J.kq F hc hl;have al:(e7 R I).length≤30:=ah (uM _ _) il;have nn:n≠gN t.N:=λz=>by rw[hn] at z;exact ma (bF (mW z).symm) (bI hm (cj J.lt))
   have nl:l≠gN t.N:=λz=>by rw[z,gN,J.free.at] at ec;exact a7 ec
   have tk:pL R ps I (j+1)=pL R ps I j++(if(e7 R I).any (oI R ps j) then [aM (j,0)] else []):=by
    unfold pL;rw[w_,ai5 _ _,dN];refine ay (_++·) ?_;rw[HX]
    split<;>rfl
   have J2:nD N h N (pL R ps I j) (t.N+1) (t.h.set (gN t.N) (.list ((e7 R I).map λs=>.bool (oI R ps j s)))):=J.new;refine⟨hlt,(gX (dD mE) [("rules",.ref (.mk 71 [])),("corners",.ref l),("after",.ref n)]).put "n" (.int j),(e7 R I).any (oI R ps j),t.h.set (gN t.N) (.list ((e7 R I).map λs=>.bool (oI R ps j s))),l9 rfl,gv rfl,B6 (p_ (b8 (i.K.bi rfl) rfl (aB (BD (acc:=gN t.N) (l:=["s"]) (ls:=[]) (vs:=(e7 R I).map .str) (us:=(e7 R I).map λs=>.bool (oI R ps j s)) yb rfl (by kernel_rfl) (d8 (lY Zl) ea) J.free.at (λws j=>d6 ((aq nn).trans ea)) (by rw[aI _,aI _]) (by rw[aI _];refine(?_:_≤2^24);exact ah ‹_› aJ) rfl ?_) aL) (Wq (ts:=(e7 R I).map (oI R ps j)) (.own aS) ?_)) ?_),λe=>?_,λe=>?_⟩
   ·intro ws j' v u e1 e2
    refine aj (dH e1) λs hs ax=>?_;subst ax;rw[dv,hs] at e2
    (first|exact a7 e2|obtain rfl:=aY e2)
    exact Ww (l:=l) (ps:=ps) (ai (ai (ai br))) hlt ((aq az).trans (k8 J.kq F hR az:t.h (.mk 71 [])=aa (.list (R.map di)))) hz ((aq nl).trans ec)
   ·rw[pi,pi];rfl
   ·rw[aht];exact i9
   ·exact(aU ⟨t.N+1,_⟩ ⟨hlt,by rw[tk,e,aK iD,gP _];exact J2⟩ rfl)
   ·refine qe (EV.ep (eY (aB n_ (aB bD aL)))) ?_
    rintro v h1 ⟨rfl,rfl⟩;refine(nQ _ J2.own (by have:=Us (R:=R) (ps:=ps) (I:=I) (j:=j);refine(?_:_≤2^24);exact ah this (ah hj (ah hz aJ))) ⟨t.N+1,_⟩ ⟨hlt,by rw[tk,e,aP rfl];exact J2.put⟩ rfl)
  ·exact a7 e
theorem Jx{c:Nat}{ln:Nm}(hb:i.b=b+2)(hR:h (.mk 71 [])=aa (.list (R.map di)))(hz:R.length≤5)(hr:∀j,(aG R j).length≤2)(hc:h (gN c)=aa (.list (ps.map pV)))(hi:h ln=aa (.list (I.map aM)))(hx:ln≠.mk 99 [])(ok:∀q∈I,cY R q)(il:I.length≤30)(F:bp h N):
  FP i h (.glob 468) [.ref (.mk 71 []),.ref (gN c),.ref ln] (λv h'=>v=.ref (gN (N+1))∧∃M,nD N h (N+1) ((iL R ps I).map λn=>aM (n,0)) M h'):=by
 refine enter (b:=b+1) i.K.added Nh w_ad hb rfl (Ut hR hz hr hi hx ok il F ?_);have k1:Kq [] N h (h.set (gN N) (.list ((e7 R I).map .str))):=Kq.same.at' (ar _);refine ab5 (aax (m:=N) (n:=gN N) (N:=N+1) ((aq az).trans hR) hz (l:=gN c) (k8 k1 F hc (λz=>jz (Nm.mk.inj z).2)) (λz=>jz (Nm.mk.inj z).2) rfl (dq _) aS il (F.new _ _)) λv h' ⟨e,M,J⟩=>⟨e,M,J.own,J.lt,bR _,J.free,k1.trans J.kq (bR _)⟩
theorem WL{elt iter:Expr}{y x:Str}{q q' gE:Pos}{sc:cb}{pos:Pos}{kk:dm}{acc:Nm}{l ls:List Str}{vs us:List SV}(V:cq (da sc i.F) l=ab)(W:cZ (da sc i.F) ls=ab)(ok:(qo sc i.F && l.contains x && !Hw kk)=ab)(a:EI i fr h iter kk ag)(ha:ag acc=af)
  (hit:∀(ws:List SV) (j:Nat),jk kk j (ag.set acc (.list ws))=aa vs[j]?) (hl:us.length=vs.length) (hz:vs.length≤cR) (hx:(gX sc fr).lookup x=af)
  (b:∀(ws:List SV) (j:Nat) (v u:SV),vs[j]? =aa v→us[j]? =aa u→EV (i.comp sc l ls V W) ((gX sc fr).put x v) (ag.set acc (.list ws)) elt u (ag.set acc (.list ws)))
  (c:SS i (fr.put y (.ref acc)) (ag.set acc (.list us)) (rest::k) Q) (Zt:autoParam (i.l.contains y=ab) bl) (on:autoParam (rZ iter) i8):SS i fr h ((.Assign [.Name y q'] (.ListComp elt [⟨.Name x q,iter,[],0⟩] sc pos) gE::rest)::k) Q:=
 have o:=Gk ok
 wz (P:=λh'=>h'=ag.set acc (.list us)) V W (vc o.c) a ha (EY (.name ((jL _).mp o.e)) hit hl hz λws j v u e hu=>⟨_,l9 o.o,gv hx,b ws j v u e hu⟩) (λaC e=>e.symm▸c) Zt on
theorem Np{vs:List SV}{j:Nat}:fh vs af (aa (j:Int))=vs.take j:=by
 show(vs.drop 0).take (fE vs.length j-0)=_;rw[show fE vs.length (j:Int)=min j vs.length from B5];exact if h:j≤vs.length then ay (vs.take ·) (sA h) else(ay (vs.take ·) (Ij (Ii h))).trans ((na (ar _)).trans (na (Ii h)).symm)
def ji(B:List Nat)(h:SH):Prop:=∀k l,(99::B).contains k=an→h (.mk k l)=af
theorem ji.kq{B B':List Nat}(o:ji B h)(a:Kq B' N h h')(hB:autoParam (B'.all (99::B).contains=ab) bl):ji B h':=λk l hk=>((a.mono (B':=B) hB).1 k l hk).trans (o k l hk)
theorem ji.at{B:List Nat}{a:Nat}{l:List Nat}(o:ji B h)(hB:autoParam ((99::B).contains a=an) dI):h (.mk a l)=af:=o a l hB
theorem ji.more{B B':List Nat}(o:ji B h)(hB:autoParam (B.all (99::B').contains=ab) bl):ji B' h:=λk l hk=>o k l (by
 cases z:(99::B).contains k with
 |false=>rfl
 |true=>
  rw[w8,DP,eX] at z;rcases z with rfl|z
  ·exact hk
  ·exact bc (Eq.refl k) (iz hk (dc.mp hB k (e9.mp z))))
noncomputable def Kt:List Str:=["script","tape","name","rules","_","row","grammar","symbols","table","corners","every","lists","chosen","one","asked","items","whole","rest","symbol","moved","answer"]
noncomputable def MN:List Str:=["_law_NAMES","range","_law_next","_law_rule","Grammar","list","LRGeneratedTable","_law_corners","len","_law_told","set","_law_added","_law_ASKED","sorted"]
theorem aeo:cq (bC 478) Kt=ab:=by kernel_rfl
theorem w_la:cZ (bC 478) MN=ab:=by kernel_rfl
noncomputable def bJ(i:FI)(b:Nat):FI:=i.fn b 478 Kt MN aeo w_la
noncomputable def Xl:Expr:=nI (stN (ba 478) 0)
theorem XN:cq (da (dD Xl) (bC 478)) ["n"]=ab:=by kernel_rfl
noncomputable def cx:Nm:=.mk 70 []
noncomputable def iP:Nm:=.mk 71 []
theorem VO{a:au}{sc:List Int}(hs:BL i.G a (sc.map .int))(hz:sc.length≤63)
  (fin:∀(t:List Int) h,t.length≤20→ji [70] h→bp h 1→h cx=aa (.list (t.map .int))→SS (bJ i b) [("tape",.ref cx)] h [(ba 478).drop 1] Q):
  SS (bJ i b) [("script",.glob a)] (λ_=>af) [ba 478] Q:=by
 have sl:fh (sc.map SV.int) af (aa 20)=(sc.take 20).map .int:=by
  rw[Im];exact Np (j:=20)
 have aeh:(sc.take 20).length≤20:=by rw[jH];exact aje _ _
 refine WL (acc:=cx) (kk:=.list (gN 0)) (l:=["n"]) (ls:=[]) (vs:=(sc.take 20).map .int) (us:=((sc.take 20).map (· % 720720)).map .int) (ag:=(SH.set (λ_=>af) (gN 0) (.list ((sc.take 20).map .int)))) XN rfl (by kernel_rfl) (d8 ?_ aS) rfl (λws j=>d6 rfl) (by rw[aI _,aI _,aI _]) (by rw[aI _];refine(?_:_≤2^24);exact ah ‹_› aJ) rfl ?_ ?_
 ·exact sl▸MX (n:=gN 0) (m:=gN 0) (.base hs) n_ bD (by rw[aI _];refine(?_:_≤2^24);exact ah ‹_› aJ) rfl
 ·intro ws j v u e1 e2
  refine aj (dH e1) λx hx ax=>?_;subst ax;rw[dv,dv,hx] at e2
  (first|exact a7 e2|obtain rfl:=aY e2)
  exact fM n_ bD (tO aW)
 ·refine SS.sub (fin _ _ (by rw[aI _];exact aeh) ?_ ?_ aS) (ai br)
  ·exact λk l hk=>by
    have f:∀a∈(99::[70]:List Nat),k≠a:=λa ha=>iz hk (e9.mpr ha);exact(aq λz=>by injection z with z;exact f 70 bQ z).trans (aq λz=>by injection z with z;exact f 99 bQ z)
  ·exact λk l hk=>(aq az).trans (aq λz=>by injection z with _ z;injection z with z;exact dG ‹_› ‹_›)
def vO(r:Str×List Str):Prop:=r.1∈a8∧r.2.length≤2∧∀s∈r.2,s∈mI
structure CQ where
 rs:bm
 t:List Int
 N:Nat
 h:SH
structure EC(aN:Nat)(aA:SH)(acc:Nm)(j:Nat)(s:CQ):Prop where
 t6:s.rs.map (·.1)=a8.take j
 ok:∀r∈s.rs,vO r
 own:s.h acc=aa (.list (s.rs.map di))
 tp:s.h cx=aa (.list (s.t.map .int))
 tl:s.t.length≤20
 free:bp s.h s.N
 le:aN<s.N
 kq:Kq [70] aN aA s.h
noncomputable def CI:Expr:=qA 1 (nI (stN (ba 478) 1))
theorem Vu:cq (da (dD CI) (bC 478)) ["name"]=ab:=by kernel_rfl
theorem w_la1:cZ (da (dD CI) (bC 478)) ["_law_rule"]=ab:=by kernel_rfl
theorem ad5:oS (da (dD CI) (bC 478)) ["tape"]=ab:=by kernel_rfl
theorem OE{t:List Int}(hn:nm∈a8):vO (nm,gp t.tail (ft t)):=⟨hn,by show(gp t.tail (ft t)).length≤2;rw[FT];exact eS (uY (k:=3) (dK _)),W6⟩
theorem U8{t:List Int}(tp:h cx=aa (.list (t.map .int)))(tl:t.length≤20)(F:bp h N):
  EP (bJ i (b+6)) [("tape",.ref cx)] h CI (λv h'=>v=.ref (gN (N+1))∧∃s,s.h=h'∧EC (N+1) ((h.set (gN N) (.list (a8.map .str))).set (gN (N+1)) (.list [])) (gN (N+1)) 3 s∧s.h=h'):=by
 have F1:bp (h.set (gN N) (.list (a8.map .str))) (N+1):=F.new [] _;have F2:bp ((h.set (gN N) (.list (a8.map .str))).set (gN (N+1)) (.list [])) (N+2):=F1.new [] _;refine yx (acc:=gN (N+1)) (P:=λh'=>∃s:CQ,s.h=h'∧EC (N+1) ((h.set (gN N) (.list (a8.map .str))).set (gN (N+1)) (.list [])) (gN (N+1)) 3 s∧s.h=h') Vu w_la1 (by kernel_rfl) (d8 (b8 (i.K.ref rfl) (i.K.keep rfl) aL (Ea (b:=b+5) rfl F).cp) aS) F1.at ?_;have yM:((h.set (gN N) (.list (a8.map .str))).set (gN (N+1)) (.list [])) cx=aa (.list (t.map .int)):=(aq az).trans ((aq az).trans tp);have Ko:((h.set (gN N) (.list (a8.map .str))).set (gN (N+1)) (.list [])) (gN N)=aa (.list (a8.map .str)):=(aq (kA (by exact du (dq _)))).trans aS;have o2:((h.set (gN N) (.list (a8.map .str))).set (gN (N+1)) (.list [])) (gN (N+1))=aa (.list []):=aS;generalize hh:(h.set (gN N) (.list (a8.map .str))).set (gN (N+1)) (.list [])=h2 at F2 yM Ko o2;refine Am (σ:=CQ) CQ.h (λs j=>s.h (gN N)=aa (.list (a8.map .str))∧EC (N+1) h2 (gN (N+1)) j s) ⟨[],t,N+2,h2⟩ 3 ⟨Ko,rfl,λ_ z=>(by exact cS z),o2,yM,tl,F2,dq _,.same⟩ (λs j ⟨hn,J⟩=>?_) rfl rfl rfl;refine(cL _ (d6 hn) (λe=>?_) (λv e=>?_))
 ·have:3≤j:=by have:=km.mp e;rwa [aI] at this
  have t6:=J.t6;rw[na (show a8.length≤j from this)] at t6;exact(cL s rfl ⟨t6,J.ok,J.own,J.tp,J.tl,J.free,J.le,J.kq⟩ rfl)
 ·refine aj (dH e) λx hx ax=>?_;subst ax
  have le:=J.le;refine⟨((cV.mp hx).1:j<3),_,ab,s.h,l9 rfl,gv rfl,NP,λe=>(by exact iY e),λ_=>?_⟩;refine qe (EV.ep (b8 (i.K.ref rfl) (i.K.keep rfl) (aB (lY ad5) (aB n_ aL)) (Pg (b:=b+4) (m:=70) rfl J.tp bG J.tl J.free).cp)) ?_;rintro v h3 ⟨rfl,e3⟩;have l3:s.rs.length≤3:=by
   have:=ay oq J.t6;rw[aI,jH] at this;exact this▸pD _ _
  have F3:bp (s.h.set cx (.list ((s.t.tail.drop (ft s.t)).map .int))) s.N:=J.free.same λ_ _ _=>aq az;refine(nQ _ (e3▸(aq (kA (by exact du ‹_›))).trans ((aq az).trans J.own):h3 (gN (N+1))=aa (.list (s.rs.map di))) (by rw[aI _];refine(?_:_≤2^24);exact ah ‹_› aJ) ⟨s.rs++[(x,gp s.t.tail (ft s.t))],s.t.tail.drop (ft s.t),s.N+1,h3.set (gN (N+1)) (.list ((s.rs++[(x,gp s.t.tail (ft s.t))]).map di))⟩ ⟨(aq (kA (by exact du (dq _)))).trans (e3▸(aq (kA (du (oy le)))).trans ((aq az).trans hn):h3 (gN N)=aa (.list (a8.map .str))),?_,?_,aS,?_,?_,?_,pE le,(e3▸(J.kq.trans (M:=N+1) (.set rfl) (ar _)).at' (cj le):Kq [70] (N+1) h2 h3).at' (ar _)⟩ (by rw[dN];rfl))
  ·show Iq _ (s.rs++[(x,gp s.t.tail (ft s.t))])=_
   rw[dN,J.t6,jN,hx];rfl
  ·intro r hr
   rcases dw.mp hr with hr|hr
   ·exact J.ok r hr
   ·rw[bS.mp hr];exact OE (bN hx)
  ·show(h3.set (gN (N+1)) (.list ((s.rs++[(x,gp s.t.tail (ft s.t))]).map di))) cx=_
   exact(aq az).trans (e3▸(aq az).trans aS:h3 cx=aa (.list ((s.t.tail.drop (ft s.t)).map .int)))
  ·show(s.t.tail.drop (ft s.t)).length≤20
   rw[zX,pF];have:=J.tl;exact ah (ku _ _) (ah (ku _ _) ‹_›)
  ·exact(e3▸F3.new [] _:bp h3 (s.N+1)).same λk l hk=>aq λz=>by injection z with _ z;injection z with z;have:s.N+1≤k:=hk;exact mi le (gg (ah this (bF z)))
structure kd(t:List Int)(Rs:bm)(N:Nat)(h:SH):Prop where
 tp:h cx=aa (.list (t.map .int))
 tl:t.length≤20
 ru:h iP=aa (.list (Rs.map di))
 ok:∀r∈Rs.tail,vO r
 hd:∃(a c d:List Str) (x:bm),Rs=(("S'":Str),[("S":Str)])::(("S":Str),a)::(("A":Str),c)::(("B":Str),d)::x∧x.length≤1∧Rs.Nodup
 free:bp h N
 my:ji [70,71] h
noncomputable def rC:SF:=[("tape",.ref cx),("rules",.ref iP)]
theorem DV{rs:bm}{x:Str}{l:List Str}(e:rs.map (·.1)=x::l):∃a r,rs=(x,a)::r∧r.map (·.1)=l:=by
 cases rs with
 |nil=>exact wy e
 |cons p r=>exact⟨p.2,r,ay (· ::r) (jw (lw e).1 rfl),(lw e).2⟩
theorem ZZ{t:List Int}(tl:t.length≤20)(o:ji [70] h)(F:bp h 1)(tp:h cx=aa (.list (t.map .int)))
  (fin:∀t Rs N h,kd t Rs N h→Rs.length=4→SS (bJ i (b+6)) rC h [(ba 478).drop 2] Q):SS (bJ i (b+6)) [("tape",.ref cx)] h [(ba 478).drop 1] Q:=by
 refine kG (P:=λv h'=>v=.ref iP∧∃t Rs N,kd t Rs N h'∧Rs.length=4) (Hc (eC (n:=gN 1) (aB (eY (aB cw (aB (eY (aB cw aL)) aL))) aL) F.at) (U8 ((aq az).trans tp:(h.set (gN 1) (.list [di ("S'",["S"])])) cx=aa (.list (t.map .int))) tl (F.new [] _:bp (h.set (gN 1) (.list [di ("S'",["S"])])) 2)) ?_) ?_
 ·rintro w h2 ⟨rfl,s,rfl,J,_⟩
  have le:=J.le;obtain⟨rs,t',M,h2⟩:=s;dsimp only at le ⊢;have sh:∃a c d:List Str,rs=[(("S":Str),a),(("A":Str),c),(("B":Str),d)]:=by
   exact ef (DV (l:=[("A":Str),"B"]) J.t6) λa r z1 n=>ef (DV (l:=[("B":Str)]) n) λc r' z2 n=>ef (DV (l:=[]) n) λd r'' z3 n=>⟨a,c,d,z1.trans (ay _ (z2.trans (ay _ (z3.trans (ay _ (List.map_eq_nil_iff.mp n))))))⟩
  refine uq sh λa c d zd=>?_;clear sh;subst zd;have Kk:ji [70] h2:=(((o.kq (B':=[]) (N:=0) (.new (M:=1) (b_ _))).kq (B':=[]) (N:=0) (.new (M:=2) (b_ _))).kq (B':=[]) (N:=0) (.new (M:=2+1) (b_ _)):ji [70] ((((h.set (gN 1) (.list [di ("S'",["S"])])).set (gN 2) (.list (a8.map .str)))).set (gN (2+1)) (.list []))).kq J.kq;refine⟨_,_,Cc (n:=iP) (.own ((J.kq.2 1 [] bg).trans ((aq (kA bG)).trans ((aq (kA bG)).trans aS)):h2 (gN 1)=aa (.list [di ("S'",["S"])]))) (.own J.own) (by show 1+3≤cR;refine(?_:_≤2^24);exact aJ) (Kk.at),rfl,t',(("S'":Str),[("S":Str)])::[(("S":Str),a),(("A":Str),c),(("B":Str),d)],M,⟨(aq az).trans J.tp,J.tl,aS,J.ok,⟨a,c,d,[],rfl,by exact aJ,?_⟩,(J.free:bp h2 M).same λ_ _ _=>aq az,?_⟩,rfl⟩
  ·exact aja m6 (λa b z e=>z (ay _ e)) (l:=(("S'":Str),[("S":Str)])::[(("S":Str),a),(("A":Str),c),(("B":Str),d)]) (aW:[("S'":Str),"S","A","B"].Nodup)
  ·exact(Kk.more (B':=[70,71])).kq (B':=[71]) (N:=0) (.set rfl)
 ·rintro v h' ⟨rfl,t,Rs,N,J,l4⟩
  exact SS.sub (fin t Rs N h' J l4) (ai (ai br))
structure Fb where
 t:List Int
 Rs:bm
 N:Nat
 h:SH
theorem Kj{r:Str×List Str}:SV.data 6 (di r)=ab:=by
 show(SV.data 5 (.str r.1) && (eK 4 (r.2.map .str) && ab))=ab;have:∀{l:List Str},eK 4 (l.map .str)=ab:=λ{l}=>by
  induction l with
  |nil=>rfl
  |cons x r ih=>exact ih
 rw[this];rfl
theorem LC:∀{l:bm},eK 6 (l.map di)=ab
 |[]=>rfl
 |p::r=>by
  show(SV.data 6 (di p) && eK 6 (r.map di))=ab;rw[LC,Kj];rfl
theorem Ku:∀{a c:List Str},a.map SV.str=c.map SV.str→a=c
 |[],[],_=>rfl
 |[],_::_,e=>by cases e
 |_::_,[],e=>by cases e
 |x::a,y::c,e=>by
  injection e with e1 e2;injection e1 with e1;rw[e1,Ku e2]
theorem RY{p q:Str×List Str}(e:di p=di q):p=q:=by
 injection e with e;injection e with e1 e;injection e with e2 _;injection e1 with e1;injection e2 with e2;exact jw e1 (Ku e2)
theorem Zw{p:Str×List Str}:di p∈Rs.map di↔p∈Rs:=⟨λh=>by refine aj (bB.mp h) λq a c=>?_;exact RY c▸a,λh=>bB.mpr (aU _ h rfl)⟩
theorem kd.add{t:List Int}(J:kd t Rs N h)(l4:Rs.length=4){r:Str×List Str}(hr:vO r)(hn:r∉Rs):kd t (Rs++[r]) N (h.set iP (.list ((Rs++[r]).map di))):=by
 obtain⟨a,c,d,x,e,lx,nd⟩:=J.hd;subst e;have:x=[]:=by
  cases x with
  |nil=>rfl
  |cons y z=>simp at l4
 subst this;refine⟨(aq az).trans J.tp,J.tl,aS,λr' h'=>?_,⟨a,c,d,[r],rfl,ar _,?_⟩,J.free.same λ_ _ _=>aq az,J.my.kq (B':=[71]) (N:=0) (.set rfl)⟩
 ·rcases dw.mp (show r'∈[(("S":Str),a),(("A":Str),c),(("B":Str),d)]++[r] from h') with h'|h'
  ·exact J.ok r' h'
  ·rw[bS.mp h'];exact hr
 ·rw[propext lq]
  exact(cF nd (ko _ _) (λa ha b hb e=>hn (by rw[bS.mp hb] at e;exact e▸ha)))
noncomputable def ue(x:Int):Nat:=(x % 3).toNat
theorem FZ{x:Int}:ue x<3:=uY (k:=3) (dK _)
theorem Lm{x:Int}:x % 3=(ue x:Int):=xD (k:=3) (dK _)
theorem YU{t:List Int}(J:kd t Rs N h)(l4:Rs.length=4)(fin:∀t Ap N h,kd t Ap N h→Ap.length≤5→SS (bJ i (b+6)) rC h k Q):
  SS (bJ i (b+6)) (rC.put "_" v) h (d_ (stN (ba 478) 2)::k) Q:=by
 have F:=J.free;have vW:(h.set (gN N) (.list (a8.map .str))) cx=aa (.list (t.map .int)):=(aq az).trans J.tp;have yM:((h.set (gN N) (.list (a8.map .str))).set cx (.list (t.tail.map .int))) cx=aa (.list (t.tail.map .int)):=aS;have F1:bp (h.set (gN N) (.list (a8.map .str))) (N+1):=F.new [] _;have F2:bp ((h.set (gN N) (.list (a8.map .str))).set cx (.list (t.tail.map .int))) (N+1):=F1.same λ_ _ _=>aq az;have tl:=J.tl;have vj:∀m<3,∃x,(a8.map SV.str)[m]? =aa (.str x)∧x∈a8:=λm hm=>by
  match m,hm with
  |0,_=>exact(aU _ rfl aW)
  |1,_=>exact(aU _ rfl aW)
  |2,_=>exact(aU _ rfl aW)
 refine aj (vj _ (FZ (x:=gB t))) λx hx hxN=>?_;have nl:((h.set (gN N) (.list (a8.map .str))).set cx (.list (t.tail.map .int))) (gN N)=aa (.list (a8.map .str)):=(aq az).trans aS;refine bM (v:=di (x,gp t.tail.tail (ft t.tail))) (b8 (i.K.ref rfl) (i.K.keep rfl) (aB n_ (aB (mx (j:=ue (gB t)) (b8 (i.K.ref rfl) (i.K.keep rfl) aL (Ea (b:=b+5) rfl F).cp) (fM (b8 (i.K.ref rfl) (i.K.keep rfl) (aB n_ aL) (vV (b:=b+5) rfl vW tl).cp) bD (Lm▸tO aW)) (.own nl) (i4 FZ bg) hx) aL)) (Pg (b:=b+4) (m:=70) rfl yM bG (by rw[pF];exact ah (ku _ _) ‹_›) F2).cp) ?_;generalize hh:SH.set (SH.set _ _ _) (gN (N+1)) _=h2;have J2:kd (t.tail.tail.drop (ft t.tail)) Rs (N+2) h2:=by
  subst hh;refine⟨(aq az).trans aS,by rw[zX,pF,pF];exact ah (ku _ _) (ah (ku _ _) (ah (ku _ _) tl)),(aq az).trans ((aq az).trans ((aq az).trans ((aq az).trans J.ru))),J.ok,J.hd,?_,?_⟩
  ·exact bp.new (N:=N+1) (F2.same λ_ _ _=>aq az) [] _
  ·exact(((J.my.kq (B':=[]) (N:=0) (.new (M:=N) (b_ _))).kq (B':=[70]) (N:=0) (.set rfl)).kq (B':=[70]) (N:=0) (.set rfl)).kq (B':=[]) (N:=0) (.new (M:=N+1) (b_ _))
 clear hh F1 F2 vW yM nl;refine GN (c:=!decide (di (x,gp t.tail.tail (ft t.tail))∈Rs.map di)) (ag:=h2) ?_ (λe=>?_) (λe=>?_)
 ·exact bt n_ n_ (Bf (.own J2.ru) LC Kj)
 ·have hn:(x,gp t.tail.tail (ft t.tail))∉Rs:=λz=>by rw[eQ (Zw.mpr z)] at e;exact cM e
  refine fJ (dp n_ (fV J2.ru) rfl (aB n_ aL) (ga J2.ru (by rw[aI _,l4];refine(?_:_≤2^24);exact aJ))) (aH (aH (SS.sub (ey:=rC) ?_ (ai (ai br)))));have:=J2.add l4 (OE (t:=t.tail) hxN) hn;rw[dN] at this;exact fin _ _ _ _ this (by rw[cU,l4];exact ar 5)
 ·exact aH (aH (SS.sub (fin _ _ _ _ J2 (c8 (bF l4))) (ai (ai br))))
theorem abt{t:List Int}(J:kd t Rs N h)(l4:Rs.length=4)(fin:∀t Rs N h,kd t Rs N h→Rs.length≤5→SS (bJ i (b+6)) rC h [(ba 478).drop 3] Q):SS (bJ i (b+6)) rC h [(ba 478).drop 2] Q:=by
 have m2:gB t % 2=((gB t % 2).toNat:Int):=xD (k:=2) (dK _);have Ji:(gB t % 2).toNat<2:=uY (k:=2) (dK _);generalize (gB t % 2).toNat=c at m2 Ji;refine eo (σ:=Fb) (λ_=>rC) Fb.h (λs j=>kd s.t s.Rs s.N s.h∧s.Rs.length≤5∧(j=0→s.Rs.length=4)) ⟨t.tail,Rs,N,_⟩ ((bo c).map λj:Nat=>SV.int j) (uu (n:=c) (b8 (i.K.ty rfl) rfl (aB (fM (b8 (i.K.ref rfl) (i.K.keep rfl) (aB n_ aL) (vV (b:=b+5) rfl J.tp J.tl).cp) bD (m2▸tO aW)) aL) tZ) (ah ‹_› aJ)) (cF (⟨aS,by rw[pF];have:=J.tl;exact ah (ku _ _) ‹_›,(aq az).trans J.ru,J.ok,J.hd,J.free.same λ_ _ _=>aq az,J.my.kq (B':=[70]) (N:=0) (.set rfl)⟩:kd t.tail Rs N (h.set cx (.list (t.tail.map .int)))) (by exact c8 (bF l4)) (λ_=>l4)) .rfl (λs j J=>t8.trans ?_) (λs j v J e=>?_) (λs J=>aH (fin _ _ _ _ J.1 J.2.1))
 ·rw[dv]
  by_cases hj:j<c
  ·rw[aP hj,w9 hj];rfl
  ·rw[aK hj,md (by rw[dS];exact js.mp ‹_›)];rfl
 ·have hj:=(cV.mp e).1
  rw[aI,dS] at hj;have:j=0:=It.mp (eS (bI hj (eS Ji)));subst this;exact dX (YU (v:=v) J.1 (J.2.2 rfl) λt Ap N h J' l5=>bK (LQ.next (⟨t,Ap,N,h⟩:Fb) (cF J' l5 (λz=>by cases z)) .rfl))
variable{t:List Int}
theorem FP.imp{f:SV}{vs:List SV}{P P':QV}(a:FP i h f vs P)(hq:∀v h',P v h'→P' v h'):FP i h f vs P':=⟨λF fr' hF Q' c=>a.run F fr' hF Q' λv h p=>c v h (hq v h p)⟩
noncomputable def R0:bm:=[(("S'":Str),[("S":Str)])]
theorem RP(G:rL h h')(o:ji [70,71] h):GB R0 h':=by
 have no:∀{k l},kD.contains k=an→(99::[70,71]).contains k=an→h' (.mk k l)=af:=λh1 h2=>(G.same _ _ h1).trans (o _ _ h2);refine⟨G.gr,G.fg,(ik ([]) G.names .nil (λ_ z=>(cS z)) (λs hs=>⟨λz=>bc ((aW:∀s∈a8,gA R0 s=[]) s hs) z,λ_=>⟨rfl,no rfl rfl⟩⟩)),(cL ([]) G.map (λ_ z=>(cS z)) (b_ _)),⟨G.term,λt ht=>?_⟩,(cL ([]) G.ii ⟨.nil,λ_ _ z=>(by(first|exact a7 z|obtain rfl:=aY z)),?_⟩ (λj h1 h2=>?_)),G.first,G.nC,G.prec,λj h1 h2=>?_,λj _=>(cF (no rfl rfl) (no rfl rfl) (no rfl rfl)),λ_ z=>(cS z),by exact aJ,by exact bg⟩
 ·have:t="a"∨t="b"∨t="error":=by simpa [dW] using ht
  rcases this with rfl|rfl|rfl
  ·exact(aU ([]) G.ta (b_ _))
  ·exact(aU ([]) G.tb (b_ _))
  ·exact(aU ([]) G.te (b_ _))
 ·exact λs hs _=>no rfl rfl
 ·exact bc h1 (ma (eS h2))
 ·exact bc h1 (ma (eS h2))
structure kB(R:bm)(B:List Nat)(N:Nat)(t:List Int)(h:SH):Prop where
 tp:h cx=aa (.list (t.map .int))
 tl:t.length≤20
 ru:h iP=aa (.list (R.map di))
 free:bp h N
 my:ji B h
theorem kB.kq{B B' B'':List Nat}{M:Nat}(L:kB R B N t h)(a:Kq B' N h h')(F:bp h' M)(hB:autoParam ((B'.all (99::B'').contains && B.all (99::B'').contains && !(99::B').contains 70 && !(99::B').contains 71)=ab) bl):kB R B'' M t h':=by
 simp only[bO,jL] at hB;obtain⟨⟨⟨h1,h2⟩,h3⟩,h4⟩:=hB;exact⟨(a.1 _ _ h3).trans L.tp,L.tl,(a.1 _ _ h4).trans L.ru,F,(L.my.more h2).kq a h1⟩
theorem rL.kq(G:rL h h'):Kq kD N h h':=⟨λk l hk=>G.same k l (by
 cases z:kD.contains k with
 |false=>rfl
 |true=>rw[w8,z,HW] at hk;exact iY hk),λk l _=>G.same _ _ rfl⟩
theorem kd.SO(J:kd t Rs N h):kB Rs [70,71] N t h:=⟨J.tp,J.tl,J.ru,J.free,J.my⟩
noncomputable def tC:SF:=[("tape",.ref cx),("rules",.ref iP),("grammar",.ref aX)]
noncomputable def pP:List Nat:=[70,71]++kD++vh
theorem Ye(J:kd t Rs N h)(fin:∀N h',GB R0 h'→kB Rs pP N t h'→(∀a c,h' (.mk 40 [a,c])=af)→SS (bJ i (b+6)) tC h' [(ba 478).drop 4] Q):SS (bJ i (b+6)) rC h [(ba 478).drop 3] Q:=by
 have F1:bp (h.set (gN N) (.list [.str "a",.str "b"])) (N+1):=J.free.new [] _;have L1:kB Rs [70,71] (N+1) t (h.set (gN N) (.list [.str "a",.str "b"])):=J.SO.kq (.new (ar _):Kq [] N h (h.set (gN N) (.list [.str "a",.str "b"]))) F1;refine kG (nZ (Q:=λv h'=>v=.ref aX∧rL (h.set (gN N) (.list [.str "a",.str "b"])) h') (i.K.ref rfl) (i.K.keep rfl) (aB (eC (n:=gN N) (aB cw (aB cw aL)) J.free.at) aL) (cls (b:=b+5) (fI:=172) (n:=aX) rfl rfl (L1.my.at (a:=34)) (FP.imp (Y_ (b:=b+4) rfl (λk hk l=>L1.my k l ?_) (aS:(h.set (gN N) (.list [.str "a",.str "b"])) (gN N)=aa (.list [.str "a",.str "b"]))) λv h' q=>⟨q.1,rfl,q.2⟩)).cp) ?_
 ·exact(aW:∀k∈kD,(99::[70,71]:List Nat).contains k=an) k hk
 ·rintro v h' ⟨rfl,G⟩
  exact SS.sub (fin (N+1) h' (RP G L1.my) (L1.kq (N:=N+1) G.kq (F1.same λk l _=>G.same _ _ rfl)) λa c=>(G.same _ _ rfl).trans (L1.my.at (a:=40))) (ai (ai (ai br)))
structure eW(Rs:bm):Prop where
 ok:∀r∈Rs.tail,vO r
 hd:∃(a c d:List Str) (x:bm),Rs=(("S'":Str),[("S":Str)])::(("S":Str),a)::(("A":Str),c)::(("B":Str),d)::x∧x.length≤1∧Rs.Nodup
theorem eW.len(D:eW Rs):Rs.length≤5∧4≤Rs.length:=by
 obtain⟨a,c,d,x,e,lx,_⟩:=D.hd;subst e;show x.length+1+1+1+1≤5∧4≤x.length+1+1+1+1;exact⟨oj lx 4,lu _ _⟩
theorem eW.Cg(D:eW Rs):Rs[0]? =aa (("S'":Str),[("S":Str)])∧bE Rs 1="S"∧bE Rs 2="A"∧bE Rs 3="B":=by
 obtain⟨a,c,d,x,e,lx,_⟩:=D.hd;subst e;exact(oW rfl rfl rfl rfl)
theorem UZ:∀{s:Str},s∈mI→s∈lT:=λ{s} h=>by
 exact(aW:∀s∈mI,s∈lT) s h
structure La4(Rs:bm)(aN:Nat)(t:List Int)(j:Nat)(s:ve):Prop where
 g:GB (Rs.take (j+1)) s.h
 L:kB Rs pP s.N t s.h
 sl:s.h (gN aN)=aa (.list (Rs.tail.map di))
 lt:aN<s.N
 iM:∀a c,s.h (.mk 40 [a,c])=af
theorem W3(D:eW Rs)(G:GB R0 h)(L:kB Rs pP N t h)(iM:∀a c,h (.mk 40 [a,c])=af)(fin:∀N h',GB Rs h'→kB Rs pP N t h'→(∀a c,h' (.mk 40 [a,c])=af)→SS (bJ i (b+6)) tC h' [(ba 478).drop 5] Q):SS (bJ i (b+6)) tC h [(ba 478).drop 4] Q:=by
 have len:=D.len;have sl:fh (Rs.map di) (aa 1) af=Rs.tail.map di:=by
  have:=BF (vs:=Rs.map di) (j:=1) (by rw[aI _];exact ah (lu _ _) len.2);rw[←ai9,zZ];exact this
 have k1:Kq [] N h (h.set (gN N) (.list (Rs.tail.map di))):=.new (ar _);have tl:Rs.tail.length=Rs.length-1:=pF;have t0:Rs.take (0+1)=R0:=by rw[jN,D.Cg.1];rfl
 refine eo (σ:=ve) (λ_=>tC) ve.h (λs j=>j≤Rs.tail.length∧La4 Rs N t j s) ⟨N+1,_⟩ (Rs.tail.map di) (d8 (Fx (n:=iP) (m:=gN N) n_ bD L.ru (by rw[aI _];refine(?_:_≤2^24);exact ah len.1 aJ) L.free.at sl) aS) ⟨b_ _,t0▸G.eq k1.FU,L.kq k1 (L.free.new [] _:bp (h.set (gN N) (.list (Rs.tail.map di))) (N+1)),aS,dq _,λa c=>(k1.1 40 _ rfl).trans (iM a c)⟩ .rfl (λs j J=>d6 J.2.sl) (λs j v J e=>?_) (λs J=>aH (fin _ _ ?_ J.2.L J.2.iM))
 ·obtain⟨⟨hj,J⟩⟩:=Qj J trivial
  refine aj (dH e) λr hr ax=>?_;subst ax;obtain⟨a,ss⟩:=r;have FG:Rs[j+1]? =aa (a,ss):=by rw[←Q5];exact hr
  refine jF (D.ok _ (bN hr)) λo1 o2 o3=>?_;have tk:Rs.take (j+1+1)=Rs.take (j+1)++[(a,ss)]:=by rw[jN,FG];rfl
  have ig:=(cV.mp hr).1;have nd:(Rs.take (j+1+1)).Nodup:=by
   obtain⟨_,_,_,_,_,_,nd⟩:=D.hd;exact nd.sublist (HG _ _)
  rw[tk,lq] at nd;have F:=J.L.free;have lt:=J.lt;have kl:Kq [] s.N s.h (s.h.set (gN s.N) (.list (ss.map .str))):=.new (ar _);have Fl:bp (s.h.set (gN s.N) (.list (ss.map .str))) (s.N+1):=F.new [] _;refine Es (r_ (dp n_ (iU J.g.gr rfl) (i.K.keep rfl) (aB n_ (aB (b8 (i.K.ty rfl) rfl (aB n_ aL) (Oq (n:=gN s.N) (vs:=ss.map .str) (by rw[aI _];refine(?_:_≤2^24);have:ss.length≤2:=o2;exact ah ‹_› aJ) F.at)) aL)) (Xd (b:=b+3) rfl (J.g.eq kl.FU) Fl o1 (YK o2 λs hs=>UZ (o3 s hs)) o3 (λz=>nd.2.2 _ (List.mem_of_mem_tail z) _ (bS.mpr rfl) rfl) (by rw[jH];exact bd (aje _ _) (bI (ajf (tl▸ig)) len.1)) aS (yq _ ([]) rfl (dq _))).cp) ?_);rintro v h' ⟨rfl,N',G',F',Mg,k',GD⟩;refine aH (bK (LQ.next (⟨N',h'⟩:ve) ⟨ig,tk▸G',(J.L.kq (B'':=pP) kl Fl).kq k' F',(k'.2 _ _ (ah ‹_› (b6 _ _))).trans ((kl.2 _ _ lt).trans J.sl),by show N<N';exact bI lt (gg Mg),λa c=>(GD a c).trans ((kl.1 40 _ rfl).trans (J.iM a c))⟩ (ai (ai (ai br)))))
 ·have:Rs.take (Rs.tail.length+1)=Rs:=na (Nat.le_add_of_sub_le (bF tl.symm))
  have g:=J.2.g;rw[aI,this] at g;exact g
theorem eW.at(D:eW Rs)(h0:0<j)(hj:j<Rs.length):vO (bE Rs j,aG Rs j):=D.ok _ (by
 have:=CK hj;refine bN (i:=j-1) ?_;rw[Q5,show j-1+1=j from by exact qT (sH h0)];exact this)
theorem eW.gr(D:eW Rs):GR Rs:=by
 have len:=D.len;obtain⟨e0,e1,e2,e3⟩:=D.Cg;have n0:bE Rs 0="S'":=by unfold bE;rw[e0];rfl
 have r0:aG Rs 0=[("S":Str)]:=by unfold aG;rw[e0];rfl
 have bu:∀j,(aG Rs j).length≤2:=λj=>by
  rcases sJ j with rfl|h0
  ·rw[r0];exact aJ
  ·by_cases hj:j<Rs.length
   ·exact(D.at h0 hj).2.1
   ·unfold aG;rw[md (js.mp ‹_›)];exact b_ _
 refine⟨len.1,by exact lr (ah (lu _ _) len.2),n0,r0,?_,λj h0 hj=>?_,bu,λj s h0 hs=>?_,λs hs=>?_⟩
 ·refine ah (yE (k:=2) λx _=>by rw[aI _,dS];exact bu x) ?_
  rw[pF,dS];exact ah (qR _ (QG len.1)) aJ
 ·have:=(D.at h0 hj).1
  simpa [a8] using this
 ·by_cases hj:j<Rs.length
  ·exact(D.at h0 hj).2.2 s hs
  ·unfold aG at hs;rw[md (js.mp ‹_›)] at hs;exact cS hs
 ·have:s="S"∨s="A"∨s="B":=by simpa using hs
  rcases this with rfl|rfl|rfl
  ·exact(cL 1 bg (lr (gg (gg len.2))) e1)
  ·exact(cL 2 bg (lr (gg len.2)) e2)
  ·exact(cL 3 bg (lr len.2) e3)
theorem ZF(D:eW Rs)(G:GB Rs h)(L:kB Rs pP N t h)(iM:∀a c,h (.mk 40 [a,c])=af)(fin:∀N h',GW Rs h'→kB Rs pP N t h'→(∀a c,h' (.mk 40 [a,c])=af)→SS (bJ i (b+6)) tC h' [(ba 478).drop 6] Q):SS (bJ i (b+6)) tC h [(ba 478).drop 5] Q:=by
 have g:=D.gr;refine r_ (dp n_ (iU G.gr rfl) (i.K.keep rfl) aL (ρ (b:=b+3) rfl G L.free ⟨g.yl,g.pI⟩ ⟨by exact lr (gg (gg D.len.2)),D.Cg.2.1⟩ g.all).cp) ?_;rintro v h' ⟨rfl,N',G',F',Mg,k'⟩;exact fin N' h' G' (L.kq k' F') λa c=>(k'.1 40 _ rfl).trans (iM a c)
noncomputable def IM:SF:=[("tape",.ref cx),("rules",.ref iP),("grammar",.ref aX),("table",.ref dg)]
noncomputable def Cu:List Nat:=[70,71]++kD++vh++tU
theorem Wp(D:eW Rs)(G:GW Rs h)(L:kB Rs pP N t h)(iM:∀a c,h (.mk 40 [a,c])=af)(fin:∀N c h',cX Rs (gz Rs) c N h'→iI Rs h'→(∀j,j<Rs.length→h' (.mk 43 [j])=aa (.list ((bo ((aG Rs j).length+1)).map λd=>a9 (j,d))))→kB Rs Cu N t h'→SS (bJ i (b+6)) IM h' [(ba 478).drop 7] Q):SS (bJ i (b+6)) tC h [(ba 478).drop 6] Q:=by
 refine kG (nZ (i.K.ref rfl) (i.K.keep rfl) (aB n_ (aB cw aL)) (ae2 (b:=b) rfl D.gr ⟨by exact lr (gg (gg D.len.2)),D.Cg.2.1⟩ G L.free (λk hk l=>L.my k l ?_) iM).cp) ?_
 ·exact(aW:∀k∈yu,(99::pP).contains k=an) k hk
 ·rintro v h' ⟨rfl,c',N',T⟩
  exact SS.sub (fin N' c' h' T.w T.gr T.nB (L.kq T.kq T.w.tb.free)) (ai (ai (ai (ai br))))
variable{c:Int}{cm:Nat}
theorem cX.t_{B:List Nat}(w:cX R U c N h)(a:Kq B N h h')(F:bp h' M)(le:N≤M)(hB:autoParam (y7.all (λk=>!(99::B).contains k)=ab) bl):cX R U c M h':=by
 have ne:∀{x:Nat} {l':List Nat},y7.contains x=ab→h' (.mk x l')=h (.mk x l'):=λ{x l'} ha=>a.1 _ _ (by
  have:=dc.mp hB _ (e9.mp ha)
  rwa [jL] at this)
 exact⟨⟨F,λq hq=>(cF ((ne rfl).trans (w.tb.it q hq).1) ((ne rfl).trans (w.tb.it q hq).2.1) ((ne rfl).trans (w.tb.it q hq).2.2)),λj hj=>by refine aj (w.tb.pr j hj) λx e l=>?_;exact(aU x ((ne rfl).trans e) l),(ne rfl).trans w.tb.tb,w.tb.hc,w.tb.hR,w.tb.hr⟩,
  w.ca.imp λT ⟨es,C⟩=>⟨es,C.mono a.2 le (λ_=>ne rfl) (ne rfl)⟩,w.hU⟩
structure bL(R:bm)(U:List (List aF))(c:Int)(N:Nat)(t:List Int)(ps:List (Str×Str))(cm:Nat)(h:SH):Prop where
 w:cX R U c N h
 gr:iI R h
 nB:∀j,j<R.length→h (.mk 43 [j])=aa (.list ((bo ((aG R j).length+1)).map λd=>a9 (j,d)))
 tp:h cx=aa (.list (t.map .int))
 tl:t.length≤20
 ru:h iP=aa (.list (R.map di))
 co:h (gN cm)=aa (.list (ps.map pV))
 cl:cm<N
 pl:ps.length≤12
theorem bL.kq{B:List Nat}(S:bL R U c N t ps cm h)(a:Kq B N h h')(F:bp h' M)(le:N≤M)(hB:autoParam ((y7.all (λk=>!(99::B).contains k) && rN.all (λk=>!(99::B).contains k) && !(99::B).contains 43 && !(99::B).contains 70 && !(99::B).contains 71)=ab) bl):bL R U c M t ps cm h':=by
 simp only[bO,jL] at hB;obtain⟨⟨⟨⟨h1,h2⟩,h3⟩,h4⟩,h5⟩:=hB;exact⟨S.w.t_ a F le h1,S.gr.kq a h2,λj hj=>(a.1 _ _ h3).trans (S.nB j hj),(a.1 _ _ h4).trans S.tp,S.tl,(a.1 _ _ h5).trans S.ru,(a.2 _ _ S.cl).trans S.co,bI S.cl le,S.pl⟩
theorem eW.CV(D:eW Rs):Rs.filterMap gK ⊆ lO:=λp hp=>by
 refine aj (gQ.mp hp) λr hr e=>?_;have h1:r.1∈(["A","B","S","S'"]:List Str):=by
  obtain⟨a,c,d,x,eR,_⟩:=D.hd;rw[eR] at hr;rcases dE.mp hr with rfl|hr
  ·exact aW
  ·have:=(D.ok r (by rw[eR];exact hr)).1
   have f:∀s∈a8,s∈(["A","B","S","S'"]:List Str):=aW;exact f _ this
 unfold gK at e
 split at e
 ·split at e
  ·next hs=>
   obtain rfl:=aY e;exact qC.mpr ⟨h1,(aW:∀s∈a8,s∈(["A","B","S"]:List Str)) _ hs⟩
  ·exact a7 e
 ·exact a7 e
theorem eW.two(D:eW Rs):∀r∈Rs,r.2.length≤2:=λr hr=>by
 obtain⟨a,c,d,x,eR,_⟩:=D.hd;rw[eR] at hr;rcases dE.mp hr with rfl|hr
 ·exact aJ
 ·exact(D.ok r (by rw[eR];exact hr)).2.1
noncomputable def PH(cm:Nat):SF:=[("tape",.ref cx),("rules",.ref iP),("grammar",.ref aX),("table",.ref dg),("corners",.ref (gN cm))]
theorem Yk(D:eW Rs)(w:cX Rs (gz Rs) c N h)(gr:iI Rs h)(nB:∀j,j<Rs.length→h (.mk 43 [j])=aa (.list ((bo ((aG Rs j).length+1)).map λd=>a9 (j,d))))(L:kB Rs Cu N t h)
  (fin:∀N ps cm h',bL Rs (gz Rs) c N t ps cm h'→(∀p,p∈ps↔p∈Pj Rs 2)→ji Cu h'→SS (bJ i (b+6)) (PH cm) h' [(ba 478).drop 8] Q):SS (bJ i (b+6)) IM h [(ba 478).drop 7] Q:=by
 refine kG (nZ (i.K.ref rfl) (i.K.keep rfl) (aB n_ aL) (Η (b:=b+4) rfl L.ru D.len.1 D.two D.CV L.free).cp) ?_;rintro v h' ⟨s,rfl,rfl,J⟩;exact SS.sub (fin s.M s.ps s.m s.h ⟨w.t_ J.kq J.free (ah J.le (cj J.lt):N≤s.M),gr.kq J.kq,λj hj=>(J.kq.1 _ _ rfl).trans (nB j hj),(J.kq.1 _ _ rfl).trans L.tp,L.tl,(J.kq.1 _ _ rfl).trans L.ru,J.at',J.lt,J.len⟩ J.mem (L.my.kq J.kq)) (ai (ai (ai (ai (ai br)))))
noncomputable def eD(R:bm)(j:Nat):List aF:=(bo j).flatMap λn=>(bo ((aG R n).length+1)).map λd=>(n,d)
noncomputable def EJ:Expr:=nI (stN (ba 478) 8)
theorem YQ:cq (da (dD EJ) (bC 478)) ["n","dot"]=ab:=by kernel_rfl
theorem w_la8:cZ (da (dD EJ) (bC 478)) ["range","len"]=ab:=by kernel_rfl
theorem TB:oS (da (dD EJ) (bC 478)) ["rules"]=ab:=by kernel_rfl
noncomputable def K7(cm em:Nat):SF:=[("tape",.ref cx),("rules",.ref iP),("grammar",.ref aX),("table",.ref dg),("corners",.ref (gN cm)),("every",.ref (gN em))]
theorem F7(g:GR R):(eD R j).length≤j*3:=by
 refine ah (yE (k:=3) λx _=>by rw[aI _,dS];have:=g.bu x;exact eG ‹_›) ?_;rw[dS];exact ar _
theorem UN(g:GR R)(S:bL R U c N t ps cm h)
  (fin:SS (bJ i (b+6)) (K7 cm N) (h.set (gN N) (.list ((eD R R.length).map aM))) [(ba 478).drop 9] Q):SS (bJ i (b+6)) (PH cm) h [(ba 478).drop 8] Q:=by
 have len:=g.len;refine wz (acc:=gN N) (P:=λh'=>h'=h.set (gN N) (.list ((eD R R.length).map aM))) YQ w_la8 (by kernel_rfl) (uu (n:=R.length) (b8 (i.K.ty rfl) rfl (aB (b8 (i.K.bi rfl) rfl (aB n_ aL) (by have:=oO (i:=bJ i (b+6)) (.own S.ru) (by rw[aI _];exact bd ‹_› bg);rw[aI] at this;exact this)) aL) tZ) (bd ‹_› bg)) S.w.tb.free.at ?_ λh' e=>e▸SS.sub fin (ai (ai (ai (ai (ai (ai br))))));refine rF (σ:=Nat) (λj=>h.set (gN N) (.list ((eD R j).map aM))) (λs j=>s=j∧j≤R.length) 0 R.length ⟨rfl,b_ _⟩ (λ_ _ e=>e.2) (λs j ⟨es,hj⟩=>(cL _ t8 (λe=>?_) (λv e=>?_))) rfl rfl rfl
 ·subst es
  split at e
  ·exact fu e
  ·have:s=R.length:=qQ hj (js.mp ‹_›)
   rw[this]
 ·subst es
  split at e
  ·next hlt=>
   obtain rfl:=aY e;refine(t9 hlt _ ab (l9 rfl) (gv rfl) xN (λe=>(iY e)) (λ_=>?_));refine JH (kk:=.range 0 ((aG R s).length+1)) (ag:=h.set (gN N) (.list ((eD R s).map aM))) ?_ ?_ rfl rfl
   ·refine uu (n:=(aG R s).length+1) (b8 (i.K.ty rfl) rfl (aB (fM (b8 (i.K.bi rfl) rfl (aB (mV (j:=1) (vJ (lY TB) n_ ((λa=>(aq az).trans S.ru:∀a:List aF,(h.set (gN N) (.list (a.map aM))) iP=aa (.list (R.map di))) _) len hlt) bD bg rfl) aL) (B4 (by rw[aI _];exact bd (g.bu s) bg))) bD nW) aL) (by rw[aI _];exact tZ)) (by have:=g.bu s;exact pC (bd this bg))
   ·refine rF (σ:=Nat) (λd=>h.set (gN N) (.list ((eD R s++(bo d).map λd=>(s,d)).map aM))) (λd j=>d=j∧j≤(aG R s).length+1) 0 ((aG R s).length+1) ⟨rfl,b_ _⟩ (λ_ _ e=>e.2) (λd j' ⟨ed,hd⟩=>(cL _ t8 (λe=>?_) (λv e=>?_))) rfl rfl (by rw[List.range_zero,DN,gP _])
    ·subst ed
     split at e
     ·exact fu e
     ·have:d=(aG R s).length+1:=qQ hd (js.mp ‹_›)
      refine(aU (s+1) ⟨rfl,hlt⟩ ?_);show h.set (gN N) (.list ((eD R (s+1)).map aM))=_;rw[this,show eD R (s+1)=eD R s++(bo ((aG R s).length+1)).map λd=>(s,d) from by unfold eD;rw[w_,ajb];exact ay (_++·) (gP _)]
    ·subst ed
     split at e
     ·next hlt2=>
      obtain rfl:=aY e;refine(t9 hlt2 _ ab (l9 rfl) (gv rfl) xN (λe=>(iY e)) (λ_=>?_));refine qe (EV.ep (eY (aB n_ (aB n_ aL)))) ?_;rintro v h1 ⟨rfl,rfl⟩;refine(nQ _ aS ?_ (d+1) ⟨rfl,hlt2⟩ ?_)
      ·rw[aI _,cU,aI _,dS]
       exact ah (fp (F7 (j:=s) g) (ah hd (eG (g.bu s)))) (ah (oj (qR 3 (ah hj len)) 3) aJ)
      ·show h.set (gN N) (.list ((eD R s++(bo (d+1)).map λd=>(s,d)).map aM))=_
       rw[iF,w_,dN (l₁:=bo d),←wR,dN (l₂:=Iq _ [d])];rfl
     ·exact a7 e
  ·exact a7 e
variable{ch:List aF}{em:Nat}
theorem bL.Z9{t':List Int}(S:bL R U c N t ps cm h)(tl:t'.length≤20):bL R U c N t' ps cm (h.set cx (.list (t'.map .int))):=by
 have S':=S.kq (B:=[71,70].tail.tail) (M:=N) (h':=h) .same S.w.tb.free (ar _);refine⟨S.w.t_ (B:=[70]) (.set rfl) (S.w.tb.free.same λ_ _ _=>aq az) (ar _),S.gr.kq (B:=[70]) (N:=N) (.set rfl),λj hj=>(aq az).trans (S.nB j hj),aS,tl,(aq az).trans S.ru,(aq az).trans S.co,S.cl,S.pl⟩
noncomputable def lsN:Nm:=.mk 73 []
noncomputable def db(j:Nat):Nm:=.mk 72 [j]
theorem BR{j:Nat}:q∈eD R j↔q.1<j∧q.2≤(aG R q.1).length:=by
 unfold eD;rw[propext sK]
 constructor
 ·rintro⟨a,ha,h⟩
  refine aj (bB.mp h) λd hd ax=>?_;subst ax;exact⟨dR.mp ha,eS (dR.mp hd)⟩
 ·rintro⟨h1,h2⟩
  exact(aU q.1 (dR.mpr h1) (bB.mpr (aU q.2 (dR.mpr (lb h2)) rfl)))
theorem PG:aM q∈I.map aM↔q∈I:=⟨λh=>by refine aj (bB.mp h) λp a c=>?_;exact yQ c▸a,λh=>bB.mpr (aU _ h rfl)⟩
theorem xY:∀{l:List aF},eK 6 (l.map aM)=ab
 |[]=>rfl
 |p::r=>by
  show(SV.data 6 (aM p) && eK 6 (r.map aM))=ab;rw[xY,Ig _];rfl
structure yY where
 t:List Int
 ch:List aF
 h:SH
structure BH(R:bm)(N:Nat)(aA:SH)(J:Nat)(em:Nat)(j:Nat)(s:yY):Prop where
 ch:s.h (db J)=aa (.list (s.ch.map aM))
 nd:s.ch.Nodup
 ok:∀q∈s.ch,cY R q
 len:s.ch.length≤j
 tp:s.h cx=aa (.list (s.t.map .int))
 tl:s.t.length≤20
 ev:s.h (gN em)=aa (.list ((eD R R.length).map aM))
 same:∀x,x≠cx→x≠db J→s.h x=aA x
noncomputable def qv(cm em:Nat):SF:=[("tape",.ref cx),("rules",.ref iP),("grammar",.ref aX),("table",.ref dg),("corners",.ref (gN cm)),("every",.ref (gN em)),("lists",.ref lsN)]
noncomputable def yj(cm em J:Nat):SF:=[("tape",.ref cx),("rules",.ref iP),("grammar",.ref aX),("table",.ref dg),("corners",.ref (gN cm)),("every",.ref (gN em)),("lists",.ref lsN),("chosen",.ref (db J))]
theorem aei(g:GR R){J:Nat}{s:yY}(C:BH R N aA J em j s)(hj:j<3)(fin:∀s',BH R N aA J em (j+1) s'→SS (bJ i (b+6)) (yj cm em J) s'.h k Q):
  SS (bJ i (b+6)) ((yj cm em J).put "_" v) s.h (d_ (stN (d_ (stN (ba 478) 10)) 1)::k) Q:=by
 obtain⟨t,ch,h⟩:=s;have tl:=C.tl;have al:=F7 (j:=R.length) g;have len:=g.len;have a0:0< (eD R R.length).length:=List.length_pos_of_mem (BR.mpr ⟨g.pos,b_ _⟩:((0,0):aF)∈eD R R.length);generalize hL:(eD R R.length).length=L at al a0;have mL:gB t % (L:Int)=((gB t % (L:Int)).toNat:Int):=xD a0;have Gg:(gB t % (L:Int)).toNat<L:=uY a0;generalize (gB t % (L:Int)).toNat=x at mL Gg;obtain⟨q,hq⟩:∃q,(eD R R.length)[x]? =aa q:=⟨_,fb (by rw[hL];exact Gg)⟩;have zk:(h.set cx (.list (t.tail.map .int))) (gN em)=aa (.list ((eD R R.length).map aM)):=(aq az).trans C.ev;have cl:CP (bJ i (b+6)) (h.set cx (.list (t.tail.map .int))) (.bi "len") [.ref (gN em)] (is (.int L) (h.set cx (.list (t.tail.map .int)))):=by
  have:=oO (i:=bJ i (b+6)) (.own zk) (by rw[aI _,hL];exact bd al (bd (qR _ len) bg));rw[aI,hL] at this;exact this
 refine bM (v:=aM q) (mx (j:=x) n_ (fM (b8 (i.K.ref rfl) (i.K.keep rfl) (aB n_ aL) (vV (b:=b+5) rfl C.tp tl).cp) (b8 (i.K.bi rfl) rfl (aB n_ aL) cl) (mL▸tO (ib.mpr a0))) (.own zk) (bI Gg (ah al (ah (qR _ len) aJ))) (by rw[dv,hq];rfl)) ?_;have zo:(h.set cx (.list (t.tail.map .int))) (db J)=aa (.list (ch.map aM)):=(aq az).trans C.ch;have vW:(h.set cx (.list (t.tail.map .int))) cx=aa (.list (t.tail.map .int)):=aS;have Fy:∀x,x≠cx→x≠db J→(h.set cx (.list (t.tail.map .int))) x=aA x:=λx h1 h2=>(aq h1).trans (C.same x h1 h2);have D2:ch.length≤j:=C.len;have JZ:t.tail.length≤20:=by rw[pF];dsimp only at tl;exact ah (ku _ _) ‹_›
 have nd:ch.Nodup:=C.nd;have ok:∀q∈ch,cY R q:=C.ok;clear cl C mL;generalize h.set cx (.list (t.tail.map .int))=h1 at zk zo vW Fy ⊢;refine GN (c:=!decide (aM q∈ch.map aM)) (ag:=h1) ?_ (λe=>?_) (λe=>?_)
 ·exact bt n_ n_ (Bf (.own zo) xY rfl)
 ·have hn:q∉ch:=λz=>by rw[eQ (PG.mpr z)] at e;exact cM e
  refine fJ (dp n_ (fV zo) rfl (aB n_ aL) (ga zo (by rw[aI _];refine(?_:_≤2^24);exact cj (bd D2 (bI hj aJ))))) (aH (aH (SS.sub (ey:=yj cm em J) ?_ (ai (ai (ai (ai (ai (ai (ai (ai br)))))))))));refine fin ⟨t.tail,ch++[q],h1.set (db J) (.list (ch.map aM++[aM q]))⟩ ⟨(aS.trans (by rw[dN];rfl):(h1.set (db J) (.list (ch.map aM++[aM q]))) (db J)=aa (.list ((ch++[q]).map aM))),?_,λp hp=>?_,by show(ch++[q]).length≤j+1;rw[cU];exact eG D2,((aq az).trans vW:(h1.set (db J) (.list (ch.map aM++[aM q]))) cx=aa (.list (t.tail.map .int))),JZ,((aq az).trans zk:(h1.set (db J) (.list (ch.map aM++[aM q]))) (gN em)=aa (.list ((eD R R.length).map aM))),(λx h1 h2=>(aq h2).trans (Fy x h1 h2):∀x,x≠cx→x≠db J→(h1.set (db J) (.list (ch.map aM++[aM q]))) x=aA x)⟩
  ·rw[propext lq]
   exact(cF nd (ko _ _) (λa ha b hb e=>hn (by rw[bS.mp hb] at e;exact e▸ha)))
  ·rcases dw.mp hp with hp|hp
   ·exact ok p hp
   ·rw[bS.mp hp];exact(BR.mp (bN hq))
 ·refine aH (aH (SS.sub (ey:=yj cm em J) (fin ⟨t.tail,ch,h1⟩ ⟨zo,nd,ok,c8 D2,vW,JZ,zk,Fy⟩) (ai (ai (ai (ai (ai (ai (ai (ai br))))))))))
variable{K:Nat}{Ls:List (Nm×List aF)}
structure BB(R:bm)(N K:Nat)(h:SH)(p:Nm×List aF):Prop where
 own:h p.1=aa (.list (p.2.map aM))
 nd:p.2.Nodup
 len:p.2.length≤3
 ok:∀q∈p.2,cY R q
 nm:(∃k,k<N∧p.1=gN k)∨∃j,j<K∧p.1=db j
structure vY(R:bm)(em N:Nat)(Ls:List (Nm×List aF))(h:SH):Prop where
 ev:h (gN em)=aa (.list ((eD R R.length).map aM))
 el:em<N
 ls:h lsN=aa (.list (Ls.map λp=>.ref p.1))
 each:∀p∈Ls,BB R N Ls.length h p
 fr:∀j,Ls.length≤j→h (db j)=af
theorem Tg(g:GR R)(S:bL R U c N t ps cm h)(o:ji Cu h)(em:Nat)(u9:em<N)(ev:h (gN em)=aa (.list ((eD R R.length).map aM)))
  (fin:∀h' Ls,bL R U c (N+2) t ps cm h'→vY R em (N+2) Ls h'→Ls.length=2→h' (.mk 74 [])=af→SS (bJ i (b+6)) (qv cm em) h' [(ba 478).drop 10] Q):SS (bJ i (b+6)) (K7 cm em) h [(ba 478).drop 9] Q:=by
 have F:=S.w.tb.free;have F1:bp (h.set (gN N) (.list [])) (N+1):=F.new [] _;have F2:bp ((h.set (gN N) (.list [])).set (gN (N+1)) (.list [aM (0,0)])) (N+2):=F1.new [] _;have k2:Kq [] N h ((h.set (gN N) (.list [])).set (gN (N+1)) (.list [aM (0,0)])):=(Kq.same.at' (ar _)).at' (bR _);have S2:=S.kq k2 F2 (b6 _ _);have o2:=o.kq k2;have e0:((h.set (gN N) (.list [])).set (gN (N+1)) (.list [aM (0,0)])) (gN N)=aa (.list []):=(aq (kA (by exact du (dq _)))).trans aS;have e1:((h.set (gN N) (.list [])).set (gN (N+1)) (.list [aM (0,0)])) (gN (N+1))=aa (.list [aM (0,0)]):=aS;have La:((h.set (gN N) (.list [])).set (gN (N+1)) (.list [aM (0,0)])) (gN em)=aa (.list ((eD R R.length).map aM)):=(k2.2 em [] u9).trans ev;refine bM (eC (n:=lsN) (aB (eC (n:=gN N) aL F.at) (aB (eC (n:=gN (N+1)) (aB (eY (aB bD (aB bD aL))) aL) F1.at) aL)) (o2.at (a:=73))) ?_;refine SS.sub (ey:=qv cm em) ?_ (ai (ai (ai (ai (ai (ai (ai br)))))));refine(?_:SS _ _ (SH.set (SH.set (SH.set h (gN N) (.list [])) (gN (N+1)) (.list [aM (0,0)])) lsN _) _ _);generalize (h.set (gN N) (.list [])).set (gN (N+1)) (.list [aM (0,0)])=h2 at F2 k2 S2 o2 e0 e1 La ⊢;refine fin _ [(gN N,[]),(gN (N+1),[(0,0)])] (S2.kq (.set rfl:Kq [73] (N+2) h2 (h2.set lsN (.list [.ref (gN N),.ref (gN (N+1))]))) (F2.same λ_ _ _=>aq az) (ar _)) ⟨(aq az).trans La,by exact ah ‹_› (b6 _ _),aS,λp hp=>?_,λj _=>(aq az).trans (o2.at (a:=72))⟩ rfl ((aq az).trans (o2.at (a:=74)));rcases dE.mp hp with rfl|hp
 ·exact⟨(aq az).trans e0,.nil,b_ _,λ_ z=>(by exact cS z),.inl (aU N (by exact bR _) rfl)⟩
 ·rw[bS.mp hp]
  exact⟨(aq (n:=lsN) (x:=gN (N+1)) az).trans e1,ko _ _,lu 1 2,λq hq=>by rw[bS.mp hq];exact⟨g.pos,b_ _⟩,.inl (aU (N+1) (by exact ar _) rfl)⟩
theorem bL.ι{t':List Int}(S:bL R U c N t ps cm h)(a:Kq [70,72] N h h')(F:bp h' N)(tp:h' cx=aa (.list (t'.map .int)))(tl:t'.length≤20):bL R U c N t' ps cm h':=
 ⟨S.w.t_ a F (ar _),S.gr.kq a,λj hj=>(a.1 _ _ rfl).trans (S.nB j hj),tp,tl,(a.1 _ _ rfl).trans S.ru,(a.2 _ _ S.cl).trans S.co,S.cl,S.pl⟩
structure yP where
 t:List Int
 Ls:List (Nm×List aF)
 h:SH
structure FH(R:bm)(U:List (List aF))(c:Int)(N:Nat)(ps:List (Str×Str))(cm em:Nat)(m:Nat)(s:yP):Prop where
 S:bL R U c N s.t ps cm s.h
 I:vY R em N s.Ls s.h
 oT:s.h (.mk 74 [])=af
 bu:m+s.Ls.length=4
theorem X7(g:GR R){s:yP}(J:FH R U c N ps cm em (m+1) s)(fin:∀s',FH R U c N ps cm em m s'→SS (bJ i (b+6)) (qv cm em) s'.h k Q):
  SS (bJ i (b+6)) (qv cm em) s.h (d_ (stN (ba 478) 10)::k) Q:=by
 obtain⟨t,Ls,h⟩:=s;have S:bL R U c N t ps cm h:=J.S;have I:vY R em N Ls h:=J.I;have bu:m+1+Ls.length=4:=J.bu;refine bM (eC (n:=db Ls.length) aL (I.fr _ (ar _):h (db Ls.length)=af)) ?_;have S1:bL R U c N t ps cm (h.set (db Ls.length) (.list [])):=S.kq (B:=[72]) (.set rfl) (S.w.tb.free.same λ_ _ _=>aq az) (ar _);have S2:=S1.Z9 (t':=t.tail) (by rw[pF];have:=S.tl;exact ah (ku _ _) ‹_›);have c0:((h.set (db Ls.length) (.list [])).set cx (.list (t.tail.map .int))) (db Ls.length)=aa (.list []):=(aq az).trans aS;have Rr:((h.set (db Ls.length) (.list [])).set cx (.list (t.tail.map .int))) (gN em)=aa (.list ((eD R R.length).map aM)):=(aq az).trans ((aq az).trans I.ev);have m3:(1:Int)+gB t % 3=((1+ue (gB t):Nat):Int):=by rw[Lm];exact(Int.natCast_add 1 _).symm
 have l3:=FZ (x:=gB t);refine eo (σ:=yY) (λ_=>yj cm em Ls.length) yY.h (λs j=>BH R N ((h.set (db Ls.length) (.list [])).set cx (.list (t.tail.map .int))) Ls.length em j s) ⟨t.tail,[],(h.set (db Ls.length) (.list [])).set cx (.list (t.tail.map .int))⟩ ((bo (1+ue (gB t))).map λj:Nat=>SV.int j) (uu (n:=1+ue (gB t)) (b8 (i.K.ty rfl) rfl (aB (fM bD (fM (b8 (i.K.ref rfl) (i.K.keep rfl) (aB n_ aL) (vV (b:=b+5) rfl S1.tp S1.tl).cp) bD (tO aW)) (m3▸nW)) aL) tZ) (bd (e6 (cj l3) _) bg)) (⟨c0,.nil,λ_ z=>(cS z),ar _,S2.tp,S2.tl,Rr,λ_ _ _=>rfl⟩:BH R N ((h.set (db Ls.length) (.list [])).set cx (.list (t.tail.map .int))) Ls.length em 0 ⟨t.tail,[],(h.set (db Ls.length) (.list [])).set cx (.list (t.tail.map .int))⟩) (ai (ai (ai (ai (ai (ai (ai (ai br)))))))) (λs j J=>t8.trans ?_) (λs j v J e=>?_) (λs C=>aH ?_)
 ·rw[dv]
  by_cases hj:j<1+ue (gB t)
  ·rw[aP hj,w9 hj];rfl
  ·rw[aK hj,md (by rw[dS];exact js.mp ‹_›)];rfl
 ·have hj:=(cV.mp e).1
  rw[aI,dS] at hj;exact dX (aei (v:=v) g J (bI hj (ah (e6 (eS l3) _) aJ)) λs' J'=>bK (LQ.next (s':yY) J' .rfl))
 ·obtain⟨t',ch,h3⟩:=s
  have C':∀x,x≠cx→x≠db Ls.length→h3 x=h x:=λx h1 h2=>(C.same x h1 h2).trans ((aq h1).trans (aq h2));have Td:h3 (db Ls.length)=aa (.list (ch.map aM)):=C.ch;have Ctp:h3 cx=aa (.list (t'.map .int)):=C.tp;have T6:h3 (gN em)=aa (.list ((eD R R.length).map aM)):=C.ev;have Jl:h3 lsN=aa (.list (Ls.map λp=>.ref p.1)):=(C' _ az az).trans I.ls;have kq:Kq [70,72] N h h3:=⟨λk l hk=>C' _ (λz=>by injection z with z;exact iz hk (a:=70) rfl z) λz=>by injection z with z;exact iz hk (a:=72) rfl z,λk l _=>C' _ az az⟩;have F3:bp h3 N:=S.w.tb.free.same λk l _=>C' _ az az;have S3:bL R U c N t' ps cm h3:=S.ι kq F3 Ctp C.tl;have cl:ch.length≤3:=by have:=C.len;rw[aI,dS] at this;dsimp only at this;exact ah this (ah (e6 (eS l3) _) aJ)
  refine fJ (dp n_ (fV Jl) rfl (aB n_ aL) (ga Jl (by rw[aI _];refine(?_:_≤2^24);exact ah (ah (lu _ _) (bF bu)) aJ))) (aH ?_);refine SS.sub (ey:=qv cm em) ?_ (ai (ai (ai (ai (ai (ai (ai br)))))));have ll:(Ls++[(db Ls.length,ch)]).length=Ls.length+1:=cU;refine fin ⟨t',Ls++[(db Ls.length,ch)],h3.set lsN (.list ((Ls.map λp=>SV.ref p.1)++[.ref (db Ls.length)]))⟩ ⟨(S3.kq (B:=[73]) (.set rfl) (F3.same λ_ _ _=>aq az) (ar _):bL R U c N t' ps cm (h3.set lsN (.list ((Ls.map λp=>SV.ref p.1)++[.ref (db Ls.length)])))),⟨((aq az).trans T6:(h3.set lsN (.list ((Ls.map λp=>SV.ref p.1)++[.ref (db Ls.length)]))) (gN em)=aa (.list ((eD R R.length).map aM))),I.el,(aS.trans (by rw[dN];rfl):(h3.set lsN (.list ((Ls.map λp=>SV.ref p.1)++[.ref (db Ls.length)]))) lsN=aa (.list ((Ls++[(db Ls.length,ch)]).map λp=>SV.ref p.1))),λp hp=>?_,λj hj=>?_⟩,((aq az).trans ((C' _ az az).trans J.oT):(h3.set lsN (.list ((Ls.map λp=>SV.ref p.1)++[.ref (db Ls.length)]))) (.mk 74 [])=af),by show m+(Ls++[(db Ls.length,ch)]).length=4;rw[ll];exact(uA m Ls.length 1).trans bu⟩
  ·rcases dw.mp hp with hp|hp
   ·have E:=I.each p hp
    have nn:p.1≠lsN∧p.1≠cx∧p.1≠db Ls.length:=by
     rcases E.nm with⟨x,_,e⟩|⟨x,hx,e⟩
     ·rw[e];exact(cF az az az)
     ·rw[e];exact(cF az az (λz=>by injection z with _ z;injection z with z;exact du ‹_› ‹_›))
    exact⟨(aq nn.1).trans ((C' _ nn.2.1 nn.2.2).trans E.own),E.nd,E.len,E.ok,E.nm.imp id λ⟨x,hx,e⟩=>⟨x,by rw[ll];exact ah ‹_› (b6 _ _),e⟩⟩
   ·rw[bS.mp hp]
    exact⟨((aq az).trans Td:(h3.set lsN (.list ((Ls.map λp=>SV.ref p.1)++[.ref (db Ls.length)]))) (db Ls.length)=aa (.list (ch.map aM))),C.nd,cl,C.ok,.inr (aU Ls.length (by rw[ll];exact ar _) rfl)⟩
  ·have hj:Ls.length+1≤j:=by rw[←ll];exact hj
   exact(λj hj=>(aq az).trans ((C' _ az λz=>by injection z with _ z;injection z with z;exact dG ‹_› ‹_›).trans (I.fr j (cj ‹_›))):∀j,Ls.length+1≤j→(h3.set lsN (.list ((Ls.map λp=>SV.ref p.1)++[.ref (db Ls.length)]))) (db j)=af) j hj
theorem YL(g:GR R)(S:bL R U c N t ps cm h)(I:vY R em N Ls h)(l2:Ls.length=2)(oT:h (.mk 74 [])=af)
  (fin:∀t h' Ls,bL R U c N t ps cm h'→vY R em N Ls h'→Ls.length≤4→h' (.mk 74 [])=af→SS (bJ i (b+6)) (qv cm em) h' [(ba 478).drop 11] Q):SS (bJ i (b+6)) (qv cm em) h [(ba 478).drop 10] Q:=by
 refine rK (σ:=yP) (λ_=>qv cm em) yP.h (λs m=>FH R U c N ps cm em m s) ⟨t,Ls,h⟩ 2 ⟨S,I,oT,ay (2+·) l2⟩ .rfl (λs m J=>?_);have bu:=J.bu;have tl:=J.S.tl;refine(mr (!(s.t.map SV.int).isEmpty && decide (((s.Ls.length:Nat):Int) <4)) s.h ?_ (λe=>aH (fin _ _ _ J.S J.I (ah (lu _ _) (bF bu)) J.oT)) (λe=>?_))
 ·have ll:CP (bJ i (b+6)) s.h (.bi "len") [.ref lsN] (is (.int s.Ls.length) s.h):=by
   have:=oO (i:=bJ i (b+6)) (.own J.I.ls) (by rw[aI _];exact bd (ah (lu _ _) (bF bu)) bg)
   rwa [aI] at this
  cases z:!(s.t.map SV.int).isEmpty with
  |false=>exact oN (z▸p_ n_ (lS (.own J.S.tp) (by rw[aI _];exact bd ‹_› bg)))
  |true=>rw[ai7 _];exact lH (ag:=s.h) (z▸p_ n_ (lS (.own J.S.tp) (by rw[aI _];exact bd ‹_› bg))) (J6 (bt (b8 (i.K.bi rfl) rfl (aB n_ aL) ll) bD xV))
 ·rw[bO] at e
  have:(s.Ls.length:Int) <4:=fC e.2;obtain⟨m',rfl⟩:∃m',m=m'+1:=⟨m-1,(qT (oh λz=>du (ib.mp this) ((mZ _).symm.trans (z▸bu)))).symm⟩;exact X7 g J λs' J'=>bK (LQ.next (s':yP) (aU m' (dq _) J') .rfl)
variable{J:List aF}{ad bT:List Nat}{U':List (List aF)}
theorem cX.up(w:cX R U c N h)(hU:U ⊆ U')(hl:U'.length≤2000000):cX R U' c N h:=
 ⟨w.tb,w.ca.imp λT ⟨es,C⟩=>⟨es,C.ca,C.nd,λk v e=>(C.ent k v e).imp id λ⟨I,hI,r⟩=>⟨I,hU hI,r⟩,C.heap,C.node,C.root,C.up⟩,hl⟩
theorem eV.reach{k:Nat}{J J':List aF}(C:eV R k J ad J' bT)(P:Nat→Prop)(step:∀y,P y→∀z∈dO R (y,0),P z):(∀q∈J,∀y∈dO R q,P y)→(∀y∈ad,P y)→∀y∈bT,P y:=by
 induction C with
 |done=>exact λ_ h=>h
 |@step k J J' ad bT q e w ih=>
  intro hJ ha;refine gU (AE (dO R q) J ad) λx ex h1 h2 h3=>?_;rw[ex] at ih;have hx:∀y∈x,P y:=λy hy=>hJ q (bN e) y (h2 y hy);refine ih (λp hp y hy=>?_) (λy hy=>?_)
  ·rcases dw.mp hp with hp|hp
   ·exact hJ p hp y hy
   ·refine aj (bB.mp hp) λa TC ax=>?_;subst ax
    exact step a (hx a TC) y hy
  ·rcases dw.mp hy with hy|hy
   ·exact ha y hy
   ·exact hx y hy
theorem y8{y:Nat}:y∈dO R q↔∃s,(aG R q.1)[q.2]? =aa s∧y<R.length∧y≠0∧bE R y=s:=by
 unfold dO
 split
 ·next e=>exact⟨λh=>(cS h),λ⟨s,h,_⟩=>(by rw[e] at h;exact a7 h)⟩
 ·next s e=>
  rw[propext m9,propext dR,bO _ _,propext h_,propext h_];exact⟨λ⟨a,b,c⟩=>⟨s,e,a,b,c⟩,λ⟨t,e',a,b,c⟩=>(by rw[e] at e';obtain rfl:=aY e';exact⟨a,b,c⟩)⟩
theorem Hj{s:Str}:s∈e7 R I↔∃q∈I,(aG R q.1)[q.2]? =aa s:=gQ
theorem yt{n:Nat}:n∈iL R ps I↔n<R.length∧∃s∈e7 R I,s=bE R n∨(s,bE R n)∈ps:=by
 unfold iL;rw[propext m9,propext dR,propext agy];refine and_congr Iff.rfl (exists_congr λs=>and_congr Iff.rfl ?_);unfold oI;rw[DP _ _,propext h_,propext h_]
noncomputable def rowM(r0 r1 r2 m0 m1 m2:Bool):Bool:=r0 && m0||(r1 && m1||r2 && m2)
noncomputable def abi(r0 r1 r2 a0 a1 a2 b0 b1 b2 c0 c1 c2:Bool):Bool:=
 let s0:=r0||rowM r0 r1 r2 a0 b0 c0;let s1:=r1||rowM r0 r1 r2 a1 b1 c1;let s2:=r2||rowM r0 r1 r2 a2 b2 c2
 let A0:=a0||rowM a0 a1 a2 a0 b0 c0;let A1:=a1||rowM a0 a1 a2 a1 b1 c1;let A2:=a2||rowM a0 a1 a2 a2 b2 c2
 let B0:=b0||rowM b0 b1 b2 a0 b0 c0;let B1:=b1||rowM b0 b1 b2 a1 b1 c1;let B2:=b2||rowM b0 b1 b2 a2 b2 c2
 let C0:=c0||rowM c0 c1 c2 a0 b0 c0;let C1:=c1||rowM c0 c1 c2 a1 b1 c1;let C2:=c2||rowM c0 c1 c2 a2 b2 c2
 let t0:=s0||rowM s0 s1 s2 A0 B0 C0;let t1:=s1||rowM s0 s1 s2 A1 B1 C1;let t2:=s2||rowM s0 s1 s2 A2 B2 C2
 (!rowM t0 t1 t2 a0 b0 c0||t0) && (!rowM t0 t1 t2 a1 b1 c1||t1) && (!rowM t0 t1 t2 a2 b2 c2||t2)
theorem ZH:∀r0 r1 r2 a0 a1 a2 b0 b1 b2 c0 c1 c2:Bool,abi r0 r1 r2 a0 a1 a2 b0 b1 b2 c0 c1 c2=ab:=by
 decide +kernel
noncomputable def dj(R:bm)(j:Nat)(x z:Str):Bool:=decide ((x,z)∈Pj R j)
theorem Ok(hC:R.filterMap gK ⊆ lO){x z:Str}:dj R (j+1) x z=(dj R j x z||rowM (dj R j x "A") (dj R j x "B") (dj R j x "S") (dj R j "A" z) (dj R j "B" z) (dj R j "S" z)):=by
 have:(x,z)∈sq (Pj R j)↔((x,("A":Str))∈Pj R j∧(("A":Str),z)∈Pj R j)∨((x,("B":Str))∈Pj R j∧(("B":Str),z)∈Pj R j)∨((x,("S":Str))∈Pj R j∧(("S":Str),z)∈Pj R j):=by
  rw[propext yT]
  constructor
  ·rintro⟨y,a,c⟩
   have hy:y="A"∨y="B"∨y="S":=by simpa using (qC.mp (rO hC a)).2
   rcases hy with rfl|rfl|rfl
   ·exact .inl ⟨a,c⟩
   ·exact .inr (.inl ⟨a,c⟩)
   ·exact .inr (.inr ⟨a,c⟩)
  ·rintro(⟨a,c⟩|⟨a,c⟩|⟨a,c⟩)<;>exact(aU _ a c)
 unfold dj rowM;rw[Pj,propext Qr];simp only[DP,bO,h_,dw,this]
theorem R7(hC:R.filterMap gK ⊆ lO){x y z:Str}(h1:(x,y)∈Pj R 2)(h2:(y,z)∈Pj R 0):(x,z)∈Pj R 2:=by
 have key:((!rowM (dj R 2 x "A") (dj R 2 x "B") (dj R 2 x "S") (dj R 0 "A" "A") (dj R 0 "B" "A") (dj R 0 "S" "A")||dj R 2 x "A") && (!rowM (dj R 2 x "A") (dj R 2 x "B") (dj R 2 x "S") (dj R 0 "A" "B") (dj R 0 "B" "B") (dj R 0 "S" "B")||dj R 2 x "B") && (!rowM (dj R 2 x "A") (dj R 2 x "B") (dj R 2 x "S") (dj R 0 "A" "S") (dj R 0 "B" "S") (dj R 0 "S" "S")||dj R 2 x "S"))=ab:=by
  simp only[(λx z=>Ok (j:=1) hC:∀x z,dj R 2 x z=_),(λx z=>Ok (j:=0) hC:∀x z,dj R 1 x z=_)];exact ZH (dj R 0 x "A") (dj R 0 x "B") (dj R 0 x "S") (dj R 0 "A" "A") (dj R 0 "A" "B") (dj R 0 "A" "S") (dj R 0 "B" "A") (dj R 0 "B" "B") (dj R 0 "B" "S") (dj R 0 "S" "A") (dj R 0 "S" "B") (dj R 0 "S" "S")
 have hy:y="A"∨y="B"∨y="S":=by simpa using (qC.mp (rO hC h1)).2
 have hz:z="A"∨z="B"∨z="S":=by simpa using (qC.mp (rO hC h2)).2
 have d1:dj R 2 x y=ab:=eQ h1;simp only[bO,DP,jL] at key;obtain⟨⟨k1,k2⟩,k3⟩:=key;have row:∀z,dj R 0 y z=ab→rowM (dj R 2 x "A") (dj R 2 x "B") (dj R 2 x "S") (dj R 0 "A" z) (dj R 0 "B" z) (dj R 0 "S" z)=ab:=λz hz=>by
  unfold rowM;rcases hy with rfl|rfl|rfl
  ·rw[d1,hz];rfl
  ·rw[d1,hz];simp
  ·rw[d1,hz];simp
 have hr:=row z (eQ h2:dj R 0 y z=ab);refine fC (?_:dj R 2 x z=ab);rcases hz with rfl|rfl|rfl
 ·exact k1.resolve_left (by rw[hr];exact aW)
 ·exact k2.resolve_left (by rw[hr];exact aW)
 ·exact k3.resolve_left (by rw[hr];exact aW)
variable{x:Str}
theorem L3{a b:Str}:(a,b)∈Pj R 0↔∃j,j<R.length∧bE R j=a∧(aG R j)[0]? =aa b∧b∈a8:=by
 unfold Pj;rw[propext gQ];have f:∀{r:Str×List Str},gK r=aa (a,b)↔r.1=a∧r.2[0]? =aa b∧b∈a8:=λ{r}=>by
  obtain⟨x,ss⟩:=r;unfold gK
  cases ss with
  |nil=>exact⟨λz=>(by(first|exact a7 z|obtain rfl:=aY z)),λ⟨_,z,_⟩=>(by(first|exact a7 z|obtain rfl:=aY z))⟩
  |cons s t=>
   dsimp only
   by_cases hs:s∈a8
   ·rw[aP hs]
    exact⟨λz=>(by cases z;exact⟨rfl,rfl,hs⟩),λ⟨z1,z2,_⟩=>(by
     rw[ajg] at z2
     cases z2;exact ay (λy=>aa (y,b)) z1)⟩
   ·rw[aK hs]
    exact⟨λz=>(a7 z),λ⟨_,z,w⟩=>(by
     rw[ajg] at z;obtain rfl:=aY z;exact bc w hs)⟩
 constructor
 ·rintro⟨r,hr,e⟩
  obtain⟨j,hj,rfl⟩:=List.getElem_of_mem hr;have e1:=CK hj;rw[fb hj] at e1;rw[(aY e1)] at e;refine jF (f.mp e) λz1 z2 z3=>?_;exact(ik j hj z1 z2 z3)
 ·rintro⟨j,hj,z1,z2,z3⟩
  exact(aU _ (bN (CK hj)) (f.mpr (cF z1 z2 z3)))
theorem VS:∀{s:Str},s∈a8→s≠"S'":=λ{s} h=>by
 exact(aW:∀s∈a8,s≠"S'") s h
theorem aer:∀{s:Str},s∈e8→s≠"S'":=λ{s} h=>by
 exact(aW:∀s∈e8,s≠"S'") s h
theorem PF(D:eW R)(et:∀p,p∈ps↔p∈Pj R 2)(C:eV R 0 I [] J ad):J=I++ad.map (·,0)∧ad.Nodup∧∀n,n∈ad↔n∈iL R ps I:=by
 have g:=D.gr;obtain⟨P,Oy⟩:=C.prop;obtain⟨x,e1,e2⟩:=P.ext;have e2:ad=x:=by rw[e2];rfl
 subst e2;have UR:∀s∈e7 R I,s≠"S'":=λs hs=>by
  refine aj (Hj.mp hs) λq _ e=>?_;refine aer (g.MU q.1 ?_ s (bN e));refine aij λz=>?_;unfold aG at e;rw[md z] at e;(first|exact a7 e|obtain rfl:=aY e)
 refine(cF e1 (P.nd .nil) (λn=>⟨λhn=>?_,λhn=>?_⟩))
 ·
  have:=C.reach (λy=>y<R.length∧y≠0∧∃s∈e7 R I,s=bE R y∨(s,bE R y)∈Pj R 2) (λy ⟨h1,h2,s,hs,h3⟩ z hz=>?_) (λq hq y hy=>?_) (λ_ z=>by exact cS z) n hn
  ·obtain⟨h1,_,s,hs,h3⟩:=this
   exact yt.mpr ⟨h1,s,hs,h3.imp id (et _).mpr⟩
  ·refine gU (y8.mp hz) λs' e' z1 z2 z3=>?_
   have ed:(bE R y,bE R z)∈Pj R 0:=L3.mpr (ik y h1 rfl (z3▸e') (g.Hq z (oh z2) z1));refine⟨z1,z2,s,hs,.inr ?_⟩;rcases h3 with rfl|h3
   ·exact(λp hp=>i7 _ (i7 _ hp):∀p∈Pj R 0,p∈Pj R 2) _ ed
   ·exact R7 D.CV h3 ed
  ·refine gU (y8.mp hy) λs e z1 z2 z3=>?_
   exact⟨z1,z2,s,Hj.mpr (aU q hq e),.inl z3.symm⟩
 ·refine mP (yt.mp hn) λh1 s hs h3=>?_
  have adk:∀a b:Str,a≠"S'"→(a,b)∈Pj R 0→(∀n,0<n→n<R.length→bE R n=a→n∈ad)→∀n,0<n→n<R.length→bE R n=b→n∈ad:=λa b ha hab Q n n0 n1 n2=>by
   refine gU (L3.mp hab) λj hj z1 z2 z3=>?_;have hm:(j,0)∈J:=e1▸kj _ (bB.mpr (aU j (Q j (oh λz=>ha (by rw[←z1,z,g.yl]):0<j) hj z1) rfl));refine xE (uE hm) λi hi=>?_;exact Oy i _ (b_ _) hi n (y8.mpr (ik b z2 n1 (dG n0) n2))
  have path:∀j,∀a b:Str,a≠"S'"→(a,b)∈Pj R j→(∀n,0<n→n<R.length→bE R n=a→n∈ad)→∀n,0<n→n<R.length→bE R n=b→n∈ad:=λj=>by
   induction j with
   |zero=>exact adk
   |succ j ih=>
    intro a b ha hab Q;rcases dw.mp hab with hab|hab
    ·exact ih a b ha hab Q
    ·refine aj (yT.mp hab) λy h1 h2=>?_
     have hy:y≠"S'":=VS (by
      have:=(qC.mp (rO D.CV h1)).2;exact(aW:∀s∈(["A","B","S"]:List Str),s∈a8) _ this)
     exact ih y b hy h2 (ih a y ha h1 Q)
  have Q0:∀n,0<n→n<R.length→bE R n=s→n∈ad:=λn n0 n1 n2=>by
   refine aj (Hj.mp hs) λq hq e=>?_;refine xE (uE (e1▸i7 _ hq:q∈J)) λi hi=>?_;exact Oy i _ (b_ _) hi n (y8.mpr (ik s e n1 (dG n0) n2))
  have ns:=UR s hs;rcases h3 with rfl|h3
  ·exact Q0 n (oh λz=>ns (by rw[z,g.yl])) h1 rfl
  ·have h3:=(et _).mp h3
   have n0:0<n:=oh λz=>by
    have:=(qC.mp (rO D.CV h3)).2;rw[z] at this;dsimp only at this;rw[g.yl] at this;exact bc this aW
   exact path 2 s _ ns h3 Q0 n n0 h1 rfl
theorem Jq(D:eW R)(et:∀p,p∈ps↔p∈Pj R 2)(r:dF R I L):∃ad:List Nat,L=I++ad.map (·,0)∧ad.Nodup∧∀n,n∈ad↔n∈iL R ps I:=by
 rcases r with⟨rfl,rfl⟩|⟨_,ad,C⟩
 ·refine(cL ([]) rfl .nil (λn=>⟨λz=>(cS z),λz=>?_⟩))
  refine mP (yt.mp z) λ_ s hs _=>?_;exact cS hs
 ·exact⟨ad,PF D et C⟩
theorem By:(iL R ps I).Nodup:=al9 List.filter_sublist HE
theorem D8{a c:List Nat}(ha:a.Nodup)(hc:c.Nodup)(e:∀n,n∈a↔n∈c):a.Perm c:=(HH ha hc).mpr e
theorem Ta{key:SV→Int}{vs ws a c:List SV}(pw:vs.Perm ws)(pa:a.Perm vs)(pc:c.Perm ws)(sa:a.Pairwise λx y=>key x<key y)(sc:c.Pairwise λx y=>key x<key y):a=c:=
 List.Perm.eq_of_pairwise (le:=λx y=>key x<key y) (λx y _ _ h1 h2=>bc h1 (ajh h2)) sa sc (pa.trans (pw.trans pc.symm))
noncomputable def jW:SV→Int
 |.tup [.int a,.int b]=>a*1000+b
 |_=>0
theorem afj{a c e d:Nat}(hc:c<1000)(h:a<e):a*1000+c<e*1000+d:=
 bI (af2 hc _) (ah (bF (QP a 1000).symm) (ah (qR 1000 h) (b6 _ _)))
theorem Bi{p q:aF}(hp:p.2<1000)(h:p.1<q.1):jW (aM p) <jW (aM q):=ib.mpr (afj (d:=q.2) hp h)
theorem SA{p q:aF}(hp:p.2<1000)(hq:q.2<1000):lA (aM p) (aM q)=decide (jW (aM p) <jW (aM q)):=by
 show(if SV.int p.1=SV.int q.1 then(if SV.int p.2=SV.int q.2 then an else decide ((p.2:Int) <q.2)) else decide ((p.1:Int) <q.1))=_;have inj:∀{a c:Nat},SV.int a=SV.int c→a=c:=λe=>w7 (SV.int.inj e)
 by_cases h1:p.1=q.1
 ·rw[aP (ay (λn:Nat=>SV.int n) h1),(mY.mpr (by show(p.1:Int)*1000+p.2< (q.1:Int)*1000+q.2↔_;rw[h1];exact Int.add_lt_add_iff_left _):(decide (jW (aM p) <jW (aM q)))=decide ((p.2:Int) <q.2))]
  exact if h2:p.2=q.2 then(aP (ay (λn:Nat=>SV.int n) h2)).trans (h2▸(i0 (Int.lt_irrefl _)).symm) else aK λz=>h2 (inj z)
 ·rw[aK λz=>h1 (inj z)]
  exact mY.mpr ⟨λz=>Bi hp (ib.mp z),λz=>(aji h1).elim (λy=>ib.mpr y) λy=>bc z (ajh (Bi hq y))⟩
theorem WF{p q:aF}(hp:p.2<1000)(hq:q.2<1000)(h:p≠q):jW (aM p)≠jW (aM q):=λe=>
 if h1:p.1=q.1 then h (jw h1 (w7 (Int.add_left_cancel ((ay (λn:Nat=>(n:Int)*1000+p.2) h1).symm.trans e))))
 else(aji h1).elim (λy=>QR (Bi hp y) e) λy=>ahq (Bi hq y) e
theorem Mr{l:List aF}(h:∀q∈l,q.2<1000)(nd:l.Nodup):((l.map aM).map jW).Nodup:=by
 rw[pi];exact wQ.mpr (nd.imp_of_mem λha hb dh=>WF (h _ ha) (h _ hb) dh)
theorem ZM{elt iter:Expr}{z x y:Str}{q q' zp q3 gE:Pos}{nn:Nat}{sc:cb}{pos:Pos}{kk:dm}{acc:Nm}{l ls:List Str}{vs us:List SV}(V:cq (da sc i.F) l=ab)(W:cZ (da sc i.F) ls=ab)(ok:(qo sc i.F && (l.contains x && l.contains y) && ab)=ab)(a:EI i fr h iter kk ag)(ha:ag acc=af)
  (hit:∀(ws:List SV) (j:Nat),jk kk j (ag.set acc (.list ws))=aa vs[j]?) (hl:us.length=vs.length) (hz:vs.length≤cR) (hx:(gX sc fr).lookup x=af) (hy:∀v,((gX sc fr).put x v).lookup y=af) (two:∀v∈vs,∃a c,v=.tup [a,c])
  (b:∀(ws:List SV) (j:Nat) (v1 v2 u:SV),vs[j]? =aa (.tup [v1,v2])→us[j]? =aa u→EV (i.comp sc l ls V W) (((gX sc fr).put x v1).put y v2) (ag.set acc (.list ws)) elt u (ag.set acc (.list ws)))
  (c:SS i (fr.put z (.ref acc)) (ag.set acc (.list us)) (rest::k) Q) (okz:autoParam (i.l.contains z=ab) bl) (on:autoParam (rZ iter) i8):SS i fr h ((.Assign [.Name z q3] (.ListComp elt [⟨.Tuple [.Name x q,.Name y q'] nn zp,iter,[],0⟩] sc pos) gE::rest)::k) Q:=
 have o:=Gk ok
 wz (P:=λh'=>h'=ag.set acc (.list us)) V W (vc o.c) a ha (EY .tup hit hl hz λws j v u e hu=>kc (two v (bN e)) λv1 v2 z=>⟨_,z▸at2 o.o,(gv hx).trans (gv (hy v1)),b ws j v1 v2 u (z▸e) hu⟩) (λaC e=>e.symm▸c) okz on
noncomputable def j1:List bx:=d_ (stN (ba 478) 12)
noncomputable def Mt:Expr:=nI (stN j1 0)
theorem Vg:cq (da (dD Mt) (bC 478)) ["n","dot"]=ab:=by kernel_rfl
theorem Yy:oS (da (dD Mt) (bC 478)) ["grammar"]=ab:=by kernel_rfl
noncomputable def rc(cm em:Nat)(cn:Nm):SF:=[("tape",.ref cx),("rules",.ref iP),("grammar",.ref aX),("table",.ref dg),("corners",.ref (gN cm)),("every",.ref (gN em)),("lists",.ref lsN),("asked",.ref (.mk 74 [])),("chosen",.ref cn)]
theorem Rw(g:GR R)(S:bL R U c N t ps cm h){cn:Nm}(E:BB R N K h (cn,I))(nx:cn≠.mk 99 [])
  (fin:SS (bJ i (b+6)) ((rc cm em cn).put "items" (.ref (gN N))) (h.set (gN N) (.list (I.map a9))) (j1.drop 1::k) Q):SS (bJ i (b+6)) (rc cm em cn) h (j1::k) Q:=by
 have F:=S.w.tb.free;have own:h cn=aa (.list (I.map aM)):=E.own;have ok:∀q∈I,cY R q:=E.ok;have il:I.length≤3:=E.len;have nn:cn≠gN N:=λz=>by rw[z,gN,F.at] at own;exact a7 own
 obtain⟨es,Zk,ZO⟩:∃es:Unit,h aX=aa (.inst 283 pJ)∧h (.mk 35 [])=aa (.list ((bo R.length).map bA)):=(aU (()) S.gr.1 S.gr.2);refine ZM (acc:=gN N) (kk:=.list cn) (l:=["n","dot"]) (ls:=[]) (vs:=I.map aM) (us:=I.map a9) Vg rfl (by kernel_rfl) (d8 n_ own) F.at (λws j=>d6 ((aq nn).trans own)) (by rw[aI _,aI _]) (by rw[aI _];refine(?_:_≤2^24);exact ah ‹_› aJ) rfl (λ_=>rfl) (λv hv=>by refine aj (bB.mp hv) λq _ ax=>?_;subst ax;exact(ud _ _ rfl)) ?_ fin;intro ws j v1 v2 u e1 e2;refine aj (dH e1) λq hq eq=>?_;rw[dv,hq] at e2
 (first|exact a7 e2|obtain rfl:=aY e2)
 injection eq with eq;injection eq with a1 eq;injection eq with a2 _;subst a1 a2;refine xA (ok q (bN hq)) λo1 o2=>?_;refine aj (S.w.tb.pr q.1 o1) λx px _=>?_;have UW:((bo ((aG R q.1).length+1)).map λd=>a9 (q.1,d))[q.2]? =aa (a9 q):=by
  rw[dv,w9 (lb o2)];rfl
 have bu:=g.bu q.1;exact mx (j:=q.2) (a_ (n:=bf q.1) (kK (a_ (n:=aX) (lY Yy) (aE Zk)) n_ (aE ZO) g.len o1) (aE px)) n_ (.own (aE (S.nB q.1 o1))) (bd o2 (bd bu bg)) UW
theorem bL.run{B:List Nat}(S:bL R U c N t ps cm h)(w:cX R U c' M h')(a:Kq B N h h')(le:N≤M)(hB:autoParam ((rN.all (λk=>!(99::B).contains k) && !(99::B).contains 43 && !(99::B).contains 70 && !(99::B).contains 71)=ab) bl):bL R U c' M t ps cm h':=by
 simp only[bO,jL] at hB;obtain⟨⟨⟨h2,h3⟩,h4⟩,h5⟩:=hB;exact⟨w,S.gr.kq a h2,λj hj=>(a.1 _ _ h3).trans (S.nB j hj),(a.1 _ _ h4).trans S.tp,S.tl,(a.1 _ _ h5).trans S.ru,(a.2 _ _ S.cl).trans S.co,bI S.cl le,S.pl⟩
theorem eV.bu(C:eV R 0 I [] J ad):J.length≤I.length+R.length:=by
 refine aj C.prop.1.ext λx e e2=>?_;have e2:ad=x:=by rw[e2];rfl
 subst e2;have:=fO (C.prop.1.nd .nil) (l₂:=bo R.length) λy hy=>by
  rcases C.prop.1.src y hy with z|⟨q,_,z⟩
  ·exact cS z
  ·refine bH (y8.mp z) λ_ _ z _=>?_
   exact dR.mpr z
 rw[dS] at this;rw[e,cU,aI _];exact e6 this _
theorem YO{im:Nat}{fr:SF}{p1 p2:Pos}(g:GR R)(S:bL R U c N t ps cm h)(hi:h (gN im)=aa (.list (I.map a9)))(ok:∀q∈I,cY R q)(il:I.length≤3)(f1:fr.lookup ("table":Str)=aa (.ref dg))(f2:fr.lookup ("items":Str)=aa (.ref (gN im)))
  (c1:EP (bJ i (b+6)) fr h e (λv h'=>∃J ad,xW R c N h I v h' J ad)) (ns:iQ e=ab):
  EP (bJ i (b+6)) fr h (.Call (.Name "_law_told" p1) [e] [] p2) (λv h'=>v=.ref (gN (N+1))∧∃J ad,eV R 0 I [] J ad∧bL R U (c+1) (N+2) t ps cm h'∧h' (gN (N+1))=aa (.list (J.map aM))∧Kq [10,30] N h h'):=by
 refine uc (f:=.glob 473) (i.K.ref rfl) (i.K.keep rfl) c1 (λv h1 ⟨J,ad,C⟩=>?_) (by rw[ns];rfl);refine⟨λfr' Q' X hq=>(Gy (b:=b+5) rfl (.inr (aU _ C.v C.list):Told h1 v J) C.ok C.tb.it C.tb.free (ah (eV.bu C.clo) (ah (fp il g.len) aJ))).cp.run fr' Q' X λv h2 ⟨e1,e2⟩=>hq _ _ ⟨e1,J,ad,C.clo,?_,?_,?_⟩⟩
 ·rw[e2];exact(S.run (S.w.clo C) C.kq (bR _):bL R U (c+1) (N+1) t ps cm h1).kq (B:=[]) (M:=N+2) (.new (ar _)) (C.tb.free.new [] _) (bR _)
 ·rw[e2];exact aS
 ·rw[e2];exact C.kq.trans (M:=N+1) (.new (ar _)) (bR _)
theorem UX{cn:Nm}{im:Nat}(g:GR R)(S:bL R U c N t ps cm h)(hi:h (gN im)=aa (.list (I.map a9)))(ok:∀q∈I,cY R q)(il:I.length≤3)
  (fin:∀J ad h',eV R 0 I [] J ad→bL R U (c+1) (N+2) t ps cm h'→h' (gN (N+1))=aa (.list (J.map aM))→Kq [10,30] N h h'→SS (bJ i (b+6)) (((rc cm em cn).put "items" (.ref (gN im))).put "whole" (.ref (gN (N+1)))) h' (j1.drop 2::k) Q):
  SS (bJ i (b+6)) ((rc cm em cn).put "items" (.ref (gN im))) h (j1.drop 1::k) Q:=by
 refine kG (YO g S hi ok il rfl rfl (dp n_ (iU S.w.tb.tb rfl) (i.K.keep rfl) (aB n_ aL) (A5 (b:=b+5) rfl S.w.tb hi ok (ah ‹_› aJ)).cp) rfl) ?_;rintro v h' ⟨rfl,J,ad,C,S',hw,kq⟩;exact fin J ad h' C S' hw kq
variable{A:List aF}{im wm rm:Nat}{cn:Nm}
noncomputable def Nv(cm em:Nat)(cn:Nm)(im wm:Nat):SF:=((rc cm em cn).put "items" (.ref (gN im))).put "whole" (.ref (gN wm))
noncomputable def oa(cm em:Nat)(cn:Nm)(im wm rm:Nat):SF:=(Nv cm em cn im wm).put "rest" (.ref (gN rm))
theorem aec(S:bL R U c N t ps cm h)(hc:h cn=aa (.list (I.map aM)))(il:I.length≤3)(hw:h (gN wm)=aa (.list ((I++A).map aM)))(al:A.length≤5)
  (fin:SS (bJ i (b+6)) (oa cm em cn im wm N) (h.set (gN N) (.list (A.map aM))) (j1.drop 3::k) Q):
  SS (bJ i (b+6)) (Nv cm em cn im wm) h (j1.drop 2::k) Q:=by
 have ll:CP (bJ i (b+6)) h (.bi "len") [.ref cn] (is (.int I.length) h):=by
  have:=oO (i:=bJ i (b+6)) (.own hc) (by rw[aI];exact bd ‹_› bg)
  rwa [aI] at this
 have sl:fh ((I++A).map aM) (aa (I.length:Int)) af=A.map aM:=by
  rw[BF (by rw[aI,cU];exact b6 _ _),←zZ,List.drop_left]
 exact bM (Fx (n:=gN wm) (m:=gN N) n_ (b8 (i.K.bi rfl) rfl (aB n_ aL) ll) hw (by rw[aI,cU];refine(?_:_≤2^24);exact ah (fp ‹_› ‹_›) aJ) S.w.tb.free.at sl) fin
theorem Yn{fr:SF}{n m:Nm}{vs ws:List SV}{hi:Expr}{j:Int}{p pos:Pos}(hl:de i.G aC u vs)(a:EV i fr h e u ag)(b:EV i fr ag hi (.int j) aC)(hz:vs.length≤cR)(hm:aC m=af)(hw:fh vs af (aa j)=ws):EV i fr h (.Subscript e (.Slice af (aa hi) af p) pos) (.ref m) (aC.set m (.list ws)):=hw▸MX (n:=n) hl a b hz hm
theorem Xq(h:I.Nodup):(I.map aM).Nodup:=Iz _ (λa b z e=>z (yQ e)) h
theorem UH(g:GR R)(S:bL R U c N t ps cm h)(hc:h cn=aa (.list (I.map aM)))(nx:cn≠.mk 99 [])(ok:∀q∈I,cY R q)(il:I.length≤3)(hi:h (gN im)=aa (.list (I.map a9)))(hw:h (gN wm)=aa (.list ((I++A).map aM)))(hr:h (gN rm)=aa (.list (A.map aM)))(al:A.length≤5)(nd:A.Nodup)(Kb:∀q∈A,cY R q)
  (fin:∀M h',bL R U c M t ps cm h'→N≤M→Kq [] N h h'→SS (bJ i (b+6)) (oa cm em cn im wm rm) h' (j1.drop 4::k) Q):
  SS (bJ i (b+6)) (oa cm em cn im wm rm) h (j1.drop 3::k) Q:=by
 have F:=S.w.tb.free;have F1:bp (h.set (gN N) (.list (I.map aM))) (N+1):=F.new [] _;have k1:Kq [] N h (h.set (gN N) (.list (I.map aM))):=.new (ar _);have nA:=k8 k1 F hc nx;have FG:=k8 k1 F hr (λz=>by injection z with _ z;exact jz z);have F2:bp ((h.set (gN N) (.list (I.map aM))).set (gN (N+1)) (.list (I.map aM))) (N+2):=F1.new [] _;have k2:Kq [] N h ((h.set (gN N) (.list (I.map aM))).set (gN (N+1)) (.list (I.map aM))):=k1.at' (bR _);have ll:CP (bJ i (b+6)) (h.set (gN N) (.list (I.map aM))) (.bi "len") [.ref cn] (is (.int I.length) (h.set (gN N) (.list (I.map aM)))):=by
  have:=oO (i:=bJ i (b+6)) (.own nA) (by rw[aI];exact bd ‹_› bg)
  rwa [aI] at this
 have sl:fh ((I++A).map aM) af (aa (I.length:Int))=I.map aM:=by
  rw[Np,←Im,List.take_left]
 refine Ce (P:=λh'=>∃vs,h'=((h.set (gN N) (.list (I.map aM))).set (gN (N+1)) (.list (I.map aM))).set (gN (N+2)) (.set vs)) (Fz (EB.tB (h':=h.set (gN N) (.list (I.map aM))) ?_) λh1 e1=>?_) λh' ⟨vs,e⟩=>?_
 ·exact bt (u:=.ref (gN N)) (w:=.ref cn) (b8 (i.K.ref rfl) (i.K.keep rfl) (aB n_ aL) (Gy (b:=b+5) rfl (.inr (aU _ rfl hi)) ok S.w.tb.it F (ah ‹_› aJ)).cp) n_ (CW (.own aS) (.own nA) xY)
 ·subst e1
  refine Fz (EB.tB (h':=(h.set (gN N) (.list (I.map aM))).set (gN (N+1)) (.list (I.map aM))) ?_) λh2 e2=>?_
  ·exact bt (u:=.ref (gN (N+1))) (w:=.ref cn) (Yn (n:=gN wm) (m:=gN (N+1)) (.own (k8 k1 F hw (λz=>by injection z with _ z;exact jz z))) n_ (b8 (i.K.bi rfl) rfl (aB n_ aL) ll) (by rw[aI,cU];refine(?_:_≤2^24);exact ah (fp ‹_› ‹_›) aJ) F1.at sl) n_ (CW (.own aS) (.own (k8 k2 F hc nx)) xY)
  ·subst e2
   refine Fz (P:=λh'=>∃vs,h'=((h.set (gN N) (.list (I.map aM))).set (gN (N+1)) (.list (I.map aM))).set (gN (N+2)) (.set vs)) (BX (P1:=λv h'=>∃vs,v=.int A.length∧h'=((h.set (gN N) (.list (I.map aM))).set (gN (N+1)) (.list (I.map aM))).set (gN (N+2)) (.set vs)) (P2:=λu w h'=>u=.int A.length∧w=.int A.length∧∃vs,h'=((h.set (gN N) (.list (I.map aM))).set (gN (N+1)) (.list (I.map aM))).set (gN (N+2)) (.set vs)) ?_ (λu h3 p=>?_) λu w h4 p=>?_) λh3 p=>⟨λfr' s Q X hq=>aey.run fr' s Q X λh4 e=>hq _ (e▸p)⟩
   ·refine uc (P:=λv h'=>v=.ref (gN (N+2))∧∃vs:List SV,vs.Nodup∧(∀y,y∈vs↔y∈A.map aM)∧h'=((h.set (gN N) (.list (I.map aM))).set (gN (N+1)) (.list (I.map aM))).set (gN (N+2)) (.set vs)) (i.K.bi rfl) rfl (EP.imp (nZ (i.K.ty rfl) rfl (aB n_ aL) (Bz (U:=A.map aM) (.own (k8 k2 F hr (λz=>by injection z with _ z;exact jz z))) (λv hv=>?_) (by rw[aI];exact bd ‹_› bg) (λ_ z=>z) F2.at)) λv h' q=>q) λv h3 p=>?_
    ·refine aj (bB.mp hv) λq _ ax=>?_;subst ax
     rfl
    ·refine yS p λcP vs nv mm j3=>?_;clear p;subst cP;subst j3
     have pl:vs.length=A.length:=by
      have:=((HH nv (Xq nd)).mpr mm).length_eq
      rwa [aI] at this
     exact⟨λfr' Q' X hq=>(Z_ aS (bd (bF pl) (bd al bg))).run fr' Q' X λv h4 ⟨e1,e2⟩=>hq _ _ (aU vs (by rw[e1,pl]) e2)⟩
   ·refine aj p λvs bq ax=>?_;clear p;subst bq;subst ax
    have l3:CP (bJ i (b+6)) (((h.set (gN N) (.list (I.map aM))).set (gN (N+1)) (.list (I.map aM))).set (gN (N+2)) (.set vs)) (.bi "len") [.ref (gN rm)] (is (.int A.length) (((h.set (gN N) (.list (I.map aM))).set (gN (N+1)) (.list (I.map aM))).set (gN (N+2)) (.set vs))):=by
     have:=oO (i:=bJ i (b+6)) (.own (k8 (k2.at' (b6 _ _)) F hr (λz=>by injection z with _ z;exact jz z):(((h.set (gN N) (.list (I.map aM))).set (gN (N+1)) (.list (I.map aM))).set (gN (N+2)) (.set vs)) (gN rm)=aa (.list (A.map aM)))) (by rw[aI];exact bd ‹_› bg)
     rwa [aI] at this
    exact EP.imp (nZ (i.K.bi rfl) rfl (aB n_ aL) l3) λv h' q=>⟨rfl,q.1,vs,q.2⟩
   ·obtain⟨rfl,rfl,p⟩:=p
    exact⟨D4 rfl rfl,p⟩
 ·subst e
  exact aH (fin (N+3) _ (S.kq (B:=[]) (k2.at' (b6 _ _)) (F2.new [] _) (b6 _ _)) (b6 _ _) (k2.at' (b6 _ _)))
theorem aay(g:GR R)(S:bL R U c N t ps cm h)(hc:h cn=aa (.list (I.map aM)))(nx:cn≠.mk 99 [])(ok:∀q∈I,cY R q)(il:I.length≤3)(hw:h (gN wm)=aa (.list ((I++ad.map λn=>((n,0):aF)).map aM)))(pW:∀n,n∈ad↔n∈iL R ps I)
  (fin:∀M h',bL R U c M t ps cm h'→N≤M→Kq [] N h h'→SS (bJ i (b+6)) (oa cm em cn im wm rm) h' (j1.drop 5::k) Q):
  SS (bJ i (b+6)) (oa cm em cn im wm rm) h (j1.drop 4::k) Q:=by
 have F:=S.w.tb.free;have len:=g.len;have UL:((eD R R.length).map aM).length<18:=by rw[aI _];have:=F7 (j:=R.length) g;exact bd this (bd (qR _ len) bg)
 have Oa:∀n∈iL R ps I,((n,0):aF)∈eD R R.length:=λn hn=>BR.mpr ⟨(yt.mp hn).1,b_ _⟩;have Kw:∀q∈I,q∈eD R R.length:=λq hq=>BR.mpr (ok q hq);have π:∀v∈(I++ad.map λn=>((n,0):aF)).map aM,v∈(eD R R.length).map aM:=λv hv=>by
  refine aj (bB.mp hv) λq hq ax=>?_;subst ax;refine bB.mpr (aU q ?_ rfl);rcases dw.mp hq with hq|hq
  ·exact Kw q hq
  ·refine aj (bB.mp hq) λn hn ax=>?_;subst ax
   exact Oa n ((pW n).mp hn)
 have flat:∀(L:List aF),∀v∈L.map aM,fc v=ab:=λL v hv=>by
  refine aj (bB.mp hv) λq _ ax=>?_;subst ax;rfl
 have Nn:(iL R ps I).length≤5:=ah (IC _ _) (by rw[dS];exact len);have em:(iL R ps I).map (λn=>aM (n,0))=((iL R ps I).map λn=>((n,0):aF)).map aM:=by rw[pi];rfl
 refine Ce (P:=λh'=>∃M,bL R U c M t ps cm h'∧N≤M∧Kq [] N h h') (BX (P1:=λv h'=>v=.ref (gN N)∧∃vs:List SV,vs.Nodup∧(∀y,y∈vs↔y∈(I++ad.map λn=>((n,0):aF)).map aM)∧h'=h.set (gN N) (.set vs))
  (P2:=λu w h'=>∃n' vs ws,u=.ref (gN N)∧w=.ref n'∧h' (gN N)=aa (.set vs)∧h' n'=aa (.set ws)∧(∀y,y∈vs↔y∈ws)∧∃M,bL R U c M t ps cm h'∧N≤M∧Kq [] N h h') ?_ (λu h1 p=>?_) λu w h4 p=>?_) λh' ⟨M,S',le,kq⟩=>aH (fin M h' S' le kq)
 ·exact EP.imp (nZ (i.K.ty rfl) rfl (aB n_ aL) (Bz (U:=(eD R R.length).map aM) (.own hw) (flat _) UL π F.at)) λv h' q=>q
 ·refine yS p λcP vs nv mm j3=>?_;clear p;subst cP;subst j3
  have F1:bp (h.set (gN N) (.set vs)) (N+1):=F.new [] _;have k1:Kq [] N h (h.set (gN N) (.set vs)):=.new (ar _);have S1:bL R U c (N+1) t ps cm (h.set (gN N) (.set vs)):=S.kq (B:=[]) k1 F1 (bR _);have nA:=k8 k1 F hc nx;have v1:(h.set (gN N) (.set vs)) (gN N)=aa (.set vs):=aS;generalize h.set (gN N) (.set vs)=h1 at F1 k1 S1 nA v1 ⊢;refine uc (P:=λv h'=>∃M,v=.ref (gN M)∧h' (gN M)=aa (.list (I.map aM++((iL R ps I).map λn=>((n,0):aF)).map aM))∧N+1≤M∧bp h' (M+1)∧Kq [] (N+1) h1 h') (i.K.ty rfl) rfl (Hc n_ (nZ (i.K.ref rfl) (i.K.keep rfl) (aB n_ (aB n_ (aB n_ aL))) (Jx (b:=b+4) rfl S1.ru len (g.bu:∀j,(aG R j).length≤2) S1.co nA nx ok (ah ‹_› aJ) F1).cp) λw h2 p=>?_) λv h3 p=>?_
  ·refine B3 p λcP M J=>?_;clear p;subst cP
   have k2:=J.kq;have ho:=J.own;rw[em] at ho;have hM:N+1≤M:=by have:=J.lt;exact cj (oy this)
   exact⟨_,_,Cc (n:=gN M) (.own (k8 k2 F1 nA nx)) (.own ho) (by rw[aI _,aI _,aI _];refine(?_:_≤2^24);exact ah (fp ‹_› ‹_›) aJ) J.free.at,M,rfl,aS,hM,J.free.new [] _,k2.at' hM⟩
  ·refine jC p λM bq hl hM F3 k3=>?_;clear p;subst bq
   refine⟨λfr' Q' X hq=>(Bz (U:=(eD R R.length).map aM) (n:=gN (M+1)) (.own hl) (λv hv=>?_) UL (λv hv=>?_) F3.at).run fr' Q' X λv h4 ⟨e1,ws,nw,mw,e4⟩=>hq _ _ ⟨gN (M+1),vs,ws,rfl,e1,?_,?_,λy=>?_,M+2,?_,by exact c8 (c8 (gg hM)),?_⟩⟩
   ·rw[←dN] at hv;exact flat _ v hv
   ·rw[←dN] at hv
    refine aj (bB.mp hv) λq hq ax=>?_;subst ax;refine bB.mpr ⟨q,?_,rfl⟩;rcases dw.mp hq with hq|hq
    ·exact Kw q hq
    ·refine aj (bB.mp hq) λn hn ax=>?_;subst ax
     exact Oa n hn
   ·rw[e4];exact(aq (kA (du (lr (c8 hM))))).trans ((k3.2 N [] (dq _)).trans v1)
   ·rw[e4];exact aS
   ·rw[mm,mw,←dN]
    refine⟨λz=>?_,λz=>?_⟩<;>obtain⟨q,hq,rfl⟩:=bB.mp z<;>refine bB.mpr (aU q ?_ rfl)<;>rcases dw.mp hq with hq|hq
    ·exact i7 _ hq
    ·obtain⟨n,hn,rfl⟩:=bB.mp hq
     exact kj _ (bB.mpr (aU n ((pW n).mp hn) rfl))
    ·exact i7 _ hq
    ·obtain⟨n,hn,rfl⟩:=bB.mp hq
     exact kj _ (bB.mpr (aU n ((pW n).mpr hn) rfl))
   ·rw[e4];exact S1.kq (B:=[]) (k3.at' (ah ‹_› (b6 _ _))) (F3.new [] _) (ah ‹_› (b6 _ _))
   ·rw[e4];exact k1.trans (k3.at' (ah ‹_› (b6 _ _))) (bR _)
 ·obtain⟨n',vs,ws,rfl,rfl,h1,h2,e,p⟩:=p
  exact⟨W0 h1 h2 e,p⟩
noncomputable def oJ:List bx:=d_ (stN j1 5)
noncomputable def LD:Expr:=nI (stN oJ 0)
theorem Θ:cq (da (dD LD) (bC 478)) ["n","dot"]=ab:=by kernel_rfl
theorem Ol:oS (da (dD LD) (bC 478)) ["rules","symbol"]=ab:=by kernel_rfl
theorem JK{vs:List SV}{d:Nat}:fh vs (aa (d:Int)) (aa ((d:Int)+1))=(vs[d]?).toList:=by
 show(vs.drop (fE vs.length d)).take (fE vs.length ((d+1:Nat):Int) - fE vs.length d)=_;rw[show fE vs.length (d:Int)=min d vs.length from B5,show fE vs.length ((d+1:Nat):Int)=min (d+1) vs.length from B5]
 by_cases hd:d<vs.length
 ·rw[sA (cj hd),sA hd,Df _ _,fb hd,Iy hd]
  rfl
 ·have hd:=pg hd
  rw[Ij hd,Ij (c8 hd),zJ _,md hd];rfl
noncomputable def Cv(cm em:Nat)(cn:Nm)(im wm rm:Nat)(x:Str):SF:=(oa cm em cn im wm rm).put "symbol" (.str x)
theorem Sw(g:GR R)(S:bL R U c N t ps cm h)(hc:h cn=aa (.list (I.map aM)))(nn:cn≠gN N)(ok:∀q∈I,cY R q)(il:I.length≤3)
  (fin:SS (bJ i (b+6)) ((Cv cm em cn im wm rm x).put "moved" (.ref (gN N))) (h.set (gN N) (.list ((cG R I x).map aM))) (oJ.drop 1::k) Q):
  SS (bJ i (b+6)) (Cv cm em cn im wm rm x) h (oJ::k) Q:=by
 refine wz (acc:=gN N) (P:=λh'=>h'=h.set (gN N) (.list ((cG R I x).map aM))) Θ (ls:=[]) rfl (by kernel_rfl) (d8 n_ hc) S.w.tb.free.at ?_ λh' e=>e▸fin;refine rF (σ:=Nat) (λj=>h.set (gN N) (.list ((cG R (I.take j) x).map aM))) (λs j=>s=j∧j≤I.length) 0 I.length ⟨rfl,b_ _⟩ (λ_ _ e=>e.2) (λs j ⟨es,hj⟩=>?_) rfl rfl rfl;subst es;refine(cL _ (d6 ((aq nn).trans hc)) (λe=>?_) (λv e=>?_))
 ·have:I.length≤s:=by have:=km.mp e;rwa [aI] at this
  show h.set (gN N) (.list ((cG R (I.take s) x).map aM))=_;rw[na this]
 ·refine aj (dH e) λq hq ax=>?_;subst ax
  have hj:=(cV.mp hq).1;refine xA (ok q (bN hq)) λo1 o2=>?_;have tk:cG R (I.take (s+1)) x=cG R (I.take s) x++(jB R x q).toList:=by
   unfold cG;rw[jN,hq,sD];refine ay (uK (jB R x) (I.take s)++·) ?_;show uK _ [q]=_;rw[qP]
   cases jB R x q<;>rfl
  have dd:decide (SV.tup (fh ((aG R q.1).map SV.str) (aa (q.2:Int)) (aa ((q.2:Int)+1)))=SV.tup [.str x])=decide ((aG R q.1)[q.2]? =aa x):=by
   rw[JK,dv]
   cases(aG R q.1)[q.2]? with
   |none=>exact mY.mpr ⟨λz=>(by injection z with z;cases z),λz=>(a7 z)⟩
   |some y=>exact mY.mpr ⟨λz=>(by injection z with z;injection z with z;injection z with z;rw[z]),λz=>(by injection z with z;rw[z];rfl)⟩
  have xg:SV.data 6 (SV.tup (fh ((aG R q.1).map SV.str) (aa (q.2:Int)) (aa ((q.2:Int)+1))))=ab:=by
   rw[JK,dv]
   cases(aG R q.1)[q.2]? <;>rfl
  refine(t9 hj _ (decide ((aG R q.1)[q.2]? =aa x)) (at2 rfl) ((gv rfl).trans (gv rfl)) (Ee (bt (aaj (mV (j:=1) (vJ (lY Ol) n_ ((λa=>(aq az).trans S.ru:∀a:List aF,(h.set (gN N) (.list (a.map aM))) iP=aa (.list (R.map di))) _) g.len o1) bD bg rfl) n_ (fM n_ bD nW) (by rw[aI _];exact ah (g.bu q.1) (by refine(?_:_≤2^24);exact aJ))) (eY (aB (lY Ol) aL)) (dd▸xU (by rw[xg];rfl)))) (λe=>?_) (λe=>?_))
  ·have:=sk e
   exact(aU (s+1) ⟨rfl,hj⟩ (by rw[tk,show jB R x q=af from aK this];show _=h.set _ _;rw[ajd,gP _]))
  ·have:=fC e
   refine qe (EV.ep (eY (aB n_ (aB (fM n_ bD nW) aL)))) ?_;rintro v h1 ⟨rfl,rfl⟩;refine(nQ _ aS ?_ (s+1) ⟨rfl,hj⟩ ?_)
   ·rw[aI _]
    refine ah (uM _ _) ?_;rw[jH];refine(?_:_≤2^24);exact ah (pD _ _) (ah il aJ)
   ·show h.set (gN N) (.list ((cG R (I.take (s+1)) x).map aM))=_
    rw[iF,tk,show jB R x q=aa (q.1,q.2+1) from aP this,dN];rfl
theorem Fm(g:GR R):(iL R ps I).length≤5:=ah (IC _ _) (by rw[dS];exact g.len)
theorem Pa(D:eW R)(et:∀p,p∈ps↔p∈Pj R 2)(r:dF R I L):L.length≤I.length+5:=by
 refine bH (Jq D et r) λad e nd mm=>?_;have:=(D8 nd By mm).length_eq;have:=Fm (R:=R) (ps:=ps) (I:=I) D.gr;rw[e,cU,aI _];exact e6 (ah (bF ‹_›) ‹_›) _
theorem Jn{fr:SF}{p1 p2:Pos}(D:eW R)(et:∀p,p∈ps↔p∈Pj R 2)(S:bL R U c N t ps cm h)(ok:∀q∈I,cY R q)(il:I.length≤3)
  (c1:EP (bJ i (b+6)) fr aA e (o0 R U N h (cG R I x))) (ns:iQ e=ab):
  EP (bJ i (b+6)) fr aA (.Call (.Name "_law_told" p1) [e] [] p2) (λv h'=>∃L c' M,v=.ref (gN M)∧dF R (cG R I x) L∧bL R U c' (M+1) t ps cm h'∧h' (gN M)=aa (.list (L.map aM))∧Kq [10,30,31,32] N h h'∧N≤M):=by
 refine uc (f:=.glob 473) (i.K.ref rfl) (i.K.keep rfl) c1 (λv h1 ⟨L,c',M,G⟩=>?_) (by rw[ns];rfl);have k1:Kq [10,30,31,32] N h h1:=G.kp.q;refine⟨λfr' Q' X hq=>(Gy (b:=b+5) rfl G.told.told (G.res.ok (Ac ok)) G.w.tb.it G.w.tb.free (ah (Pa D et G.res) (oj (ah (vq (R:=R) (I:=I) (x:=x)) (ah il aJ)) _))).cp.run fr' Q' X λv h2 ⟨e1,e2⟩=>hq _ _ ⟨L,c',M,e1,G.res,?_,?_,?_,G.le⟩⟩
 ·rw[e2];exact(S.run G.w k1 G.le:bL R U c' M t ps cm h1).kq (B:=[]) (M:=M+1) (.new (ar _)) (G.w.tb.free.new [] _) (bR _)
 ·rw[e2];exact aS
 ·rw[e2];exact k1.trans (M:=M) (.new (ar _)) G.le
noncomputable def F4(cm em:Nat)(cn:Nm)(im wm rm:Nat)(x:Str)(mm:Nat):SF:=(Cv cm em cn im wm rm x).put "moved" (.ref (gN mm))
theorem Vp{mm:Nat}(D:eW R)(et:∀p,p∈ps↔p∈Pj R 2)(S:bL R U c N t ps cm h)(A:kH R U x I)(il:I.length≤3)(hk:im<N)(hi:h (gN im)=aa (.list (I.map a9)))
  (fin:∀L c' M h',dF R (cG R I x) L→bL R U c' (M+1) t ps cm h'→h' (gN M)=aa (.list (L.map aM))→Kq [10,30,31,32] N h h'→N≤M→SS (bJ i (b+6)) ((F4 cm em cn im wm rm x mm).put "answer" (.ref (gN M))) h' (oJ.drop 2::k) Q):
  SS (bJ i (b+6)) (F4 cm em cn im wm rm x mm) h (oJ.drop 1::k) Q:=by
 refine kG (Jn (x:=x) D et S A.ok il (dp n_ (iU S.w.tb.tb rfl) (i.K.keep rfl) (aB n_ (aB n_ aL)) (y4 (b:=b+4) rfl A S.w hk hi).cp) rfl) ?_;rintro v h' ⟨L,c',M,rfl,r,S',hw,kq,le⟩;exact fin L c' M h' r S' hw kq le
variable{mm am:Nat}
noncomputable def CJ(cm em:Nat)(cn:Nm)(im wm rm:Nat)(x:Str)(mm am:Nat):SF:=(F4 cm em cn im wm rm x mm).put "answer" (.ref (gN am))
theorem Bu(g:GR R){l:List aF}(ok:∀q∈l,cY R q)(q:aF)(hq:q∈l):q.2<1000:=bd (ah (ok q hq).2 (g.bu q.1)) bg
theorem Po(g:GR R){l:List aF}(ok:∀q∈l,cY R q):∀x∈l.map aM,∀y∈l.map aM,lA x y=decide (jW x<jW y):=λx hx y hy=>
 aj (bB.mp hx) λp hp e=>aj (bB.mp hy) λq hq e'=>e▸e'▸SA (Bu g ok p hp) (Bu g ok q hq)
theorem KI{l:List aF}:uC (l.map aM):=⟨ab,λv hv=>aj (bB.mp hv) λp _ e=>e▸⟨_,_,rfl,⟨_,rfl⟩,_,rfl⟩⟩
theorem acu(ndI:I.Nodup)(pos:∀q∈I,0<q.2)(D:eW R)(et:∀p,p∈ps↔p∈Pj R 2)(S:bL R U c N t ps cm h)(ok:∀q∈I,cY R q)(il:I.length≤3)(r:dF R I L)(hm:h (gN mm)=aa (.list (I.map aM)))(ha:h (gN am)=aa (.list (L.map aM)))
  (fin:∀M h',bL R U c M t ps cm h'→N≤M→Kq [] N h h'→SS (bJ i (b+6)) (CJ cm em cn im wm rm x mm am) h' (oJ.drop 3::k) Q):
  SS (bJ i (b+6)) (CJ cm em cn im wm rm x mm am) h (oJ.drop 2::k) Q:=by
 have g:=D.gr;have F:=S.w.tb.free;have GG:=r.ok ok;refine bH (Jq D et r) λad eL nd pW=>?_;have Nn:=Fm (R:=R) (ps:=ps) (I:=I) g;have R3:(iL R ps I).map (λn=>aM (n,0))=((iL R ps I).map λn=>((n,0):aF)).map aM:=by rw[pi];rfl
 have pm:(L.map aM).Perm ((I++(iL R ps I).map λn=>((n,0):aF)).map aM):=by
  rw[eL];exact((((D8 nd By pW).map _).append_left I)).map _
 have Ma:∀{ad:List Nat},ad.Nodup→(I++ad.map λn=>((n,0):aF)).Nodup:=λ{ad} nd=>lq.mpr ⟨ndI,Iz _ (λa b z e=>z (ay m6 e)) nd,λa ha c hc e=>aj (bB.mp hc) λn _ e'=>fo 0 (PS (pos a ha) (ay Dk (e.trans e'.symm)))⟩;have vc:∀q∈I++(iL R ps I).map (λn=>((n,0):aF)),cY R q:=λq hq=>by
  have:aM q∈L.map aM:=pm.mem_iff.mpr (bB.mpr (aU q hq rfl));exact GG q (PG.mp this)
 have D3:∀{a:Nat},gN a≠.mk 99 []:=λz=>jz (Nm.mk.inj z).2;refine Ce (P:=λh'=>∃M,bL R U c M t ps cm h'∧N≤M∧Kq [] N h h') (BX (P1:=λv h'=>v=.ref (gN N)∧∃out:List SV,out.Perm (L.map aM)∧out.Pairwise (λx y=>jW x<jW y)∧h'=h.set (gN N) (.list out))
  (P2:=λu w h'=>∃n' out,u=.ref (gN N)∧w=.ref n'∧eK 6 out=ab∧h' (gN N)=aa (.list out)∧h' n'=aa (.list out)∧∃M,bL R U c M t ps cm h'∧N≤M∧Kq [] N h h') ?_ (λu h1 p=>?_) λu w h4 p=>?_) λh' ⟨M,S',le,kq⟩=>aH (fin M h' S' le kq)
 ·exact nZ (i.K.bi rfl) rfl (aB n_ aL) (JW (key:=jW) (.own ha) KI (by rw[aI _];exact bd (Pa D et r) (ajf (bd il bg))) (Po g GG) (Mr (Bu g GG) (eL▸Ma nd)) F.at λout p s=>⟨rfl,out,p,s,rfl⟩)
 ·refine yS p λcP out po so j3=>?_;clear p;subst cP;subst j3
  have F1:bp (h.set (gN N) (.list out)) (N+1):=F.new [] _;have k1:Kq [] N h (h.set (gN N) (.list out)):=.new (ar _);have S1:bL R U c (N+1) t ps cm (h.set (gN N) (.list out)):=S.kq (B:=[]) k1 F1 (bR _);have xd:=k8 k1 F hm D3;have v1:(h.set (gN N) (.list out)) (gN N)=aa (.list out):=aS;generalize h.set (gN N) (.list out)=h1 at F1 k1 S1 xd v1 ⊢;have xg:eK 6 out=ab:=by
   have:∀v∈out,∃q,v=aM q:=λv hv=>by
    refine aj (bB.mp (po.mem_iff.mp hv)) λq _ e=>?_;exact⟨q,e.symm⟩
   clear po so v1
   induction out with
   |nil=>rfl
   |cons a t ih=>
    refine xE (this a dA) λq bq=>?_;subst bq;show(SV.data 6 (aM q) && eK 6 t)=ab;rw[ih λv hv=>this v (eT _ hv),Ig _];rfl
  refine uc (P:=λv h'=>∃M,v=.ref (gN M)∧h' (gN M)=aa (.list ((I++(iL R ps I).map λn=>((n,0):aF)).map aM))∧N+1≤M∧bp h' (M+1)∧Kq [] (N+1) h1 h') (i.K.bi rfl) rfl (Hc n_ (nZ (i.K.ref rfl) (i.K.keep rfl) (aB n_ (aB n_ (aB n_ aL))) (Jx (b:=b+4) rfl S1.ru g.len g.bu S1.co xd D3 ok (ah ‹_› aJ) F1).cp) λw h2 p=>?_) λv h3 p=>?_
  ·refine B3 p λcP M J=>?_;clear p;subst cP
   have k2:=J.kq;have ho:=J.own;rw[R3] at ho;have hM:N+1≤M:=by have:=J.lt;exact cj (oy this)
   exact⟨_,_,Cc (n:=gN M) (.own (k8 k2 F1 xd D3)) (.own ho) (by rw[aI _,aI _,aI _];refine(?_:_≤2^24);exact ah (fp ‹_› ‹_›) aJ) J.free.at,M,rfl,aS.trans (by rw[←dN]),hM,J.free.new [] _,k2.at' hM⟩
  ·refine jC p λM bq hl hM F3 k3=>?_;clear p;subst bq
   refine JW (key:=jW) (n:=gN (M+1)) (.own hl) KI (by rw[aI _,cU,aI _];exact bd (fp il Nn) bg) (Po g vc) (Mr (Bu g vc) (Ma By)) F3.at λRp p2 s2=>?_;obtain rfl:out=Rp:=Ta pm po p2 so s2;refine⟨gN (M+1),out,rfl,rfl,xg,?_,aS,M+2,?_,by exact c8 (c8 (gg hM)),?_⟩
   ·exact(aq (kA (du (lr (c8 hM))))).trans ((k3.2 N [] (dq _)).trans v1)
   ·exact S1.kq (B:=[]) (k3.at' (ah ‹_› (b6 _ _))) (F3.new [] _) (ah ‹_› (b6 _ _))
   ·exact k1.trans (k3.at' (ah ‹_› (b6 _ _))) (bR _)
 ·obtain⟨n',out,rfl,rfl,xg,h1,h2,p⟩:=p
  exact⟨CW (.own h1) (.own h2) xg,p⟩
noncomputable def ip:Nm:=.mk 74 []
structure gH where
 im:Nat
 I:List aF
 x:Str
 am:Nat
 L:List aF
noncomputable def gH.val(a:gH):SV:=.tup [.ref (gN a.im),.str a.x,.ref (gN a.am)]
structure xF(R:bm)(U:List (List aF))(N:Nat)(h:SH)(a:gH):Prop where
 i:kH R U a.x a.I
 il:a.I.length≤3
 hi:h (gN a.im)=aa (.list (a.I.map a9))
 li:a.im<N
 res:dF R (cG R a.I a.x) a.L
 ha:h (gN a.am)=aa (.list (a.L.map aM))
 la:a.am<N
theorem xF.rW{a:gH}(A:xF R U N h a)(s:fA N h h')(le:N≤M):xF R U M h' a:=
 ⟨A.i,A.il,(s _ _ A.li).trans A.hi,bI A.li le,A.res,(s _ _ A.la).trans A.ha,bI A.la le⟩
structure eN(R:bm)(U:List (List aF))(N:Nat)(as:List gH)(h:SH):Prop where
 ls:h ip=aa (.list (as.map gH.val))
 each:∀a∈as,xF R U N h a
theorem eN.kq{B:List Nat}{as:List gH}(A:eN R U N as h)(a:Kq B N h h')(le:N≤M)(hB:autoParam ((99::B).contains 74=an) dI):eN R U M as h':=
 ⟨(a.1 _ _ hB).trans A.ls,λx hx=>(A.each x hx).rW a.2 le⟩
theorem afe{as:List gH}(S:bL R U c N t ps cm h)(A:eN R U N as h)(ho:xF R U N h ⟨im,I,x,am,L⟩)(bu:as.length≤1000)
  (fin:∀h',bL R U c N t ps cm h'→eN R U N (as++[⟨im,I,x,am,L⟩]) h'→Kq [74] N h h'→SS (bJ i (b+6)) (CJ cm em cn im wm rm x mm am) h' (oJ.drop 4::k) Q):
  SS (bJ i (b+6)) (CJ cm em cn im wm rm x mm am) h (oJ.drop 3::k) Q:=by
 refine fJ (dp n_ (fV A.ls) rfl (aB (eY (aB n_ (aB n_ (aB n_ aL)))) aL) (ga A.ls (by rw[aI _];refine(?_:_≤2^24);exact ah ‹_› aJ))) ?_;have k1:Kq [74] N h (h.set ip (.list (as.map gH.val++[gH.val ⟨im,I,x,am,L⟩]))):=.set rfl;refine fin _ (S.kq k1 (S.w.tb.free.same λ_ _ _=>aq az) (ar _)) ⟨aS.trans (by rw[dN];rfl),λa ha=>?_⟩ k1;rcases dw.mp ha with ha|ha
 ·exact(A.each a ha).rW k1.2 (ar _)
 ·rw[bS.mp ha];exact ho.rW k1.2 (ar _)
noncomputable def fG:List Nat:=[10,30,31,32,74]
structure rD where
 c:Int
 N:Nat
 as:List gH
 h:SH
structure Gp(R:bm)(U:List (List aF))(t:List Int)(ps:List (Str×Str))(cm:Nat)(aN:Nat)(aA:SH)(a:Nat)(s:rD):Prop where
 S:bL R U s.c s.N t ps cm s.h
 A:eN R U s.N s.as s.h
 le:aN≤s.N
 kq:Kq fG aN aA s.h
 bu:s.as.length=a
theorem UA{a:Nat}:gN a≠.mk 99 []:=λz=>jz (Nm.mk.inj z).2
theorem Kq.rp{B:List Nat}{o:cy}(a:Kq B N h h')(hn:h n=aa o)(hx:(∃k,k<N∧n=gN k)∨∃j,n=db j)(hB:autoParam ((99::B).contains 72=an) dI):h' n=aa o:=by
 rcases hx with⟨k,hk,rfl⟩|⟨j,rfl⟩
 ·exact(a.2 _ _ hk).trans hn
 ·exact(a.1 _ _ hB).trans hn
theorem Yw{I:List aF}:∀q∈cG R I x,0<q.2:=λq hq=>aj (gQ.mp hq) λp _ e=>by
 unfold jB at e
 split at e
 ·exact aY e▸dK _
 ·exact a7 e
theorem SR{s:rD}{aN a:Nat}(nd:I.Nodup)(D:eW R)(et:∀p,p∈ps↔p∈Pj R 2)(J:Gp R U t ps cm aN aA a s)(hc:aA cn=aa (.list (I.map aM)))(hx:(∃k,k<aN∧cn=gN k)∨∃j,cn=db j)(G:kH R U x I)(il:I.length≤3)(hi:aA (gN im)=aa (.list (I.map a9)))(li:im<aN)(bu:a≤1000)
  (fin:∀s',Gp R U t ps cm aN aA (a+1) s'→SS (bJ i (b+6)) (oa cm em cn im wm rm) s'.h k Q):
  SS (bJ i (b+6)) (Cv cm em cn im wm rm x) s.h (oJ::k) Q:=by
 obtain⟨c,N,as,h⟩:=s;have S:bL R U c N t ps cm h:=J.S;have le:aN≤N:=J.le;have kq:Kq fG aN aA h:=J.kq;have fa:as.length=a:=J.bu;have nn:cn≠gN N:=by
  rcases hx with⟨k,hk,rfl⟩|⟨j,rfl⟩
  ·exact kA (du (bI hk le))
  ·exact az
 refine Sw D.gr S (kq.rp hc hx) nn G.ok il ?_;have k1:Kq [] N h (h.set (gN N) (.list ((cG R I x).map aM))):=.new (ar _);have F1:bp (h.set (gN N) (.list ((cG R I x).map aM))) (N+1):=S.w.tb.free.new [] _;have S1:bL R U c (N+1) t ps cm _:=S.kq (B:=[]) k1 F1 (bR _);have vK:Kq fG aN aA _:=kq.trans (k1.mono (B':=fG)) le;have A1:eN R U (N+1) as _:=(J.A:eN R U N as h).kq k1 (bR _);have m1:(h.set (gN N) (.list ((cG R I x).map aM))) (gN N)=aa (.list ((cG R I x).map aM)):=aS;generalize h.set (gN N) (.list ((cG R I x).map aM))=h1 at k1 F1 S1 vK A1 m1 ⊢;refine Vp (mm:=N) D et S1 G il (ah ‹_› (ah ‹_› (b6 _ _)):im<N+1) ((vK.2 _ _ li).trans hi) λL c' M h2 res S2 ha k2 BN=>?_;have A2:eN R U (M+1) as h2:=A1.kq k2 (ah ‹_› (b6 _ _));have ml:=vq (R:=R) (I:=I) (x:=x);refine acu (mm:=N) (am:=M) (Gu nd) Yw D et S2 (Ac G.ok) (ah ‹_› ‹_›) res ((k2.2 _ _ (dq _)).trans m1:h2 (gN N)=aa (.list ((cG R I x).map aM))) ha λM3 h3 S3 Cj k3=>?_;have vv:Kq fG aN aA h3:=(vK.trans (k2.mono (B':=fG)) (ah ‹_› (b6 _ _)):Kq fG aN aA h2).trans (k3.mono (B':=fG)) (c8 (ah le (gg BN)));refine afe S3 (A2.kq k3 Cj:eN R U M3 as h3) (x:=x) (am:=M) (L:=L) ⟨G,il,(vv.2 _ _ li).trans hi,bI (bI li le) (ah (bR _) (ah BN (ah (bR _) Cj))),res,(k3.2 _ _ (dq _)).trans ha,by show M<M3;assumption⟩ (ah (bF fa) bu) λh4 S4 A4 k4=>?_;refine SS.sub (ey:=oa cm em cn im wm rm) (aH (fin ⟨c',M3,_,h4⟩ ⟨S4,A4,by show aN≤M3;exact ah le (gg (ah BN (gg Cj))),vv.trans (k4.mono (B':=fG)) (ah le (gg (ah BN (gg Cj)))),by show(as++[_]).length=a+1;rw[cU,fa];rfl⟩)) ?_;exact ai (ai (ai (ai (ai (ai (ai (ai (ai (ai (ai (ai br)))))))))))
variable{as:List gH}
theorem WX:∀x∈Ask,x∈Sy:=aW
theorem Z6(nd:I.Nodup)(D:eW R)(et:∀p,p∈ps↔p∈Pj R 2)(S:bL R U c N t ps cm h)(A:eN R U N as h)(hc:h cn=aa (.list (I.map aM)))(hx:(∃k,k<N∧cn=gN k)∨∃j,cn=db j)(ok:∀q∈I,cY R q)(hU:I∈U)(il:I.length≤3)(hi:h (gN im)=aa (.list (I.map a9)))(li:im<N)(bu:as.length≤100)
  (fin:∀c N' j6 h',bL R U c N' t ps cm h'→eN R U N' j6 h'→N≤N'→Kq fG N h h'→j6.length≤as.length+7→SS (bJ i (b+6)) (oa cm em cn im wm rm) h' (j1.drop 6::k) Q):
  SS (bJ i (b+6)) (oa cm em cn im wm rm) h (j1.drop 5::k) Q:=by
 have F:=S.w.tb.free;have F1:bp (h.set (gN N) (.list (Ask.map .str))) (N+1):=F.new [] _;have k1:Kq [] N h (h.set (gN N) (.list (Ask.map .str))):=.new (ar _);have l1:(h.set (gN N) (.list (Ask.map .str))) (gN N)=aa (.list (Ask.map .str)):=aS;refine eo (σ:=rD) (λ_=>oa cm em cn im wm rm) rD.h (λs j=>Gp R U t ps cm (N+1) (h.set (gN N) (.list (Ask.map .str))) (as.length+j) s) ⟨c,N+1,as,h.set (gN N) (.list (Ask.map .str))⟩ (Ask.map .str) (d8 (n:=gN N) (b8 (i.K.ref rfl) (i.K.keep rfl) aL (YV (b:=b+5) rfl F).cp) l1) ⟨(S.kq (B:=[]) k1 F1 (bR _):bL R U c (N+1) t ps cm (h.set (gN N) (.list (Ask.map .str)))),(A.kq k1 (bR _):eN R U (N+1) as (h.set (gN N) (.list (Ask.map .str)))),ar _,.same,rfl⟩ .rfl (λs j J=>d6 ((J.kq.2 _ _ (dq _)).trans l1)) (λs j v J e=>?_) (λs J=>aH (fin s.c s.N s.as s.h J.S J.A (by have:=J.le;exact cj ‹_›) ((k1.mono (B':=fG)).trans J.kq (bR _)) (by have:=J.bu;rw[aI] at this;have z:Ask.length=7:=rfl;exact ah (bF this) (e6 aJ _))));refine aj (dH e) λx sV ax=>?_;subst ax;have z:Ask.length=7:=rfl;exact dX (SR nd D et J ((k1.mono (B':=fG)).rp hc hx) (hx.imp (λ⟨k,a,e⟩=>⟨k,pE a,e⟩) id) ⟨ok,by exact ah ‹_› aJ,hU,WX _ (bN sV)⟩ il ((k1.2 _ _ li).trans hi:(h.set (gN N) (.list (Ask.map .str))) (gN im)=aa (.list (I.map a9))) (pE li) (ah (fp bu (cj ((cV.mp sV).1))) aJ) λs' J'=>bK (LQ.next (s':rD) J' .rfl))
theorem Sn(D:eW R)(et:∀p,p∈ps↔p∈Pj R 2)(S:bL R U c N t ps cm h)(A:eN R U N as h)(E:BB R N K h (cn,I))(hU:I∈U)(bu:as.length≤100)
  (fin:∀c N' j6 h',bL R U c N' t ps cm h'→eN R U N' j6 h'→N≤N'→Kq fG N h h'→j6.length≤as.length+7→SS (bJ i (b+6)) (rc cm em cn) h' k Q):
  SS (bJ i (b+6)) (rc cm em cn) h (j1::k) Q:=by
 have g:=D.gr;have hx:(∃k,k<N∧cn=gN k)∨∃j,cn=db j:=E.nm.imp id λ⟨j,_,e⟩=>⟨j,e⟩;have nx:cn≠.mk 99 []:=by
  rcases hx with⟨k,_,rfl⟩|⟨j,rfl⟩
  ·exact UA
  ·exact az
 have il:I.length≤3:=E.len;have ok:∀q∈I,cY R q:=E.ok;have hc:h cn=aa (.list (I.map aM)):=E.own;refine Rw g S E nx ?_;have k1:Kq [] N h (h.set (gN N) (.list (I.map a9))):=.new (ar _);have S1:bL R U c (N+1) t ps cm (h.set (gN N) (.list (I.map a9))):=S.kq (B:=[]) k1 (S.w.tb.free.new [] _) (bR _);have A1:eN R U (N+1) as (h.set (gN N) (.list (I.map a9))):=A.kq k1 (bR _);have i1:(h.set (gN N) (.list (I.map a9))) (gN N)=aa (.list (I.map a9)):=aS;have vK:Kq fG N h (h.set (gN N) (.list (I.map a9))):=k1.mono;generalize h.set (gN N) (.list (I.map a9))=h1 at k1 S1 A1 i1 vK ⊢;refine UX g S1 i1 ok il λJ ad h2 C S2 hw k2=>?_;refine jF (PF D et C) λeJ nd pW=>?_;subst eJ;have Nd:Kq fG N h h2:=vK.trans (k2.mono (B':=fG)) (bR _);have M0:(ad.map λn=>((n,0):aF)).length≤5:=by
  rw[aI,(D8 nd By pW).length_eq];exact Fm g
 have Kb:∀q∈ad.map (λn=>((n,0):aF)),cY R q:=λq hq=>by
  refine aj (bB.mp hq) λn hn ax=>?_;subst ax;exact⟨(yt.mp ((pW n).mp hn)).1,b_ _⟩
 refine aec (im:=N) S2 (Nd.rp hc hx) il hw M0 ?_;have k3:Kq [] (N+3) h2 (h2.set (gN (N+3)) (.list ((ad.map λn=>((n,0):aF)).map aM))):=.new (ar _);have S3:bL R U (c+1) (N+4) t ps cm (h2.set (gN (N+3)) (.list ((ad.map λn=>((n,0):aF)).map aM))):=S2.kq (B:=[]) k3 (S2.w.tb.free.new [] _) (bR _);have A3:eN R U (N+4) as _:=(A1.kq k2 (e6 aJ _):eN R U (N+3) as h2).kq k3 (bR _);have vv:Kq fG N h _:=Nd.trans (k3.mono (B':=fG)) (b6 _ _);have r3:(h2.set (gN (N+3)) (.list ((ad.map λn=>((n,0):aF)).map aM))) (gN (N+3))=aa (.list ((ad.map λn=>((n,0):aF)).map aM)):=aS;have i3:=(k3.2 N [] (lb (b6 _ _))).trans ((k2.2 _ _ (dq _)).trans i1:h2 (gN N)=aa (.list (I.map a9)));have w3:=(k3.2 (N+1+1) [] (ar _)).trans hw;generalize h2.set (gN (N+3)) (.list ((ad.map λn=>((n,0):aF)).map aM))=h3 at k3 S3 A3 vv r3 i3 w3 ⊢;refine UH (im:=N) (rm:=N+3) g S3 (vv.rp hc hx) nx ok il i3 w3 r3 M0 (Iz _ (λa b z e=>z (ay m6 e)) nd:(ad.map λn=>((n,0):aF)).Nodup) Kb λM h4 S4 pQ k4=>?_;have A4:eN R U M as h4:=A3.kq k4 pQ;have M2:Kq fG N h h4:=vv.trans (k4.mono (B':=fG)) (b6 _ _);refine aay g S4 (M2.rp hc hx) nx ok il ((k4.2 (N+1+1) [] (bR _)).trans w3) pW λM5 h5 S5 tS k5=>?_;have K8:Kq fG N h h5:=M2.trans (k5.mono (B':=fG)) (ah (b6 _ _) pQ);refine Z6 E.nd D et S5 (A4.kq k5 tS:eN R U M5 as h5) (K8.rp hc hx) (hx.imp (λ⟨k,a,e⟩=>⟨k,bI a (ah (ah (b6 _ 4) pQ) tS),e⟩) id) ok hU il ((k5.2 N [] (bI (lb (b6 _ _)) pQ)).trans ((k4.2 N [] (lb (b6 _ _))).trans i3)) (bI (bI (qS (dK 3)) pQ) tS) bu λc6 N6 SD h6 S6 A6 le6 k6 f6=>?_;exact SS.sub (aH (fin c6 N6 SD h6 S6 A6 (ah (ah (ah (b6 _ 4) pQ) tS) le6) (K8.trans k6 (ah (ah (b6 _ 4) pQ) tS)) f6)) (ai (ai (ai (ai (ai (ai (ai (ai (ai br)))))))))
noncomputable def ry(cm em:Nat):SF:=[("tape",.ref cx),("rules",.ref iP),("grammar",.ref aX),("table",.ref dg),("corners",.ref (gN cm)),("every",.ref (gN em)),("lists",.ref lsN),("asked",.ref ip)]
theorem Z1(D:eW R)(et:∀p,p∈ps↔p∈Pj R 2)(S:bL R (gz R) c N t ps cm h)(I:vY R em N Ls h)(l4:Ls.length≤4)(oT:h ip=af)
  (fin:∀U c N as h',bL R U c N t ps cm h'→eN R U N as h'→as.length≤28→SS (bJ i (b+6)) (ry cm em) h' [(ba 478).drop 13] Q):
  SS (bJ i (b+6)) (qv cm em) h [(ba 478).drop 11] Q:=by
 have hUl:=EU D.gr;refine bM (eC (n:=ip) aL oT) (SS.sub (ey:=ry cm em) ?_ (ai (ai (ai (ai (ai (ai (ai (ai br)))))))));have k1:Kq fG N h (h.set ip (.list [])):=.set rfl;have S1:bL R (gz R) c N t ps cm (h.set ip (.list [])):=S.kq (B:=[74]) (.set rfl) (S.w.tb.free.same λ_ _ _=>aq az) (ar _);have S2:bL R (gz R++Ls.map (·.2)) c N t ps cm (h.set ip (.list [])):={S1 with w:=S1.w.up (List.subset_append_left _ _) (by rw[cU,aI];exact ah (fp ‹_› ‹_›) aJ)};have Ft:(h.set ip (.list [])) lsN=aa (.list (Ls.map λp=>.ref p.1)):=(aq az).trans I.ls;have A1:eN R (gz R++Ls.map (·.2)) N [] (h.set ip (.list [])):=⟨aS,λ_ z=>by exact cS z⟩;have e1:∀p∈Ls,BB R N Ls.length (h.set ip (.list [])) p:=λp hp=>by
  have E:=I.each p hp;exact⟨k1.rp E.own (E.nm.imp id λ⟨j,_,e⟩=>⟨j,e⟩),E.nd,E.len,E.ok,E.nm⟩
 generalize h.set ip (.list [])=h1 at k1 S2 Ft A1 e1 ⊢;refine eo (σ:=rD) (λ_=>ry cm em) rD.h (λs j=>bL R (gz R++Ls.map (·.2)) s.c s.N t ps cm s.h∧eN R (gz R++Ls.map (·.2)) s.N s.as s.h∧N≤s.N∧Kq fG N h1 s.h∧s.as.length≤7*j) ⟨c,N,[],h1⟩ (Ls.map (λp:Nm×List aF=>SV.ref p.1)) (d8 (n:=lsN) n_ Ft) (s9 S2 A1 (ar _) .same (ar _)) .rfl (λs j J=>d6 (n:=lsN) ((J.2.2.2.1.1 73 [] rfl).trans Ft)) (λs j v J e=>?_) (λs J=>aH (fin _ s.c s.N s.as s.h J.1 J.2.1 (by have:=J.2.2.2.2;rw[aI] at this;exact ah this (ah (pB _ l4) aJ))));refine aj (dH e) λp hp ax=>?_;subst ax;have hj:=(cV.mp hp).1;obtain⟨cn,I'⟩:=p;refine x9 J λS3 A3 le kq bu=>?_;clear J;have pm:=bN hp;have E:=e1 _ pm;refine dX (SS.sub (ey:=rc cm em cn) (Sn (K:=Ls.length) D et S3 A3 ⟨kq.rp E.own (E.nm.imp id λ⟨j,_,e⟩=>⟨j,e⟩),E.nd,E.len,E.ok,E.nm.imp (λ⟨x,a,e⟩=>⟨x,by exact ah ‹_› ‹_›,e⟩) id⟩ (kj _ (bB.mpr ⟨_,pm,rfl⟩)) (by lia) λc' N' j6 h' S4 A4 pQ k4 f4=>bK (LQ.next (⟨c',N',j6,h'⟩:rD) ⟨S4,A4,ah le pQ,kq.trans k4 le,by show j6.length≤7*(j+1);exact ah f4 (fp bu aJ)⟩ (ai (ai (ai (ai (ai (ai (ai (ai br)))))))))) (ai (ai (ai (ai (ai (ai (ai (ai (ai br))))))))))
theorem ω{fr:SF}{ag:SH}{e:Expr}{u v w:SV}{rest:List bx}{x y z:Str}{p q r tp pos:Pos}{n:Nat}(a:EV i fr h e (.tup [u,v,w]) ag)(b:SS i (((fr.put x u).put y v).put z w) ag (rest::k) Q)(ok:autoParam ((i.l.contains x && i.l.contains y && i.l.contains z && iq e)=ab) bl):SS i fr h ((.Assign [.Tuple [.Name x p,.Name y q,.Name z r] n tp] e pos::rest)::k) Q:=by
 simp only[bO] at ok;exact fF (tI _ a.ep (λv' aC e fr' s Q' hq=>by refine xA e λcP bq=>?_;clear e;subst cP;subst bq;exact Ho i.q (λ_=>rfl) rfl (oE i.V (oE i.V (oE i.V (hq _ _ (b.run _ (((s.put _ _).put _ _).put _ _))) ok.1.2) ok.1.1.2) ok.1.1.1)) (by rw[ok.2];rfl))
noncomputable def Tn:List bx:=d_ (stN (ba 478) 13)
theorem Sj{a:gH}(D:eW R)(et:∀p,p∈ps↔p∈Pj R 2)(S:bL R U c N t ps cm h)(A:eN R U N (as++[a]) h)(bu:as.length≤28)
  (fin:∀c N h',bL R U c N t ps cm h'→eN R U N as h'→SS (bJ i (b+6)) (ry cm em) h' k Q):
  SS (bJ i (b+6)) (ry cm em) h (Tn::k) Q:=by
 have ls:h ip=aa (.list (as.map gH.val++[a.val])):=by have:=A.ls;rwa [dN] at this
 have k1:Kq [74] N h (h.set ip (.list (as.map gH.val))):=.set rfl;have S1:bL R U c N t ps cm (h.set ip (.list (as.map gH.val))):=S.kq k1 (S.w.tb.free.same λ_ _ _=>aq az) (ar _);have A1:eN R U N as (h.set ip (.list (as.map gH.val))):=⟨aS,λx hx=>(A.each x (i7 _ hx)).rW k1.2 (ar _)⟩;have O1:=(A.each a (kj _ dA)).rW k1.2 (ar N);refine ω (u:=.ref (gN a.im)) (v:=.str a.x) (w:=.ref (gN a.am)) (g9 n_ (Ni ls) rfl aL (acl ls (by rw[aI _];refine(?_:_≤2^24);exact bd ‹_› bg):CP (bJ i (b+6)) h (.bi "list.pop") [.ref ip] (is a.val (h.set ip (.list (as.map gH.val)))))) ?_;generalize h.set ip (.list (as.map gH.val))=h1 at S1 A1 O1 k1 ⊢;refine r_ (dp n_ (iU S1.w.tb.tb rfl) (i.K.keep rfl) (aB n_ aL) (A5 (b:=b+5) rfl S1.w.tb O1.hi O1.i.ok (by have:=O1.il;exact ah ‹_› aJ)).cp) ?_;rintro v h2 ⟨J,ad,C⟩;have S2:bL R U (c+1) (N+1) t ps cm h2:=S1.run (S1.w.clo C) C.kq (bR _);have A2:eN R U (N+1) as h2:=A1.kq C.kq (bR _);have O2:=O1.rW C.kq.2 (bR N);have k3:Kq [] (N+1) h2 (h2.set (gN (N+1)) (.list (a.I.map a9))):=.new (ar _);have S3:bL R U (c+1) (N+2) t ps cm (h2.set (gN (N+1)) (.list (a.I.map a9))):=S2.kq (B:=[]) k3 (S2.w.tb.free.new [] _) (bR _);have O3:=O2.rW k3.2 (bR (N+1));refine Ce (P:=λh'=>∃c N,bL R U c N t ps cm h'∧eN R U N as h') (BX (P1:=λv h'=>∃L c' M,v=.ref (gN M)∧dF R (cG R a.I a.x) L∧bL R U c' (M+1) t ps cm h'∧h' (gN M)=aa (.list (L.map aM))∧Kq [10,30,31,32] (N+2) (h2.set (gN (N+1)) (.list (a.I.map a9))) h'∧N+2≤M)
  (P2:=λu w h'=>∃L c' M,u=.ref (gN M)∧w=.ref (gN a.am)∧dF R (cG R a.I a.x) L∧bL R U c' (M+1) t ps cm h'∧h' (gN M)=aa (.list (L.map aM))∧Kq [10,30,31,32] (N+2) (h2.set (gN (N+1)) (.list (a.I.map a9))) h'∧N+2≤M) ?_ (λu h4 p=>?_) λu w h4 p=>?_) λh' ⟨c',N',S',A'⟩=>SS.sub (ey:=ry cm em) (aH (aH (fin c' N' h' S' A'))) ?_
 ·exact Jn D et S3 O3.i.ok O3.il (dp n_ (iU S2.w.tb.tb rfl) (i.K.keep rfl) (aB ((λx=>KL x O2.hi (by rw[aI _];have:=O1.il;refine(?_:_≤2^24);exact ah ‹_› aJ) S2.w.tb.free.at:∀{e:Expr} {p pos:Pos} {fr:SF},EV (bJ i (b+6)) fr h2 e (.ref (gN a.im)) h2→EV (bJ i (b+6)) fr h2 (.Subscript e (.Slice af af af p) pos) (.ref (gN (N+1))) (h2.set (gN (N+1)) (.list (a.I.map a9)))) n_) (aB n_ aL)) (y4 (b:=b+4) rfl O3.i S3.w (dq _) aS).cp) rfl
 ·obtain⟨L,c',M,rfl,p⟩:=p
  exact EP.imp (n_ (v:=.ref (gN a.am))).ep λv h5 ⟨e1,e2⟩=>⟨L,c',M,rfl,e1,e2▸p⟩
 ·obtain⟨L,c',M,rfl,rfl,r,S4,hL,k4,le⟩:=p
  have O4:=O3.rW k4.2 (ah ‹_› (b6 _ _):N+2≤M+1);obtain rfl:L=a.L:=dF.det r O4.res;exact⟨CW (.own hL) (.own O4.ha) xY,c',M+1,S4,(A2.kq k3 (bR _):eN R U (N+2) as (h2.set (gN (N+1)) (.list (a.I.map a9)))).kq k4 (ah ‹_› (b6 _ _))⟩
 ·exact ai (ai (ai (ai (ai (ai (ai (ai br)))))))
structure EA where
 c:Int
 N:Nat
 as:List gH
 h:SH
theorem M4{α:Type}:∀{l:List α},l≠[]→∃a x,l=a++[x]
 |[],z=>bc rfl z
 |[x],_=>(ud ([]) x rfl)
 |x::y::r,_=>by
  refine kc (M4 (l:=y::r) (λz=>by exact jz z)) λa z e=>?_;exact(ud (x::a) z (by rw[e];rfl))
theorem abk(D:eW R)(et:∀p,p∈ps↔p∈Pj R 2)(S:bL R U c N t ps cm h)(A:eN R U N as h)(bu:as.length≤28)
  (fin:∀fr h',Q (.ret (.bool ab)) fr h'):SS (bJ i (b+6)) (ry cm em) h [(ba 478).drop 13] Q:=by
 refine rK (σ:=EA) (λ_=>ry cm em) EA.h (λs m=>bL R U s.c s.N t ps cm s.h∧eN R U s.N s.as s.h∧s.as.length=m∧m≤28) ⟨c,N,as,h⟩ as.length (oW S A rfl bu) .rfl (λs m J=>?_);obtain⟨c,N,as,h⟩:=s;refine mv J λS A e bu=>?_;clear J;dsimp only at S A e bu ⊢;refine(mr (!(as.map gH.val).isEmpty) h (p_ n_ (lS (.own A.ls) (by rw[aI _];exact bd (bF e) (bd bu bg)))) (λz=>aH (gJ jD (fin _ _))) (λz=>?_));refine kc (M4 (l:=as) (λq=>by subst q;exact cM z)) λj6 a ax=>?_;subst ax;rw[cU] at e;have e1:j6.length+1=m:=e;exact Sj D et S A (gg (ah (bF e1) bu)) λc' N' h' S' A'=>bK (LQ.next (⟨c',N',j6,h'⟩:EA) ⟨j6.length,lr (bF e1),S',A',rfl,gg (ah (bF e1) bu)⟩ .rfl)
theorem V9{i:FI}{b:Nat}{Q:QS}{a:au}{sc:List Int}(hs:BL i.G a (sc.map .int))(hz:sc.length≤63)(fin:∀fr h',Q (.ret (.bool ab)) fr h'):
  SS (bJ i (b+6)) [("script",.glob a)] (λ_=>af) [ba 478] Q:=
 VO (b:=b+6) hs hz λt h tl o F tp=>ZZ (b:=b) tl o F tp λt Rs N h J l4=>abt J l4 λt Rs N h J l5=>
  have D:eW Rs:=⟨J.ok,J.hd⟩
  Ye J λN h G L iM=>W3 D G L iM λN h G L iM=>ZF D G L iM λN h G L iM=>Wp D G L iM λN c h w gr nB L=>
  Yk D w gr nB L λN ps cm h S et o=>UN D.gr S (Tg D.gr (S.kq (B:=[]) (.new (ar _)) (S.w.tb.free.new [] _) (bR _)) (o.kq (B':=[]) (.new (N:=N) (ar _))) N (dq _) aS
  λh' Ls S I l2 oT=>YL D.gr S I l2 oT λt h Ls S I l4 oT=>Z1 D et S I l4 oT λU c N as h S A bu=>abk D et S A bu fin)
theorem KZ{L:Nat}:gt (L+1) (cg 478).names []=([("symbol",L+1+1+1+1),("grammar",L+1+1+1),("rules",L+1+1),("tape",L+1)]:List (Str×au)):=by kernel_rfl
theorem Nr:iV (cg 478)=(["tape","rules","grammar","symbol"]:List Str):=by kernel_rfl
theorem V_:(cg 478).names.all (λp=>p.2 !=.free)=ab:=by kernel_rfl
theorem VK:(cg 478).names.lookup ("script":Str)=aa .local:=by kernel_rfl
theorem NF:(cg 478).kind=.function:=by kernel_rfl
theorem Tk:(["tape","rules","grammar","symbol"]:List Str).all (λx=>(cg 478).names.lookup x==aa .cell)=ab:=by kernel_rfl
theorem Xs{P:aV}{m:Mu}{vm:List Value}{sc:List Int}(h:IntsAre vm sc):aO P m (sc.map .int) vm:=by
 induction h with
 |nil=>rfl
 |cons _ _ _ ih=>exact⟨_,_,rfl,⟨_,rfl⟩,ih⟩
theorem ae1{prog:fD}{w:cE}{base:cO}{K:Frag}{mg mb mm:Str→Option Value}{L a sa:au}{cd:Value}{nm:Str}{c1 c2 c3 c4:Obj}{vm:List Value}{sc:List Int}{s:ak}
  (hK:∀G:Gl,G.K=K→KD G) (g:base.Ns uw mg) (bb:base.Ns zK mb) (blt:∀x:Str,x≠"__name__"→mb x=HI x) (nl:base.NoLimit) (fY:K.In base) (BO:∃o,base.get? Dn=aa o)
  (F:Fr base L s.heap mm) (XU:mm "script"=aa (.ref sa)) (N:News base L s.heap [(L+1+1+1+1,c1),(L+1+1+1,c2),(L+1+1,c3),(L+1,c4),(398,mj #[]),(391,mj #[])])
  (d1:∃v,c1.data=.cell v) (d2:∃v,c2.data=.cell v) (d3:∃v,c3.data=.cell v) (d4:∃v,c4.data=.cell v)
  (hl:base.IsList sa vm.toArray) (hi:IntsAre vm sc) (len:¬((63:Int) <sc.length)) (lt:398<L) (hg:s.gens=#[]):
  aw (aR prog w) (callerA.deeper (xa nm (cg 478) L a cd)) (execs (ba 478) (xa nm (cg 478) L a cd))
   (λf s'=>f=.ret (.bool ab)∧(∀b o,base.get? b=aa o→s'.heap.get? b=aa o)∧s'.os=s.os∧s'.gens=#[]∧s'.heap.get? 398=aa (mj #[])∧s'.heap.get? 391=aa (mj #[]))
   (λ_ _=>False) s:=by
 let G:Gl:=⟨prog,w,base,K,mg,mb,s.os,g,bb,blt,nl,fY,BO⟩
 have Oc:KD G:=hK G rfl;have hLz:=F.above;have cz:∀{c o},(c,o)∈[(L+1+1+1+1,c1),(L+1+1+1,c2),(L+1+1,c3),(L+1,c4),(398,mj #[]),(391,mj #[])]→(∃v,o.data=.cell v)→(∃v,s.heap.IsCell c v)∧base.get? c=af:=λhm d=>xE d λv e=>⟨⟨v,_,(N _ hm).1,e⟩,(N _ hm).2.2⟩;have cellAt:∀c,c∈[L+1+1+1+1,L+1+1+1,L+1+1,L+1]→(∃v,s.heap.IsCell c v)∧base.get? c=af:=λc hc=>
  m4 hc (cz (.head _) d1) (cz (.tail _ (.head _)) d2) (cz (.tail _ (.tail _ (.head _))) d3) (cz (.tail _ (.tail _ (.tail _ (.head _)))) d4)
 have Ha:=N (398,mj #[]) (.tail _ (.tail _ (.tail _ (.tail _ (.head _)))));have Fn:=N (391,mj #[]) (.tail _ (.tail _ (.tail _ (.tail _ (.tail _ (.head _))))));have SM:base.get? L=af:=zQ hLz;obtain⟨oL,es,ep,q1,q2,q3⟩:=F.ns;have MP:∀x,(cg 478).names.lookup x=aa .cell→∃c,(xa nm (cg 478) L a cd).cells.lookup x=aa c∧c∈[L+1+1+1+1,L+1+1+1,L+1+1,L+1]:=λx hx=>by
  have hm:x∈iV (cg 478):=bB.mpr (aU ((x,.cell)) (m9.mpr ⟨m_ hx,rfl⟩) rfl);rw[Nr] at hm;show ∃c,(gt (L+1) (cg 478).names []).lookup x=aa c∧_;rw[KZ];exact m4 hm (aU _ rfl (.tail _ (.tail _ (.tail _ (.head _))))) (aU _ rfl (.tail _ (.tail _ (.head _)))) (aU _ rfl (.tail _ (.head _))) (aU _ rfl (.head _))
 have AU:∀x,(cg 478).names.lookup x≠aa .free:=λx hx=>by
  have:=dc.mp V_ _ (m_ hx);exact cM this
 have frs:∀{x:Str} {v:SV},([("script",SV.glob sa)]:SF).lookup x=aa v→x="script"∧v=.glob sa:=λ{x v} e=>by
  rw[k_] at e
  cases z:x==("script":Str) with
  |true=>rw[z] at e;exact⟨eX.mp z,(aY e).symm⟩
  |false=>rw[z] at e;(first|exact a7 e|obtain rfl:=aY e)
 have Ff:∀{c},c∈[L+1+1+1+1,L+1+1+1,L+1+1,L+1]→c≠L∧c≠398∧c≠391:=λ{c} hc=>by
  have hL:L<c:=m4 hc (qS (dK 3)) (qS (dK 2)) (qS (dK 1)) (dq L);exact(cF (dG hL) (dG (i4 lt hL)) (dG (i4 (i4 bg lt) hL)))
 have R:Rel G (bC 478) 6 (L::[L+1+1+1+1,L+1+1+1,L+1+1,L+1]) (xa nm (cg 478) L a cd) (callerA.deeper (xa nm (cg 478) L a cd)) (qD base [(398,mj #[]),(391,mj #[])]) (λ_=>af) [("script",.glob sa)] (λ_=>af) s:=by
  refine Rel.start (G:=G) (L:=L) (ex:=[(398,mj #[]),(391,mj #[])]) hg rfl F.keep (λp hp=>?_) (λc hc=>?_) rfl rfl dA (by show(cg 478).kind≠_;rw[NF];nofun) (aU oL q1 (λvs e=>by rw[q2] at e;exact nomatch e)) ?_ (by show 1+claimMargin+1+6<HJ;exact bg) (by show 4+3+8*6+8<ez;exact bg) rfl (λ_=>rfl)
  ·rcases dE.mp hp with rfl|hp
   ·exact⟨Ha.1,λz=>(dE.mp z).elim (λz=>Ha.2.1 z) λz=>(Ff z).2.1 rfl⟩
   ·rw[bS.mp hp]
    exact⟨Fn.1,λz=>(dE.mp z).elim (λz=>Fn.2.1 z) λz=>(Ff z).2.2 rfl⟩
  ·rcases dE.mp hc with rfl|hc
   ·exact SM
   ·exact(cellAt c hc).2
  ·refine⟨rfl,NF,rfl,rfl,dA,(aU mm F.ns (λx v e hx=>?_)),λx v e hx=>?_,λx hx=>?_,λx hx=>?_,λx y c hx h1 h2=>?_,λc hc=>?_⟩
   ·refine xA (frs e) λcP bq=>?_;subst cP;subst bq
    exact(aU _ XU rfl)
   ·refine xA (frs e) λcP bq=>?_;subst cP;subst bq
    rcases hx with hx|hx
    ·have:=VK.symm.trans hx;cases this
    ·exact bc hx (AU _)
   ·rcases hx with hx|hx
    ·refine aj (MP x hx) λc e1 e2=>?_
     exact(aU c e1 (.inl ⟨eT _ e2,(cellAt c e2).1⟩))
    ·exact bc hx (AU _)
   ·have hx:x∈iV (cg 478):=hx
    rw[Nr] at hx;have hc:=eX.mp (dc.mp Tk x hx);refine aj (MP x hc) λc e1 e2=>?_;refine xE ((cellAt c e2).1) λv e3=>?_;exact⟨hc,c,v,e1,eT _ e2,(Ff e2).1,e3⟩
   ·have k:∀y (c:au),(xa nm (cg 478) L a cd).cells.lookup y=aa c→y=(["tape","rules","grammar","symbol"]:List Str).getD (c- (L+1)) "":=λy c e=>by
     have e:(gt (L+1) (cg 478).names []).lookup y=aa c:=e;rw[KZ] at e;have q:∀d,(["tape","rules","grammar","symbol"]:List Str).getD d ""=(["tape","rules","grammar","symbol"]:List Str).getD (L+1+d- (L+1)) "":=λd=>ay (λn=>(["tape","rules","grammar","symbol"]:List Str).getD n "") (Df (L+1) d).symm;exact m4 (motive:=λp=>p.1=(["tape","rules","grammar","symbol"]:List Str).getD (p.2- (L+1)) "") (m_ e) (q 3) (q 2) (q 1) (q 0)
    exact(k _ _ h1).trans (k _ _ h2).symm
   ·rcases dE.mp hc with rfl|hc
    ·exact(aU oL q1 (xi q2))
    ·refine ef ((cellAt c hc).1) λv o e1 e2=>?_
     exact(aU o e1 (Ca e2))
 have W8:BL G sa (sc.map .int):=⟨_,hl,λP m _=>Xs hi⟩;have i:FI:=⟨G,6,Oc,bC 478,[],[],rfl,rfl,rfl⟩;have W:=V9 (i:=⟨G,6,Oc,bC 478,[],[],rfl,rfl,rfl⟩) (b:=0) (Q:=λf _ _=>f=.ret (.bool ab)) W8 (by lia) (λ_ _=>rfl);refine(W.run _ .rfl).run _ _ _ _ _ _ _ _ R (λf fr' h' f' s' P' m' hq hP hm hf R'=>?_) λx fr' h' e s' P' m' hq=>hq.elim;have keep:∀x o,qD base [(398,mj #[]),(391,mj #[])] x=aa o→x≠L→s'.heap.get? x=aa o:=λx o hx hn=>by
  obtain⟨l,e1,_,_,_,e5⟩:=R'.frs;refine aj (e5 x o (hP _ _ hx)) λsl z1 z2=>?_;have:l=[xa nm (cg 478) L a cd]:=(aY e1).symm;subst this;rw[z1,IE o sl (z2 λz=>hn (bS.mp z))]
 have hq:up (λf _ _=>f=.ret (.bool ab)) f fr' h':=by cases f<;>exact hq
 refine aj hq λ_ _ ax=>?_;clear hq;subst ax;refine aj hf λv' bq ax=>?_;clear hf;subst bq;subst ax;exact⟨rfl,R'.bs,R'.os,R'.gens,(keep _ _ (by unfold qD;rw[Ha.2.2];rfl) (du lt)),(keep _ _ (by unfold qD;rw[Fn.2.2];rfl) (du (i4 bg lt)))⟩
theorem V6{h:cO}{Ln:List (au×au)}{p:fD}{YG:List Str}{Gm:ExcName→Option Value}{mg mb:Str→Option Value}(hT:TabsAt Ln h)(T:Top p YG Gm mg mb h)(hp:importsNone p=ab):∃o,(ghostOf h Ln).get? Dn=aa o:=by
 obtain⟨mm,n,_⟩:=(T.seer hp).mods;obtain⟨o,_,_,e,_⟩:=ghost_ns hT n;exact⟨o,e⟩
theorem VT{c:ClaimW}{cl:Str→Option au}{Gm:ExcName→Option Value}{args:List WData}{aZ s':ak}{b:Bool}(hr:∀cls,c.raises args cls=an)(hp:c.post args (.bool b) args=ab)
  (keep:∀b o,aZ.heap.get? b=aa o→s'.heap.get? b=aa o) (ho:s'.os=aZ.os) (hg:s'.gens=#[]):GoodW c cl Gm args aZ (.ok (.ret (.bool b))) s':=
 ⟨.inl ⟨_,_,[],rfl,hr,ReadsW.bool b,hp,λ_=>⟨List.nodup_nil,λ_ hm=>(nomatch hm)⟩⟩,keep,ho,hg⟩
end Mine.Internal
namespace Mine.top
theorem tw16541100652227675460:0=0:=rfl
theorem tw17652467196902433924:0=0:=rfl
theorem tw10601156486104046309:0=0:=rfl
theorem tw18064794426631996164:0=0:=rfl
theorem tw10210261568307299710:0=0:=rfl
theorem tw11767933985995177338:0=0:=rfl
theorem tw17639367228396055390:0=0:=rfl
theorem tw11948995353047267269:0=0:=rfl
theorem tw10900551605799900844:0=0:=rfl
theorem tw16600302727076016134:0=0:=rfl
theorem tw6156568016551699631:0=0:=rfl
theorem tw9595512800414480283:0=0:=rfl
theorem tw12545222027267286695:0=0:=rfl
theorem tw2878843996050045342:0=0:=rfl
theorem tw11534289746047712335:0=0:=rfl
theorem tw12438410632805049552:0=0:=rfl
theorem tw14549111412433740942:0=0:=rfl
theorem tw953821971998124167:0=0:=rfl
theorem tw3820434133910038737:0=0:=rfl
theorem tw12535971307161669396:0=0:=rfl
theorem tw381845443943030031:0=0:=rfl
theorem tw7673058066778466091:0=0:=rfl
theorem tw10008474027749305400:0=0:=rfl
theorem tw14435140724418575476:0=0:=rfl
theorem tw9152664641465651067:0=0:=rfl
theorem tw13710211086531791108:0=0:=rfl
theorem tw2312856594315299383:0=0:=rfl
theorem tw7160873610591055699:0=0:=rfl
theorem tw1527239484044843206:0=0:=rfl
theorem tw10484538523117445312:0=0:=rfl
theorem tw14789260269991461300:0=0:=rfl
theorem tw4859757453598101857:0=0:=rfl
theorem tw227720230686144328:0=0:=rfl
theorem tw17346259052997144950:0=0:=rfl
theorem tw15169761463676818070:0=0:=rfl
theorem tw17542608870123051758:0=0:=rfl
theorem tw9590735534726013551:0=0:=rfl
theorem tw16878204669230926818:0=0:=rfl
theorem tw908825868028484722:0=0:=rfl
theorem tw1754339480302792767:0=0:=rfl
theorem tw7681529838311687354:0=0:=rfl
theorem tw3254097082911018636:0=0:=rfl
theorem tw9233715247699887402:0=0:=rfl
theorem tw13307591127769906961:0=0:=rfl
theorem tw16800595933775061595:0=0:=rfl
theorem tw12209182163369298222:0=0:=rfl
theorem tw10801874191123338550:0=0:=rfl
theorem tw8281120267493503204:0=0:=rfl
theorem tw7386116660499605909:0=0:=rfl
theorem tw3871027444623705763:0=0:=rfl
theorem tw860223938195835975:0=0:=rfl
theorem tw1601500998369573665:0=0:=rfl
theorem tw11116745826364501430:0=0:=rfl
theorem tw13889309363888878346:0=0:=rfl
theorem tw2267912224990424062:0=0:=rfl
theorem tw9919435345466941130:0=0:=rfl
theorem tw9589608677651300831:0=0:=rfl
theorem tw4331257952254489624:0=0:=rfl
theorem tw11199710921928265848:0=0:=rfl
theorem tw5839659824258004927:0=0:=rfl
theorem tw15245507539482535896:0=0:=rfl
theorem tw14168018189251442112:0=0:=rfl
theorem tw6662652255960138227:0=0:=rfl
theorem tw7657828476027519975:0=0:=rfl
theorem tw5513142621748847562:0=0:=rfl
theorem tw11546936639936008217:0=0:=rfl
theorem tw17022078359063049780:0=0:=rfl
theorem tw6885214360128481674:0=0:=rfl
theorem tw9685713192446186341:0=0:=rfl
theorem tw12904532413392791838:0=0:=rfl
theorem tw2220570432770164149:0=0:=rfl
theorem tw17781115878593249900:0=0:=rfl
theorem tw12256363837256957063:0=0:=rfl
theorem tw3995942328266245912:0=0:=rfl
theorem tw12643491718579748851:0=0:=rfl
theorem tw15349318334595610263:0=0:=rfl
theorem tw9195894827357321740:0=0:=rfl
theorem tw1123975283337734383:0=0:=rfl
theorem tw6487610083215253720:0=0:=rfl
theorem tw15299407806266782574:0=0:=rfl
theorem tw9768079942903668216:0=0:=rfl
theorem tw1195175773429642966:0=0:=rfl
theorem tw9361663168868926718:0=0:=rfl
theorem tw17428532607074087071:0=0:=rfl
theorem tw16759092144687519636:0=0:=rfl
theorem tw3378803678994701225:0=0:=rfl
theorem tw7381879191629600215:0=0:=rfl
theorem tw18177719399980262173:0=0:=rfl
theorem tw16174758807025615021:0=0:=rfl
theorem tw2988451766255067171:0=0:=rfl
theorem tw7847650389618582240:0=0:=rfl
theorem tw10574840078274726829:0=0:=rfl
theorem tw1291508964198565346:0=0:=rfl
theorem tw13272337422414781067:0=0:=rfl
theorem tw7297446738713254254:0=0:=rfl
theorem tw4058662728301269685:0=0:=rfl
theorem tw8973803690348224638:0=0:=rfl
theorem tw12425085872883035938:0=0:=rfl
theorem tw11760055953109336660:0=0:=rfl
theorem tw9366391650621772374:0=0:=rfl
theorem tw13968125046926948103:0=0:=rfl
theorem tw11240886729373846589:0=0:=rfl
theorem tw8735323631387419056:0=0:=rfl
theorem tw4321519831107876412:0=0:=rfl
theorem tw5915399644114372684:0=0:=rfl
theorem tw6196800358849779857:0=0:=rfl
theorem tw10017263926548143515:0=0:=rfl
theorem tw10187264123177260123:0=0:=rfl
theorem tw2561016716579263177:0=0:=rfl
theorem tw6438537300738474071:0=0:=rfl
theorem tw4916261283513009128:0=0:=rfl
theorem tw6572447435987645144:0=0:=rfl
theorem tw9666326922614434849:0=0:=rfl
theorem tw2007660962349395123:0=0:=rfl
theorem tw14615657086365298920:0=0:=rfl
theorem tw4597200072644226624:0=0:=rfl
theorem tw11457754044182789617:0=0:=rfl
theorem tw8311017846404947139:0=0:=rfl
theorem tw17486766287000646611:0=0:=rfl
theorem tw3855276242980373810:0=0:=rfl
theorem tw1814787853859245837:0=0:=rfl
theorem tw18164388396756303480:0=0:=rfl
theorem tw4571971715460732019:0=0:=rfl
theorem tw72247145696351765:0=0:=rfl
theorem tw8598144960395782539:0=0:=rfl
theorem tw3696473221133414273:0=0:=rfl
theorem tw6176384092110617959:0=0:=rfl
theorem tw2665807947273092163:0=0:=rfl
theorem tw6664487174759623829:0=0:=rfl
theorem tw6906291655842520137:0=0:=rfl
theorem tw18186074749648716422:0=0:=rfl
theorem tw15254643099363442306:0=0:=rfl
theorem tw2287823674025257028:0=0:=rfl
theorem tw16034636559557993077:0=0:=rfl
theorem tw4177254973167742082:0=0:=rfl
theorem tw2596539476470345881:0=0:=rfl
theorem tw14459580976405569124:0=0:=rfl
theorem tw2985252069258134486:0=0:=rfl
theorem tw7414872774492366064:0=0:=rfl
theorem tw18063644159110109576:0=0:=rfl
theorem tw1486479319815781832:0=0:=rfl
theorem tw2514443458684651071:0=0:=rfl
theorem tw13120753694373217308:0=0:=rfl
theorem tw11279390925490393535:0=0:=rfl
theorem tw15740088241188596515:0=0:=rfl
theorem tw11982747722937265360:0=0:=rfl
theorem tw11423202765487971197:0=0:=rfl
theorem tw7743179893348639699:0=0:=rfl
theorem tw7990429038631628895:0=0:=rfl
theorem tw18085771088847121727:0=0:=rfl
theorem tw10936122117785486979:0=0:=rfl
theorem tw12166907935582030026:0=0:=rfl
theorem tw17953984050398360512:0=0:=rfl
theorem tw10194810499950245846:0=0:=rfl
theorem tw8810280945414196856:0=0:=rfl
theorem tw8204474986945543665:0=0:=rfl
theorem tw7527032243904285869:0=0:=rfl
theorem tw14987219478266130788:0=0:=rfl
theorem tw1149218181149386328:0=0:=rfl
theorem tw5118827330378232414:0=0:=rfl
theorem tw4186445540838780016:0=0:=rfl
theorem tw13001836021917841797:0=0:=rfl
theorem tw8560541052185303311:0=0:=rfl
theorem tw7429413206186439793:0=0:=rfl
theorem tw9305691244287143441:0=0:=rfl
theorem tw15569959144833144457:0=0:=rfl
theorem tw17046948494117081484:0=0:=rfl
theorem tw8237333600419904120:0=0:=rfl
theorem tw15503665604740900718:0=0:=rfl
theorem tw8369368087495890639:0=0:=rfl
theorem tw2126296398998916975:0=0:=rfl
theorem tw12105128591322288922:0=0:=rfl
theorem tw15985961358823992270:0=0:=rfl
theorem tw146815374380898660:0=0:=rfl
theorem tw10404823597219466188:0=0:=rfl
theorem tw5889316905344633881:0=0:=rfl
theorem tw9108098604805947806:0=0:=rfl
theorem tw11141966352661209427:0=0:=rfl
theorem tw11762496359356365647:0=0:=rfl
theorem tw2581206410525282061:0=0:=rfl
theorem tw16123964013534891561:0=0:=rfl
theorem tw14671331368771545958:0=0:=rfl
theorem tw1988063486488863061:0=0:=rfl
theorem tw16597617366809209970:0=0:=rfl
theorem tw17030962893124633753:0=0:=rfl
theorem tw17886615442053742456:0=0:=rfl
theorem tw15860264024139754761:0=0:=rfl
theorem tw6659320528611288953:0=0:=rfl
theorem tw9178861053002065721:0=0:=rfl
theorem tw10657950659306570408:0=0:=rfl
theorem tw14597223018079223185:0=0:=rfl
theorem tw8657480035899644758:0=0:=rfl
theorem tw13160728816969591200:0=0:=rfl
theorem tw16155163154822807229:0=0:=rfl
theorem tw10567129059001840431:0=0:=rfl
theorem tw342308947776675178:0=0:=rfl
theorem tw775762912060472103:0=0:=rfl
theorem tw6430265229019958763:0=0:=rfl
theorem tw4840481374290595910:0=0:=rfl
theorem tw12483720753089274532:0=0:=rfl
theorem tw7715697345341360870:0=0:=rfl
theorem tw297971269722091814:0=0:=rfl
theorem tw708234853630380328:0=0:=rfl
theorem tw8622502720953521162:0=0:=rfl
theorem tw9259421805112917234:0=0:=rfl
theorem tw1212798325632107971:0=0:=rfl
theorem tw1638113669730673903:0=0:=rfl
theorem tw13290321428070320777:0=0:=rfl
theorem tw14657780768301432306:0=0:=rfl
theorem tw8435561252592420358:0=0:=rfl
theorem tw6930518751129746686:0=0:=rfl
theorem tw14399976873020721970:0=0:=rfl
theorem tw4713442408853163898:0=0:=rfl
theorem tw5303079699428457377:0=0:=rfl
theorem tw14697636140705633519:0=0:=rfl
theorem tw7830913209206220567:0=0:=rfl
theorem tw956089473029861405:0=0:=rfl
theorem tw6265701101103706036:0=0:=rfl
theorem tw8472579005086612782:0=0:=rfl
theorem tw3315250197877816394:0=0:=rfl
theorem tw9227541089923242437:0=0:=rfl
theorem tw3479634599624807885:0=0:=rfl
theorem tw1833847959688406909:0=0:=rfl
theorem tw1655259298481077034:0=0:=rfl
theorem tw9913501989792142831:0=0:=rfl
theorem tw2029088862249889922:0=0:=rfl
theorem tw7847352863974893604:0=0:=rfl
theorem tw339143206060000330:0=0:=rfl
theorem tw4383139521930768336:0=0:=rfl
theorem tw2544169868661182894:0=0:=rfl
theorem tw13983857475226248213:0=0:=rfl
theorem tw14537839394382259888:0=0:=rfl
theorem tw2683898200743741643:0=0:=rfl
theorem tw12958664272152378060:0=0:=rfl
theorem tw15092371282622821202:0=0:=rfl
theorem tw9843447840031818808:0=0:=rfl
theorem tw11443710868159068359:0=0:=rfl
theorem tw1697544655201012999:0=0:=rfl
theorem tw14145802354927516647:0=0:=rfl
theorem tw13223034962123697568:0=0:=rfl
theorem tw8025738503920905074:0=0:=rfl
theorem tw8345894832289464959:0=0:=rfl
theorem tw10987319290404115282:0=0:=rfl
theorem tw18367679650794681301:0=0:=rfl
theorem tw12764151676501842404:0=0:=rfl
theorem tw1706793611546318481:0=0:=rfl
theorem tw4159251561096739476:0=0:=rfl
theorem tw15095372191486117680:0=0:=rfl
theorem tw1016984595167383106:0=0:=rfl
theorem tw13134186033006778460:0=0:=rfl
theorem tw13928562000808390012:0=0:=rfl
theorem tw4299629679881509495:0=0:=rfl
theorem tw11845233108574324481:0=0:=rfl
theorem tw17492772389151264855:0=0:=rfl
theorem tw2732273902793177162:0=0:=rfl
theorem tw9382581127745807760:0=0:=rfl
theorem tw9229161468869434483:0=0:=rfl
theorem tw1676862907878916244:0=0:=rfl
theorem tw1040915598704419856:0=0:=rfl
theorem tw13889484949932952446:0=0:=rfl
theorem tw7444641836354208208:0=0:=rfl
theorem tw12392516345856041104:0=0:=rfl
theorem tw10915162052029792233:0=0:=rfl
theorem tw12317137736924338119:0=0:=rfl
theorem tw9614876229902214918:0=0:=rfl
theorem tw13044034144603486326:0=0:=rfl
theorem tw6919701780365589675:0=0:=rfl
theorem tw2555065506035805374:0=0:=rfl
theorem tw15877122091014420850:0=0:=rfl
theorem tw14861896470697024400:0=0:=rfl
theorem tw13091174067606910046:0=0:=rfl
theorem tw10773188271377071773:0=0:=rfl
theorem tw9378254376102152143:0=0:=rfl
theorem tw5244899138074338376:0=0:=rfl
theorem tw3422688185749166683:0=0:=rfl
theorem tw427269002284569659:0=0:=rfl
theorem tw17315540178315561739:0=0:=rfl
theorem tw13802547742096326172:0=0:=rfl
theorem tw2249405535684624136:0=0:=rfl
theorem tw13303987763403120937:0=0:=rfl
theorem tw1516213087968936877:0=0:=rfl
theorem tw1617357707322924660:0=0:=rfl
theorem tw17469865338272021226:0=0:=rfl
theorem tw987869383939708018:0=0:=rfl
theorem tw620129878449983639:0=0:=rfl
theorem tw14502225709538309166:0=0:=rfl
theorem tw11542710104232473196:0=0:=rfl
theorem tw1108800333578037850:0=0:=rfl
theorem tw7855079511596107753:0=0:=rfl
theorem tw1736530178072539846:0=0:=rfl
theorem tw13305523845174962083:0=0:=rfl
theorem tw7204998973626084599:0=0:=rfl
theorem tw602653604445443664:0=0:=rfl
theorem tw13864677062968915208:0=0:=rfl
theorem tw12117888159696746259:0=0:=rfl
theorem tw10399464001100048223:0=0:=rfl
theorem tw17342085116792181814:0=0:=rfl
theorem tw13326734554550294991:0=0:=rfl
theorem tw17103585973383926153:0=0:=rfl
theorem tw10005945817407372193:0=0:=rfl
theorem tw17981982808018919739:0=0:=rfl
theorem tw16900427199656544559:0=0:=rfl
theorem tw6042063481754889096:0=0:=rfl
theorem tw5648408011753718230:0=0:=rfl
theorem tw6674990990233134667:0=0:=rfl
theorem tw3195522803047326042:0=0:=rfl
theorem tw6908635100366463001:0=0:=rfl
theorem tw9800703332001039478:0=0:=rfl
theorem tw6859976401760118174:0=0:=rfl
theorem tw8694864300669457046:0=0:=rfl
theorem tw16415559393655328363:0=0:=rfl
theorem tw9631074621892390191:0=0:=rfl
theorem tw11133666699803404755:0=0:=rfl
theorem tw5938664839603501006:0=0:=rfl
theorem tw10617020205504526918:0=0:=rfl
theorem tw2464713573024523455:0=0:=rfl
theorem tw10996937224433265937:0=0:=rfl
theorem tw2770239361232196585:0=0:=rfl
theorem tw16273406610938067001:0=0:=rfl
theorem tw15361541807878343388:0=0:=rfl
theorem tw795583310449317561:0=0:=rfl
theorem tw12342655685612074800:0=0:=rfl
theorem tw13822267516522204269:0=0:=rfl
theorem tw15646934709686841381:0=0:=rfl
theorem tw9059672392935016618:0=0:=rfl
end Mine.top
section
open PySem PySem.W PyProof.Rows Mine.Internal
set_option Elab.async true
set_option maxRecDepth 100000
set_option maxHeartbeats 8000000
theorem Mine.top:PySem.Challenge.rw_te0019_03.Holds:=by
 w_on;o_law;k_head;(case hw=>w_witness2)
 k_go0
 rename_i w dJ aZ mg mb G Y fa o pm cd doc ho hcd hg X V T B TE TW aj3 hs O8 hL1 FG hl2 as1 CM la vm as3 hL ra wl r0 hI hr nA rH hD ag tk c1 c2 c3 c4 l1 l2 l3 l4 X0 X' T' K' F' cH N' l0
 refine ox (ae1 (λG hK=>({
   c:=(by rw[hK];exact⟨by kernel_rfl,by kernel_rfl,by kernel_rfl,by kernel_rfl,by kernel_rfl,by kernel_rfl,by kernel_rfl,by kernel_rfl,by kernel_rfl,by kernel_rfl,by kernel_rfl,by kernel_rfl⟩),
   ident:=mM hK [] [] ⟨by kernel_rfl,by kernel_rfl,by kernel_rfl,by kernel_rfl⟩ rfl (λS v=>by kernel_rfl) (λ_ _ _=>rfl),
   prodinit7:=Yc hK ⟨by kernel_rfl,by kernel_rfl,by kernel_rfl,by kernel_rfl⟩ (λS v1 v2 v3 v4 v5 v6 v7 v8=>by kernel_rfl),
   prodinit3:=Wc hK [.ref 54,.none,.str "" 251,.int 0 252] ⟨by kernel_rfl,by kernel_rfl,by kernel_rfl,by kernel_rfl⟩ rfl (λS v1 v2 v3 v4=>by kernel_rfl) (λP m hb=>UB hK hb (a:=54) (by kernel_rfl) λz=>⟨_,_,rfl,⟨54,_,_,_,rfl,z,by kernel_rfl,rfl,⟨_,_,rfl,⟨_,rfl⟩,_,_,rfl,⟨_,rfl⟩,rfl⟩⟩,_,_,rfl,rfl,_,_,rfl,⟨_,rfl⟩,_,_,rfl,⟨_,rfl⟩,rfl⟩),
   plen:=mM hK [] [] ⟨by kernel_rfl,by kernel_rfl,by kernel_rfl,by kernel_rfl⟩ rfl (λS v=>by kernel_rfl) (λ_ _ _=>rfl),
   iteminit:=zC hK [] [] ⟨by kernel_rfl,by kernel_rfl,by kernel_rfl,by kernel_rfl⟩ rfl (λS v w u=>by kernel_rfl) (λ_ _ _=>rfl),
   rightmost:=xG hK [] [] ⟨by kernel_rfl,by kernel_rfl,by kernel_rfl,by kernel_rfl⟩ rfl (λS v w=>by kernel_rfl) (λ_ _ _=>rfl),
   graminit:=xG hK [] [] ⟨by kernel_rfl,by kernel_rfl,by kernel_rfl,by kernel_rfl⟩ rfl (λS v w=>by kernel_rfl) (λ_ _ _=>rfl),
   addprod:=zC hK ["func","file","line"] [.none,.str "" 448,.int 0 449] ⟨by kernel_rfl,by kernel_rfl,by kernel_rfl,by kernel_rfl⟩ rfl (λS v w u=>by kernel_rfl) (λ_ _ _=>⟨_,_,rfl,rfl,_,_,rfl,⟨_,rfl⟩,_,_,rfl,⟨_,rfl⟩,rfl⟩),
   setstart:=mM hK ["start"] [.none] ⟨by kernel_rfl,by kernel_rfl,by kernel_rfl,by kernel_rfl⟩ rfl (λS v=>by kernel_rfl) (λ_ _ _=>⟨_,_,rfl,rfl,rfl⟩),
   first:=xG hK [] [] ⟨by kernel_rfl,by kernel_rfl,by kernel_rfl,by kernel_rfl⟩ rfl (λS v w=>by kernel_rfl) (λ_ _ _=>rfl),
   cfirst:=mM hK [] [] ⟨by kernel_rfl,by kernel_rfl,by kernel_rfl,by kernel_rfl⟩ rfl (λS v=>by kernel_rfl) (λ_ _ _=>rfl),
   cfollow:=mM hK ["start"] [.none] ⟨by kernel_rfl,by kernel_rfl,by kernel_rfl,by kernel_rfl⟩ rfl (λS v=>by kernel_rfl) (λ_ _ _=>⟨_,_,rfl,rfl,rfl⟩),
   blr:=mM hK [] [] ⟨by kernel_rfl,by kernel_rfl,by kernel_rfl,by kernel_rfl⟩ rfl (λS v=>by kernel_rfl) (λ_ _ _=>rfl),
   place:=mM hK [] [] ⟨by kernel_rfl,by kernel_rfl,by kernel_rfl,by kernel_rfl⟩ rfl (λS v=>by kernel_rfl) (λ_ _ _=>rfl),
   tabinit:=zC hK ["log"] [.none] ⟨by kernel_rfl,by kernel_rfl,by kernel_rfl,by kernel_rfl⟩ rfl (λS v w u=>by kernel_rfl) (λ_ _ _=>⟨_,_,rfl,rfl,rfl⟩),
   clo:=xG hK [] [] ⟨by kernel_rfl,by kernel_rfl,by kernel_rfl,by kernel_rfl⟩ rfl (λS v w=>by kernel_rfl) (λ_ _ _=>rfl),
   goto:=zC hK [] [] ⟨by kernel_rfl,by kernel_rfl,by kernel_rfl,by kernel_rfl⟩ rfl (λS v w u=>by kernel_rfl) (λ_ _ _=>rfl),
   items:=mM hK [] [] ⟨by kernel_rfl,by kernel_rfl,by kernel_rfl,by kernel_rfl⟩ rfl (λS v=>by kernel_rfl) (λ_ _ _=>rfl),
   ptable:=mM hK [] [] ⟨by kernel_rfl,by kernel_rfl,by kernel_rfl,by kernel_rfl⟩ rfl (λS v=>by kernel_rfl) (λ_ _ _=>rfl),
   NAMES:=MF hK ⟨by kernel_rfl,by kernel_rfl,by kernel_rfl,by kernel_rfl⟩ (λS=>by kernel_rfl),
   ASKED:=MF hK ⟨by kernel_rfl,by kernel_rfl,by kernel_rfl,by kernel_rfl⟩ (λS=>by kernel_rfl),
   next:=mM hK [] [] ⟨by kernel_rfl,by kernel_rfl,by kernel_rfl,by kernel_rfl⟩ rfl (λS v=>by kernel_rfl) (λ_ _ _=>rfl),
   rule:=xG hK [] [] ⟨by kernel_rfl,by kernel_rfl,by kernel_rfl,by kernel_rfl⟩ rfl (λS v w=>by kernel_rfl) (λ_ _ _=>rfl),
   corners:=mM hK [] [] ⟨by kernel_rfl,by kernel_rfl,by kernel_rfl,by kernel_rfl⟩ rfl (λS v=>by kernel_rfl) (λ_ _ _=>rfl),
   added:=zC hK [] [] ⟨by kernel_rfl,by kernel_rfl,by kernel_rfl,by kernel_rfl⟩ rfl (λS v w u=>by kernel_rfl) (λ_ _ _=>rfl),
   told:=mM hK [] [] ⟨by kernel_rfl,by kernel_rfl,by kernel_rfl,by kernel_rfl⟩ rfl (λS v=>by kernel_rfl) (λ_ _ _=>rfl)})) T'.g T'.b T'.builtins T'.nolimit X' (V6 hT9 T rfl) F' (sa:=la) rfl N' ⟨_,l1⟩ ⟨_,l2⟩ ⟨_,l3⟩ ⟨_,l4⟩ lifted hI nA l0.1 hg) ?_ ?_
 ·rintro f s' ⟨rfl,keep,ho,hg,h1,h2⟩
  exact⟨VT (λ_=>rfl) (by kc_post) keep ho hg,⟨_,h1⟩,⟨_,h2⟩,trivial⟩
 ·rintro e s' z
  exact z.elim
end
theorem PySem.Challenge.cw_te0019_03_holds : PySem.Challenge.rw_te0019_03.Holds :=
 Mine.top
