import PyProof.Rows.All
import Wide.All
import OpenK.AllK
import Wide.FinOn
import PySem.Challenge.RW_te0019_03
open Option renaming some→aa,none→af,map→ph,isSome→uL,eq_none_iff_forall_ne_some→wT,isSome_iff_exists→zP,map_eq_some_iff→Dl,getD→PT,map_id'→agk,getD_some→ahw,toList→ajd
open Bool renaming true→ab,false→an,and_eq_true→bO,false_ne_true→iD,not_eq_true'→jL,and_eq_true_iff→Dx,or_eq_false_iff→Dz,eq_false_iff→DC,or_eq_true→DP,or_true→HW,and_true→Ig,eq_iff_iff→Qr,not_true→aih,true_and→ai7
open Nat renaming le_trans→ah,le_refl→ar,lt_of_le_of_lt→bd,le_of_eq→bF,lt_of_lt_of_le→bI,le_succ→bR,le_add_right→b6,zero_le→b_,le_of_lt→cj,le_succ_of_le→c8,lt_succ_self→dq,ne_of_lt→du,ne_of_gt→dG,succ_pos→dK,succ_le_succ→eG,le_of_lt_succ→eS,add_le_add_left→e6,lt_irrefl→fo,add_le_add→fp,le_of_succ_le→gg,lt_trans→i4,not_lt→js,le_of_ble_eq_true→jG,sub_le→ku,lt_succ_of_le→lb,lt_of_succ_le→lr,le_add_left→lu,not_lt_of_le→ma,not_le_of_lt→mi,zero_add→mZ,not_lt_zero→m5,pos_of_ne_zero→oh,add_le_add_right→oj,lt_of_succ_lt→oy,one_pos→pf,le_of_not_lt→pg,mul_le_mul_left→pB,succ_lt_succ→pC,min_le_right→pD,lt_succ_of_lt→pE,le_antisymm→qQ,mul_le_mul_right→qR,lt_add_of_pos_right→qS,sub_add_cancel→qT,sub_lt→sn,add_comm→sp,min_eq_left→sA,succ_le_of_lt→sH,eq_zero_or_pos→sJ,add_sub_cancel'→uv,add_right_comm→uA,ble→wL,two_pos→wM,succ_add→wN,lt_of_le_of_ne→wO,eq_or_lt_of_le→wP,lt_or_eq_of_le→zI,sub_self→zJ,succ_ne_zero→z0,add_lt_add_right→De,add_sub_cancel_left→Df,mod_lt→Dg,succ_add_eq_add_succ→Dj,lt_trichotomy→HD,succ→HF,le_of_succ_le_succ→H9,le_of_not_le→Ii,min_eq_right→Ij,lt_of_succ_lt_succ→Is,le_zero→It,lt_of_lt_of_eq→PS,lt_or_ge→Qk,add_sub_cancel→Qu,sub_le_of_le_add→QG,succ_mul→QP,sub_lt_of_lt→QZ,div_lt_of_lt_mul→afz,le_div_iff_mul_le→af0,sub_pos_of_lt→af1,add_lt_add_left→af2,add_assoc→af3,mul_le_mul→af4,not_succ_le_zero→agw,succ_ne_self→ahv,lt_of_mul_lt_mul_right→ahy,zero_lt_succ→aie,lt_of_not_le→aij,sub_lt_sub_left→ais,pos_iff_ne_zero→ai6,min_le_left→aje,add_lt_of_lt_sub→ajf,lt_or_gt_of_ne→aji
open PySem renaming Shared→ak,Addr→au,wpAny→aw,wpAny_pure→aD,model→aR,Stmt→bx,Scope→cb,World→cE,Heap→cO,sizeLine→cR,compareOp→c5,SetTable→c9,LstAt→de,Comprehension→dC,DictEntry→dL,wpAny_holding→dM,wpAny_ite_false→dU,Around→dZ,eval→d9,cLine→ez,rawInt→e_,Program→fD,clipAt→fE,starEach→gh,cellsFrom→gt,Model→i2,wpAny_call_entry→i5,getItem→i6,holding→ju,backTo→jv,wpAny_standAt→jJ,wpAny_rule→jK,wpAny_ite_split→jM,standAt→kh,codeAny→ki,wpAny_setState_of→kw,NameKind→lg,Fin→lj,isSubtype→lv,binaryOp→m7,getAttr→m8,mem_of_lookup→m_,wpAny_mono→ox,seqIndex?→oz,assign→pq,call→pv,wpAny_ite_true→pz,isSubtype_type→pA,assignEach→qJ,wpAny_callSpecial?_slot→qK,wpAny_of_eq→qL,pyIter→qM,wpAny_specialOf→qN,wpAny_dictEpoch→qO,inplaceOp→sC,wpAny_setField→sE,wpAny_newObj_type→sF,dictGet→sG,mainGlobals→uw,setItem→ux,attributeBase→uy,bindArgs→uz,wpAny_field→uB,Pairs→uC,pyNext→uD,wpAny_typeOf→uF,typeOf→uG,Operator→wS,swappedStores→wV,Result→wW,callWith→wX,wpAny_seqItems→wY,foldedSetIterable→w0,wpAny_isInstance→w5,codeAny_builtin→w6,builtinsNs→zK,truthy→zL,wpAny_askSetting→zN,wpAny_sequenceKey→zR,IsPart→zV,hashByValue→zY,sysModules→Dn,unsupported→Do,behindInMarks→Dp,setAttr→Dq,swapsWithSole→Dr,swapsWith→Dt,strKind→Dw,letOwnedTupleGo→Dy,slot_dict_getitem→DF,ofAClassStatement→DK,bootBuiltins→HI,recursionLimit→HJ,wpAny_truthy_bool→HK,FuncData→HO,wpAny_loadPart'→HR,raiseNew→HV,compPost→HY,pushCells→HZ,noteFrame→H4,eqIsQuiet→H7,isInstance→H8,wpAny_dictEntries→H_,wpAny_missed_other→Ib,ret→Ie,setSearchFrom→Il,plainId_quiet→Ir,entryFor→Iu,reduceHash→PU,wpAny_release→PX,wpAny_assignInOrder_more→PY,letTemporaryGo→P0,wpAny_letTemporaryGo→P4,wpAny_call→P7,firstArgMember→Qa,wpAny_pyIter_tuple→Qb,wpAny_pyIter_list→Qf,wpAny_alloc→Qg,pushCells_keeps→Qh,codeAny_of_tree→Qi,wpAny_runValue→Qo,callSpecial?→Qp,wpAny_operating→Qq,call_meets→Qv,fitsIndex_of→Qx,firstAsync→QB,sub_set_self→QD,entryFor_alias→QH,wpAny_setEpoch_of→QJ,formatField→QW,strLen_append→QY,plainExc_IndexError→Q4,wpAny_assignInOrder_none→agc,wpAny_Assign_stores→agd,wpAny_pyIter_enum→agq,wpAny_pyHash_int→ags,wpAny_pyHash_str→agt,beq_builtin_none→agu,isSubtype_tuple_tuple→agv,entry_dict_getitem→ag1,args_dict_getitem→ag2,slot_dict_contains→ag4,slot_dict_setitem→ag6,searchCouldBeSeen→ahz,wpAny_storeSet_of→ah2,checkBuiltinCall→ah4,codeAny_call_builtin→ah6,builtinLookup_eq_fast→aid,wpAny_pyIter_slot→aif,slot_list_setitem→ai8
open List renaming length_map→aI,range→bo,mem_map→bB,mem_of_getElem?→bN,mem_singleton→bS,length_append→cU,getElem?_eq_some_iff→cV,all_eq_true→dc,getElem?_map→dv,mem_append→dw,mem_cons_self→dA,mem_cons→dE,map_append→dN,mem_range→dR,length_range→dS,mem_cons_of_mem→eT,contains_iff_mem→e9,getElem?_eq_getElem→fb,append_nil→gP,mem_filterMap→gQ,length_cons→iE,mem_append_left→i7,length_take→jH,take_add_one→jN,mem_append_right→kj,getElem?_eq_none_iff→km,pairwise_singleton→ko,lookup_cons→k_,nodup_cons→lh,nodup_append→lq,getElem?_eq_none→md,mem_filter→m9,take_of_length_le→na,length→oq,map_map→pi,getD_eq_getElem?_getD→pn,forIn_cons→py,length_tail→pF,mem_iff_getElem?→qH,filterMap_cons→qP,filterMap_append→sD,map_cons→sI,mem_flatMap→sK,getElem?_of_mem→uE,replicate→uH,filterMap→uK,length_filterMap_le→uM,pairwise_map→wQ,append_assoc→wR,lookup→w4,contains_cons→w8,getElem?_range→w9,range_succ→w_,length_singleton→zU,take_length→zW,length_drop→zX,map_drop→zZ,getElem?_append_left→Di,not_mem_nil→DE,all_cons→DH,cons→DI,mem_of_mem_take→DL,map_nil→DN,map_inj_left→DO,nodup_range→HE,take_sublist→HG,perm_ext_iff_of_nodup→HH,filter_cons→HX,map_take→Im,map→Iq,drop_eq_getElem_cons→Iy,cons_ne_nil→IA,length_filter_le→IC,pairwise_iff_getElem→PM,getElem?_drop→PN,take_append_drop→PO,any_cons→PZ,forall_mem_cons→Qc,getElem?_inj→Qm,range_succ_eq_map→Qz,not_mem_cons_of_ne_of_not_mem→QL,length_flatMap→QT,getElem?_append_right→QU,getElem?_tail→Q5,lookup_cons_self→afy,getElem?_take_of_lt→af5,pairwise_lt_range→af8,nil_append→af9,find?_cons_of_neg→agf,size_toArray→agh,map_fst_zip→agi,mem_map_of_mem→agj,ext_getElem?→agr,any_eq_true→agy,all_map→ahs,any_map→aht,eq_nil_of_length_eq_zero→ah8,length_eq_zero_iff→aiq,append_eq_nil_iff→aiv,map_const'→aiw,map_congr_left→aix,sum_replicate_nat→aiy,length_erase_of_mem→aiz,cons_append→ai0,getElem?_cons_succ→ai1,foldl_append→ai2,append_inj→ai4,filter_append→ai5,drop_one→ai9,flatMap_append→ajb,append_subset→ajc,getElem?_cons_zero→ajg
open Option.some renaming inj→aY
open PySem.Heap renaming get?_push_of_some→dT,get?_push_size→fP,lt_size→jI,get?_update_self→lf,size_push→mc,SameBut→sB,get?_update_other→zO,get?_none_of_le→zQ,ExtBut→P_,NewExc→ag0
open PySem.W renaming FnAt→d0,findIn→ie,tabObj→mj,dictOf→qI,plainGet→zM,kas_sort→z7,hasDictIn→Ds,kas_bin→DM,plainGet_of→HL,plainOver→HM,putName_dict→HN,kas_count→Iv,looks_findIn→P8,kas_descPart→QK
open PySem.Str renaming ofString→d5,empty→z9
open PySem.Value renaming none→eH,type→zS,ref→Du,builtin→H5,bool→ag5
open List.Nodup renaming length_le_of_subset→fO
open Array renaming length_toList→fQ,getElem?_eq_getElem→jr,getElem?_toList→jt,getElem?_eq_some_iff→oi,toList_push→H3,forIn_toList→H6,size_map→Ip,toList_inj→Ix,replicate→PP,getD_eq_getD_getElem?→PQ,any_toList→agg,mem_of_getElem?→agx,isEmpty→ag8,eraseIdxIfInBounds→ahb,toList_eraseIdx→ahc,toList_append→ahf,toArray_toList→ahg,toList_map→ah0,getD→aii
open Prod.mk renaming inj→gi
open Int renaming ofNat_lt→ib,natCast_nonneg→jq,not_lt→qG,lt_trans→sv,ofNat_le→wZ,le_trans→DB,toNat_natCast→HT,toNat→Ih,emod_nonneg→PL,max_eq_right→Qy,le_refl→QQ,ne_of_lt→QR,ofNat_ne_zero→afu,toNat_lt→afv,emod_lt_of_pos→afw,natCast_pos→afx,ediv_one→agn,lt_of_le_of_lt→ago,add_zero→agp,min_eq_left→ahh,le_of_lt→ahi,sub_add_cancel→ahk,ne_of_gt→ahq,lt_of_lt_of_le→air,le_add_one→ait,lt_add_one_of_le→aiu,ofNat_sub→ai3,lt_asymm→ajh
open Prod renaming ext→jw,fst→m6,snd→Dk
open PyProof.Rows renaming seqObj→ky,envOfC→xa,lookup_of_mem_nodup→HP,SortKind→Iw,range_getD→QM,slicePart_none→ahl,loadName_read→aky,UnaryOp_→akz,neg_int→ak0,IfExp_→ak1,truthy_none→ak2,isTrue_not→ak3,isTrue_and→ak4,isTrue_or→ak5,isTrue_and_nil→ak6,isTrue_or_nil→ak7,isTrue_plain→ak8,BoolOp_one→ak9,BoolOp_and→ala,BoolOp_or→alb,getItem_tuple→alj,truthy_tuple→alk,len_tuple→alm,list_addW→alq,slicePart_int→als,tupleItemsOf_→alu
open List.cons renaming inj→lw
open PySem.Obj renaming mapSeq→mh,mapFields→uI,putSet→uJ,cls_mapFields→Dv,data_mapFields→HU,putName→P5,isFreed_of_fields→P9,isFreed_of_dict→agz
open PySem.Heap.SameBut renaming update→pt
open PySem.Expr renaming casesOn→wU
open Int.ofNat renaming inj→w7
open PySem.Around renaming under_plainId→zT
open PySem.Txt renaming join→z8
open Classical renaming byContradiction→Dh,choose_spec→Qs,choose→ag9
open PySem.Builtin.Tuple renaming tupleHashOf→Dm,tupleItemsOf→Ql,tupleExact→alv
open Nat.succ renaming inj→DD
open PySem.F renaming slot_tuple_getitem→DG,slot_dict_get→Ic,entry_dict_get→Qn,slot_list_pop→Qw,args_dict_get_3→ag3,slot_dict_len→ag7,entry_list_pop→aha,slot_list_insert→ahe,entry_tuple_getitem→ahn,args_tuple_getitem_2→aho,plain_set_new→ah5,entry_set_init→ah7,slot_set_ne→aib,slot_set_iter→aig,plain_list_iadd→aim
open PySem.Code renaming builtin→HQ
open PySem.Builtin.SmallTypes renaming nextOf→HS
open ForInStep renaming yield→H0
open PySem.Builtin.Dict renaming missed→Ia,pendingKey?→alg,notOrdered→alh,pendingCount→ali
open PySem.Builtin.Slice renaming sliceAdjust→Ik,slicePlaces→ahj,sliceApplied→ahm,slicePartIndex→alr,sliceFields→alt
open PySem.SetTable renaming insertAt→Io,toList_insertAt→af6,fill→ahx
open List.Pairwise renaming map→Iz,imp_of_mem→af7,of_map→aja,filterMap→akx,imp→ald,filter→alf,sublist→al9
open PySem.PyData renaming list→IB,keyHash→P6,hasDictAll→QN,depthAll→QO,shownAll→Q2,shown→Q3,hasDict→aio,depth→aip
open PySem.Env renaming kindOf→PV
open PySem.Calls renaming loadGlobal_global→PW,loadGlobal_builtin→aga,call_function_entry→ahu
open PySem.Value.ref renaming inj→Qd
open And renaming intro→Qj
open PySem.Walks renaming list→QA
open PyProof.Rows.F renaming plain_set_update_loop→QC,entry_set_update_loop→ah3
open PySem.Shared renaming TypeIs→QE
open PySem.Builtin.Frozenset renaming quietEq→QI,slot1→aia,addrOf→aic,newClass→alw,updateFrom→alx,isAnySet→aly,sizeOf→alz,walkUnseen→al0,walk→al1,subsetOf→al2,unchanged→al3,slot0→al4
open Lean.Parser.Tactic renaming exact→afr,tacticSeq→akr,tacticSeq1Indented→aks,tacticRfl→aku
open Lean renaming Syntax→afs
open PySem.NameKind renaming cell→agb
open PySem.DictEntry renaming refKey→age
open PySem.Builtin.Range renaming rangeSize→agl,small→agm,rangeFitsLong→ale
open PySem.Builtin.List renaming listFitsIndex→ahd,listUpdate→aik,listLengthHint→ail,listExtendWith→ain,listItems→al5,listSameRef→al6,listTouch→al7,listSubscript?→al8
open PySem.Heap.IsSliceOf renaming new→ahp
open PySem.P renaming truthy_int→ahr
open PySem.List renaming filterMap_getElem?_range_length→ah1
open PySem.pickOrder renaming go→ah9
open Lean.Parser.Term renaming app→akt,hole→akv,basicFun→akw
open PySem.Builtin.SmallTypes.calledThroughType renaming match_1→alc
open PySem.MeetsSeq renaming list_pop_last→aln,list_pop_at→alo
open PySem.AutoSeq1 renaming list_insert_list_int_val_1→alp
open PySem PySem.W PyProof.Rows
set_option Elab.async false
set_option maxRecDepth 100000
set_option maxHeartbeats 8000000
set_option linter.unusedVariables false
namespace Mine.Internal
abbrev i0:=@decide_eq_false
abbrev sk:=@of_decide_eq_false
abbrev qF:=@beq_self_eq_true
abbrev mX:=@bne_self_eq_false
abbrev k9:=@beq_eq_false_iff_ne
abbrev mY:=@decide_eq_decide
abbrev ay:=@congrArg
abbrev aK:=@if_neg
abbrev aP:=@if_pos
abbrev bc:=@absurd
abbrev fC:=@of_decide_eq_true
abbrev eQ:=@decide_eq_true
abbrev h_:=@decide_eq_true_iff
abbrev eX:=@beq_iff_eq
open Lean in
def D7(k:Name)(a:Array Syntax):Syntax:=.node .none ``Lean.Parser.Tactic.tacticSeq #[.node .none ``Lean.Parser.Tactic.tacticSeq1Indented #[.node .none `null #[.node .none k a]]]
open Lean in
def bl:Syntax:=D7 ``Lean.Parser.Tactic.exact #[mkAtom "exact",.node .none ``Lean.Parser.Term.app #[mkIdent `Eq.refl,.node .none `null #[mkIdent `true]]]
open Lean in
def dH:Syntax:=D7 ``Lean.Parser.Tactic.tacticRfl #[mkAtom "rfl"]
open Lean in
def xH:Syntax:=.node .none ``Lean.Parser.Term.hole #[mkAtom "_"]
open Lean in
def Ka(a:Array Syntax):Syntax:=D7 ``Lean.Parser.Tactic.exact #[mkAtom "exact",.node .none ``Lean.Parser.Term.fun #[mkAtom "fun",.node .none ``Lean.Parser.Term.basicFun #[.node .none `null a,.node .none `null #[],mkAtom "=>",mkIdent `rfl]]]
def jg:afs:=Ka #[xH,xH]
def xy:afs:=Ka #[xH,xH,xH]
theorem aJ{n m:Nat}(h:wL n m=ab:=by with_unfolding_all exact Eq.refl ab):n≤m:=jG h
theorem bg{n m:Nat}(h:wL (n+1) m=ab:=by with_unfolding_all exact Eq.refl ab):n<m:=jG h
theorem bH{n m:Nat}(h:Nat.beq n m=an:=by with_unfolding_all exact Eq.refl an):n≠m:=Nat.ne_of_beq_eq_false h
theorem bQ{n:Nat}{l:List Nat}(h:l.elem n=ab:=by with_unfolding_all exact Eq.refl ab):n∈l:=List.mem_of_elem_eq_true h
theorem xp{x:Int}{k:Nat}(h:0<k):x % (k:Int)=((x % (k:Int)).toNat:Int):=(Int.toNat_of_nonneg (PL _ (afu.mpr (dG h)))).symm
theorem vk{x:Int}{k:Nat}(h:0<k):(x % (k:Int)).toNat<k:=(afv (PL _ (afu.mpr (dG h)))).mpr (afw _ (afx.mpr h))
theorem Cf{j m n:Nat}(h:j+m=n)(l:j<n):m-1<m:=sn (oh λz=>fo n (bd (bF (by rw[←h,z];rfl)) l)) pf
theorem Bz{j m n:Nat}(h:j+m=n)(l:j<n):j+1+(m-1)=n:=by lia
theorem JY{j m n:Nat}(h:m+j=n)(l:j<n):m-1<m:=Cf ((sp _ _).trans h) l
theorem OA{j m n:Nat}(h:m+j=n)(l:j<n):m-1+(j+1)=n:=(sp _ _).trans (Bz ((sp _ _).trans h) l)
theorem Lj{n:Nat}(h:0<n):-(n:Int) <0:=Int.neg_neg_of_pos (afx.mpr h)
theorem Nj{n:Nat}:¬-(n:Int) > 0:=qG.mpr (Int.neg_nonpos_of_nonneg (jq n))
theorem wq{n:Nat}(h:n<2^62):(n:Int) <2^63:=sv (b:=((2^62:Nat):Int)) (ib.mpr h) (by decide)
theorem O6{n:Nat}(h:n<2^62):¬(n:Int)≥2^63:=Int.not_le.mpr (wq h)
theorem Jd{a b c k:Nat}(x:a≤k)(y:b≤k)(z:c≤k):a+b+c≤k+k+k:=fp (fp x y) z
theorem L_{m a b k:Nat}(h:m+a=k)(l:a<b)(e:b≤k):k-b<m:=by lia
theorem aW{p:Prop}[d:Decidable p](h:decide p=ab:=by with_unfolding_all exact Eq.refl ab):p:=fC h
open PySem in
theorem wb{α β:Type}{M:i2}{A:dZ}{E:Value→ak→Prop}{s:ak}{m:Sem α}{f:α→Sem β}{Q:β→ak→Prop}(h:aw M A m (λa=>aw M A (f a) Q E) E s):aw M A (m >>=f) Q E s:=wpAny_bind h
theorem nK{α:Sort u}{c:Prop}[d:Decidable c]{a b:α}{P:α→Prop}(h:c)(x:P a):P (if c then a else b):=(aP h).symm▸x
theorem nJ{α:Sort u}{c:Prop}[d:Decidable c]{a b:α}{P:α→Prop}(h:¬c)(x:P b):P (if c then a else b):=(aK h).symm▸x
theorem B3{α:Sort u}{c:Prop}[d:Decidable c]{a b:α}{P:α→Prop}(h:c→P a)(h':¬c→P b):P (if c then a else b):=if z:c then nK z (h z) else nJ z (h' z)
theorem i8{α β:Type}[BEq α][LawfulBEq α]{p:α×β}{r:List (α×β)}{x:α}(e:x=p.1):(p::r).lookup x=aa p.2:=e▸afy
theorem gW{α β:Type}[BEq α][LawfulBEq α]{p:α×β}{r:List (α×β)}{x:α}(e:x≠p.1):(p::r).lookup x=r.lookup x:=by rw[k_,k9.mpr e]
@[elab_as_elim] theorem rwL{α:Sort u}{b:α}{motive:α→Prop}(x:motive b){a:α}(h:a=b):motive a:=h▸x
@[elab_as_elim] theorem rwR{α:Sort u}{b:α}{motive:α→Prop}(x:motive b){a:α}(h:b=a):motive a:=h▸x
theorem cG{p0:Prop}{p1:Prop}{p2:Prop}(eN:p0)(eV:p1)(gc:p2):p0∧p1∧p2:=⟨eN,eV,gc⟩
theorem B7{T0:Type}{p0:Prop}{p1:T0→Prop}(eN:p0)(v0:T0)(eV:p1 v0):p0∧∃v0,p1 v0:=⟨eN,v0,eV⟩
theorem aU{T0:Type}{p0:T0→Prop}{p1:T0→Prop}(v0:T0)(eN:p0 v0)(eV:p1 v0):∃v0,p0 v0∧p1 v0:=⟨v0,eN,eV⟩
theorem tz{T0 T1:Type}{p0:T0→T1→Prop}(v0:T0)(v1:T1)(eN:p0 v0 v1):∃v0,∃v1,p0 v0 v1:=⟨v0,v1,eN⟩
theorem o_{p0:Prop}{p1:Prop}{p2:Prop}{p3:Prop}(eN:p0)(eV:p1)(gc:p2)(jR:p3):p0∧p1∧p2∧p3:=⟨eN,eV,gc,jR⟩
theorem rO{T0:Type}{p0:Prop}{p1:T0→Prop}{p2:T0→Prop}(eN:p0)(v0:T0)(eV:p1 v0)(gc:p2 v0):p0∧∃v0,p1 v0∧p2 v0:=⟨eN,v0,eV,gc⟩
theorem cK{T0:Type}{p0:T0→Prop}{p1:T0→Prop}{p2:T0→Prop}(v0:T0)(eN:p0 v0)(eV:p1 v0)(gc:p2 v0):∃v0,p0 v0∧p1 v0∧p2 v0:=⟨v0,eN,eV,gc⟩
theorem zq{T0 T1:Type}{p0:T0→T1→Prop}{p1:T0→T1→Prop}(v0:T0)(v1:T1)(eN:p0 v0 v1)(eV:p1 v0 v1):∃v0,∃v1,p0 v0 v1∧p1 v0 v1:=⟨v0,v1,eN,eV⟩
theorem uo{p0:Prop}{p1:Prop}{p2:Prop}{p3:Prop}{p4:Prop}(eN:p0)(eV:p1)(gc:p2)(jR:p3)(qr:p4):p0∧p1∧p2∧p3∧p4:=⟨eN,eV,gc,jR,qr⟩
theorem ik{T0:Type}{p0:T0→Prop}{p1:T0→Prop}{p2:T0→Prop}{p3:T0→Prop}(v0:T0)(eN:p0 v0)(eV:p1 v0)(gc:p2 v0)(jR:p3 v0):∃v0,p0 v0∧p1 v0∧p2 v0∧p3 v0:=⟨v0,eN,eV,gc,jR⟩
theorem mC{T0 T1:Type}{p0:T0→T1→Prop}{p1:T0→T1→Prop}{p2:T0→T1→Prop}(v0:T0)(v1:T1)(eN:p0 v0 v1)(eV:p1 v0 v1)(gc:p2 v0 v1):∃v0,∃v1,p0 v0 v1∧p1 v0 v1∧p2 v0 v1:=⟨v0,v1,eN,eV,gc⟩
theorem nz{T0 T1:Type}{p0:T0→Prop}{p1:T0→Prop}{p2:T0→T1→Prop}{p3:T0→T1→Prop}(v0:T0)(eN:p0 v0)(eV:p1 v0)(v1:T1)(gc:p2 v0 v1)(jR:p3 v0 v1):∃v0,p0 v0∧p1 v0∧∃v1,p2 v0 v1∧p3 v0 v1:=⟨v0,eN,eV,v1,gc,jR⟩
theorem yK{T0:Type}{p0:T0→Prop}{p1:T0→Prop}{p2:T0→Prop}{p3:T0→Prop}{p4:T0→Prop}{p5:T0→Prop}(v0:T0)(eN:p0 v0)(eV:p1 v0)(gc:p2 v0)(jR:p3 v0)(qr:p4 v0)(zw:p5 v0):∃v0,p0 v0∧p1 v0∧p2 v0∧p3 v0∧p4 v0∧p5 v0:=⟨v0,eN,eV,gc,jR,qr,zw⟩
theorem ye{T0 T1:Type}{p0:T0→Prop}{p1:T0→Prop}{p2:T0→Prop}{p3:T0→T1→Prop}{p4:T0→T1→Prop}(v0:T0)(eN:p0 v0)(eV:p1 v0)(gc:p2 v0)(v1:T1)(jR:p3 v0 v1)(qr:p4 v0 v1):∃v0,p0 v0∧p1 v0∧p2 v0∧∃v1,p3 v0 v1∧p4 v0 v1:=⟨v0,eN,eV,gc,v1,jR,qr⟩
theorem tU{T0:Type}{p0:Prop}{p1:Prop}{p2:Prop}{p3:Prop}{p4:T0→Prop}{p5:T0→Prop}{p6:T0→Prop}(eN:p0)(eV:p1)(gc:p2)(jR:p3)(v0:T0)(qr:p4 v0)(zw:p5 v0)(Se:p6 v0):p0∧p1∧p2∧p3∧∃v0,p4 v0∧p5 v0∧p6 v0:=⟨eN,eV,gc,jR,v0,qr,zw,Se⟩
theorem tq{T0 T1:Type}{p0:Prop}{p1:T0→T1→Prop}{p2:T0→T1→Prop}{p3:T0→T1→Prop}{p4:T0→T1→Prop}{p5:T0→T1→Prop}(eN:p0)(v0:T0)(v1:T1)(eV:p1 v0 v1)(gc:p2 v0 v1)(jR:p3 v0 v1)(qr:p4 v0 v1)(zw:p5 v0 v1):p0∧∃v0,∃v1,p1 v0 v1∧p2 v0 v1∧p3 v0 v1∧p4 v0 v1∧p5 v0 v1:=⟨eN,v0,v1,eV,gc,jR,qr,zw⟩
structure Bx(p:Prop):Prop where
 run:p
@[elab_as_elim] theorem m4{α:Type}{a b c d x:α}{motive:α→Prop}(h:x∈[a,b,c,d])(ha:motive a)(hb:motive b)(hc:motive c)(hd:motive d):motive x:=
 (dE.mp h).elim (λe=>e▸ha) λh=>(dE.mp h).elim (λe=>e▸hb) λh=>(dE.mp h).elim (λe=>e▸hc) λh=>bS.mp h▸hd
theorem a7{α:Type}{a:α}{C:Prop}(h:af=aa a):C:=nomatch h
theorem fu{α:Type}{a:α}{C:Prop}(h:aa a=af):C:=nomatch h
theorem cJ{C:Prop}(h:an=ab):C:=nomatch h
theorem iV{C:Prop}(h:ab=an):C:=nomatch h
theorem jC{α:Type}{a:α}{l:List α}{C:Prop}(h:a::l=[]):C:=nomatch h
theorem wk{α:Type}{a:α}{l:List α}{C:Prop}(h:[]=a::l):C:=nomatch h
theorem cT{α:Type}{a:α}{C:Prop}(h:a∈[]):C:=nomatch h
theorem xA{p0:Prop}{p1:Prop}{C:Prop}(h:p0∧p1)(k:p0→p1→C):C:=k h.1 h.2
theorem xE{T0:Type}{p0:T0→Prop}{C:Prop}(h:∃v0,p0 v0)(k:∀v0,p0 v0→C):C:=h.elim λv0 h1=>k v0 h1
theorem jz{p0:Prop}{p1:Prop}{p2:Prop}{C:Prop}(h:p0∧p1∧p2)(k:p0→p1→p2→C):C:=k h.1 h.2.1 h.2.2
theorem B6{T0:Type}{p0:Prop}{p1:T0→Prop}{C:Prop}(h:p0∧∃v0,p1 v0)(k:p0→∀v0,p1 v0→C):C:=h.2.elim λv0 h1=>k h.1 v0 h1
theorem aj{T0:Type}{p0:T0→Prop}{p1:T0→Prop}{C:Prop}(h:∃v0,p0 v0∧p1 v0)(k:∀v0,p0 v0→p1 v0→C):C:=h.elim λv0 h1=>k v0 h1.1 h1.2
theorem jW{T0 T1:Type}{p0:T0→T1→Prop}{C:Prop}(h:∃v0,∃v1,p0 v0 v1)(k:∀v0,∀v1,p0 v0 v1→C):C:=h.elim λv0 h1=>h1.elim λv1 h2=>k v0 v1 h2
theorem mz{p0:Prop}{p1:Prop}{p2:Prop}{p3:Prop}{C:Prop}(h:p0∧p1∧p2∧p3)(k:p0→p1→p2→p3→C):C:=k h.1 h.2.1 h.2.2.1 h.2.2.2
theorem mN{T0:Type}{p0:Prop}{p1:T0→Prop}{p2:T0→Prop}{C:Prop}(h:p0∧∃v0,p1 v0∧p2 v0)(k:p0→∀v0,p1 v0→p2 v0→C):C:=h.2.elim λv0 h1=>k h.1 v0 h1.1 h1.2
theorem bG{T0:Type}{p0:T0→Prop}{p1:T0→Prop}{p2:T0→Prop}{C:Prop}(h:∃v0,p0 v0∧p1 v0∧p2 v0)(k:∀v0,p0 v0→p1 v0→p2 v0→C):C:=h.elim λv0 h1=>k v0 h1.1 h1.2.1 h1.2.2
theorem d_{T0 T1:Type}{p0:T0→T1→Prop}{p1:T0→T1→Prop}{C:Prop}(h:∃v0,∃v1,p0 v0 v1∧p1 v0 v1)(k:∀v0,∀v1,p0 v0 v1→p1 v0 v1→C):C:=h.elim λv0 h1=>h1.elim λv1 h2=>k v0 v1 h2.1 h2.2
theorem sO{T0 T1 T2:Type}{p0:T0→T1→T2→Prop}{C:Prop}(h:∃v0,∃v1,∃v2,p0 v0 v1 v2)(k:∀v0,∀v1,∀v2,p0 v0 v1 v2→C):C:=h.elim λv0 h1=>h1.elim λv1 h2=>h2.elim λv2 h3=>k v0 v1 v2 h3
theorem yk{p0:Prop}{p1:Prop}{p2:Prop}{p3:Prop}{p4:Prop}{C:Prop}(h:p0∧p1∧p2∧p3∧p4)(k:p0→p1→p2→p3→p4→C):C:=k h.1 h.2.1 h.2.2.1 h.2.2.2.1 h.2.2.2.2
theorem aej{T0:Type}{p0:Prop}{p1:Prop}{p2:T0→Prop}{p3:T0→Prop}{C:Prop}(h:p0∧p1∧∃v0,p2 v0∧p3 v0)(k:p0→p1→∀v0,p2 v0→p3 v0→C):C:=h.2.2.elim λv0 h1=>k h.1 h.2.1 v0 h1.1 h1.2
theorem yb{T0:Type}{p0:Prop}{p1:T0→Prop}{p2:T0→Prop}{p3:T0→Prop}{C:Prop}(h:p0∧∃v0,p1 v0∧p2 v0∧p3 v0)(k:p0→∀v0,p1 v0→p2 v0→p3 v0→C):C:=h.2.elim λv0 h1=>k h.1 v0 h1.1 h1.2.1 h1.2.2
theorem hG{T0:Type}{p0:T0→Prop}{p1:T0→Prop}{p2:T0→Prop}{p3:T0→Prop}{C:Prop}(h:∃v0,p0 v0∧p1 v0∧p2 v0∧p3 v0)(k:∀v0,p0 v0→p1 v0→p2 v0→p3 v0→C):C:=h.elim λv0 h1=>k v0 h1.1 h1.2.1 h1.2.2.1 h1.2.2.2
theorem xf{T0 T1:Type}{p0:T0→Prop}{p1:T0→Prop}{p2:T0→T1→Prop}{C:Prop}(h:∃v0,p0 v0∧p1 v0∧∃v1,p2 v0 v1)(k:∀v0,p0 v0→p1 v0→∀v1,p2 v0 v1→C):C:=h.elim λv0 h1=>h1.2.2.elim λv1 h2=>k v0 h1.1 h1.2.1 v1 h2
theorem bP{T0 T1:Type}{p0:T0→T1→Prop}{p1:T0→T1→Prop}{p2:T0→T1→Prop}{C:Prop}(h:∃v0,∃v1,p0 v0 v1∧p1 v0 v1∧p2 v0 v1)(k:∀v0,∀v1,p0 v0 v1→p1 v0 v1→p2 v0 v1→C):C:=h.elim λv0 h1=>h1.elim λv1 h2=>k v0 v1 h2.1 h2.2.1 h2.2.2
theorem FO{p0:Prop}{p1:Prop}{p2:Prop}{p3:Prop}{p4:Prop}{p5:Prop}{C:Prop}(h:p0∧p1∧p2∧p3∧p4∧p5)(k:p0→p1→p2→p3→p4→p5→C):C:=k h.1 h.2.1 h.2.2.1 h.2.2.2.1 h.2.2.2.2.1 h.2.2.2.2.2
theorem jy{T0:Type}{p0:T0→Prop}{p1:T0→Prop}{p2:T0→Prop}{p3:T0→Prop}{p4:T0→Prop}{C:Prop}(h:∃v0,p0 v0∧p1 v0∧p2 v0∧p3 v0∧p4 v0)(k:∀v0,p0 v0→p1 v0→p2 v0→p3 v0→p4 v0→C):C:=h.elim λv0 h1=>k v0 h1.1 h1.2.1 h1.2.2.1 h1.2.2.2.1 h1.2.2.2.2
theorem gK{T0 T1:Type}{p0:T0→T1→Prop}{p1:T0→T1→Prop}{p2:T0→T1→Prop}{p3:T0→T1→Prop}{C:Prop}(h:∃v0,∃v1,p0 v0 v1∧p1 v0 v1∧p2 v0 v1∧p3 v0 v1)(k:∀v0,∀v1,p0 v0 v1→p1 v0 v1→p2 v0 v1→p3 v0 v1→C):C:=h.elim λv0 h1=>h1.elim λv1 h2=>k v0 v1 h2.1 h2.2.1 h2.2.2.1 h2.2.2.2
theorem Gk{T0 T1 T2:Type}{p0:T0→T1→T2→Prop}{p1:T0→T1→T2→Prop}{p2:T0→T1→T2→Prop}{C:Prop}(h:∃v0,∃v1,∃v2,p0 v0 v1 v2∧p1 v0 v1 v2∧p2 v0 v1 v2)(k:∀v0,∀v1,∀v2,p0 v0 v1 v2→p1 v0 v1 v2→p2 v0 v1 v2→C):C:=h.elim λv0 h1=>h1.elim λv1 h2=>h2.elim λv2 h3=>k v0 v1 v2 h3.1 h3.2.1 h3.2.2
theorem oY{T0 T1 T2 T3:Type}{p0:T0→T1→T2→T3→Prop}{p1:T0→T1→T2→T3→Prop}{C:Prop}(h:∃v0,∃v1,∃v2,∃v3,p0 v0 v1 v2 v3∧p1 v0 v1 v2 v3)(k:∀v0,∀v1,∀v2,∀v3,p0 v0 v1 v2 v3→p1 v0 v1 v2 v3→C):C:=h.elim λv0 h1=>h1.elim λv1 h2=>h2.elim λv2 h3=>h3.elim λv3 h4=>k v0 v1 v2 v3 h4.1 h4.2
theorem Ak{T0:Type}{p0:Prop}{p1:Prop}{p2:Prop}{p3:Prop}{p4:T0→Prop}{p5:T0→Prop}{C:Prop}(h:p0∧p1∧p2∧p3∧∃v0,p4 v0∧p5 v0)(k:p0→p1→p2→p3→∀v0,p4 v0→p5 v0→C):C:=h.2.2.2.2.elim λv0 h1=>k h.1 h.2.1 h.2.2.1 h.2.2.2.1 v0 h1.1 h1.2
theorem vc{T0 T1:Type}{p0:Prop}{p1:T0→T1→Prop}{p2:T0→T1→Prop}{p3:T0→T1→Prop}{p4:T0→T1→Prop}{C:Prop}(h:p0∧∃v0,∃v1,p1 v0 v1∧p2 v0 v1∧p3 v0 v1∧p4 v0 v1)(k:p0→∀v0,∀v1,p1 v0 v1→p2 v0 v1→p3 v0 v1→p4 v0 v1→C):C:=h.2.elim λv0 h1=>h1.elim λv1 h2=>k h.1 v0 v1 h2.1 h2.2.1 h2.2.2.1 h2.2.2.2
theorem MX{T0:Type}{p0:T0→Prop}{p1:T0→Prop}{p2:T0→Prop}{p3:T0→Prop}{p4:T0→Prop}{p5:T0→Prop}{C:Prop}(h:∃v0,p0 v0∧p1 v0∧p2 v0∧p3 v0∧p4 v0∧p5 v0)(k:∀v0,p0 v0→p1 v0→p2 v0→p3 v0→p4 v0→p5 v0→C):C:=h.elim λv0 h1=>k v0 h1.1 h1.2.1 h1.2.2.1 h1.2.2.2.1 h1.2.2.2.2.1 h1.2.2.2.2.2
theorem xj{T0 T1:Type}{p0:T0→Prop}{p1:T0→Prop}{p2:T0→Prop}{p3:T0→T1→Prop}{p4:T0→T1→Prop}{C:Prop}(h:∃v0,p0 v0∧p1 v0∧p2 v0∧∃v1,p3 v0 v1∧p4 v0 v1)(k:∀v0,p0 v0→p1 v0→p2 v0→∀v1,p3 v0 v1→p4 v0 v1→C):C:=h.elim λv0 h1=>h1.2.2.2.elim λv1 h2=>k v0 h1.1 h1.2.1 h1.2.2.1 v1 h2.1 h2.2
theorem YR{T0 T1:Type}{p0:T0→Prop}{p1:T0→T1→Prop}{p2:T0→T1→Prop}{p3:T0→T1→Prop}{p4:T0→T1→Prop}{C:Prop}(h:∃v0,p0 v0∧∃v1,p1 v0 v1∧p2 v0 v1∧p3 v0 v1∧p4 v0 v1)(k:∀v0,p0 v0→∀v1,p1 v0 v1→p2 v0 v1→p3 v0 v1→p4 v0 v1→C):C:=h.elim λv0 h1=>h1.2.elim λv1 h2=>k v0 h1.1 v1 h2.1 h2.2.1 h2.2.2.1 h2.2.2.2
theorem tg{T0 T1:Type}{p0:T0→T1→Prop}{p1:T0→T1→Prop}{p2:T0→T1→Prop}{p3:T0→T1→Prop}{p4:T0→T1→Prop}{C:Prop}(h:∃v0,∃v1,p0 v0 v1∧p1 v0 v1∧p2 v0 v1∧p3 v0 v1∧p4 v0 v1)(k:∀v0,∀v1,p0 v0 v1→p1 v0 v1→p2 v0 v1→p3 v0 v1→p4 v0 v1→C):C:=h.elim λv0 h1=>h1.elim λv1 h2=>k v0 v1 h2.1 h2.2.1 h2.2.2.1 h2.2.2.2.1 h2.2.2.2.2
theorem IM{T0 T1:Type}{p0:T0→Prop}{p1:T0→Prop}{p2:T0→T1→Prop}{p3:T0→T1→Prop}{p4:T0→T1→Prop}{p5:T0→T1→Prop}{C:Prop}(h:∃v0,p0 v0∧p1 v0∧∃v1,p2 v0 v1∧p3 v0 v1∧p4 v0 v1∧p5 v0 v1)(k:∀v0,p0 v0→p1 v0→∀v1,p2 v0 v1→p3 v0 v1→p4 v0 v1→p5 v0 v1→C):C:=h.elim λv0 h1=>h1.2.2.elim λv1 h2=>k v0 h1.1 h1.2.1 v1 h2.1 h2.2.1 h2.2.2.1 h2.2.2.2
theorem Kl{T0 T1 T2:Type}{p0:T0→T1→Prop}{p1:T0→T1→Prop}{p2:T0→T1→Prop}{p3:T0→T1→T2→Prop}{p4:T0→T1→T2→Prop}{C:Prop}(h:∃v0,∃v1,p0 v0 v1∧p1 v0 v1∧p2 v0 v1∧∃v2,p3 v0 v1 v2∧p4 v0 v1 v2)(k:∀v0,∀v1,p0 v0 v1→p1 v0 v1→p2 v0 v1→∀v2,p3 v0 v1 v2→p4 v0 v1 v2→C):C:=h.elim λv0 h1=>h1.elim λv1 h2=>h2.2.2.2.elim λv2 h3=>k v0 v1 h2.1 h2.2.1 h2.2.2.1 v2 h3.1 h3.2
set_option bootstrap.genMatcherCode false
set_option genSizeOf false
set_option genInjectivity false
local macro_rules |`(tactic|show $t)=>`(tactic|first
 |refine(?_:$t)
 |change $t)
local macro_rules |`(tactic|rewrite[$e:term])=>`(tactic|first
 |with_reducible refine Mine.Internal.rwL ?_ $e
 |rewrite[$e:term] at ⊢)
local macro_rules |`(tactic|rewrite[←$e:term])=>`(tactic|first
 |with_reducible refine Mine.Internal.rwR ?_ $e
 |rewrite[←$e:term] at ⊢)
local macro_rules |`(tactic|rw[$r:rwRule])=>`(tactic|(rewrite[$r];with_reducible try rfl))
local macro_rules |`(tactic|rw[$r:rwRule,$rs:rwRule,*])=>`(tactic|(rewrite[$r];rw[$rs,*]))
section
open SetTable
def nA(xs:List Nat):Prop:=xs.Pairwise (· < ·)
theorem nA.lt{xs:Array Nat}(hr:nA xs.toList){i k u v:Nat}(hu:xs[i]? =aa u)(hv:xs[k]? =aa v)(h:i<k):u<v:=
 (oi.mp hu).elim λa e=>(oi.mp hv).elim λc e'=>e▸e'▸PM.mp hr i k a c h
structure rU(xs:Array Nat)(j r:Nat):Prop where
 le:r≤xs.size
 lo:∀(i v:Nat),xs[i]? =aa v→i<r→v<j
 hi:∀(i v:Nat),xs[i]? =aa v→r≤i→j≤v
theorem Tx{xs:Array Nat}{j:Nat}(hr:nA xs.toList)(fuel:Nat):∀{lo hi:Nat},hi≤lo+fuel→lo≤xs.size→hi≤xs.size→
  (∀(i v:Nat),xs[i]? =aa v→i<lo→v<j)→(∀(i v:Nat),xs[i]? =aa v→hi≤i→j≤v)→rU xs j (below.go xs j fuel lo hi):=by
 induction fuel with
 |zero=>exact λ{lo hi} h h1 _ a b=>⟨h1,a,λi v e hi=>b i v e (ah h hi)⟩
 |succ fuel ih=>
  intro lo hi h h1 h2 a b;refine if hl:lo<hi then nK (P:=rU xs j) hl ?_ else nJ (P:=rU xs j) hl ⟨h1,a,λi v e hi=>b i v e (ah (pg hl) hi)⟩
  have m1:(lo+hi) / 2<hi:=afz (Nat.two_mul hi▸De hl hi);have m3:=bI m1 h2;have hg:xs[(lo+hi) / 2]? =aa (xs.getD ((lo+hi) / 2) j):=(jr m3).trans (ay aa (dif_pos m3).symm);exact if q:xs.getD ((lo+hi) / 2) j<j then nK (P:=rU xs j) q (ih (ah h (ah (eG (oj ((af0 wM).mpr (Nat.mul_two lo▸e6 (cj hl) lo):lo≤(lo+hi) / 2) fuel)) (bF (wN _ _).symm))) m3 h2 (λi v e z=>(zI (eS z)).elim (λy=>i4 (hr.lt e hg y) q) λy=>aY (e.symm.trans ((ay (λk:Nat=>xs[k]?) y).trans hg))▸q) b)
   else nJ (P:=rU xs j) q (ih (eS (bI m1 h)) h1 (cj m3) a λi v e z=>ah (pg q) ((zI z).elim (λy=>cj (hr.lt hg e y)) λy=>bF (aY (hg.symm.trans ((ay (λk:Nat=>xs[k]?) y).trans e)))))
theorem C9{xs:Array Nat}(j:Nat)(hr:nA xs.toList):rU xs j (below xs j):=
 Tx hr xs.size (bF (mZ _).symm) (b_ _) (ar _) (λi v _ h=>bc h (m5 i)) λi v hv h=>bc (oi.mp hv).1 (ma h)
theorem rU.at{xs:Array Nat}{i j r:Nat}(B:rU xs j r)(hr:nA xs.toList)(h:xs[i]? =aa j):r=i:=by
 rcases HD i r with q|q|q
 ·exact bc (B.lo i j h q) (fo j)
 ·exact q.symm
 ·have g:=jr (i4 q (oi.mp h).1)
  exact bc (hr.lt g h q) (ma (B.hi r _ g (ar r)))
theorem O0{t:c9}{j i:Nat}(hr:nA t.place.toList)(h:t.place[i]? =aa j):t.slot j=.live i:=
 have e:=(C9 j hr).at hr h
 (aP (by rw[e,h];exact qF _):t.slot j=_).trans (ay Slot.live e)
theorem Ul{t:c9}{j:Nat}(hr:nA t.place.toList)(hd:t.dummies=#[])(h:∀i:Nat,t.place[i]? ≠aa j):t.slot j=.empty:=
 (aK λe=>h _ (eq_of_beq e):t.slot j=_).trans (aK (by rw[hd];exact iD))
noncomputable def qo(mask:Nat)(p:Probe):Probe:=advance {fresh 0 0 ab with mask} p
noncomputable def bm(mask:Nat)(h:Int):Nat→Probe
 |0=>probeStart {fresh 0 0 ab with mask} h
 |k+1=>qo mask (bm mask h k)
noncomputable def dO(mask:Nat)(h:Int):Nat→Nat×Nat
 |0=>(bits h % (mask+1),bits h)
 |k+1=>leap mask (dO mask h k).1 (dO mask h k).2
noncomputable def rl(mask:Nat)(h:Int)(k:Nat):Nat:=runEnd mask (dO mask h k).1- (dO mask h k).1
noncomputable def BD(mask:Nat)(h:Int)(k:Nat):Probe:={j:=(dO mask h k).1,more:=rl mask h k,i:=(dO mask h k).1,perturb:=(dO mask h k).2,dummy:=af}
theorem KR(mask i:Nat):i≤runEnd mask i:=if h:i+9≤mask then nK (P:=(i≤·)) h (b6 i 9) else nJ (P:=(i≤·)) h (ar i)
theorem Β{mask i:Nat}(hi:i≤mask):runEnd mask i≤mask:=if h:i+9≤mask then nK (P:=(· ≤mask)) h h else nJ (P:=(· ≤mask)) h hi
theorem U7(mask i:Nat):runEnd mask i-i≤9:=if h:i+9≤mask then nK (P:=(· - i≤9)) h (bF (Df i 9)) else nJ (P:=(· - i≤9)) h ((zJ i).symm▸b_ 9)
theorem Fx{mask i:Nat}(hi:i≤mask):i+(runEnd mask i-i)≤mask:=ah (bF (uv (KR mask i))) (Β hi)
theorem JS{mask:Nat}{p:Probe}(h:p.more > 0):qo mask p={p with j:=p.j+1,more:=p.more-1}:=aP h
theorem Xb{mask:Nat}{h:Int}{k:Nat}{p:Probe}(h0:p.more=0)(hi:p.i=(dO mask h k).1)(hp:p.perturb=(dO mask h k).2)(hd:p.dummy=af):qo mask p=BD mask h (k+1):=by
 refine(aK λz=>dG z h0:qo mask p=_).trans ?_;rw[hi,hp];show Probe.mk _ _ _ _ p.dummy=_;rw[hd];rfl
noncomputable def rs(mask:Nat)(h:Int):Nat→Nat
 |0=>0
 |k+1=>rs mask h k+rl mask h k+1
theorem UQ(mask:Nat)(h:Int)(k:Nat):rs mask h k≤10*k:=by
 induction k with
 |zero=>exact ar _
 |succ k ih=>exact eG (fp ih (U7 _ _))
theorem NU{mask:Nat}{h:Int}{k n:Nat}(hn:bm mask h n=BD mask h k)(d:Nat):d≤rl mask h k→bm mask h (n+d)={BD mask h k with j:=(dO mask h k).1+d,more:=rl mask h k-d}:=by
 induction d with
 |zero=>exact λ_=>hn
 |succ d ih=>exact λhd=>(ay (qo mask) (ih (gg hd))).trans (JS (af1 hd))
theorem OE(mask:Nat)(h:Int)(k:Nat):bm mask h (rs mask h k)=BD mask h k:=by
 induction k with
 |zero=>rfl
 |succ k ih=>exact(ay (qo mask) (NU ih _ (ar _))).trans (Xb (zJ _) rfl rfl rfl)
theorem F5(mask:Nat)(h:Int)(k d:Nat)(hd:d≤rl mask h k):(bm mask h (rs mask h k+d)).j=(dO mask h k).1+d:=ay Probe.j (NU (OE mask h k) d hd)
noncomputable def vE(m:Nat)(c a:Nat):Nat:=match c with
 |0=>a
 |c+1=>(vE m c a*5+1) % m
theorem ae9:∀a<7+1,∀q<7+1,∃c<7+1,vE (7+1) c a=q:=by decide +kernel
noncomputable def Z9:Bool:=(bo 32).all λa=>(bo 32).all λq=>((bo 32).map λc=>vE 32 c a).contains q
theorem Yg:∀a<31+1,∀q<31+1,∃c<31+1,vE (31+1) c a=q:=λa ha q hq=>by
 have:Z9=ab:=by decide +kernel
 exact aj (bB.mp (e9.mp (dc.mp (dc.mp this a (dR.mpr ha)) q (dR.mpr hq)))) λc hc e=>⟨c,dR.mp hc,e⟩
theorem Zy(h:Int):bits h<2^64:=(afv (PL _ aW)).mpr (afw _ aW)
theorem aev(mask:Nat)(h:Int)(k:Nat):(dO mask h k).2=bits h / 32^k:=by
 induction k with
 |zero=>exact(Nat.div_one _).symm
 |succ k ih=>exact(ay (· / 32) ih).trans (Nat.div_div_eq_div_mul _ _ _)
theorem ae2(mask:Nat)(h:Int)(c:Nat):(dO mask h (13+c)).2=0:=
 (aev mask h (13+c)).trans (Nat.div_eq_of_lt (bI (Zy h) (ah (aJ:2^64≤32^13) (Nat.pow_le_pow_right bg (b6 13 c)))))
theorem Hl(mask:Nat)(h:Int)(k:Nat):(dO mask h k).1<mask+1:=by
 cases k with
 |zero=>exact Dg _ (dK _)
 |succ k=>exact Dg _ (dK _)
theorem aam(mask:Nat)(h:Int)(c:Nat):(dO mask h (13+c)).1=vE (mask+1) c (dO mask h 13).1:=by
 induction c with
 |zero=>rfl
 |succ c ih=>
  show((dO mask h (13+c)).1*5+1+(dO mask h (13+c)).2 / 32) % (mask+1)=_;rw[ae2 _ _ _,ih];rfl
theorem Lv{mask:Nat}(hm:mask=7∨mask=31)(h:Int){q:Nat}(hq:q≤mask):∃k,k<turns mask∧(dO mask h k).1=q:=aj ((hm.elim (λe=>e▸ae9) λe=>e▸Yg:∀a<mask+1,∀q<mask+1,∃c<mask+1,vE (mask+1) c a=q) _ (Hl mask h 13) q (lb hq)) λc hc e=>⟨13+c,i4 (af2 hc 13) (sp 13 _▸dq _),(aam mask h c).trans e⟩
theorem W9{mask:Nat}(hm:mask=7∨mask=31)(h:Int){q:Nat}(hq:q≤mask):∃n,n<10*turns mask∧(bm mask h n).j=q:=
 aj (Lv hm h hq) λk hk e=>⟨rs mask h k,bd (UQ mask h k) (Nat.mul_lt_mul_of_pos_left hk bg),(ay Probe.j (OE mask h k)).trans e⟩
theorem L8(mask:Nat)(h:Int)(n:Nat):(bm mask h n).dummy=af∧(bm mask h n).j+(bm mask h n).more≤mask:=by
 induction n with
 |zero=>exact⟨rfl,Fx (eS (Hl mask h 0))⟩
 |succ n ih=>
  show(qo mask (bm mask h n)).dummy=af∧(qo mask (bm mask h n)).j+(qo mask (bm mask h n)).more≤mask;exact if hm:(bm mask h n).more > 0 then(JS hm).symm▸⟨ih.1,ah (bF ((af3 _ 1 _).trans (ay _ (uv hm)))) ih.2⟩
   else nJ (P:=λp:Probe=>p.dummy=af∧p.j+p.more≤mask) hm ⟨ih.1,Fx (eS (Dg _ (dK _)))⟩
structure oM(t:c9)(hs:List Int):Prop where
 len:t.place.toList.length=hs.length
 rise:nA t.place.toList
 Am:t.dummies=#[]
 mask:t.mask=7∨t.mask=31
 le:∀p∈t.place.toList,p≤t.mask
 path:∀(i:Nat) h,hs[i]? =aa h→∃n,t.place.toList[i]? =aa (bm t.mask h n).j∧∀n',n'<n→(bm t.mask h n').j∈t.place.toList
def f9(t:c9)(hs:List Int):Prop:=oM t hs∧hs.length*5<t.mask*3
theorem afa{t:c9}{hs:List Int}(c7:t.place.toList.length=hs.length)(room:hs.length*5<t.mask*3)(rise:nA t.place.toList):∃q,q≤t.mask∧q∉t.place.toList:=
 Dh λhn=>by
  have sub:=fO HE (l₁:=bo (t.mask+1)) (l₂:=t.place.toList) λq hq=>Dh λga=>hn ⟨q,eS (dR.mp hq),ga⟩;rw[dS,c7] at sub;exact fo _ (bI room (af4 (gg sub) aJ))
theorem f9.Yl{t:c9}{hs:List Int}(T:f9 t hs)(h:Int):∃n,n<10*turns t.mask∧(bm t.mask h n).j∉t.place.toList:=
 aj (afa T.1.len T.2 T.1.rise) λq hq hf=>aj (W9 T.1.mask h hq) λn hn e=>⟨n,hn,e.symm▸hf⟩
noncomputable def IP(t:c9)(hashAt:Nat→Int)(h:Int)(fuel:Nat)(p:Probe)(o:Slot):Option Met:=match o with
 |.empty=>aa (.empty p.j p.dummy)
 |.dummy=>probe.go t hashAt h fuel (t.advance {p with dummy:=aa p.j})
 |.live i=>if hashAt i==h then aa (.candidate p.j i (t.advance p)) else probe.go t hashAt h fuel (t.advance p)
theorem Py{t:c9}{hashAt:Nat→Int}{h:Int}{fuel:Nat}{p:Probe}{o:Slot}(hs:t.slot p.j=o):probe.go t hashAt h (fuel+1) p=IP t hashAt h fuel p o:=ay (IP t hashAt h fuel p) hs
theorem aaf{t:c9}{hs:List Int}(T:oM t hs)(hashAt:Nat→Int)(h:Int){I:Nat→Prop}(st:∀n i,I n→t.place.toList[i]? =aa (bm t.mask h n).j→hashAt i≠h→I (n+1)){N:Nat}(hN:(bm t.mask h N).j∉t.place.toList){C:Prop}(fuel:Nat):
  ∀(k:Nat),k≤N→N<k+fuel→I k→(∀n,I n→probe.go t hashAt h fuel (bm t.mask h k)=aa (.empty (bm t.mask h n).j af)→(bm t.mask h n).j∉t.place.toList→C)→
  (∀n i,I n→probe.go t hashAt h fuel (bm t.mask h k)=aa (.candidate (bm t.mask h n).j i (bm t.mask h (n+1)))→t.place.toList[i]? =aa (bm t.mask h n).j→hashAt i=h→C)→C:=by
 induction fuel with
 |zero=>exact λk h1 h2 _ _ _=>bc h2 (js.mpr h1)
 |succ fuel ih=>
  intro k h1 h2 hI k1 k2
  by_cases hk:(bm t.mask h k).j∈t.place.toList
  ·refine xE (qH.mp hk) λi hi=>?_
   have e:=Py (fuel:=fuel) (hashAt:=hashAt) (h:=h) (O0 T.rise (jt.symm.trans hi))
   by_cases hh:hashAt i=h
   ·exact k2 k i hI (e.trans (aP (eX.mpr hh))) hi hh
   ·have e':=e.trans (aK λq=>hh (eq_of_beq q))
    exact ih (k+1) (wO h1 λq=>hN (q▸hk)) (wN k fuel▸h2) (st k i hI hi hh) (λn a c=>k1 n a (e'.trans c)) λn i a c=>k2 n i a (e'.trans c)
  ·exact k1 k hI ((Py (Ul T.rise T.Am λi hi=>hk (qH.mpr ⟨i,jt.trans hi⟩))).trans (ay (λd=>aa (Met.empty _ d)) (L8 t.mask h k).1)) hk
end
section
open SetTable
noncomputable def kT{α:Type}(l:List α)(p:Nat)(x:α):List α:=l.take p++x::l.drop p
theorem Og{α:Type}(l:List α)(p:Nat)(x:α)(hp:p≤l.length)(i:Nat):(kT l p x)[i]? =if i<p then l[i]? else if i=p then aa x else l[i-1]? :=by
 unfold kT;rw[List.getElem?_append,jH,sA hp];refine if h:i<p then(aP h).trans ((af5 h).trans (aP h).symm) else(aK h).trans (Eq.trans ?_ (aK h).symm)
 rcases wP (pg h) with e|e
 ·rw[←e,zJ _,aP rfl];rfl
 ·obtain⟨d,rfl⟩:=Nat.exists_eq_add_of_lt e
  rw[aK (dG e),show p+d+1-p=d+1 from Df p (d+1)];exact PN
theorem Ap{α:Type}{l:List α}{p:Nat}{x y:α}:y∈kT l p x↔y=x∨y∈l:=
 ((dw.trans (or_congr_right dE)).trans or_left_comm).trans (or_congr_right (dw.symm.trans (iff_of_eq (ay (y∈·) (PO p l)))))
theorem Hv{α:Type}(l:List α)(p:Nat)(x:α):(kT l p x).length=l.length+1:=
 cU.trans (ay HF (cU.symm.trans (ay oq (PO p l))))
theorem VT{t:c9}{hs:List Int}(T:oM t hs){h:Int}{n:Nat}(hf:(bm t.mask h n).j∉t.place.toList)(hb:∀n',n'<n→(bm t.mask h n').j∈t.place.toList)(pl:Bool):
  below t.place (bm t.mask h n).j≤hs.length∧(t.put (bm t.mask h n).j).2=below t.place (bm t.mask h n).j∧(t.put (bm t.mask h n).j).1.mask=t.mask∧
  oM {(t.put (bm t.mask h n).j).1 with plain:=pl} (kT hs (below t.place (bm t.mask h n).j) h):=by
 have B:=C9 (xs:=t.place) (bm t.mask h n).j T.rise;have qt:(t.put (bm t.mask h n).j).1.place.toList=kT t.place.toList (below t.place (bm t.mask h n).j) (bm t.mask h n).j:=af6 _ _ _;have bX:below t.place (bm t.mask h n).j≤t.place.toList.length:=B.le;have hp:=ah bX (bF T.len);have hd:(if has t.dummies (bm t.mask h n).j then eraseAt t.dummies (below t.dummies (bm t.mask h n).j) else t.dummies)=#[]:=by rw[T.Am];rfl
 refine o_ hp rfl rfl ⟨(ay oq qt).trans ((Hv _ _ _).trans ((ay HF T.len).trans (Hv _ _ _).symm)),qt.symm▸?_,hd,T.mask,?_,?_⟩
 ·have at_:∀v∈t.place.toList.drop (below t.place (bm t.mask h n).j),(bm t.mask h n).j<v:=λv hv=>xE (qH.mp hv) λi hi=>
   have hi:=PN.symm.trans hi
   wO (B.hi _ v (jt.symm.trans hi) (b6 _ _)) λe=>hf (e▸bN hi)
  have KX:∀v∈t.place.toList.take (below t.place (bm t.mask h n).j),v< (bm t.mask h n).j:=λv hv=>xE (qH.mp hv) λi hi=>
   have hlt:=bI (cV.mp hi).1 (List.length_take_le _ _)
   B.lo i v (jt.symm.trans ((af5 hlt).symm.trans hi)) hlt
  exact List.pairwise_append.mpr ⟨T.rise.sublist (HG _ _),List.pairwise_cons.mpr ⟨at_,T.rise.sublist (List.drop_sublist _ _)⟩,λa ha b hb=>(dE.mp hb).elim (λe=>e▸KX a ha) λhb=>i4 (KX a ha) (at_ b hb)⟩
 ·intro p hp
  replace hp:p∈(t.put (bm t.mask h n).j).1.place.toList:=hp
  rw[qt] at hp;exact(Ap.mp hp).elim (λe=>ah (bF e) (ah (b6 _ _) (L8 t.mask h n).2)) (T.le p)
 ·intro i h' hi
  show ∃n',(t.put _).1.place.toList[i]? =aa (bm t.mask h' n').j∧∀o8,o8<n'→(bm t.mask h' o8).j∈(t.put _).1.place.toList;rw[qt];have g:=Og t.place.toList _ (bm t.mask h n).j bX i
  replace hi:=(Og hs _ h hp i).symm.trans hi
  by_cases h1:i<below t.place (bm t.mask h n).j
  ·exact aj (T.path i h' ((aP h1).symm.trans hi)) λn' q1 q2=>⟨n',g.trans ((aP h1).trans q1),λo8 hn=>Ap.mpr (.inr (q2 o8 hn))⟩
  ·replace hi:=(aK h1).symm.trans hi
   replace g:=g.trans (aK h1)
   by_cases h2:i=below t.place (bm t.mask h n).j
   ·exact aY ((aP h2).symm.trans hi)▸⟨n,g.trans (aP h2),λo8 hn=>Ap.mpr (.inr (hb o8 hn))⟩
   ·exact aj (T.path (i-1) h' ((aK h2).symm.trans hi)) λn' q1 q2=>⟨n',g.trans ((aK h2).trans q1),λo8 hn=>Ap.mpr (.inr (q2 o8 hn))⟩
structure mE(mask:Nat)(owner:Array (Option Nat))(done:List Int):Prop where
 size:owner.size=mask+1
 at_:∀(j i:Nat),owner[j]? =aa (aa i)→∃h n,done[i]? =aa h∧(bm mask h n).j=j∧∀n',n'<n→∃i',owner[(bm mask h n').j]? =aa (aa i')
 all:∀(i:Nat),i<done.length→∃j:Nat,owner[j]? =aa (aa i)
 inj:∀(j j' i:Nat),owner[j]? =aa (aa i)→owner[j']? =aa (aa i)→j=j'
theorem mE.lt{mask:Nat}{owner:Array (Option Nat)}{done:List Int}(O:mE mask owner done){j i:Nat}(h:owner[j]? =aa (aa i)):i<done.length:=d_ (O.at_ j i h) λ_ _ e _=>(cV.mp e).1
theorem mE.Y5{mask:Nat}{owner:Array (Option Nat)}{done:List Int}(O:mE mask owner done)(hk:done.length≤mask):∃q,q≤mask∧owner[q]? =aa af:=by
 refine Dh λhn=>?_;have all:∀q,q∈bo (mask+1)→∃i,owner[q]? =aa (aa i):=λq hq=>by
  have hq:=dR.mp hq;have g:=jr (O.size.symm▸hq:q<owner.size)
  cases e:owner[q]'(O.size.symm▸hq) with
  |none=>exact bc ⟨q,eS hq,e▸g⟩ hn
  |some i=>exact⟨i,e▸g⟩
 have f:∀{q i:Nat},owner[q]? =aa (aa i)→((owner[q]?).getD af).getD 0=i:=λe=>ay (λo:Option (Option Nat)=>(o.getD af).getD 0) e;have sub:=fO (l₁:=(bo (mask+1)).map λq=>((owner[q]?).getD af).getD 0) (l₂:=bo done.length)
  (wQ.mpr (af7 (λ{a b} ha hb hab e=>xE (all a ha) λi e1=>xE (all b hb) λi' e2=>du hab (O.inj a b i e1 (((f e1).symm.trans (e.trans (f e2)))▸e2))) (af8 (n:=mask+1))))
  λx hx=>aj (bB.mp hx) λq hq e=>xE (all q hq) λi e1=>e▸(f e1).symm▸dR.mpr (O.lt e1)
 rw[aI,dS,dS] at sub;exact fo _ (bI sub hk)
theorem NL{P:Nat→Prop}{a d:Nat}(h1:∀n,n<a→P n)(h2:∀x,x<d→P (a+x))(n:Nat)(hn:n<a+d):P n:=
 if h:n<a then h1 n h else uv (pg h)▸h2 _ (Nat.sub_lt_left_of_lt_add (pg h) hn)
theorem Ry{mask:Nat}{owner:Array (Option Nat)}{h:Int}(hsz:owner.size=mask+1){C:Prop}(fuel:Nat):∀(r:Nat) {r':Nat},r≤r'→r'<r+fuel→owner[(dO mask h r').1]? =aa af→
  (∀n',n'<rs mask h r→∃i,owner[(bm mask h n').j]? =aa (aa i))→
  (∀n,layClean.free mask owner fuel (dO mask h r).1 (dO mask h r).2=aa (bm mask h n).j→owner[(bm mask h n).j]? =aa af→(∀n',n'<n→∃i,owner[(bm mask h n').j]? =aa (aa i))→C)→C:=by
 induction fuel with
 |zero=>exact λr r' h1 h2 _ _ _=>bc h2 (ma h1)
 |succ fuel ih=>
  intro r r' h1 h2 h3 hb k;have own:∀d,d≤rl mask h r→owner[(bm mask h (rs mask h r+d)).j]? =aa (owner.getD ((dO mask h r).1+d) (aa 0)):=λd hd=>by
   have hlt:(dO mask h r).1+d<owner.size:=hsz.symm▸lb (ah (e6 hd _) (Fx (eS (Hl mask h r))));rw[F5 mask h r d hd,jr hlt];exact ay aa (dif_pos hlt).symm
  have el:runEnd mask (dO mask h r).1+1- (dO mask h r).1=rl mask h r+1:=Nat.succ_sub (KR mask _);have taken:∀d,d≤rl mask h r→(!(owner.getD ((dO mask h r).1+d) (aa 0)).isNone)=ab→∃i,owner[(bm mask h (rs mask h r+d)).j]? =aa (aa i):=λd hd q=>by
   rw[own d hd]
   cases e:owner.getD ((dO mask h r).1+d) (aa 0) with
   |none=>rw[e] at q;exact cJ q
   |some i=>exact⟨i,rfl⟩
  have st:layClean.free mask owner (fuel+1) (dO mask h r).1 (dO mask h r).2=match (bo (rl mask h r+1)).find? λk=>(owner.getD ((dO mask h r).1+k) (aa 0)).isNone with
   |some k=>aa ((dO mask h r).1+k)
   |none=>layClean.free mask owner fuel (dO mask h (r+1)).1 (dO mask h (r+1)).2:=el▸rfl
  cases hf:(bo (rl mask h r+1)).find? (λk=>(owner.getD ((dO mask h r).1+k) (aa 0)).isNone) with
  |some d=>
   rw[hf] at st;refine jz (List.find?_range_eq_some.mp hf) λf1 f2 f3=>?_;have hd:=eS (dR.mp f2);exact k (rs mask h r+d) (st.trans (ay aa (F5 mask h r d hd).symm)) ((own d hd).trans (ay aa (Option.isNone_iff_eq_none.mp f1))) (NL hb λx hx=>taken x (ah (cj hx) hd) (f3 x hx))
  |none=>
   rw[hf] at st;have hn:∀d,d<rl mask h r+1→∃i,owner[(bm mask h (rs mask h r+d)).j]? =aa (aa i):=λd hd=>taken d (eS hd) (List.find?_range_eq_none.mp hf d hd);refine ih (r+1) (wO h1 λe=>?_) (wN r fuel▸h2) h3 (NL (a:=rs mask h r) (d:=rl mask h r+1) hb hn) λn a=>k n (st.trans a);exact xE (hn 0 (dK _)) λi q=>nomatch (h3.symm.trans ((ay (λx:Nat=>owner[x]?) ((ay (λr=>(dO mask h r).1) e).symm.trans (F5 mask h r 0 (b_ _)).symm)).trans q):aa af=aa (aa i))
noncomputable def BG(mask:Nat)(acc:Option (Array (Option Nat)×Nat))(h:Int):Option (Array (Option Nat)×Nat):=do
 let(owner,k) ←acc
 let j ←layClean.free mask owner (turns mask) (bits h % (mask+1)) (bits h)
 pure (owner.setIfInBounds j (aa k),k+1)
theorem mE.step{mask:Nat}{owner:Array (Option Nat)}{done:List Int}{h:Int}{n:Nat}(O:mE mask owner done)(f2:owner[(bm mask h n).j]? =aa af)(f3:∀n',n'<n→∃i,owner[(bm mask h n').j]? =aa (aa i)):
  mE mask (owner.setIfInBounds (bm mask h n).j (aa done.length)) (done++[h]):=by
 have get:∀x,(owner.setIfInBounds (bm mask h n).j (aa done.length))[x]? =if(bm mask h n).j=x then aa (aa done.length) else owner[x]? :=λx=>
  Array.getElem?_setIfInBounds.trans (if e:(bm mask h n).j=x then(aP e).trans ((aP (e▸((oi.mp f2).1))).trans (aP e).symm) else(aK e).trans (aK e).symm)
 have sz:(owner.setIfInBounds (bm mask h n).j (aa done.length)).size=mask+1:=Array.size_setIfInBounds.trans O.size;generalize owner.setIfInBounds (bm mask h n).j (aa done.length)=o' at get sz ⊢;have mono:∀{x},(∃i,owner[x]? =aa (aa i))→∃i,o'[x]? =aa (aa i):=λ{x} q=>if e:(bm mask h n).j=x then⟨_,(get x).trans (aP e)⟩ else xE q λi q=>⟨i,(get x).trans ((aK e).trans q)⟩
 have inv:∀{x i},o'[x]? =aa (aa i)→((bm mask h n).j=x∧done.length=i)∨owner[x]? =aa (aa i):=λ{x i} q=>
  if e:(bm mask h n).j=x then .inl ⟨e,aY (aY ((aP e).symm.trans ((get x).symm.trans q)))⟩ else .inr ((aK e).symm.trans ((get x).symm.trans q))
 refine⟨sz,λj i e=>(inv e).elim (λq=>⟨h,n,q.2▸List.getElem?_concat_length,q.1,λn' hn=>mono (f3 n' hn)⟩) λq=>bP (O.at_ j i q) λh' n' e1 e2 e3=>⟨h',n',(Di (cV.mp e1).1).trans e1,e2,λo8 hn=>mono (e3 o8 hn)⟩,
  λi hi=>?_,λj j' i e e'=>(inv e).elim (λq=>(inv e').elim (λq'=>q.1.symm.trans q'.1) λq'=>bc (O.lt q') (q.2▸fo _)) λq=>(inv e').elim (λq'=>bc (O.lt q) (q'.2▸fo _)) (O.inj j j' i q)⟩
 rw[cU] at hi;exact(zI (eS hi)).elim (λz=>xE (O.all i z) λj e=>⟨j,(get j).trans ((aK λq=>nomatch (f2.symm.trans ((ay (λx:Nat=>owner[x]?) q).trans e):aa af=aa (aa i))).trans e)⟩) λz=>⟨_,(get _).trans ((aP rfl).trans (z▸rfl))⟩
theorem Zw{mask:Nat}(hm:mask=7∨mask=31)(hs:List Int):∀{done:List Int} {owner:Array (Option Nat)},mE mask owner done→done.length+hs.length≤mask→
  ∃BV,hs.foldl (BG mask) (aa (owner,done.length))=aa (BV,(done++hs).length)∧mE mask BV (done++hs):=by
 induction hs with
 |nil=>exact λ{done owner} O _=>⟨owner,by rw[gP _];rfl,by rw[gP _];exact O⟩
 |cons h hs ih=>
  intro done owner O hl;refine aj (O.Y5 (ah (b6 _ _) hl)) λq hq hf=>aj (Lv hm h hq) λr hr er=>?_;refine Ry (h:=h) O.size (turns mask) 0 (b_ r) ((mZ _).symm▸hr) (er.symm▸hf) (λn' hn=>bc hn (m5 _)) λn f1 f2 f3=>?_;have step:BG mask (aa (owner,done.length)) h=aa (owner.setIfInBounds (bm mask h n).j (aa done.length),(done++[h]).length):=
   (ay (λo:Option Nat=>o.bind λj=>aa (owner.setIfInBounds j (aa done.length),done.length+1)) f1).trans (by rw[cU];rfl)
  have z:=ih (O.step f2 f3) (by rw[cU];exact ah (bF (Dj _ _)) hl);rw[wR] at z;exact aj z λBV g1 g2=>⟨BV,(ay (hs.foldl (BG mask)) step).trans g1,g2⟩
theorem mE.start(mask:Nat):mE mask (PP (mask+1) af) []:=by
 have:∀(j i:Nat),(PP (mask+1) (af:Option Nat))[j]? ≠aa (aa i):=λj i e=>by
  rw[Array.getElem?_replicate] at e
  split at e
  ·exact nomatch e
  ·exact a7 e
 exact⟨Array.size_replicate,λj i e=>bc e (this j i),λi hi=>bc hi (m5 i),λj j' i e=>bc e (this j i)⟩
theorem getD_some{owner:Array (Option Nat)}{j i:Nat}:owner.getD j af=aa i↔owner[j]? =aa (aa i):=by
 rw[PQ]
 cases owner[j]? with
 |none=>exact⟨λe=>a7 e,λe=>a7 e⟩
 |some o=>exact⟨ay aa,aY⟩
noncomputable def xC(mask:Nat)(owner:Array (Option Nat)):List (Nat×Nat):=(bo (mask+1)).filterMap λj=>(owner.getD j af).map (j,·)
noncomputable def Fc(mask finger moves:Nat)(led plain:Bool)(owner:Array (Option Nat)):c9×Array Nat:=({mask,place:=((xC mask owner).map m6).toArray,dummies:=#[],finger,led,moves,plain},((xC mask owner).map Dk).toArray)
theorem ZI{mask:Nat}(hm:mask=7∨mask=31)(finger moves:Nat)(led plain:Bool)(hs:Array Int)(hl:hs.size≤mask):
  ∃t iG,laid mask finger moves led plain hs=aa (t,iG)∧t.mask=mask∧t.led=led∧iG.toList.Perm (bo hs.size)∧oM t (iG.toList.map λi=>hs.toList.getD i 0):=by
 refine aj (Zw hm hs.toList (mE.start mask) ((mZ _).symm▸hl)) λowner g1 O=>?_;rw[af9] at g1 O;have Mz:layClean mask hs=aa owner:=by
  show(hs.foldl (BG mask) (aa (PP (mask+1) af,0))).map (·.1)=_;rw[←Array.foldl_toList];exact ay (ph (·.1)) g1
 have el:laid mask finger moves led plain hs=aa (Fc mask finger moves led plain owner):=ay (λo:Option (Array (Option Nat))=>o.bind λowner=>aa (Fc mask finger moves led plain owner)) Mz;have fm:∀(p:Nat×Nat),p∈xC mask owner↔owner[p.1]? =aa (aa p.2):=λp=>
  gQ.trans ⟨λq=>aj q λj _ e=>aj (Dl.mp e) λi e1 e2=>e2▸getD_some.mp e1,λe=>⟨p.1,dR.mpr (O.size▸(oi.mp e).1),ay (ph (p.1,·)) (getD_some.mpr e)⟩⟩
 have pw:(xC mask owner).Pairwise (λa b=>a.1<b.1):=
  akx _ (λa a' V_ b hb b' xT=>aj (Dl.mp hb) λ_ _ e=>aj (Dl.mp xT) λ_ _ e'=>e▸e'▸V_) (af8 (n:=mask+1))
 unfold Fc at el;generalize xC mask owner=L at el fm pw;refine⟨_,_,el,rfl,rfl,(HH ?_ HE).mpr λi=>?_,⟨?_,wQ.mpr pw,rfl,hm,λp hp=>?_,λi h hi=>?_⟩⟩
 ·exact wQ.mpr (af7 (λ{a b} ha hb hab e=>du hab (O.inj a.1 b.1 a.2 ((fm a).mp ha) (e▸(fm b).mp hb))) pw)
 ·exact(bB.trans ⟨λq=>aj q λp hp e=>e▸O.lt ((fm p).mp hp),λhi=>xE (O.all i hi) λj e=>⟨(j,i),(fm (j,i)).mpr e,rfl⟩⟩).trans dR.symm
 ·exact(aI _).trans ((aI _).trans (aI _)).symm
 ·exact aj (bB.mp hp) λq hq e=>e▸eS (PS (oi.mp ((fm q).mp hq)).1 O.size)
 ·show ∃n,(L.map m6)[i]? =aa (bm mask h n).j∧∀n',n'<n→(bm mask h n').j∈L.map m6
  change ((L.map Dk).map _)[i]? =aa h at hi;rw[pi,dv] at hi;rw[dv];refine aj (Dl.mp hi) λp e hh=>bP (O.at_ _ _ ((fm p).mp (bN e))) λh' n e1 e2 e3=>?_;have:h=h':=hh.symm.trans (pn.trans (ay (PT · 0) e1));exact this▸⟨n,(ay (ph m6) e).trans (ay aa e2.symm),λn' hn=>xE (e3 n' hn) λi' q=>bB.mpr ⟨(_,i'),(fm (_,i')).mpr q,rfl⟩⟩
end
set_option genInjectivity true in
inductive Nm where
 |mk (k:Nat) (l:List Nat)
deriving DecidableEq
inductive SV where
 |none
 |bool (b:Bool)
 |int (i:Int)
 |str (s:Str)
 |tup (vs:List SV)
 |ref (n:Nm)
 |range (a b:Int)
 |glob (a:au)
 |bi (id:String)
 |ty (n:String)
theorem SV.int.inj{a c:Int}(h:SV.int a=.int c):a=c:=by injection h
theorem SV.str.inj{a c:Str}(h:SV.str a=.str c):a=c:=by injection h
theorem SV.tup.inj{a c:List SV}(h:SV.tup a=.tup c):a=c:=by injection h
inductive cw where
 |list (vs:List SV)
 |dict (es:List (SV×SV))
 |set (vs:List SV)
 |inst (c:au) (fs:List (Str×SV))
abbrev SH:=Nm→Option cw
abbrev SF:=List (Str×SV)
abbrev aV:=au→Option Obj
abbrev Mu:=Nm→Option (au×au)
mutual
def VR(PR:aV)(μ:Mu):SV→Value→Prop
 |.none,v=>v=.none
 |.bool b,v=>v=.bool b
 |.int i,v=>∃t,v=.int i t
 |.str s,v=>∃t,v=.str s t
 |.tup vs,v=>∃a o items n,v=.ref a∧PR a=aa o∧o.cls=.type "tuple"∧o.data=.seq items n∧aO PR μ vs items.toList
 |.ref n,v=>∃ad,μ n=aa ad∧v=.ref ad.1
 |.range a b,v=>∃r t u w,v=.ref r∧PR r=aa {cls:=.type "range",data:=.fields #[.int a t,.int b u,.int 1 w]}
 |.glob a,v=>v=.ref a
 |.bi id,v=>v=.builtin id
 |.ty n,v=>v=.type n
def aO(PR:aV)(μ:Mu):List SV→List Value→Prop
 |[],l=>l=[]
 |v::vs,l=>∃x r,l=x::r∧VR PR μ v x∧aO PR μ vs r
end
@[elab_as_elim] theorem nc{P:aV}{m:Mu}{x:Int}{motive:Value→Prop}{v:Value}(h:VR P m (.int x) v)(k:∀t,motive (.int x t)):motive v:=h.elim λt e=>e▸k t
@[elab_as_elim] theorem pG{P:aV}{m:Mu}{x:Str}{motive:Value→Prop}{v:Value}(h:VR P m (.str x) v)(k:∀t,motive (.str x t)):motive v:=h.elim λt e=>e▸k t
@[elab_as_elim] theorem uN{P:aV}{m:Mu}{n:Nm}{motive:Value→Prop}{v:Value}(h:VR P m (.ref n) v)(k:∀ad:au×au,m n=aa ad→motive (.ref ad.1)):motive v:=h.elim λt e=>e.2▸k t e.1
@[elab_as_elim] theorem jx{P:aV}{m:Mu}{x:SV}{motive:List Value→Prop}{l:List Value}(h:aO P m [x] l)(k:∀a,VR P m x a→motive [a]):motive l:=h.elim λa h=>h.elim λ_ h=>h.1▸h.2.2▸k a h.2.1
@[elab_as_elim] theorem gu{P:aV}{m:Mu}{x y:SV}{motive:List Value→Prop}{l:List Value}(h:aO P m [x,y] l)(k:∀a c,VR P m x a→VR P m y c→motive [a,c]):motive l:=h.elim λa h=>h.elim λ_ h=>h.1▸jx (motive:=λr=>motive (a::r)) h.2.2 λc hc=>k a c h.2.1 hc
@[elab_as_elim] theorem ID{P:aV}{m:Mu}{x y z:SV}{motive:List Value→Prop}{l:List Value}(h:aO P m [x,y,z] l)(k:∀a c d,VR P m x a→VR P m y c→VR P m z d→motive [a,c,d]):motive l:=h.elim λa h=>h.elim λ_ h=>h.1▸gu (motive:=λr=>motive (a::r)) h.2.2 λc d hc=>k a c d h.2.1 hc
def aV.le(P Q:aV):Prop:=∀a o,P a=aa o→Q a=aa o
def Mu.le(m n:Mu):Prop:=∀a o,m a=aa o→n a=aa o
def kd(o:Obj):Prop:=(o.cls=.type "tuple"∧∃items n,o.data=.seq items n)∨(o.cls=.type "range"∧∃vs,o.data=.fields vs)
theorem xR{o:Obj}{es n}(h:o.data=.dict es n):¬kd o:=λx=>x.elim (λz=>jW z.2 λ_ _ e=>nomatch h.symm.trans e) λz=>z.2.elim λ_ e=>nomatch h.symm.trans e
theorem CT{o:Obj}{v}(h:o.data=.cell v):¬kd o:=λx=>x.elim (λz=>jW z.2 λ_ _ e=>nomatch h.symm.trans e) λz=>z.2.elim λ_ e=>nomatch h.symm.trans e
theorem Y4{o o':Obj}(hc:o'.cls=o.cls)(hd:o'.data=o.data)(h:¬kd o):¬kd o':=λx=>h (x.imp (λz=>⟨hc.symm.trans z.1,jW z.2 λi n e=>⟨i,n,hd.symm.trans e⟩⟩) λz=>⟨hc.symm.trans z.1,z.2.elim λvs e=>⟨vs,hd.symm.trans e⟩⟩)
def aV.fV(P Q:aV):Prop:=∀a o,P a=aa o→kd o→Q a=aa o
mutual
theorem VR.mono{P P':aV}{m m':Mu}(hP:P.fV P')(hm:m.le m'):∀(x:SV) {v:Value},VR P m x v→VR P' m' x v
 |.none,_,h=>h
 |.bool _,_,h=>h
 |.int _,_,h=>h
 |.str _,_,h=>h
 |.tup vs,_,h=>by
  obtain⟨a,o,items,n,h1,h2,h3,h4,h5⟩:=h;exact⟨a,o,items,n,h1,hP _ _ h2 (.inl ⟨h3,_,_,h4⟩),h3,h4,aO.mono hP hm vs h5⟩
 |.ref _,_,h=>by refine aj h λad h1 h2=>?_;clear h;exact⟨ad,hm _ _ h1,h2⟩
 |.range _ _,_,h=>by refine oY h λr t u w h1 h2=>?_;clear h;exact⟨r,t,u,w,h1,hP _ _ h2 (.inr ⟨rfl,_,rfl⟩)⟩
 |.glob _,_,h=>h
 |.bi _,_,h=>h
 |.ty _,_,h=>h
theorem aO.mono{P P':aV}{m m':Mu}(hP:P.fV P')(hm:m.le m'):∀(x:List SV) {v:List Value},aO P m x v→aO P' m' x v
 |[],_,h=>h
 |x::xs,_,h=>by
  refine bP h λy r h1 h2 h3=>?_;clear h;exact⟨y,r,h1,VR.mono hP hm x h2,aO.mono hP hm xs h3⟩
end
theorem aV.le.t{P Q:aV}(h:P.le Q):P.fV Q:=λa o h1 _=>h a o h1
theorem aV.le.rfl{P:aV}:P.le P:=λ_ _ h=>h
theorem Mu.le.rfl{P:Mu}:P.le P:=λ_ _ h=>h
theorem aV.le.trans{P Q R:aV}(h:P.le Q)(g:Q.le R):P.le R:=λa o x=>g a o (h a o x)
theorem Mu.le.trans{P Q R:Mu}(h:P.le Q)(g:Q.le R):P.le R:=λa o x=>g a o (h a o x)
theorem aO.length{P:aV}{m:Mu}{x:List SV}:∀{v:List Value},aO P m x v→x.length=v.length:=by
 induction x with
 |nil=>exact λh=>(ay oq (h:_=[])).symm
 |cons x xs ih=>exact λh=>bP h λy r z _ h3=>z▸ay (· +1) (ih h3)
theorem aO.get{P:aV}{m:Mu}{x:List SV}:∀{v:List Value} {i:Nat} {y:SV},aO P m x v→x[i]? =aa y→∃w,v[i]? =aa w∧VR P m y w:=by
 induction x with
 |nil=>exact λ_ e=>a7 e
 |cons x xs ih=>
  intro v i y h e;refine bP h λw r z h2 h3=>?_;subst z
  cases i with
  |zero=>exact⟨w,rfl,aY e▸h2⟩
  |succ i=>exact ih (i:=i) h3 e
theorem aO.app{P:aV}{m:Mu}{x:List SV}:∀{v:List Value} {x':List SV} {v':List Value},aO P m x v→aO P m x' v'→aO P m (x++x') (v++v'):=by
 induction x with
 |nil=>exact λh h'=>(h:_=[])▸h'
 |cons x xs ih=>exact λh h'=>bP h λw r z h2 h3=>⟨w,r++_,ay (· ++_) z,h2,ih h3 h'⟩
theorem aO.one{P:aV}{m:Mu}{x:SV}{v:Value}(h:VR P m x v):aO P m [x] [v]:=⟨v,[],rfl,h,rfl⟩
noncomputable def LO(l:List Int):Int:=PU (Dm l)
mutual
noncomputable def bZ(w:cE):SV→Int
 |.int i=>hashInt i
 |.str s=>hashStr w s
 |.tup vs=>LO (C8 w vs)
 |_=>0
noncomputable def C8(w:cE):List SV→List Int
 |[]=>[]
 |v::vs=>bZ w v::C8 w vs
end
mutual
noncomputable def SV.key:Nat→SV→Bool
 |_,.int _=>ab
 |_,.str _=>ab
 |n+1,.tup vs=>SV.keys n vs
 |_,_=>an
noncomputable def SV.keys:Nat→List SV→Bool
 |_,[]=>ab
 |n,v::vs=>SV.key n v && SV.keys n vs
end
structure Gl where
 prog:fD
 w:cE
 base:cO
 K:Frag
 mg:Str→Option Value
 mb:Str→Option Value
 os:OsState
 g:base.Ns uw mg
 b:base.Ns zK mb
 blt:∀x:Str,x≠"__name__"→mb x=HI x
 nolimit:base.NoLimit
 f7:K.In base
 Bc:∃o,base.get? Dn=aa o
def gE(w:cE)(P:aV)(m:Mu):List (SV×SV)→List dL→Prop
 |[],l=>l=[]
 |(k,v)::es,l=>∃e r,l=e::r∧e.hash=bZ w k∧VR P m k e.key∧VR P m v e.val∧gE w P m es r
theorem gE.mono{w:cE}{P P':aV}{m m':Mu}(hP:P.fV P')(hm:m.le m'){x:List (SV×SV)}:∀{v:List dL},gE w P m x v→gE w P' m' x v:=by
 induction x with
 |nil=>exact id
 |cons p es ih=>exact λh=>tg h λe r h1 h2 h3 h4 h5=>⟨e,r,h1,h2,VR.mono hP hm _ h3,VR.mono hP hm _ h4,ih h5⟩
noncomputable def yx(es:Array dL)(n:Nat):Obj:={cls:=.type "dict",data:=.dict es n}
noncomputable def DW(xs:Array Value)(n:Nat):Obj:={cls:=.type "list",data:=.seq xs n}
noncomputable def gB(xs:Array (Int×Value))(n:Nat)(t:c9):Obj:={cls:=.type "set",data:=.set xs n t}
noncomputable def wv(c d:au):Obj:={cls:=.ref c,dict:=aa d,data:=.plain}
def gb(P:aV)(m:Mu):List (Str×SV)→List dL→Prop
 |[],l=>l=[]
 |(x,v)::fs,l=>∃e r,l=e::r∧(∃t,e.key=.str x t)∧VR P m v e.val∧gb P m fs r
theorem gb.mono{P P':aV}{m m':Mu}(hP:P.fV P')(hm:m.le m'){x:List (Str×SV)}:∀{v:List dL},gb P m x v→gb P' m' x v:=by
 induction x with
 |nil=>exact id
 |cons p es ih=>exact λh=>gK h λe r h1 h2 h3 h4=>⟨e,r,h1,h2,VR.mono hP hm _ h3,ih h4⟩
def cq(w:cE)(P:aV)(m:Mu):List SV→List (Int×Value)→Prop
 |[],l=>l=[]
 |v::vs,l=>∃e r,l=e::r∧e.1=bZ w v∧VR P m v e.2∧cq w P m vs r
theorem cq.mono{w:cE}{P P':aV}{m m':Mu}(hP:P.fV P')(hm:m.le m'){x:List SV}:∀{v:List (Int×Value)},cq w P m x v→cq w P' m' x v:=by
 induction x with
 |nil=>exact id
 |cons v vs ih=>exact λh=>gK h λe r h1 h2 h3 h4=>⟨e,r,h1,h2,VR.mono hP hm _ h3,ih h4⟩
noncomputable def z_:SV→Bool
 |.int _=>ab
 |.str _=>ab
 |_=>an
noncomputable def fc:SV→Bool
 |.tup vs=>vs.all z_
 |_=>an
def OR(w:cE)(P:aV)(m:Mu)(h:cO)(ad:au×au):cw→Prop
 |.list vs=>ad.2=ad.1∧∃xs n,h.get? ad.1=aa (DW xs n)∧aO P m vs xs.toList
 |.dict es=>ad.2=ad.1∧∃xs,h.get? ad.1=aa (yx xs es.length)∧gE w P m es xs.toList∧(es.map (·.1)).Nodup∧∀k∈es.map (·.1),SV.key 6 k=ab
 |.set vs=>ad.2=ad.1∧∃es n t,h.get? ad.1=aa (gB es n t)∧f9 t (es.toList.map (·.1))∧cq w P m vs es.toList∧vs.Nodup∧(∀v∈vs,fc v=ab)∧t.led=!(w.params.followText "set-order")
 |.inst c fs=>ad.2≠ad.1∧h.get? ad.1=aa (wv c ad.2)∧∃xs n,h.get? ad.2=aa (qI xs n)∧gb P m fs xs
theorem OR.mono{w:cE}{P P':aV}{m m':Mu}{h h':cO}{ad:au×au}(hP:P.fV P')(hm:m.le m')
  (hk:∀o,h.get? ad.1=aa o→h'.get? ad.1=aa o) (dW:∀o,h.get? ad.2=aa o→h'.get? ad.2=aa o):
  ∀{x:cw},OR w P m h ad x→OR w P' m' h' ad x:=λ{x} r=>by
 cases x with
 |list vs=>exact⟨r.1,d_ r.2 λxs n h1 h2=>⟨xs,n,hk _ h1,aO.mono hP hm _ h2⟩⟩
 |dict es=>exact⟨r.1,bG r.2 λxs h1 h2 h3=>⟨xs,hk _ h1,gE.mono hP hm h2,h3⟩⟩
 |set vs=>exact⟨r.1,sO r.2 λes n t z=>⟨es,n,t,hk _ z.1,z.2.1,cq.mono hP hm z.2.2.1,z.2.2.2⟩⟩
 |inst c fs=>exact⟨r.1,hk _ r.2.1,d_ r.2.2 λxs n h2 h3=>⟨xs,n,dW _ h2,gb.mono hP hm h3⟩⟩
structure FD where
 sc:cb
 st:List Str
 q:Bool
structure FrR(F:FD)(own:List au)(ae:Env)(P:aV)(m:Mu)(fr:SF)(h:cO):Prop where
 sc:ae.scope=F.sc
 kind:F.sc.kind=.function
 glob:ae.globals=uw
 blt:ae.builtins=zK
 rY:ae.locals∈own
 ns:∃mm,h.Ns ae.locals mm∧∀x v,fr.lookup x=aa v→F.sc.names.lookup x=aa .local→∃v',mm x=aa v'∧VR P m v v'
 mB:∀x v,fr.lookup x=aa v→(F.sc.names.lookup x=aa .cell∨F.sc.names.lookup x=aa .free)→
  ∃c v',ae.cells.lookup x=aa c∧VR P m v v'∧((c∈own∧c≠ae.locals∧h.IsCell c (aa v'))∨∃o,P c=aa o∧o.data=.cell (aa v'))
 rx:∀x,(F.sc.names.lookup x=aa .cell∨F.sc.names.lookup x=aa .free)→∃c,ae.cells.lookup x=aa c∧((c∈own∧∃v,h.IsCell c v)∨∃o v,P c=aa o∧o.data=.cell v)
 sX:∀x∈F.st,F.sc.names.lookup x=aa .cell∧∃c v,ae.cells.lookup x=aa c∧c∈own∧c≠ae.locals∧h.IsCell c v
 apart:∀x y c,x∈F.st→ae.cells.lookup x=aa c→ae.cells.lookup y=aa c→x=y
 mP:∀a∈own,∃o,h.get? a=aa o∧¬kd o
structure Rel(G:Gl)(F:FD)(b:Nat)(own:List au)(ae:Env)(A:dZ)(P:aV)(m:Mu)(fr:SF)(h:SH)(s:ak):Prop where
 gens:s.gens=#[]
 os:s.os=G.os
 bs:∀a o,G.base.get? a=aa o→s.heap.get? a=aa o
 basePR:∀a o,G.base.get? a=aa o→P a=aa o
 frs:∃l,A.frames=aa l∧s.heap.FunFrames G.base l∧(∃e0 l',l=e0::l'∧e0.frame=ae.frame)∧
  (∀a∈l.filterMap (·.frame),a∈own∨∃o,P a=aa o)∧
  ∀a o,P a=aa o→∃sl,s.heap.get? a=aa {o with slots:=sl}∧(a∉l.filterMap (·.frame)→sl=o.slots)
 obj:∀n so,h n=aa so→∃ad,m n=aa ad∧OR G.w P m s.heap ad so
 dom:∀n,h n=af→m n=af
 inj:∀n n' ad bT,m n=aa ad→m n'=aa bT→n≠n'→ad.1≠bT.1∧ad.1≠bT.2∧ad.2≠bT.1∧ad.2≠bT.2
 sep:∀n ad,m n=aa ad→P ad.1=af∧P ad.2=af∧ad.1∉own∧ad.2∉own
 ownP:∀a∈own,P a=af
 f:FrR F own ae P m fr s.heap
 depth:A.depth+b<HJ
 units:A.units+8*b+8<ez
 guards:A.guards=aa []
 quiet:F.q=ab→A.handled=af
theorem IE(o:Obj)(sl)(h:sl=o.slots):({o with slots:=sl}:Obj)=o:=h▸rfl
variable{G:Gl}{F:FD}{b:Nat}{own:List au}{ae:Env}{A:dZ}{P:aV}{m:Mu}{fr:SF}{h:SH}{s:ak}
theorem Rel.oV(R:Rel G F b own ae A P m fr h s){a:au}{o:Obj}(e:P a=aa o):∃sl,s.heap.get? a=aa {o with slots:=sl}:=jy R.frs λ_ _ _ _ _ h5=>aj (h5 a o e) λsl h6 _=>⟨sl,h6⟩
theorem Rel.rP(R:Rel G F b own ae A P m fr h s){a:au}{o:Obj}(e:P a=aa o):∃o',s.heap.get? a=aa o'∧o'.cls=o.cls∧o'.data=o.data:=(R.oV e).elim λsl h6=>⟨_,h6,rfl,rfl⟩
theorem Rel.tok(R:Rel G F b own ae A P m fr h s)(t:Nat):Rel G F b own ae A P m fr h {s with toks:=t}:=
 ⟨R.gens,R.os,R.bs,R.basePR,R.frs,R.obj,R.dom,R.inj,R.sep,R.ownP,R.f,R.depth,R.units,R.guards,R.quiet⟩
theorem FrR.keep{P':aV}{m':Mu}{hp bX:cO}(X:FrR F own ae P m fr hp)(hP:P.le P')(hm:m.le m')(hk:∀a∈own,∀o,hp.get? a=aa o→∃o',bX.get? a=aa o'∧o'.cls=o.cls∧o'.data=o.data):
  FrR F own ae P' m' fr bX:=by
 have cl:∀{c v},c∈own→hp.IsCell c v→bX.IsCell c v:=λ{c v} hc q=>aj q λo q6 q7=>bG (hk _ hc o q6) λo' e1 _ e2=>⟨o',e1,e2.trans q7⟩;exact⟨X.sc,X.kind,X.glob,X.blt,X.rY,aj X.ns λmm z h4=>z.elim λo z=>jW z λes ep z=>bG (hk _ X.rY o z.1) λo' e1 _ e2=>⟨mm,⟨o',es,ep,e1,e2.trans z.2.1,z.2.2⟩,λx v hx hl=>aj (h4 x v hx hl) λv' q1 q2=>⟨v',q1,q2.mono hP.t hm⟩⟩,
  λx v hx hl=>bP (X.mB x v hx hl) λc v' q1 q2 q3=>⟨c,v',q1,q2.mono hP.t hm,q3.imp (λq=>⟨q.1,q.2.1,cl q.1 q.2.2⟩) λq=>aj q λo q6 q7=>⟨o,hP _ _ q6,q7⟩⟩,
  λx hx=>aj (X.rx x hx) λc q1 q2=>⟨c,q1,q2.imp (λq=>⟨q.1,q.2.imp λv=>cl q.1⟩) λq=>d_ q λo v q2 q3=>⟨o,v,hP _ _ q2,q3⟩⟩,
  λx hx=>vc (X.sX x hx) λq0 c v q1 q2 q3 q4=>⟨q0,c,v,q1,q2,q3,cl q2 q4⟩,X.apart,λa ha=>aj (X.mP a ha) λo e1 e2=>bG (hk a ha o e1) λo' f1 f0 f2=>⟨o',f1,Y4 f0 f2 e2⟩⟩
theorem Rel.grow(R:Rel G F b own ae A P m fr h s){s':ak}(hk:∀a o,s.heap.get? a=aa o→s'.heap.get? a=aa o)(hg:s'.gens=s.gens)(ho:s'.os=s.os):
  Rel G F b own ae A P m fr h s':=
 ⟨hg.trans R.gens,ho.trans R.os,λa o e=>hk _ _ (R.bs a o e),R.basePR,jy R.frs λl h1 h2 h3 h4 h5=>⟨l,h1,h2.of_keeps λb o e _=>⟨o,hk _ _ e,rfl⟩,h3,h4,λa o e=>aj (h5 a o e) λsl q1 q2=>⟨sl,hk _ _ q1,q2⟩⟩,
  λn so e=>aj (R.obj n so e) λad q1 q2=>⟨ad,q1,q2.mono aV.le.rfl.t Mu.le.rfl (λo=>hk _ o) λo=>hk _ o⟩,R.dom,R.inj,R.sep,R.ownP,R.f.keep .rfl .rfl λa _ o e=>⟨o,hk _ _ e,rfl,rfl⟩,R.depth,R.units,R.guards,R.quiet⟩
theorem Rel.Px(R:Rel G F b own ae A P m fr h s){a:au}{o:Obj}(ha:s.heap.get? a=aa o)(hP:P a=af)(hm:∀n ad,m n=aa ad→a≠ad.1∧a≠ad.2)(ui:a∉own)(ajs:G.base.get? a=af):
  Rel G F b own ae A (λx=>if x=a then aa o else P x) m fr h s∧P.le (λx=>if x=a then aa o else P x):=by
 have le:P.le (λx=>if x=a then aa o else P x):=λx o' e=>(aK λz=>a7 (hP.symm.trans (z▸e))).trans e;exact⟨⟨R.gens,R.os,R.bs,λx o' e=>le _ _ (R.basePR x o' e),jy R.frs λl h1 h2 h3 h4 h5=>⟨l,h1,h2,h3,λx hx=>(h4 x hx).imp id λq=>q.elim λo' q=>⟨o',le _ _ q⟩,
   λx o' e=>if hx:x=a then⟨o'.slots,(ay s.heap.get? hx).trans (ha.trans ((aP hx).symm.trans e)),λ_=>rfl⟩ else h5 x o' ((aK hx).symm.trans e)⟩,
  λn so e=>aj (R.obj n so e) λad q1 q2=>⟨ad,q1,q2.mono le.t .rfl (λ_ x=>x) λ_ x=>x⟩,R.dom,R.inj,λn ad e=>have q:=R.sep n ad e;have p:=hm n ad e;⟨(aK p.1.symm).trans q.1,(aK p.2.symm).trans q.2.1,q.2.2⟩,
  λx hx=>(aK λe:x=a=>ui (e▸hx)).trans (R.ownP x hx),R.f.keep le .rfl λa _ o e=>⟨o,e,rfl,rfl⟩,R.depth,R.units,R.guards,R.quiet⟩,le⟩
section
structure Bf(base:cO)(h:cO)(P:aV)(m:Mu)(own:List au)(e:au)(x:String):Prop where
 obj:∃oe vs,h.get? e=aa oe∧oe.cls=.type x∧oe.data=.fields vs∧vs[1]? =aa .none
 base:base.get? e=af
 oV:P e=af
 mu:∀n ad,m n=aa ad→e≠ad.1∧e≠ad.2
 own:e∉own
abbrev QV:=SV→SH→Prop
abbrev QX:=String→SH→Prop
noncomputable def lZ:QX:=λ_ _=>False
section
variable(G:Gl)(F:FD)(b:Nat)(fr:SF)(h:SH)
def gT(own:List au)(ae:Env)(A:dZ)(P:aV)(m:Mu)(fr:SF)(X:QX)(E':Value→ak→Prop):Prop:=
 ∀x h' e s' P' m',X x h'→P.le P'→m.le m'→Bf G.base s'.heap P' m' own e x→Rel G F b own ae A P' m' fr h' s'→E' (.ref e) s'
def lI(own:List au)(ae:Env)(A:dZ)(P:aV)(m:Mu)(Q:QV)(Q':Value→ak→Prop):Prop:=
 ∀v h' v' s' P' m',Q v h'→P.le P'→m.le m'→VR P' m' v v'→Rel G F b own ae A P' m' fr h' s'→Q' v' s'
def Vq(t:Env→Sem Value)(Q:QV)(X:QX):Prop:=
 ∀own ae A P m s (Q':Value→ak→Prop) (E':Value→ak→Prop),Rel G F b own ae A P m fr h s→
  lI G F b fr own ae A P m Q Q'→gT G F b own ae A P m fr X E'→aw (aR G.prog G.w) A (t ae) Q' E' s
abbrev WV(t:Env→Sem Value)(Q:QV)(X:QX):Prop:=Bx (Vq G F b fr h t Q X)
def WE(e:Expr)(Q:QV)(X:QX):Prop:=WV G F b fr h (d9 e) Q X
def WOb(vs:List SV)(t:List Value→Sem Value)(Q:QV)(X:QX):Prop:=
 ∀own ae A P m s (Q':Value→ak→Prop) (E':Value→ak→Prop) a5,Rel G F b own ae A P m fr h s→aO P m vs a5→
  lI G F b fr own ae A P m Q Q'→gT G F b own ae A P m fr X E'→aw (aR G.prog G.w) A (t a5) Q' E' s
abbrev WO(vs:List SV)(t:List Value→Sem Value)(Q:QV)(X:QX):Prop:=Bx (WOb G F b fr h vs t Q X)
def SK(e:Expr)(Q:Bool→SH→Prop)(X:QX):Prop:=
 ∀own ae A P m s (Q':Bool→ak→Prop) (E':Value→ak→Prop),Rel G F b own ae A P m fr h s→
  (∀v h' s' P' m',Q v h'→P.le P'→m.le m'→Rel G F b own ae A P' m' fr h' s'→Q' v s')→gT G F b own ae A P m fr X E'→
  aw (aR G.prog G.w) A (isTrue e ae (d9 e ae)) Q' E' s
abbrev WB(e:Expr)(Q:Bool→SH→Prop)(X:QX):Prop:=Bx (SK G F b fr h e Q X)
def ZR(v:SV)(Q:Bool→SH→Prop)(X:QX):Prop:=
 ∀own ae A P m s (Q':Bool→ak→Prop) (E':Value→ak→Prop) v',Rel G F b own ae A P m fr h s→VR P m v v'→
  (∀c h' s' P' m',Q c h'→P.le P'→m.le m'→Rel G F b own ae A P' m' fr h' s'→Q' c s')→gT G F b own ae A P m fr X E'→
  aw (aR G.prog G.w) A (zL v') Q' E' s
abbrev WT(v:SV)(Q:Bool→SH→Prop)(X:QX):Prop:=Bx (ZR G F b fr h v Q X)
inductive tM where
 |next|brk|cont
 |ret (v:SV)
def ZD(P:aV)(m:Mu):tM→Flow→Prop
 |.next,f=>f=.next
 |.brk,f=>f=.brk
 |.cont,f=>f=.cont
 |.ret v,f=>∃v',f=.ret v'∧VR P m v v'
abbrev QS:=tM→SF→SH→Prop
abbrev dP:=String→SF→SH→Prop
def Cp(own:List au)(ae:Env)(A:dZ)(P:aV)(m:Mu)(Q:QS)(Q':Flow→ak→Prop):Prop:=
 ∀f fr' h' f' s' P' m',Q f fr' h'→P.le P'→m.le m'→ZD P' m' f f'→Rel G F b own ae A P' m' fr' h' s'→Q' f' s'
def pY(own:List au)(ae:Env)(A:dZ)(P:aV)(m:Mu)(X:dP)(E':Value→ak→Prop):Prop:=
 ∀x fr' h' e s' P' m',X x fr' h'→P.le P'→m.le m'→Bf G.base s'.heap P' m' own e x→Rel G F b own ae A P' m' fr' h' s'→E' (.ref e) s'
def aeq(t:Env→Sem Flow)(Q:QS)(X:dP):Prop:=
 ∀own ae A P m s (Q':Flow→ak→Prop) (E':Value→ak→Prop),Rel G F b own ae A P m fr h s→
  Cp G F b own ae A P m Q Q'→pY G F b own ae A P m X E'→aw (aR G.prog G.w) A (t ae) Q' E' s
abbrev iY(t:Env→Sem Flow)(Q:QS)(X:dP):Prop:=Bx (aeq G F b fr h t Q X)
def WS(st:bx)(Q:QS)(X:dP):Prop:=iY G F b fr h (exec st) Q X
def j6(st:List bx)(Q:QS)(X:dP):Prop:=iY G F b fr h (execs st) Q X
end
variable{P':aV}{m':Mu}
theorem lI.mono{Q:QV}{Q':Value→ak→Prop}(c:lI G F b fr own ae A P m Q Q')(hP:P.le P')(hm:m.le m'):lI G F b fr own ae A P' m' Q Q':=
 λv h' v' s' cD cu hq h1 h2=>c v h' v' s' cD cu hq (hP.trans h1) (hm.trans h2)
theorem gT.mono{X:QX}{E':Value→ak→Prop}(c:gT G F b own ae A P m fr X E')(hP:P.le P')(hm:m.le m'):gT G F b own ae A P' m' fr X E':=
 λx h' e s' cD cu hq h1 h2=>c x h' e s' cD cu hq (hP.trans h1) (hm.trans h2)
theorem Cp.mono{Q:QS}{Q':Flow→ak→Prop}(c:Cp G F b own ae A P m Q Q')(hP:P.le P')(hm:m.le m'):Cp G F b own ae A P' m' Q Q':=
 λf fr' h' v' s' cD cu hq h1 h2=>c f fr' h' v' s' cD cu hq (hP.trans h1) (hm.trans h2)
theorem pY.mono{X:dP}{E':Value→ak→Prop}(c:pY G F b own ae A P m X E')(hP:P.le P')(hm:m.le m'):pY G F b own ae A P' m' X E':=
 λx fr' h' e s' cD cu hq h1 h2=>c x fr' h' e s' cD cu hq (hP.trans h1) (hm.trans h2)
theorem pY.ka{X:dP}{E':Value→ak→Prop}(c:pY G F b own ae A P m X E'):gT G F b own ae A P m fr (λx h=>X x fr h) E':=
 λx h' e s' cD cu hq h1 h2=>c x fr h' e s' cD cu hq h1 h2
theorem lI.here{Q:QV}{Q':Value→ak→Prop}(c:lI G F b fr own ae A P m Q Q'){v:SV}{v':Value}(hq:Q v h)(hv:VR P m v v')(R:Rel G F b own ae A P m fr h s):Q' v' s:=
 c v h v' s P m hq .rfl .rfl hv R
theorem WV.imp{t:Env→Sem Value}{Q pT:QV}{X xX:QX}(w:WV G F b fr h t Q X)(hQ:∀v h,Q v h→pT v h)(hX:∀x h,X x h→xX x h):WV G F b fr h t pT xX:=
 .mk λown ae A P m s Q' E' R c d=>w.run own ae A P m s Q' E' R (λv h' v' s' P' m' q=>c v h' v' s' P' m' (hQ _ _ q)) (λx h' e s' P' m' q=>d x h' e s' P' m' (hX _ _ q))
theorem iY.imp{t:Env→Sem Flow}{Q pT:QS}{X xX:dP}(w:iY G F b fr h t Q X)(hQ:∀f fr h,Q f fr h→pT f fr h)(hX:∀x fr h,X x fr h→xX x fr h):iY G F b fr h t pT xX:=
 .mk λown ae A P m s Q' E' R c d=>w.run own ae A P m s Q' E' R (λf fr' h' v' s' P' m' q=>c f fr' h' v' s' P' m' (hQ _ _ _ q)) (λx fr' h' e s' P' m' q=>d x fr' h' e s' P' m' (hX _ _ _ q))
theorem Rel.xh(R:Rel G F b own ae A P m fr h s):s.heap.Ns ae.globals G.mg:=by rw[R.f.glob];exact G.g.keeps R.bs
theorem Rel.O7(R:Rel G F b own ae A P m fr h s):s.heap.Ns ae.builtins G.mb:=by rw[R.f.blt];exact G.b.keeps R.bs
noncomputable def tf(F:FD)(x:Str):Bool:=match F.sc.names.lookup x with
 |some .local=>ab
 |some .cell=>ab
 |some .free=>x !=("__classdict__":Str)
 |_=>an
theorem Kr{x:Str}{v:SV}{Q':Value→ak→Prop}{E':Value→ak→Prop}(R:Rel G F b own ae A P m fr h s)(hx:fr.lookup x=aa v)(hk:tf F x=ab)(hq:∀v',VR P m v v'→Q' v' s):
  aw (aR G.prog G.w) A (loadName ae x) Q' E' s:=by
 have qU:ae.scope.kind=.function:=by rw[R.f.sc];exact R.f.kind
 unfold tf at hk
 cases hl:F.sc.names.lookup x with
 |none=>rw[hl] at hk;exact cJ hk
 |some k=>
  rw[hl] at hk;have jZ:ae.kindOf x=aa k:=by unfold PV;rw[R.f.sc];exact hl
  have free:∀{ce},(F.sc.names.lookup x=aa .cell∨F.sc.names.lookup x=aa .free)→ae.cells.lookup x=aa ce→∃v',s.heap.IsCell ce (aa v')∧VR P m v v':=by
   intro ce dW hc;refine bP (R.f.mB x v hx dW) λc' v' q1 q2 q3=>?_;obtain rfl:c'=ce:=aY (q1.symm.trans hc);refine(aU v' ?_ q2);rcases q3 with⟨_,_,q⟩|⟨o,q5,q6⟩
   ·exact q
   ·refine xE (R.oV q5) λsl q7=>?_
    exact⟨_,q7,q6⟩
  cases k with
  |«local»=>
   obtain⟨mm,q1,q2⟩:=R.f.ns;refine aj (q2 x v hx hl) λv' q3 q4=>?_;exact wpAny_loadName_local qU jZ q1 q3 (hq _ q4)
  |cell=>
   refine bP (R.f.mB x v hx (.inl hl)) λce v' q1 q2 q3=>?_;refine aj (free (.inl hl) q1) λU0 q4 q5=>?_;exact wpAny_loadName_cell qU jZ q1 q4 (hq _ q5)
  |free=>
   refine bP (R.f.mB x v hx (.inr hl)) λce v' q1 q2 q3=>?_;refine aj (free (.inr hl) q1) λU0 q4 q5=>?_;exact wpAny_loadName_free qU jZ q1 q4 (hq _ q5) (by simpa using hk)
  |_=>simp at hk
theorem Ow{x:Str}{pos:Pos}{v:SV}{Q:QV}{X:QX}(hx:fr.lookup x=aa v)(hk:tf F x=ab)(hd:(x==("__debug__":Str))=an)(hq:Q v h):
  WE G F b fr h (.Name x pos) Q X:=
 .mk λown ae A P m s Q' E' R c d=>wpAny_Name (Kr R hx hk λv' hv=>c.here hq hv R) hd
theorem Hg{M:i2}{t:Sem Unit}{Q:Value→ak→Prop}{E:Value→ak→Prop}(w:aw M A (do t;pure eH) Q E s):aw M A t (λ_=>Q .none) E s:=λΓ p AF=>by
 have:=w Γ p AF;rw[Sem.wp_bind'] at this;exact Sem.wp_mono _ Γ _ (λ_ _ _ x=>x) (λ_ _ _ x=>x) _ _ this
inductive jm(G:Gl)(x:Str):SV→Prop
 |ref {a:au}:G.mg x=aa (.ref a)→jm G x (.glob a)
 |str {t:Str} {k:Tok}:G.mg x=aa (.str t k)→jm G x (.str t)
 |int {t:Int} {k:Tok}:G.mg x=aa (.int t k)→jm G x (.int t)
 |bi {id:String}:G.mg x=af→G.mb x=aa (.builtin id)→jm G x (.bi id)
 |ty {id:String}:G.mg x=af→G.mb x=aa (.type id)→jm G x (.ty id)
theorem Ew{x:Str}{pos:Pos}{v:SV}{Q:QV}{X:QX}(hg:jm G x v)(hk:F.sc.names.lookup x=aa .globalImplicit)(hd:(x==("__debug__":Str))=an)(hq:Q v h):
  WE G F b fr h (.Name x pos) Q X:=by
 refine .mk ?_;intro own ae A P m s Q' E' R c d;refine wpAny_Name ?_ hd;have qU:ae.scope.kind=.function:=by rw[R.f.sc];exact R.f.kind
 rw[aky qU (by unfold PV;rw[R.f.sc];exact hk)]
 cases hg with
 |ref e=>exact PW R.xh e (c.here hq rfl R)
 |str e=>exact PW R.xh e (c.here hq ⟨_,rfl⟩ R)
 |int e=>exact PW R.xh e (c.here hq ⟨_,rfl⟩ R)
 |bi e1 e2=>exact aga R.xh e1 R.O7 e2 (c.here hq rfl R)
 |ty e1 e2=>exact aga R.xh e1 R.O7 e2 (c.here hq rfl R)
theorem const_int{i:Int}{k:Nat}{pos:Pos}{Q:QV}{X:QX}(hq:Q (.int i) h):WE G F b fr h (.Constant (.int i) k pos) Q X:=
 .mk λown ae A P m s Q' E' R c d=>wpAny_Constant_int (c _ _ _ _ _ _ hq .rfl .rfl ⟨_,rfl⟩ (R.tok _))
theorem I8{i:Str}{k:Nat}{pos:Pos}{Q:QV}{X:QX}(hq:Q (.str i) h):WE G F b fr h (.Constant (.str i) k pos) Q X:=
 .mk λown ae A P m s Q' E' R c d=>wpAny_Constant_str (c _ _ _ _ _ _ hq .rfl .rfl ⟨_,rfl⟩ (R.tok _))
theorem ab5{i:Bool}{k:Nat}{pos:Pos}{Q:QV}{X:QX}(hq:Q (.bool i) h):WE G F b fr h (.Constant (.bool i) k pos) Q X:=
 .mk λown ae A P m s Q' E' R c d=>wpAny_Constant_bool (c _ _ _ _ _ _ hq .rfl .rfl rfl R)
theorem const_none{k:Nat}{pos:Pos}{Q:QV}{X:QX}(hq:Q .none h):WE G F b fr h (.Constant .none k pos) Q X:=
 .mk λown ae A P m s Q' E' R c d=>wpAny_Constant_none (c _ _ _ _ _ _ hq .rfl .rfl rfl R)
noncomputable def bv(f:Value→Value→Sem Value):List Value→Sem Value
 |[a,b]=>f a b
 |_=>Do "op2"
noncomputable def mr(f:Value→Sem Value):List Value→Sem Value
 |[a]=>f a
 |_=>Do "op1"
noncomputable def GH(f:Value→Value→Value→Sem Value):List Value→Sem Value
 |[a,b,c]=>f a b c
 |_=>Do "op3"
theorem WV.two{l r:Env→Sem Value}{f:Value→Value→Sem Value}{Q:QV}{X:QX}
  (w:WV G F b fr h l (λv ag=>WV G F b fr ag r (λu aC=>WO G F b fr aC [v,u] (bv f) Q X) X) X):
  ∀own ae A P m s (Q':Value→ak→Prop) (E':Value→ak→Prop),Rel G F b own ae A P m fr h s→
  lI G F b fr own ae A P m Q Q'→gT G F b own ae A P m fr X E'→
  aw (aR G.prog G.w) A (l ae) (λx aZ=>aw (aR G.prog G.w) A (r ae) (λy bz=>aw (aR G.prog G.w) A (f x y) Q' E' bz) E' aZ) E' s:=by
 intro own ae A P m s Q' E' R c d;refine w.run own ae A P m s _ _ R (λv ag v' aZ bW bU hq hP hm hv a6=>?_) d;refine hq.run own ae A bW bU aZ _ _ a6 (λu aC u' bz cD cu gS cQ cM hu bk=>?_) (d.mono hP hm);exact gS.run own ae A cD cu bz Q' E' [v',u'] bk ⟨_,_,rfl,hv.mono cQ.t cM,_,_,rfl,hu,rfl⟩ (c.mono (hP.trans cQ) (hm.trans cM)) (d.mono (hP.trans cQ) (hm.trans cM))
theorem Mx{l r:Expr}{op:wS}{pos:Pos}{Q:QV}{X:QX}
  (w:WE G F b fr h l (λv ag=>WE G F b fr ag r (λu aC=>WO G F b fr aC [v,u] (bv (m7 op)) Q X) X) X):WE G F b fr h (.BinOp l op r pos) Q X:=
 .mk λown ae A P m s Q' E' R c d=>wpAny_BinOp (WV.two w own ae A P m s Q' E' R c d)
theorem CZ{l r:Expr}{op:CmpOp}{pos:Pos}{Q:QV}{X:QX}(hm:Dp op r=an)
  (w:WE G F b fr h l (λv ag=>WE G F b fr ag r (λu aC=>WO G F b fr aC [v,u] (bv (c5 op)) Q X) X) X):WE G F b fr h (.Compare l [op] [r] pos) Q X:=
 .mk λown ae A P m s Q' E' R c d=>wpAny_Compare1 (WV.two w own ae A P m s Q' E' R c d) hm
end
noncomputable def SH.set(h:SH)(n:Nm)(o:cw):SH:=λx=>if x=n then aa o else h x
noncomputable def Mu.set(m:Mu)(n:Nm)(ad:au×au):Mu:=λx=>if x=n then aa ad else m x
noncomputable def aV.set(P:aV)(a:au)(o:Obj):aV:=λx=>if x=a then aa o else P x
theorem OR.lF{w:cE}{P:aV}{m:Mu}{h:cO}{ad:au×au}{so:cw}(r:OR w P m h ad so):∃o,h.get? ad.1=aa o:=by
 cases so with
 |list vs=>exact d_ r.2 λxs n h1 _=>⟨_,h1⟩
 |dict es=>exact bG r.2 λxs h1 _ _=>⟨_,h1⟩
 |set vs=>exact sO r.2 λes n t z=>⟨_,z.1⟩
 |inst c fs=>exact⟨_,r.2.1⟩
theorem OR.at2{w:cE}{P:aV}{m:Mu}{h:cO}{ad:au×au}{so:cw}(r:OR w P m h ad so):∃o,h.get? ad.2=aa o:=by
 cases so with
 |inst c fs=>exact d_ r.2.2 λxs n h1 _=>⟨_,h1⟩
 |_=>exact r.1.symm▸r.lF
theorem OR.lt{w:cE}{P:aV}{m:Mu}{h:cO}{ad:au×au}{so:cw}(r:OR w P m h ad so):ad.1<h.objs.size∧ad.2<h.objs.size:=⟨r.lF.elim λ_=>jI,r.at2.elim λ_=>jI⟩
theorem ZF{h h' base:cO}(k:∀b o,h.get? b=aa o→(∀vs,o.data≠.fields vs)→∃o',h'.get? b=aa o'∧∀vs,o'.data≠.fields vs){l:List Env}:h.FunFrames base l→h'.FunFrames base l:=by
 induction l with
 |nil=>exact id
 |cons e r ih=>exact λx=>⟨x.1,gK x.2.1 λL o f2 f3 f4 f5=>aj (k L o f4 f5) λo' q1 q2=>⟨L,o',f2,f3,q1,q2⟩,ih x.2.2⟩
theorem LY{hp bX base:cO}{p:au→Prop}{l:List Env}(h2:hp.FunFrames base l)(h4:∀a∈l.filterMap (·.frame),p a)(hk:∀a,p a→∀o,hp.get? a=aa o→bX.get? a=aa o):bX.FunFrames base l:=by
 induction l with
 |nil=>exact trivial
 |cons e0 r ih=>exact⟨h2.1,gK h2.2.1 λL o f2 f3 f4 f5=>⟨L,o,f2,f3,hk L (h4 L (gQ.mpr ⟨e0,.head _,f2⟩)) o f4,f5⟩,ih h2.2.2 λa ha=>h4 a (gQ.mpr ((gQ.mp ha).imp λe z=>⟨.tail _ z.1,z.2⟩))⟩
variable{P':aV}{m':Mu}
theorem Rel.UM(R:Rel G F b own ae A P m fr h s){n:Nm}{ad:au×au}(e:m n=aa ad):ad.1<s.heap.objs.size∧ad.2<s.heap.objs.size:=by
 cases hn:h n with
 |none=>exact a7 ((R.dom n hn).symm.trans e)
 |some so=>exact aj (R.obj n so hn) λbT e' o=>aY (e'.symm.trans e)▸o.lt
theorem Rel.free(R:Rel G F b own ae A P m fr h s){a:au}(ha:s.heap.objs.size≤a):
  P a=af∧(∀n ad,m n=aa ad→a≠ad.1∧a≠ad.2)∧a∉own∧G.base.get? a=af:=
 have no:∀{o},s.heap.get? a≠aa o:=λq=>js.mpr ha (jI q)
 ⟨wT.mpr λo e=>(R.oV e).elim λsl q=>no q,λn ad e=>have q:=R.UM e;⟨dG (bI q.1 ha),dG (bI q.2 ha)⟩,λho=>aj (R.f.mP a ho) λo q _=>no q,wT.mpr λo e=>no (R.bs a o e)⟩
theorem Rel.Po(R:Rel G F b own ae A P m fr h s)(o:Obj)(hf:o.isFreed=an):
  Rel G F b own ae A (P.set s.heap.objs.size o) m fr h {s with heap:=s.heap.push o}∧P.le (P.set s.heap.objs.size o):=
 have q:=R.free (ar s.heap.objs.size)
 (R.grow (s':={s with heap:=s.heap.push o}) (λa o' e=>dT _ e) rfl rfl).Px (fP _ hf) q.1 q.2.1 q.2.2.1 q.2.2.2
theorem Rel.EW(R:Rel G F b own ae A P m fr h s){vs:List SV}{a5:List Value}(hv:aO P m vs a5):
  ∃P',P.le P'∧Rel G F b own ae A P' m fr h {s with heap:=s.heap.push {cls:=.type "tuple",data:=.seq a5.toArray}}∧VR P' m (.tup vs) (.ref s.heap.objs.size):=
 have q:=R.Po {cls:=.type "tuple",data:=.seq a5.toArray} rfl
 ⟨_,q.2,q.1,_,_,_,_,rfl,show aV.set _ _ _ _=_ from aP rfl,rfl,rfl,aO.mono q.2.t .rfl _ hv⟩
theorem Rel.alloc(R:Rel G F b own ae A P m fr h s){n:Nm}(hn:h n=af){so:cw}{ad:au×au}{s':ak}
  (hk:∀a o,s.heap.get? a=aa o→s'.heap.get? a=aa o) (hg:s'.gens=s.gens) (ho:s'.os=s.os)
  (h1:s.heap.objs.size≤ad.1) (h2:s.heap.objs.size≤ad.2) (hO:OR G.w P (m.set n ad) s'.heap ad so):
  Rel G F b own ae A P (m.set n ad) fr (h.set n so) s'∧m.le (m.set n ad):=by
 have R':=R.grow hk hg ho;have le:m.le (m.set n ad):=λx o e=>(aK λz=>a7 ((R.dom n hn).symm.trans (z▸e))).trans e;have mu:∀{x a},m.set n ad x=aa a→(x=n∧ad=a)∨m x=aa a:=λ{x a} e=>if hx:x=n then .inl ⟨hx,aY ((aP hx).symm.trans e)⟩ else .inr ((aK hx).symm.trans e)
 have p:=R.free h1;have r:=R.free h2;exact⟨⟨R'.gens,R'.os,R'.bs,R'.basePR,R'.frs,λx C7 e=>if hx:x=n then⟨ad,aP hx,aY ((aP hx).symm.trans e)▸hO⟩ else aj (R'.obj x C7 ((aK hx).symm.trans e)) λbT q1 q2=>⟨bT,le _ _ q1,q2.mono aV.le.rfl.t le (λ_ z=>z) λ_ z=>z⟩,
  λx e=>if hx:x=n then fu ((aP hx).symm.trans e) else(aK hx).trans (R'.dom x ((aK hx).symm.trans e)),
  λx x' a a' e e' dg=>(mu e).elim (λq=>(mu e').elim (λq'=>bc (q.1.trans q'.1.symm) dg) λq'=>have t:=p.2.1 _ _ q';have u:=r.2.1 _ _ q';q.2▸⟨t.1,t.2,u.1,u.2⟩) λq=>(mu e').elim (λq'=>have t:=p.2.1 _ _ q;have u:=r.2.1 _ _ q;q'.2▸⟨t.1.symm,u.1.symm,t.2.symm,u.2.symm⟩) λq'=>R'.inj x x' a a' q q' dg,
  λx a e=>(mu e).elim (λq=>q.2▸⟨p.1,r.1,p.2.2.1,r.2.2.1⟩) (R'.sep x a),R'.ownP,R'.f.keep .rfl le λa _ o e=>⟨o,e,rfl,rfl⟩,R'.depth,R'.units,R'.guards,R'.quiet⟩,le⟩
theorem Rel.upd(R:Rel G F b own ae A P m fr h s){fr':SF}{h':SH}{s':ak}(kP:∀{a o},P a=aa o→∀{o'},s.heap.get? a=aa o'→s'.heap.get? a=aa o')(hg:s'.gens=s.gens)(ho:s'.os=s.os)
  (kF:∀l,s.heap.FunFrames G.base l→(∀a∈l.filterMap (·.frame),a∈own∨∃o,P a=aa o)→s'.heap.FunFrames G.base l) (obj:∀n so,h' n=aa so→∃ad,m n=aa ad∧OR G.w P m s'.heap ad so) (dom:∀n,h' n=af→m n=af) (f:FrR F own ae P m fr' s'.heap):
  Rel G F b own ae A P m fr' h' s':=
 ⟨hg.trans R.gens,ho.trans R.os,λa o e=>kP (R.basePR a o e) (R.bs a o e),R.basePR,jy R.frs λl h1 h2 h3 h4 h5=>⟨l,h1,kF l h2 h4,h3,h4,λa o e=>aj (h5 a o e) λsl q1 q2=>⟨sl,kP e q1,q2⟩⟩,obj,dom,R.inj,R.sep,R.ownP,f,R.depth,R.units,R.guards,R.quiet⟩
theorem Rel.turn(R:Rel G F b own ae A P m fr h s){n:Nm}{so C7:cw}(hn:h n=aa so){ad:au×au}(hm:m n=aa ad){s':ak}
  (hk:∀a o,a≠ad.1→a≠ad.2→s.heap.get? a=aa o→s'.heap.get? a=aa o) (hg:s'.gens=s.gens) (ho:s'.os=s.os)
  (hO:OR G.w P m s'.heap ad C7):Rel G F b own ae A P m fr (h.set n C7) s':=by
 have p:=R.sep n ad hm;have kP:∀{a o},P a=aa o→∀{o'},s.heap.get? a=aa o'→s'.heap.get? a=aa o':=λ{a o} e {o'}=>hk a o' (λq=>a7 (p.1.symm.trans (q▸e))) λq=>a7 (p.2.1.symm.trans (q▸e));have kO:∀{a},a∈own→∀{o},s.heap.get? a=aa o→s'.heap.get? a=aa o:=λ{a} ha {o}=>hk a o (λq=>p.2.2.1 (q▸ha)) λq=>p.2.2.2 (q▸ha);exact R.upd kP hg ho (λl h2 h4=>LY h2 h4 λa q o=>q.elim (λq=>kO q) λq=>q.elim λo' q=>kP q)
  (λx E_ e=>if hx:x=n then⟨ad,hx▸hm,aY ((aP hx).symm.trans e)▸hO⟩ else aj (R.obj x E_ ((aK hx).symm.trans e)) λbT q1 q2=>have i:=R.inj x n bT ad q1 hm hx;⟨bT,q1,q2.mono aV.le.rfl.t .rfl (λo=>hk _ o i.1 i.2.1) λo=>hk _ o i.2.2.1 i.2.2.2⟩)
  (λx e=>if hx:x=n then fu ((aP hx).symm.trans e) else R.dom x ((aK hx).symm.trans e)) (R.f.keep .rfl .rfl λa ha o e=>⟨o,kO ha e,rfl,rfl⟩)
theorem Rel.Om(R:Rel G F b own ae A P m fr h s){c:au}(hc:c∈own){fr':SF}{s':ak}(hs:sB c s.heap s'.heap)
  (hd:∃o,s'.heap.get? c=aa o∧(∀vs,o.data≠.fields vs)) (hg:s'.gens=s.gens) (ho:s'.os=s.os) (hF:FrR F own ae P m fr' s'.heap):Rel G F b own ae A P m fr' h s':=
 R.upd (λ{a o} e {o'} e'=>(hs.2 a λq=>a7 ((R.ownP c hc).symm.trans (q▸e))).trans e') hg ho (λl h2 _=>ZF (λb o e dg=>if hb:b=c then hb▸hd else⟨o,(hs.2 b hb).trans e,dg⟩) h2)
  (λx E_ e=>aj (R.obj x E_ e) λad q1 q2=>have p:=R.sep x ad q1;⟨ad,q1,q2.mono aV.le.rfl.t .rfl (λo z=>(hs.2 _ λq:ad.1=c=>p.2.2.1 (q▸hc)).trans z) λo z=>(hs.2 _ λq:ad.2=c=>p.2.2.2 (q▸hc)).trans z⟩) R.dom hF
theorem Mu.i9{m:Mu}{n:Nm}{ad:au×au}:m.set n ad n=aa ad:=aP rfl
theorem Aa{m:Mu}{n:Nm}{ad:au×au}(hn:m n=af):m.le (m.set n ad):=λx o e=>by
 unfold Mu.set
 by_cases hx:x=n
 ·subst hx;rw[hn] at e;exact a7 e
 ·rw[aK hx];exact e
theorem Xq{op:UnaryOp}{e:Expr}{pos:Pos}{Q:QV}{X:QX}(w:WE G F b fr h e (λv ag=>WO G F b fr ag [v] (mr (unaryOp op)) Q X) X):WE G F b fr h (.UnaryOp op e pos) Q X:=by
 refine .mk ?_;intro own ae A P m s Q' E' R c d;refine akz (w.run own ae A P m s _ _ R (λv ag v' aZ bW bU hq hP hm hv a6=>?_) d);exact hq.run own ae A bW bU aZ Q' E' [v'] a6 (aO.one hv) (c.mono hP hm) (d.mono hP hm)
theorem W8{i:Int}{Q:QV}{X:QX}(hq:Q (.int (-i)) h):WO G F b fr h [.int i] (mr (unaryOp .USub)) Q X:=by
 refine .mk ?_;intro own ae A P m s Q' E' a5 R hv c d;refine jx hv λv' zA=>?_
 first|refine nc zA λt=>?_|refine pG zA λt=>?_
 exact ak0 (c _ _ _ _ _ _ hq .rfl .rfl ⟨_,rfl⟩ (R.tok _))
theorem Jh{t MS rj:Expr}{pos:Pos}{Q:QV}{X:QX}(w:WB G F b fr h t (λc ag=>if c then WE G F b fr ag MS Q X else WE G F b fr ag rj Q X) X):WE G F b fr h (.IfExp t MS rj pos) Q X:=by
 refine .mk ?_;intro own ae A P m s Q' E' R c d;refine ak1 (w.run own ae A P m s _ _ R (λv ag aZ bW bU hq hP hm a6=>?_) d)
 cases v with
 |true=>exact hq.run own ae A bW bU aZ Q' E' a6 (c.mono hP hm) (d.mono hP hm)
 |false=>exact hq.run own ae A bW bU aZ Q' E' a6 (c.mono hP hm) (d.mono hP hm)
theorem AG{c:Bool}{Q:Bool→SH→Prop}{X:QX}(hq:Q c h):WT G F b fr h (.bool c) Q X:=by
 refine .mk ?_;intro own ae A P m s Q' E' v' R hv k d;obtain rfl:=hv;exact HK (k _ _ _ _ _ hq .rfl .rfl R)
theorem aei{Q:Bool→SH→Prop}{X:QX}(hq:Q an h):WT G F b fr h .none Q X:=by
 refine .mk ?_;intro own ae A P m s Q' E' v' R hv k d;obtain rfl:=hv;exact ak2 (k _ _ _ _ _ hq .rfl .rfl R)
theorem Up{e:Expr}{pos:Pos}{Q:Bool→SH→Prop}{X:QX}(w:WB G F b fr h e (λc ag=>Q (!c) ag) X):WB G F b fr h (.UnaryOp .Not e pos) Q X:=by
 refine .mk ?_;intro own ae A P m s Q' E' R c d;exact ak3 (w.run own ae A P m s _ _ R (λv ag aZ bW bU hq hP hm a6=>c _ _ _ _ _ hq hP hm a6) d)
theorem L5{e:Expr}{es:List Expr}{pos:Pos}{Q:Bool→SH→Prop}{X:QX}
  (w:WB G F b fr h e (λc ag=>if c then WB G F b fr ag (.BoolOp .And es pos) Q X else Q an ag) X):WB G F b fr h (.BoolOp .And (e::es) pos) Q X:=by
 refine .mk ?_;intro own ae A P m s Q' E' R c d;refine ak4 (w.run own ae A P m s _ _ R (λv ag aZ bW bU hq hP hm a6=>?_) d)
 cases v with
 |true=>exact hq.run own ae A bW bU aZ Q' E' a6 (λv h' s' P' m' q a b=>c v h' s' P' m' q (hP.trans a) (hm.trans b)) (d.mono hP hm)
 |false=>exact c _ _ _ _ _ hq hP hm a6
theorem Gm{e:Expr}{es:List Expr}{pos:Pos}{Q:Bool→SH→Prop}{X:QX}
  (w:WB G F b fr h e (λc ag=>if c then Q ab ag else WB G F b fr ag (.BoolOp .Or es pos) Q X) X):WB G F b fr h (.BoolOp .Or (e::es) pos) Q X:=by
 refine .mk ?_;intro own ae A P m s Q' E' R c d;refine ak5 (w.run own ae A P m s _ _ R (λv ag aZ bW bU hq hP hm a6=>?_) d)
 cases v with
 |true=>exact c _ _ _ _ _ hq hP hm a6
 |false=>exact hq.run own ae A bW bU aZ Q' E' a6 (λv h' s' P' m' q a b=>c v h' s' P' m' q (hP.trans a) (hm.trans b)) (d.mono hP hm)
theorem Tv{pos:Pos}{Q:Bool→SH→Prop}{X:QX}(hq:Q ab h):WB G F b fr h (.BoolOp .And [] pos) Q X:=
 .mk λown ae A P m s Q' E' R c d=>ak6 (c _ _ _ _ _ hq .rfl .rfl R)
theorem ZH{pos:Pos}{Q:Bool→SH→Prop}{X:QX}(hq:Q an h):WB G F b fr h (.BoolOp .Or [] pos) Q X:=
 .mk λown ae A P m s Q' E' R c d=>ak7 (c _ _ _ _ _ hq .rfl .rfl R)
theorem Nk{l r:Expr}{op:CmpOp}{pos:Pos}{Q:Bool→SH→Prop}{X:QX}(hm:Dp op r=an)
  (w:WE G F b fr h l (λv ag=>WE G F b fr ag r (λu aC=>WO G F b fr aC [v,u] (bv (c5 op)) (λt cL=>WT G F b fr cL t Q X) X) X) X):WB G F b fr h (.Compare l [op] [r] pos) Q X:=by
 refine .mk ?_;intro own ae A P m s Q' E' R c d;refine wpAny_isTrue_Compare1 (WV.two w own ae A P m s _ E' R (λv ag v' aZ bW bU hq hP hm hv a6=>?_) d) hm;exact hq.run own ae A bW bU aZ Q' E' v' a6 hv (λv h' s' P' m' q a b=>c v h' s' P' m' q (hP.trans a) (hm.trans b)) (d.mono hP hm)
noncomputable def Bv(e:Expr):Bool:=!([0,3,5,15].contains e.ctorIdx)
theorem YF{e:Expr}(h:Bv e=ab)(ae:Env)(Dd:Sem Value):isTrue e ae Dd=(do let v ←Dd;kh e.pos;ju [v] (zL v)):=by
 refine @wU (λe=>Bv e=ab→isTrue e ae Dd=(do let v ←Dd;kh e.pos;ju [v] (zL v))) e ?_ ?_ ?_ ?_ ?_ ?_ ?_ ?_ ?_ ?_ ?_ ?_ ?_ ?_ ?_ ?_ ?_ ?_ ?_ ?_ ?_ ?_ ?_ ?_ ?_ ?_ ?_ h<;>(intros;first|rfl|exact cJ ‹_›)
theorem aa2{e:Expr}{Q:Bool→SH→Prop}{X:QX}(hp:Bv e=ab)(w:WE G F b fr h e (λv ag=>WT G F b fr ag v Q X) X):WB G F b fr h e Q X:=by
 refine .mk ?_;intro own ae A P m s Q' E' R c d;refine ak8 (w.run own ae A P m s _ _ R (λv ag v' aZ bW bU hq hP hm hv a6=>?_) d) (YF hp ae _);exact hq.run own ae A bW bU aZ Q' E' v' a6 hv (λv h' s' P' m' q a b=>c v h' s' P' m' q (hP.trans a) (hm.trans b)) (d.mono hP hm)
theorem Lq{op:BoolOp}{e:Expr}{pos:Pos}{Q:QV}{X:QX}(w:WE G F b fr h e Q X):WE G F b fr h (.BoolOp op [e] pos) Q X:=
 .mk λown ae A P m s Q' E' R c d=>ak9 (w.run own ae A P m s Q' E' R c d)
theorem aau{e rj:Expr}{es:List Expr}{pos:Pos}{Q:QV}{X:QX}
  (w:WE G F b fr h e (λv ag=>WT G F b fr ag v (λc aC=>if c then WE G F b fr aC (.BoolOp .And (rj::es) pos) Q X else Q v aC) X) X):WE G F b fr h (.BoolOp .And (e::rj::es) pos) Q X:=by
 refine .mk ?_;intro own ae A P m s Q' E' R c d;refine ala (w.run own ae A P m s _ _ R (λv ag v' aZ bW bU hq hP hm hv a6=>?_) d);refine hq.run own ae A bW bU aZ _ _ v' a6 hv (λt aC bz cD cu gS cQ cM bk=>?_) (d.mono hP hm)
 cases t with
 |true=>exact gS.run own ae A cD cu bz Q' E' bk (c.mono (hP.trans cQ) (hm.trans cM)) (d.mono (hP.trans cQ) (hm.trans cM))
 |false=>exact c _ _ _ _ _ _ gS (hP.trans cQ) (hm.trans cM) (hv.mono cQ.t cM) bk
theorem U3{e rj:Expr}{es:List Expr}{pos:Pos}{Q:QV}{X:QX}
  (w:WE G F b fr h e (λv ag=>WT G F b fr ag v (λc aC=>if c then Q v aC else WE G F b fr aC (.BoolOp .Or (rj::es) pos) Q X) X) X):WE G F b fr h (.BoolOp .Or (e::rj::es) pos) Q X:=by
 refine .mk ?_;intro own ae A P m s Q' E' R c d;refine alb (w.run own ae A P m s _ _ R (λv ag v' aZ bW bU hq hP hm hv a6=>?_) d);refine hq.run own ae A bW bU aZ _ _ v' a6 hv (λt aC bz cD cu gS cQ cM bk=>?_) (d.mono hP hm)
 cases t with
 |false=>exact gS.run own ae A cD cu bz Q' E' bk (c.mono (hP.trans cQ) (hm.trans cM)) (d.mono (hP.trans cQ) (hm.trans cM))
 |true=>exact c _ _ _ _ _ _ gS (hP.trans cQ) (hm.trans cM) (hv.mono cQ.t cM) bk
def UI(G:Gl)(F:FD)(b:Nat)(fr:SF)(h:SH)(es:List Expr)(Q:List SV→SH→Prop)(X:QX):Prop:=
 ∀own ae A P m s pos (Q':List Value→ak→Prop) (E':Value→ak→Prop),Rel G F b own ae A P m fr h s→
  (∀v h' v' s' P' m',Q v h'→P.le P'→m.le m'→aO P' m' v v'→Rel G F b own ae A P' m' fr h' s'→Q' v' s')→gT G F b own ae A P m fr X E'→
  aw (aR G.prog G.w) A (spliced (jv pos (gh es ae))) Q' E' s
abbrev jY(G:Gl)(F:FD)(b:Nat)(fr:SF)(h:SH)(es:List Expr)(Q:List SV→SH→Prop)(X:QX):Prop:=Bx (UI G F b fr h es Q X)
theorem tC{Q:List SV→SH→Prop}{X:QX}(hq:Q [] h):jY G F b fr h [] Q X:=
 .mk λown ae A P m s pos Q' E' R c d=>wpAny_items_nil (c _ _ _ _ _ _ hq .rfl .rfl rfl R)
theorem X8{e:Expr}{es:List Expr}{Q:List SV→SH→Prop}{X:QX}(he:∀ae,gh (e::es) ae=(an,d9 e ae)::gh es ae)
  (w:WE G F b fr h e (λv ag=>jY G F b fr ag es (λvs aC=>Q (v::vs) aC) X) X):jY G F b fr h (e::es) Q X:=by
 refine .mk ?_;intro own ae A P m s pos Q' E' R c d;refine wpAny_items_cons (w.run own ae A P m s _ _ R (λv ag v' aZ bW bU hq hP hm hv a6=>?_) d) (he ae);exact hq.run own ae A bW bU aZ pos _ E' a6 (λvs aC a5 bz cD cu gS cQ cM pQ bk=>c _ _ _ _ _ _ gS (hP.trans cQ) (hm.trans cM) ⟨_,_,rfl,hv.mono cQ.t cM,pQ⟩ bk) (d.mono hP hm)
theorem tuple{es:List Expr}{k:Nat}{pos:Pos}{Q:QV}{X:QX}(hn:es.length≤cR)
  (w:jY G F b fr h es (λvs ag=>vs.length=es.length∧Q (.tup vs) ag) X):WE G F b fr h (.Tuple es k pos) Q X:=by
 refine .mk ?_;intro own ae A P m s Q' E' R c d;refine wpAny_Tuple (w.run own ae A P m s pos _ _ R (λv ag v' aZ bW bU hq hP hm hv a6=>?_) d);refine bG (a6.EW hv) λcD le bk pQ=>?_;exact⟨by rw[←hv.length,hq.1];exact hn,c _ _ _ _ _ _ hq.2 (hP.trans le) hm pQ bk⟩
theorem list{es:List Expr}{pos:Pos}{Q:QV}{X:QX}(hn:es.length≤cR)
  (w:jY G F b fr h es (λvs ag=>vs.length=es.length∧∃n,ag n=af∧Q (.ref n) (ag.set n (.list vs))) X):WE G F b fr h (.List es pos) Q X:=by
 refine .mk ?_;intro own ae A P m s Q' E' R c d;refine wpAny_List (w.run own ae A P m s pos _ _ R (λv ag v' aZ bW bU hq hP hm hv a6=>?_) d);refine mN hq λhl n pU hQ=>?_;clear hq;refine⟨by rw[←hv.length,hl];exact hn,?_⟩;obtain⟨bk,le⟩:=a6.alloc pU (so:=.list v) (ad:=(aZ.heap.objs.size,aZ.heap.objs.size)) (s':={aZ with heap:=aZ.heap.push {cls:=.type "list",data:=.seq v'.toArray}})
  (λa o e=>dT _ e) rfl rfl (ar _) (ar _) ⟨rfl,v'.toArray,0,fP _ rfl,by
   refine aO.mono aV.le.rfl.t (λx o e=>?_) _ (by exact hv);exact Aa (a6.dom n pU) x o e⟩
 exact c _ _ _ _ _ _ hQ hP (hm.trans le) ⟨_,Mu.i9,rfl⟩ bk
theorem vU{Q:QS}{X:dP}(hq:Q .next fr h):j6 G F b fr h [] Q X:=
 .mk λown ae A P m s Q' E' R c d=>wpAny_execs_nil (c _ _ _ _ _ _ _ hq .rfl .rfl rfl R)
theorem xY{st:bx}{rest:List bx}{Q:QS}{X:dP}
  (w:WS G F b fr h st (λf bw ag=>match f with|.next=>j6 G F b bw ag rest Q X|f=>Q f bw ag) X):j6 G F b fr h (st::rest) Q X:=by
 refine .mk ?_;intro own ae A P m s Q' E' R c d;refine wpAny_execs_cons (w.run own ae A P m s _ _ R (λf bw ag f' aZ bW bU hq hP hm hf a6=>?_) d)
 cases f with
 |next=>obtain rfl:=hf;exact hq.run own ae A bW bU aZ Q' E' a6 (c.mono hP hm) (d.mono hP hm)
 |brk=>obtain rfl:=hf;exact c _ _ _ _ _ _ _ hq hP hm rfl a6
 |cont=>obtain rfl:=hf;exact c _ _ _ _ _ _ _ hq hP hm rfl a6
 |ret v=>refine aj hf λv' br hv=>?_;clear hf;subst br;exact c _ _ _ _ _ _ _ hq hP hm ⟨_,rfl,hv⟩ a6
theorem Vk{pos:Pos}{Q:QS}{X:dP}(hq:Q .next fr h):WS G F b fr h (.Pass pos) Q X:=
 .mk λown ae A P m s Q' E' R c d=>wpAny_Pass (c _ _ _ _ _ _ _ hq .rfl .rfl rfl R)
theorem brk{pos:Pos}{Q:QS}{X:dP}(hq:Q .brk fr h):WS G F b fr h (.Break pos) Q X:=
 .mk λown ae A P m s Q' E' R c d=>wpAny_Break (c _ _ _ _ _ _ _ hq .rfl .rfl rfl R)
theorem cont{pos:Pos}{Q:QS}{X:dP}(hq:Q .cont fr h):WS G F b fr h (.Continue pos) Q X:=
 .mk λown ae A P m s Q' E' R c d=>wpAny_Continue (c _ _ _ _ _ _ _ hq .rfl .rfl rfl R)
theorem ret{e:Expr}{pos:Pos}{Q:QS}{X:dP}(w:WE G F b fr h e (λv ag=>Q (.ret v) fr ag) (λx h=>X x fr h)):WS G F b fr h (.Return (aa e) pos) Q X:=
 .mk λown ae A P m s Q' E' R c d=>wpAny_Return_some (w.run own ae A P m s _ _ R (λv ag v' aZ bW bU hq hP hm hv a6=>c _ _ _ _ _ _ _ hq hP hm ⟨_,rfl,hv⟩ a6) d.ka)
theorem Ek{t:Expr}{body eZ:List bx}{pos:Pos}{Q:QS}{X:dP}
  (w:WB G F b fr h t (λc ag=>if c then j6 G F b fr ag body Q X else j6 G F b fr ag eZ Q X) (λx h=>X x fr h)):WS G F b fr h (.If t body eZ pos) Q X:=by
 refine .mk ?_;intro own ae A P m s Q' E' R c d;refine wpAny_If (w.run own ae A P m s _ _ R (λv ag aZ bW bU hq hP hm a6=>?_) d.ka)
 cases v with
 |true=>exact hq.run own ae A bW bU aZ Q' E' a6 (c.mono hP hm) (d.mono hP hm)
 |false=>exact hq.run own ae A bW bU aZ Q' E' a6 (c.mono hP hm) (d.mono hP hm)
noncomputable def SF.put:SF→Str→SV→SF
 |[],x,v=>[(x,v)]
 |(y,u)::r,x,v=>if x=y then(y,v)::r else(y,u)::SF.put r x v
theorem gj(fr:SF)(x:Str)(v:SV)(y:Str):(fr.put x v).lookup y=if y=x then aa v else fr.lookup y:=by
 induction fr with
 |nil=>exact if e:y=x then(i8 (p:=(x,v)) e).trans (aP e).symm else(gW (p:=(x,v)) e).trans (aK e).symm
 |cons p r ih=>
  by_cases h:x=p.1
  ·rw[show SF.put (p::r) x v=(p.1,v)::r from aP h]
   exact if e:y=x then(i8 (p:=(p.1,v)) (e.trans h)).trans (aP e).symm else(gW (p:=(p.1,v)) λz=>e (z.trans h.symm)).trans ((gW λz=>e (z.trans h.symm)).symm.trans (aK e).symm)
  ·rw[show SF.put (p::r) x v=p::SF.put r x v from aK h]
   exact if e:y=p.1 then(i8 e).trans ((i8 e).symm.trans (aK λz=>h (z.symm.trans e)).symm) else(gW e).trans (ih.trans ((gW (p:=p) (r:=r) e)▸rfl))
noncomputable def qv(F:FD)(x:Str):Bool:=match F.sc.names.lookup x with
 |some .local=>ab
 |some .cell=>F.st.contains x
 |_=>an
abbrev QF:=SF→SH→Prop
theorem UF{hp:cO}{a c:au}{mm:Str→Option Value}{v:Option Value}(hn:hp.Ns a mm)(hc:hp.IsCell c v):c≠a:=λq=>
 hn.elim λo h=>h.elim λes h=>h.elim λep h=>aj hc λo' z3 z4=>nomatch (h.2.1.symm.trans (aY (h.1.symm.trans (q▸z3))▸z4):Data.dict es ep=.cell v)
theorem Bq{x:Str}{v:SV}{v':Value}{Q':Unit→ak→Prop}{E':Value→ak→Prop}(R:Rel G F b own ae A P m fr h s)(hv:VR P m v v')(hx:qv F x=ab)
  (c:∀s',Rel G F b own ae A P m (fr.put x v) h s'→Q' () s'):aw (aR G.prog G.w) A (storeName ae x v') Q' E' s:=by
 have qU:ae.scope.kind=.function:=R.f.sc▸R.f.kind;have put:∀{y u},(fr.put x v).lookup y=aa u→(y=x∧v=u)∨(y≠x∧fr.lookup y=aa u):=λ{y u} hy=>
  have hy:=(gj fr x v y).symm.trans hy
  if e:y=x then .inl ⟨e,aY ((aP e).symm.trans hy)⟩ else .inr ⟨e,(aK e).symm.trans hy⟩
 unfold qv at hx
 cases hl:F.sc.names.lookup x with
 |none=>rw[hl] at hx;exact cJ hx
 |some k=>
  rw[hl] at hx;have jZ:ae.kindOf x=aa k:=(ay (λsc:cb=>sc.names.lookup x) R.f.sc).trans hl
  cases k with
  |«local»=>
   refine aj R.f.ns λmm q1 q2=>wpAny_storeName_local jZ q1 (λhh hn hs=>c _ ((R.tok (s.toks+1)).Om (s':={s with heap:=hh,toks:=s.toks+1}) R.f.rY hs (hn.elim λo h=>h.elim λes h=>h.elim λep h=>⟨o,h.1,λvs e=>nomatch (h.2.1.symm.trans e)⟩) rfl rfl ?_)) (qU▸rfl);have keep:∀{c w},c≠ae.locals→s.heap.IsCell c w→hh.IsCell c w:=λhc e=>e.sameBut hs hc;refine⟨R.f.sc,R.f.kind,R.f.glob,R.f.blt,R.f.rY,⟨_,hn,λy u hy jj=>(put hy).elim (λe=>⟨v',aP e.1,e.2▸hv⟩) λe=>aj (q2 y u e.2 jj) λw a b=>⟨w,(aK e.1).trans a,b⟩⟩,
    λy u hy jj=>(put hy).elim (λe=>?_) λe=>bP (R.f.mB y u e.2 jj) λce w p1 p2 p3=>⟨ce,w,p1,p2,p3.imp (λp=>⟨p.1,p.2.1,keep p.2.1 p.2.2⟩) id⟩,
    λy jj=>aj (R.f.rx y jj) λce e1 e2=>⟨ce,e1,e2.imp (λp=>xE p.2 λw hw=>⟨p.1,w,keep (UF q1 hw) hw⟩) id⟩,
    λy hy=>vc (R.f.sX y hy) λp0 ce w p1 p2 p3 p4=>⟨p0,ce,w,p1,p2,p3,keep p3 p4⟩,R.f.apart,λa ha=>?_⟩
   ·exact jj.elim (λq=>nomatch (hl.symm.trans (e.1▸q):aa NameKind.local=aa .cell)) λq=>nomatch (hl.symm.trans (e.1▸q):aa NameKind.local=aa .free)
   ·exact if e:a=ae.locals then hn.elim λo h=>h.elim λes h=>h.elim λep h=>⟨o,e▸h.1,xR h.2.1⟩ else aj (R.f.mP a ha) λo e1 e2=>⟨o,(hs.2 a e).trans e1,e2⟩
  |cell=>
   have kX:x∈F.st:=e9.mp hx;refine vc (R.f.sX x kX) λ_ ce w p1 p2 p3 p4=>wpAny_storeName_cell qU jZ p1 p4 λhh hn hs=>c _ (R.Om (s':={s with heap:=hh}) p2 hs (aj hn λo e1 e2=>⟨o,e1,λvs e=>nomatch (e2.symm.trans e)⟩) rfl rfl ?_);have keep:∀{c w},c≠ce→s.heap.IsCell c w→hh.IsCell c w:=λhc e=>e.sameBut hs hc;have OQ:∀{y sQ},y≠x→ae.cells.lookup y=aa sQ→sQ≠ce:=λ{y sQ} e r1 q=>e (R.f.apart x y ce kX p1 (q▸r1)).symm;refine⟨R.f.sc,R.f.kind,R.f.glob,R.f.blt,R.f.rY,aj R.f.ns λmm q1 q2=>⟨mm,q1.sameBut hs p3.symm,λy u hy jj=>(put hy).elim (λe=>?_) λe=>q2 y u e.2 jj⟩,
    λy u hy jj=>(put hy).elim (λe=>⟨ce,v',e.1▸p1,e.2▸hv,.inl ⟨p2,p3,hn⟩⟩) λe=>bP (R.f.mB y u e.2 jj) λsQ w' r1 r2 r3=>⟨sQ,w',r1,r2,r3.imp (λr=>⟨r.1,r.2.1,keep (OQ e.1 r1) r.2.2⟩) id⟩,
    λy jj=>aj (R.f.rx y jj) λc' e1 e2=>⟨c',e1,e2.imp (λp=>xE p.2 λw hw=>if q:c'=ce then⟨p.1,_,q▸hn⟩ else⟨p.1,w,keep q hw⟩) id⟩,
    λy hy=>vc (R.f.sX y hy) λr0 sQ w' r1 r2 r3 r4=>if e:y=x then⟨r0,ce,aa v',e▸p1,p2,p3,hn⟩ else⟨r0,sQ,w',r1,r2,r3,keep (OQ e r1) r4⟩,R.f.apart,λa ha=>?_⟩
   ·exact nomatch (hl.symm.trans (e.1▸jj):aa agb=aa .local)
   ·exact if e:a=ce then aj hn λo e1 e2=>⟨o,e▸e1,CT e2⟩ else aj (R.f.mP a ha) λo e1 e2=>⟨o,(hs.2 a e).trans e1,e2⟩
  |_=>exact cJ hx
def WAb(G:Gl)(F:FD)(b:Nat)(fr:SF)(h:SH)(t:Expr)(v:SV)(Q:QF)(X:dP):Prop:=
 ∀own ae A P m s (Q':Unit→ak→Prop) (E':Value→ak→Prop) v',Rel G F b own ae A P m fr h s→VR P m v v'→
  (∀fr' h' s' P' m',Q fr' h'→P.le P'→m.le m'→Rel G F b own ae A P' m' fr' h' s'→Q' () s')→pY G F b own ae A P m X E'→
  aw (aR G.prog G.w) A (pq t ae v') Q' E' s
abbrev WA(G:Gl)(F:FD)(b:Nat)(fr:SF)(h:SH)(t:Expr)(v:SV)(Q:QF)(X:dP):Prop:=Bx (WAb G F b fr h t v Q X)
theorem Ov{x:Str}{pos:Pos}{v:SV}{Q:QF}{X:dP}(hx:qv F x=ab)(hq:Q (fr.put x v) h):WA G F b fr h (.Name x pos) v Q X:=
 .mk λown ae A P m s Q' E' v' R hv c d=>wpAny_assign_Name (Bq R hv hx λs' R'=>c _ _ _ _ _ hq .rfl .rfl R')
theorem JX{o:Expr}{a:Str}{pos:Pos}{v:SV}{Q:QF}{X:dP}
  (w:WE G F b fr h o (λu ag=>WO G F b fr ag [u,v] (bv λx y=>do Dq x a y;pure .none) (λ_ aC=>Q fr aC) (λx h=>X x fr h)) (λx h=>X x fr h)):WA G F b fr h (.Attribute o a pos) v Q X:=by
 refine .mk ?_;intro own ae A P m s Q' E' v' R hv c d;rw[assign_Attribute];refine wb (dM (w.run own ae A P m s _ _ R (λu ag u' aZ bW bU hq hP hm hu a6=>?_) d.ka));refine wb (jJ ?_);have:=hq.run own ae A bW bU aZ (λ_ s'=>Q' () s') E' [u',v'] a6 ⟨_,_,rfl,hu,_,_,rfl,hv.mono hP.t hm,rfl⟩
  (λ_ aC _ bz cD cu q a b _ bk=>c _ _ _ _ _ q (hP.trans a) (hm.trans b) bk) (d.ka.mono hP hm)
 exact wb (dM (ox (Hg this) (λ_ _ x=>PX x) λ_ _ x=>x))
theorem abu(o i:Expr)(pos:Pos)(ae:Env)(v:Value):∃rl:Value→Value→List Value,pq (.Subscript o i pos) ae v=(do
  let ov ←ju [v] (d9 o ae)
  let iv ←ju [v,ov] (d9 i ae)
  kh pos
  ju [v,ov,iv] (ux ov iv v)
  release (rl ov iv) []):=⟨λ_ _=>_,rfl⟩
theorem FL{o i:Expr}{pos:Pos}{v:SV}{Q:QF}{X:dP}
  (w:WE G F b fr h o (λu ag=>WE G F b fr ag i (λk aC=>WO G F b fr aC [u,k,v] (GH λx y z=>do ux x y z;pure .none) (λ_ cL=>Q fr cL) (λx h=>X x fr h)) (λx h=>X x fr h)) (λx h=>X x fr h)):
  WA G F b fr h (.Subscript o i pos) v Q X:=by
 refine .mk ?_;intro own ae A P m s Q' E' v' R hv c d;refine xE (abu o i pos ae v') λrl e=>?_;rw[e];refine wb (dM (w.run own ae A P m s _ _ R (λu ag u' aZ bW bU hq hP hm hu a6=>?_) d.ka));refine wb (dM (hq.run own ae A bW bU aZ _ _ a6 (λk aC k' bz cD cu gS cQ cM hk bk=>?_) (d.ka.mono hP hm)));refine wb (jJ ?_);have:=gS.run own ae A cD cu bz (λ_ s'=>Q' () s') E' [u',k',v'] bk ⟨_,_,rfl,hu.mono cQ.t cM,_,_,rfl,hk,_,_,rfl,hv.mono (hP.trans cQ).t (hm.trans cM),rfl⟩
  (λ_ aC _ bz cD cu q a b _ bk=>c _ _ _ _ _ q ((hP.trans cQ).trans a) ((hm.trans cM).trans b) bk) (d.ka.mono (hP.trans cQ) (hm.trans cM))
 exact wb (dM (ox (Hg this) (λ_ _ x=>PX x) λ_ _ x=>x))
def Bd(G:Gl)(F:FD)(b:Nat)(fr:SF)(h:SH)(ts:List Expr)(vs:List SV)(Q:QF)(X:dP):Prop:=
 match ts,vs with
 |[],[]=>Q fr h
 |t::ts,v::vs=>WA G F b fr h t v (λfr' h'=>Bd G F b fr' h' ts vs Q X) X
 |_,_=>False
theorem W3(t:Expr)(ts:List Expr)(ae:Env):(qJ (t::ts) ae).tail=qJ ts ae:=by
 refine @wU (λt=>(qJ (t::ts) ae).tail=qJ ts ae) t ?_ ?_ ?_ ?_ ?_ ?_ ?_ ?_ ?_ ?_ ?_ ?_ ?_ ?_ ?_ ?_ ?_ ?_ ?_ ?_ ?_ ?_ ?_ ?_ ?_ ?_ ?_<;>(intros;rfl)
theorem ac1{ts:List Expr}{X:dP}{Q:QF}{Q':Unit→ak→Prop}{E':Value→ak→Prop}(ht:∀ae,(qJ ts ae)=ts.map λt=>(an,pq t ae)):
  ∀{vs:List SV} {a5:List Value} {fr:SF} {h:SH} {P:aV} {m:Mu} {s:ak},Bd G F b fr h ts vs Q X→Rel G F b own ae A P m fr h s→aO P m vs a5→
  (∀fr' h' s' P' m',Q fr' h'→P.le P'→m.le m'→Rel G F b own ae A P' m' fr' h' s'→Q' () s')→pY G F b own ae A P m X E'→aw (aR G.prog G.w) A (assignInOrder (ts.map λt=>pq t ae) a5) Q' E' s:=by
 induction ts with
 |nil=>
  intro vs a5 fr h P m s w R hv c d
  cases vs with
  |nil=>exact hv▸agc (c _ _ _ _ _ w .rfl .rfl R)
  |cons v vs=>exact w.elim
 |cons t ts ih=>
  intro vs a5 fr h P m s w R hv c d
  cases vs with
  |nil=>exact w.elim
  |cons v vs=>
   refine bP hv λx r e h1 h2=>e▸PY ((show WA G F b fr h t v (λfr' h'=>Bd G F b fr' h' ts vs Q X) X from w).run own ae A P m s _ _ x R h1 (λbw ag aZ bW bU hq hP hm a6=>?_) d);exact ih (λae=>(W3 t ts ae).symm.trans (ay List.tail (ht ae))) hq a6 (aO.mono hP.t hm _ h2) (λfr' h' s' P' m' q a b=>c fr' h' s' P' m' q (hP.trans a) (hm.trans b)) (d.mono hP hm)
theorem EE{ts:List Expr}{k:Nat}{pos:Pos}{vs:List SV}{Q:QF}{X:dP}(hq:F.q=ab)(ht:∀ae,(qJ ts ae)=ts.map λt=>(an,pq t ae))(hl:ts.length=vs.length)
  (w:Bd G F b fr h ts vs Q X):WA G F b fr h (.Tuple ts k pos) (.tup vs) Q X:=by
 refine .mk λown ae A P m s Q' E' v' R hv c d=>oY hv λa o items n ev hh=>mz hh λhp h1 h2 h3=>bG (R.rP hp) λo' e1 e2 e3=>ev▸?_;refine wpAny_assign_Tuple (R.quiet hq) ⟨o',e1,e2.trans h1,n,e3.trans h2⟩ ?_ ?_ (λhh he=>?_)
 ·rw[ht ae,aI _,hl,h3.length];exact fQ
 ·rw[ht ae];exact List.findIdx?_eq_none_iff.mpr λx hx=>aj (bB.mp hx) λt _ e=>e▸rfl
 ·rw[ht ae,pi]
  exact ac1 ht w (R.grow (s':={s with heap:=hh}) (λa o e=>he a o (du (jI e)) e) rfl rfl) h3 c d
theorem XN{t e:Expr}{pos:Pos}{Q:QS}{X:dP}(hs:∀ae,Dr [t] e pos.line ae=pure an)(hw:∀ae,wV [t] e ae=pure af)(ha:∀ae,(qJ [t] ae).map (·.2)=[pq t ae])
  (w:WE G F b fr h e (λv ag=>WA G F b fr ag t v (λfr' h'=>Q .next fr' h') X) (λx h=>X x fr h)):WS G F b fr h (.Assign [t] e pos) Q X:=by
 refine .mk ?_;intro own ae A P m s Q' E' R c d;refine agd (w.run own ae A P m s _ _ R (λv ag v' aZ bW bU hq hP hm hv a6=>?_) d.ka) (hs ae) (hw ae);rw[ha ae];exact hq.run own ae A bW bU aZ _ _ v' a6 hv (λfr' h' s' P' m' q a b R'=>c _ _ _ _ _ _ _ q (hP.trans a) (hm.trans b) rfl R') (d.mono hP hm)
theorem afb{x:Str}{p pos:Pos}{op:wS}{e:Expr}{v:SV}{Q:QS}{X:dP}(hx:fr.lookup x=aa v)(hk:tf F x=ab)(hs:qv F x=ab)(hd:(x==("__debug__":Str))=an)
  (w:WE G F b fr h e (λu ag=>WO G F b fr ag [v,u] (bv (sC op)) (λr aC=>Q .next (fr.put x r) aC) (λx h=>X x fr h)) (λx h=>X x fr h)):WS G F b fr h (.AugAssign (.Name x p) op e pos) Q X:=by
 refine .mk ?_;intro own ae A P m s Q' E' R c d;refine wpAny_AugAssign_Name (Kr R hx hk λv' hv=>?_);refine w.run own ae A P m s _ _ R (λu aC u' bz cD cu gS cQ cM hu bk=>?_) d.ka;refine gS.run own ae A cD cu bz _ _ [v',u'] bk ⟨_,_,rfl,hv.mono cQ.t cM,_,_,rfl,hu,rfl⟩ (λr cL r' ey ly np sj fZ ir hr cW=>?_) (d.ka.mono cQ cM);exact Bq cW hr hs λs' R'=>c _ _ _ _ _ _ _ sj (cQ.trans fZ) (cM.trans ir) rfl R'
theorem gb.find{P:aV}{m:Mu}{x:Str}{fs:List (Str×SV)}:∀{es:List dL},gb P m fs es→
  es.any (·.refKey)=an∧(∀v,fs.lookup x=aa v→∃e,es.find? (·.key.isStr x)=aa e∧VR P m v e.val)∧(fs.lookup x=af→es.find? (·.key.isStr x)=af):=by
 induction fs with
 |nil=>exact λh=>(h:_=[])▸⟨rfl,λ_ e=>a7 e,λ_=>rfl⟩
 |cons p fs ih=>
  intro es h;refine gK h λe r z h2 h3 h4=>h2.elim λt h2=>?_;subst z;have i:=ih h4;have ek:e.key.isStr x=(p.1==x):=ay (·.isStr x) h2;have ne:x≠p.1→¬e.key.isStr x=ab:=λq z=>q (eq_of_beq (ek.symm.trans z)).symm;have er:e.refKey=an:=by unfold age;rw[h2]
  exact⟨PZ.trans ((ay (· ||_) er).trans i.1),λv ev=>if q:x=p.1 then⟨e,List.find?_cons_of_pos (ek.trans (eX.mpr q.symm)),aY ((i8 q).symm.trans ev)▸h3⟩ else aj (i.2.1 v ((gW q).symm.trans ev)) λe' a b=>⟨e',(agf (p:=λd:dL=>d.key.isStr x) (ne q)).trans a,b⟩,
   λev=>if q:x=p.1 then fu ((i8 q).symm.trans ev) else(agf (p:=λd:dL=>d.key.isStr x) (ne q)).trans (i.2.2 ((gW q).symm.trans ev))⟩
theorem gb.aak{P:aV}{m:Mu}{x:Str}{fs:List (Str×SV)}{es:List dL}{v:SV}(h:gb P m fs es)(e:fs.lookup x=aa v):∃v',getL x es=aa (aa v')∧VR P m v v':=aj (h.find.2.1 v e) λen a b=>⟨en.val,by unfold getL;rw[a],b⟩
theorem gb.J_{P:aV}{m:Mu}{x:Str}{fs:List (Str×SV)}{es:List dL}(h:gb P m fs es)(e:fs.lookup x=af):getL x es=aa af:=by unfold getL;rw[h.find.2.2 e,(h.find (x:=x)).1];rfl
theorem gb.put{P:aV}{m:Mu}{x:Str}{v:SV}{v':Value}(hv:VR P m v v')(rf:Int)(t:Tok){fs:List (Str×SV)}:∀{es:List dL},gb P m fs es→
  gb P m (SF.put fs x v) (putL x rf (.str x t) v' es):=by
 induction fs with
 |nil=>exact λh=>(h:_=[])▸⟨_,_,rfl,⟨_,rfl⟩,hv,rfl⟩
 |cons p fs ih=>
  intro es h;refine gK h λe r z h2 h3 h4=>h2.elim λk h2=>?_;subst z;have ek:e.key.isStr x=(p.1==x):=ay (·.isStr x) h2;show gb P m (if x=p.1 then(p.1,v)::fs else p::SF.put fs x v) (if e.key.isStr x=ab then⟨e.hash,e.key,v'⟩::r else e::putL x rf (.str x t) v' r);exact if q:x=p.1 then(aP q).symm▸nK (P:=λl:List dL=>gb P m ((p.1,v)::fs) l) (ek.trans (eX.mpr q.symm)) ⟨_,_,rfl,⟨k,h2⟩,hv,h4⟩
   else(aK q).symm▸nJ (P:=λl:List dL=>gb P m (p::SF.put fs x v) l) (λz=>q (eq_of_beq (ek.symm.trans z)).symm) ⟨_,_,rfl,⟨k,h2⟩,h3,ih h4⟩
theorem gb.length{P:aV}{m:Mu}{fs:List (Str×SV)}:∀{es:List dL},gb P m fs es→es.length=fs.length:=by
 induction fs with
 |nil=>exact λh=>ay oq (h:_=[])
 |cons p fs ih=>exact λh=>gK h λe r z _ _ h4=>z▸ay (· +1) (ih h4)
theorem Rel.f7(R:Rel G F b own ae A P m fr h s):G.K.In s.heap:=λa o e=>R.bs a o (G.f7 a o e)
theorem Rel.Ro(R:Rel G F b own ae A P m fr h s){n:Nm}{C:au}{fs:SF}(hn:h n=aa (.inst C fs)):
  ∃ad xs k,m n=aa ad∧ad.2≠ad.1∧s.heap.get? ad.1=aa (wv C ad.2)∧s.heap.get? ad.2=aa (qI xs k)∧gb P m fs xs∧InstAt s.heap ad.1 (wv C ad.2) C (aa (qI xs k)):=by
 obtain⟨ad,q1,q2,q3,xs,k,q4,q5⟩:=R.obj n _ hn;exact⟨ad,xs,k,q1,q2,q3,q4,q5,⟨q3,rfl,rfl,by show s.heap.get? ad.2=_;exact q4⟩⟩
@[elab_as_elim] theorem Rel.wi(R:Rel G F b own ae A P m fr h s){n:Nm}{C:au}{fs:SF}(hn:h n=aa (.inst C fs)){motive:Value→Prop}{v':Value}(hv:VR P m (.ref n) v')
  (k:∀(ad:au×au) xs kk,m n=aa ad→ad.2≠ad.1→s.heap.get? ad.1=aa (wv C ad.2)→s.heap.get? ad.2=aa (qI xs kk)→gb P m fs xs→InstAt s.heap ad.1 (wv C ad.2) C (aa (qI xs kk))→motive (.ref ad.1)):motive v':=by
 refine uN hv λad h1=>?_;obtain⟨bT,xs,kk,q1,q2,q3,q4,q5,I⟩:=R.Ro hn;obtain rfl:bT=ad:=aY (q1.symm.trans h1);exact k _ _ _ q1 q2 q3 q4 q5 I
theorem VR.handed{v:SV}{v':Value}(hv:VR P m v v')(hb:∀id,v≠.bi id):handedIn v'=ab:=by
 cases v with
 |none=>obtain rfl:=hv;rfl
 |bool c=>obtain rfl:=hv;rfl
 |int i=>refine xE hv λt br=>?_;clear hv;subst br;rfl
 |str i=>refine xE hv λt br=>?_;clear hv;subst br;rfl
 |tup vs=>refine oY hv λa o items n j8 _=>?_;clear hv;subst j8;rfl
 |ref n=>refine aj hv λad _ ax=>?_;clear hv;subst ax;rfl
 |range a c=>refine oY hv λr t u w j8 _=>?_;clear hv;subst j8;rfl
 |glob a=>obtain rfl:=hv;rfl
 |bi id=>exact bc rfl (hb id)
 |ty n=>obtain rfl:=hv;rfl
theorem ab1{n:Nm}{C:au}{fs:SF}{a:Str}{v:SV}{Q:QV}{X:QX}(hn:h n=aa (.inst C fs))(hg:zM G.K C a=ab)(hd:Ds G.K C=ab){Bi:Option Value}(ha:ie G.K (.ref C) a=aa Bi)(qn:noGet G.K Bi=ab)
  (hf:fs.lookup a=aa v) (hb:∀id,v≠.bi id) (hq:Q v h):WO G F b fr h [.ref n] (mr λx=>m8 x a ab) Q X:=by
 refine .mk ?_;intro own ae A P m s Q' E' a5 R hv c d;refine jx hv λzx zA=>?_;refine R.wi hn zA λbT xs k h1 q2 q3 q4 q5 I=>?_;exact aj (q5.aak hf) λv' g1 g2=>get_value R.f7 I (HL hg).1 (findObj_own hd ha qn g1) (g2.handed hb) (c _ _ _ _ _ _ hq .rfl .rfl g2 (R.tok _))
theorem XK{n:Nm}{C:au}{fs:SF}{a:Str}{v':Value}{v:SV}{Q:QV}{X:QX}(hn:h n=aa (.inst C fs))(hg:zM G.K C a=ab)(hd:Ds G.K C=ab)(ha:ie G.K (.ref C) a=aa (aa v'))
  (qn:specialIn G.K v' "__get__"=aa af) (hh:handedIn v'=ab) (hc:copiedNames.contains a=an) (hf:fs.lookup a=af) (fB:∀P m,VR P m v v') (hq:Q v h):WO G F b fr h [.ref n] (mr λx=>m8 x a ab) Q X:=by
 refine .mk ?_;intro own ae A P m s Q' E' a5 R hv c d;refine jx hv λzx zA=>?_;refine R.wi hn zA λbT xs k h1 q2 q3 q4 q5 I=>?_;exact get_value R.f7 I (HL hg).1 (findObj_cls hd ha qn hh hc (q5.J_ hf)) hh (c _ _ _ _ _ _ hq .rfl .rfl (fB _ _) (R.tok _))
theorem Vl(e:Expr)(a:Str)(pos:Pos)(ae:Env)(hb:uy e a ae (d9 e ae)=d9 e ae):d9 (.Attribute e a pos) ae=(do
  let o ←d9 e ae
  kh pos.atName
  let r ←ju [o] (m8 o a ab)
  P0 e o r
  pure r):=by
 have:d9 (.Attribute e a pos) ae=(do
  let o ←uy e a ae (d9 e ae)
  kh pos.atName
  let r ←ju [o] (m8 o a ab)
  P0 e o r
  pure r):=rfl
 rw[this,hb]
theorem Bi{e:Expr}{a:Str}{pos:Pos}{Q:QV}{X:QX}(hb:∀ae w,uy e a ae w=w)
  (w:WE G F b fr h e (λv ag=>WO G F b fr ag [v] (mr λx=>m8 x a ab) Q X) X):WE G F b fr h (.Attribute e a pos) Q X:=by
 refine .mk ?_;intro own ae A P m s Q' E' R c d;rw[Vl e a pos ae (hb _ _)];refine wb (w.run own ae A P m s _ _ R (λv ag v' aZ bW bU hq hP hm hv a6=>?_) d);refine wb (jJ (wb (dM ?_)));exact hq.run own ae A bW bU aZ _ _ [v'] a6 (aO.one hv) (λr aC r' bz cD cu q a b hr bk=>wb (P4 (aD (c _ _ _ _ _ _ q (hP.trans a) (hm.trans b) hr bk)))) (d.mono hP hm)
theorem Th(name:Str)(rf:Int)(key v:Value)(es:List dL):(putL name rf key v es).length≤es.length+1:=by
 induction es with
 |nil=>exact ar _
 |cons e r ih=>exact B3 (P:=λl:List dL=>l.length≤r.length+1+1) (λ_=>bR _) λ_=>eG ih
theorem aew{x C dx:au}{name:Str}{tk:Tok}{v:Value}{es:List dL}{n:Nat}{r:wW→ak→Prop}(K:G.K.In s.heap)
  (I:InstAt s.heap x (wv C dx) C (aa (qI es n))) (hp:HM G.K C=ab) (ht:takerIn G.K C name=aa af) (hh:(clsIn G.K C).any (·.hasDict)=ab)
  (hl:es.any (·.refKey)=an) (hz:es.length≤1000)
  (k:r (.ok (.ret .none)) {s with heap:=s.heap.update dx (P5 name (P6 G.w.params name) (.str name s.toks) v),toks:=s.toks+1}):
  ki (aR G.prog G.w) A (.call (.builtin "object.__setattr__") ⟨[.ref x,.str name tk,v],[]⟩) r s:=by
 refine osa_open K I hp ht λbb=>?_;refine aj (any_some hh) λcd hc vP=>?_;have D:s.heap.get? dx=aa (qI es n):=I.dict;refine wb (aD (wb (wb (wpAny_loadPart I.at_ (wb ((looks_clsIn K hc).here ?_))))));rw[vP];refine aD (a:=aa dx) (wb (aD (wb ?_)));unfold nsSet;refine wb (wb (zN (aD (wb (wpAny_mkText (wb (wpAny_loadPart D ?_)))))));dsimp only;have cc:(!(es.toArray).any (·.key.isStr name) && (es.toArray).any (·.refKey))=an:=by
  rw[←agg (p:=age),hl,Bool.and_false _]
 rw[aRefKeyMayBeTheName_at _ _,cc];refine wpAny_updatePart D ?_;have D':∀rf,(s.heap.update dx (P5 name rf (.str name s.toks) v)).get? dx=aa (qI (putL name rf (.str name s.toks) v es) (putN name es n)):=λrf=>by
  rw[←HN];exact lf _ D (by rw[HN];rfl)
 refine wb (wpAny_lookBehind (D' _) (pastItsLine_dict ?_) (aD k));rw[agh,sizeLine_eq];exact ah (Th _ _ _ _ es) (ah (eG hz) aJ)
theorem Yc{n:Nm}{C:au}{fs:SF}{a:Str}{v:SV}{Q:QV}{X:QX}(hn:h n=aa (.inst C fs))(hs:ie G.K (.ref C) "__setattr__"=aa (aa (.builtin "object.__setattr__")))(hp:HM G.K C=ab)
  (ht:takerIn G.K C a=aa af) (hd:Ds G.K C=ab) (hz:fs.length≤1000) (hq:Q .none (h.set n (.inst C (fs.put a v)))):
  WO G F b fr h [.ref n,v] (bv λx y=>do Dq x a y;pure .none) Q X:=by
 refine .mk ?_;intro own ae A P m s Q' E' a5 R hv c d;refine gu hv λzx v' zA fB=>?_;refine R.wi hn zA λbT xs k h1 q2 q3 q4 q5 I=>?_;refine wb (set_plain R.f7 I hs (aew (s:={s with toks:=s.toks+1}) R.f7 I hp ht hd (q5.find (x:=a)).1 (q5.length.symm▸hz) ?_));have q6:(s.heap.update bT.2 (P5 a (P6 G.w.params a) (.str a (s.toks+1)) v')).get? bT.2=aa (qI (putL a (P6 G.w.params a) (.str a (s.toks+1)) v' xs) (putN a xs k)):=by
  rw[←HN];exact lf _ q4 (by rw[HN];rfl)
 refine aD (c _ _ _ _ _ _ hq .rfl .rfl rfl ?_);refine R.turn hn h1 (λx o n1 n2 e=>?_) rfl rfl ⟨q2,?_,_,_,q6,gb.put fB _ _ q5⟩
 ·show(s.heap.update bT.2 _).get? x=_
  rw[zO _ _ (Ne.symm n2)];exact e
 ·show(s.heap.update bT.2 _).get? bT.1=_
  rw[zO _ _ q2];exact q3
def Wa(G:Gl)(F:FD)(b:Nat)(fr:SF)(h:SH)(f:SV)(vs:List SV)(Q:QV)(X:QX):Prop:=
 ∀own ae A P m s (Q':Value→ak→Prop) (E':Value→ak→Prop) f' a5,Rel G F b own ae A P m fr h s→VR P m f f'→aO P m vs a5→
  lI G F b fr own ae A P m Q Q'→gT G F b own ae A P m fr X E'→aw (aR G.prog G.w) A (call f' a5) Q' E' s
abbrev WC(G:Gl)(F:FD)(b:Nat)(fr:SF)(h:SH)(f:SV)(vs:List SV)(Q:QV)(X:QX):Prop:=Bx (Wa G F b fr h f vs Q X)
theorem jO{G:Gl}{F:FD}{b:Nat}{fr:SF}{h:SH}{x:String}{vs:List SV}{Q:QV}{X:QX}(k:∀own ae A P m s (Q':Value→ak→Prop) (E':Value→ak→Prop) a5,Rel G F b own ae A P m fr h s→aO P m vs a5→lI G F b fr own ae A P m Q Q'→gT G F b own ae A P m fr X E'→aw (aR G.prog G.w) A (call (.builtin x) a5) Q' E' s):WC G F b fr h (.bi x) vs Q X:=
 .mk λown ae A P m s Q' E' f' a5 R hf hv c d=>(hf:f'=_)▸k own ae A P m s Q' E' a5 R hv c d
theorem jP{G:Gl}{F:FD}{b:Nat}{fr:SF}{h:SH}{x:String}{vs:List SV}{Q:QV}{X:QX}(k:∀own ae A P m s (Q':Value→ak→Prop) (E':Value→ak→Prop) a5,Rel G F b own ae A P m fr h s→aO P m vs a5→lI G F b fr own ae A P m Q Q'→gT G F b own ae A P m fr X E'→aw (aR G.prog G.w) A (call (.type x) a5) Q' E' s):WC G F b fr h (.ty x) vs Q X:=
 .mk λown ae A P m s Q' E' f' a5 R hf hv c d=>(hf:f'=_)▸k own ae A P m s Q' E' a5 R hv c d
noncomputable def callable(G:Gl):SV→Bool
 |.glob a=>keepIn G.K (.ref a)
 |.bi _=>ab
 |.ty _=>ab
 |_=>an
theorem Kg{f:SV}{f':Value}(hf:callable G f=ab)(hv:VR P m f f')(hp:cO)(K:G.K.In hp):∃k,(k=Keeper.frame∨k=Keeper.machine∨k=Keeper.boundFrame)∧Looks (aR G.prog G.w) hp (keeperOf f') k:=by
 cases f with
 |glob a=>obtain rfl:=hv;exact keeps_K (f:=.ref a) hf hp K
 |bi id=>obtain rfl:=hv;exact(aU .machine (.inr (.inl rfl)) .now)
 |ty id=>obtain rfl:=hv;exact(aU .machine (.inr (.inl rfl)) .now)
 |_=>exact cJ hf
theorem I1{M:i2}{E:Value→ak→Prop}{f:Value}{args:List (Bool×Sem Value)}{Q:Args→ak→Prop}(ha:args.any (·.1)=an)
  (w:aw M A (spliced args) (λvs s'=>Q ⟨vs,[]⟩ s') E s):aw M A (evalArgs f ab args []) Q E s:=by
 cases args with
 |nil=>exact λΓ p AF=>PySem.evalArgs_none (w Γ p AF) Γ p AF
 |cons x r=>
  obtain⟨c,t⟩:=x
  cases c with
  |false=>exact Calls.evalArgs_plain w
  |true=>simp at ha
theorem LU{f:SV}{f':Value}{first:List SV}{first':List Value}{args:List Expr}{pos:Pos}{Q:QV}{X:QX}{Q':Value→ak→Prop}{E':Value→ak→Prop}(hf:callable G f=ab)(hs:∀ae,(jv pos (gh args ae)).any (·.1)=an)
  (w:jY G F b fr h args (λvs aC=>WC G F b fr aC f (first++vs) Q X) X) (R:Rel G F b own ae A P m fr h s) (hv:VR P m f f') (Wx:aO P m first first')
  (c:lI G F b fr own ae A P m Q Q') (d:gT G F b own ae A P m fr X E'):
  aw (aR G.prog G.w) A (wX pos f' first' (jv pos (gh args ae)) []) Q' E' s:=by
 refine callWith_of (P:=λhp=>G.K.In hp) (by rw[hs ae];rfl) (λhp K=>Kg hf hv hp K) ?_;have body:=w.run own ae A P m s pos (λvs s'=>G.K.In s'.heap∧aw (aR G.prog G.w) A (call f' (first'++vs) []) Q' E' s') E' R (λvs aC a5 bz cD cu hq hP hm pQ bk=>
  ⟨bk.f7,hq.run own ae A cD cu bz Q' E' f' _ bk (hv.mono hP.t hm) ((aO.mono hP.t hm _ Wx).app pQ) (c.mono hP hm) (d.mono hP hm)⟩) d
 exact I1 (hs ae) body
open Classical in
noncomputable def aV.under(P:aV)(own:List au)(hp:cO):aV:=λx=>if x∈own then hp.get? x else P x
open Classical in
noncomputable def aV.less(P:aV)(own:List au):aV:=λx=>if x∈own then af else P x
variable{F':FD}{b':Nat}{mF:List au}{bY:Env}{A':dZ}{fr':SF}{h':SH}{s':ak}
theorem uO{a:au}(ha:a∈own)(hp:cO):P.under own hp a=hp.get? a:=aP ha
theorem mq{a:au}(ha:a∉own)(hp:cO):P.under own hp a=P a:=aK ha
theorem DQ{a:au}(ha:a∈own):P.less own a=af:=aP ha
theorem nh{a:au}(ha:a∉own):P.less own a=P a:=aK ha
theorem Rel.out(R:Rel G F b own ae A P m fr h s){a:au}{o:Obj}(e:P a=aa o):a∉own:=λha=>fu (e.symm.trans (R.ownP a ha))
theorem Rel.sN(R:Rel G F b own ae A P m fr h s):P.le (P.under own s.heap):=λa o e=>(mq (R.out e) _).trans e
theorem Rel.Nz(R:Rel G F b own ae A P m fr h s){a:au}(e:s.heap.get? a=af):a∉own:=λha=>aj (R.f.mP a ha) λo z _=>fu (z.symm.trans e)
theorem Rel.Rz(R:Rel G F b own ae A P m fr h s){a:au}(e:s.heap.get? a=af):P a=af:=wT.mpr λo q=>xE (R.oV q) λsl z=>fu (z.symm.trans e)
theorem Rel.Ε(R:Rel G F b own ae A P m fr h s){n:Nm}{ad:au×au}(e:m n=aa ad):s.heap.get? ad.1≠af∧s.heap.get? ad.2≠af:=by
 cases hn:h n with
 |none=>exact a7 ((R.dom n hn).symm.trans e)
 |some so=>exact aj (R.obj n so hn) λbT e' oo=>aY (e'.symm.trans e)▸⟨λz=>xE oo.lF λo q=>fu (q.symm.trans z),λz=>xE oo.at2 λo q=>fu (q.symm.trans z)⟩
theorem afm{hp bX:cO}{l:List Env}(eO:List Env)(x:hp.FunFrames bX (eO++l)):hp.FunFrames bX l:=by
 induction eO with
 |nil=>exact x
 |cons e r ih=>exact ih x.2.2
theorem Rel.leave(R:Rel G F b own ae A P m fr h s)(R':Rel G F' b' mF bY A' P' m' fr' h' s')(hP:(P.under own s.heap).le P')(hm:m.le m')
  (hA:∀l l',A.frames=aa l→A'.frames=aa l'→∃eO,l'=eO++l∧∀a∈eO.filterMap (·.frame),a∈mF):
  P.le (P'.less own)∧(P'.fV (P'.less own))∧Rel G F b own ae A (P'.less own) m' fr h' s':=by
 have le:P.le (P'.less own):=λa o e=>(nh (R.out e)).trans (hP a o ((mq (R.out e) _).trans e));have rJ:∀a∈own,∀o,s.heap.get? a=aa o→P' a=aa o:=λa ha o e=>hP a o ((uO ha _).trans e);have fV:P'.fV (P'.less own):=λa o e hd=>(nh λha=>aj (R.f.mP a ha) λo' e1 e2=>e2 (aY (e.symm.trans (rJ a ha o' e1))▸hd)).trans e;have sub:∀{a o},P'.less own a=aa o→P' a=aa o:=λ{a o} e=>if ha:a∈own then a7 ((DQ ha).symm.trans e) else(nh ha).symm.trans e
 have nn:∀{a},P' a=af→P'.less own a=af∧a∉own:=λ{a} ea=>
  have hn:a∉own:=λha=>aj (R.f.mP a ha) λo' e1 _=>fu ((rJ a ha o' e1).symm.trans ea)
  ⟨(nh hn).trans ea,hn⟩
 refine cG le fV ⟨R'.gens,R'.os,R'.bs,λa o e=>le _ _ (R.basePR a o e),jy R.frs λl h1 _ h3 h4 _=>jy R'.frs λl' g1 g2 _ _ g5=>aj (hA l l' h1 g1) λeO z V8=>?_,
  λn so e=>aj (R'.obj n so e) λad q1 q2=>⟨ad,q1,q2.mono fV .rfl (λ_ x=>x) λ_ x=>x⟩,R'.dom,R'.inj,λn ad e=>have q:=R'.sep n ad e;⟨(nn q.1).1,(nn q.2.1).1,(nn q.1).2,(nn q.2.1).2⟩,λa ha=>DQ ha,
  R.f.keep le hm λa ha o e=>xE (R'.oV (rJ a ha o e)) λsl q=>⟨_,q,rfl,rfl⟩,R.depth,R.units,R.guards,R.quiet⟩
 subst z;refine⟨l,h1,afm eO g2,h3,λa ha=>(h4 a ha).imp id λq=>xE q λo q=>⟨o,le _ _ q⟩,λa o e=>aj (g5 a o (sub e)) λsl q1 q2=>⟨sl,q1,λhl=>q2 λjZ=>?_⟩⟩;rw[sD,dw] at jZ;exact jZ.elim (λq=>fu ((sub e).symm.trans (R'.ownP a (V8 a q)))) hl
theorem Rel.enter(R:Rel G F b own ae A P m fr h s)(hk:∀a o,s.heap.get? a=aa o→s'.heap.get? a=aa o)(hg:s'.gens=s.gens)(ho:s'.os=s.os)
  (yE:∀a∈mF,s.heap.get? a=af) (hF:FrR F' mF bY (P.under own s.heap) m fr' s'.heap)
  (hA:∀l,A.frames=aa l→∃eO,A'.frames=aa (eO++l)∧(∃e0 r,eO++l=e0::r∧e0.frame=bY.frame)∧
   ∀e∈eO,e.scope.kind≠.module∧∃L o,e.frame=aa L∧L∈mF∧s'.heap.get? L=aa o∧∀vs,o.data≠.fields vs)
  (hd:A'.depth+b'<HJ) (hu:A'.units+8*b'+8<ez) (hgd:A'.guards=A.guards) (hq:F'.q=ab→A'.handled=af):
  Rel G F' b' mF bY A' (P.under own s.heap) m fr' h s':=by
 have a6:=R.grow hk hg ho;have le:=R.sN;refine⟨a6.gens,a6.os,a6.bs,λa o e=>le _ _ (R.basePR a o e),jy a6.frs λl h1 h2 h3 h4 h5=>bG (hA l h1) λeO p1 p2 p3=>⟨eO++l,p1,?_,p2,λa ha=>?_,λa o e=>?_⟩,
  λn so e=>aj (a6.obj n so e) λad q1 q2=>⟨ad,q1,q2.mono le.t .rfl (λ_ x=>x) λ_ x=>x⟩,R.dom,R.inj,λn ad e=>have q:=R.sep n ad e;have z:=R.Ε e;⟨(mq q.2.2.1 _).trans q.1,(mq q.2.2.2 _).trans q.2.1,λha=>z.1 (yE _ ha),λha=>z.2 (yE _ ha)⟩,
  λa ha=>(mq (R.Nz (yE a ha)) _).trans (R.Rz (yE a ha)),hF,hd,hu,hgd.trans R.guards,hq⟩
 ·clear p1 p2
  induction eO with
  |nil=>exact h2
  |cons e r ih=>exact vc (p3 e (.head _)) λk1 L o k2 k3 k4 k5=>⟨k1,⟨L,o,k2,wT.mpr λo' q=>fu ((R.bs L o' q).symm.trans (yE L k3)),k4,k5⟩,ih λe he=>p3 e (.tail _ he)⟩
 ·rw[sD,dw] at ha
  refine ha.elim (λha=>aj (gQ.mp ha) λe he hf=>vc (p3 e he) λ_ L o k2 k3 _ _=>.inl (aY (k2.symm.trans hf)▸k3)) λha=>.inr ((h4 a ha).elim (λq=>aj (R.f.mP a q) λo z _=>⟨o,(uO q _).trans z⟩) λq=>xE q λo q=>⟨o,le _ _ q⟩)
 ·exact if Mb:a∈own then⟨o.slots,hk _ _ ((uO Mb _).symm.trans e),λ_=>rfl⟩ else aj (h5 a o ((mq Mb _).symm.trans e)) λsl q1 q2=>⟨sl,q1,λhl=>q2 λjZ=>hl (sD▸kj _ jZ)⟩
noncomputable def CF(sc:cb)(ps:List Str):Bool:=
 decide (sc.kind=.function) && (sc.names.all λp=>p.2 !=.free) && !sc.isCoroutine && !sc.isGenerator && decide ((sc.names.map (·.1)).Nodup) && decide (ps.Nodup) &&
 ps.all λx=>match sc.names.lookup x with|some .local=>ab|some .cell=>ab|_=>an
structure Xw(G:Gl)(a:au)(k:Nat)(ps:List Str)(eC:List SV)(body:List bx)(sc:cb)(o:Obj)(fd:HO)(ds:List Value):Prop where
 lk:G.K.lookup a=aa o
 data:o.data=.func fd
 scope:fd.scope=sc
 body:fd.body=.stmts body
 glob:fd.globals=uw
 blt:fd.builtins=zK
 clo:fd.closure=[]
 code:G.base.CodeRec fd.code fd.qualname
 bind:∀S (vals:List Value),vals.length=k→peek G.K S (uz fd ⟨vals,[]⟩)=aa (ps.zip (vals++ds))
 ds:∀(P:aV) (m:Mu),(∀a o,G.base.get? a=aa o→P a=aa o)→aO P m eC ds
structure d0(G:Gl)(a:au)(k:Nat)(ps:List Str)(eC:List SV)(body:List bx)(sc:cb):Prop where
 at_:∃o fd ds,Xw G a k ps eC body sc o fd ds
 ok:CF sc ps=ab
 len:ps.length=k+eC.length
theorem Mh{P:aV}{m:Mu}{ps:List Str}:∀{vs:List SV} {a5:List Value},aO P m vs a5→∀{x:Str} {v:SV},(ps.zip vs).lookup x=aa v→∃v',(ps.zip a5).lookup x=aa v'∧VR P m v v':=by
 induction ps with
 |nil=>exact λ_ _ _ e=>a7 e
 |cons p ps ih=>
  intro vs a5 hv x v e
  cases vs with
  |nil=>exact a7 e
  |cons y vs=>
   refine bP hv λy' r z h1 h2=>z▸?_;rw[List.zip_cons_cons,k_] at e ⊢
   cases q:x==p with
   |true=>rw[q] at e;exact⟨y',rfl,aY e▸h1⟩
   |false=>rw[q] at e;exact ih h2 e
theorem S8{kind:Str→Option lg}{x:Str}{v:Value}(hk:kind x=aa .local){bs:List (Str×Value)}:∀{m:Str→Option Value},(m x=aa v∧x∉bs.map (·.1))∨((bs.map (·.1)).Nodup∧bs.lookup x=aa v)→bindL kind bs m x=aa v:=by
 induction bs with
 |nil=>exact λh=>h.elim (·.1) λh=>a7 h.2
 |cons p r ih=>
  refine λ{m} h=>ih (h.elim (λh=>.inl ⟨?_,λz=>h.2 (.tail _ z)⟩) λh=>?_)
  ·exact if q:kind p.1=aa .local then nK (P:=λf:Str→Option Value=>f x=aa v) q ((aK λe:x=p.1=>h.2 (e▸.head _)).trans h.1) else nJ (P:=λf:Str→Option Value=>f x=aa v) q h.1
  ·have n:=lh.mp h.1
   have e:=h.2;rw[k_] at e
   cases q:x==p.1 with
   |true=>
    rw[q] at e;have z:=eX.mp q;exact .inl ⟨nK (P:=λf:Str→Option Value=>f x=aa v) (z▸hk) ((aP z).trans e),z.symm▸n.1⟩
   |false=>rw[q] at e;exact .inr ⟨n.2,e⟩
theorem S9{kind:Str→Option lg}{x:Str}{v:Value}(hk:kind x≠aa .local){bs:List (Str×Value)}:∀{m:Str→Option Value},(m x=aa v∧x∉bs.map (·.1))∨((bs.map (·.1)).Nodup∧bs.lookup x=aa v)→bindC kind bs m x=aa v:=by
 induction bs with
 |nil=>exact λh=>h.elim (·.1) λh=>a7 h.2
 |cons p r ih=>
  refine λ{m} h=>ih (h.elim (λh=>.inl ⟨?_,λz=>h.2 (.tail _ z)⟩) λh=>?_)
  ·exact if q:kind p.1=aa .local then nK (P:=λf:Str→Option Value=>f x=aa v) q h.1 else nJ (P:=λf:Str→Option Value=>f x=aa v) q ((aK λe:x=p.1=>h.2 (e▸.head _)).trans h.1)
  ·have n:=lh.mp h.1
   have e:=h.2;rw[k_] at e
   cases q:x==p.1 with
   |true=>
    rw[q] at e;have z:=eX.mp q;exact .inl ⟨nJ (P:=λf:Str→Option Value=>f x=aa v) (z▸hk) ((aP z).trans e),z.symm▸n.1⟩
   |false=>rw[q] at e;exact .inr ⟨n.2,e⟩
theorem El{x:Str}{names:List (Str×lg)}:∀{n:Nat} {acc:List (Str×au)},(names.lookup x=aa .cell∨(acc.lookup x).isSome=ab)→((gt n names acc).lookup x).isSome=ab:=by
 induction names with
 |nil=>exact λh=>h.elim (λe=>a7 e) id
 |cons p r ih=>
  intro n acc h;rw[k_] at h;show((if p.2==.cell then gt (n+1) r ((p.1,n)::acc) else gt n r acc).lookup x).isSome=ab
  cases q:x==p.1 with
  |true=>
   rw[q] at h;exact if z:(p.2==.cell)=ab then(aP z).symm▸ih (.inr (by rw[k_,q];rfl)) else(aK z).symm▸ih (.inr (h.elim (λe=>bc (eX.mpr (aY e)) z) id))
  |false=>
   rw[q] at h;exact if z:(p.2==.cell)=ab then(aP z).symm▸ih (h.imp id λe=>by rw[k_,q];exact e) else(aK z).symm▸ih h
theorem HP{α:Type}{p:Str×α}{l:List (Str×α)}(hn:(l.map (·.1)).Nodup)(hm:p∈l):l.lookup p.1=aa p.2:=by
 induction l with
 |nil=>exact cT hm
 |cons q r ih=>
  have n:=lh.mp hn;rw[k_];exact(dE.mp hm).elim (λe=>e▸by rw[qF _]) λhm=>by
   rw[k9.mpr λe:p.1=q.1=>n.1 (bB.mpr ⟨p,hm,e⟩)];exact ih n.2 hm
noncomputable def tM.val:tM→SV
 |.ret v=>v
 |_=>.none
noncomputable def iL(sc:cb):List Str:=(sc.names.filter (·.2==.cell)).map (·.1)
def RB(G:Gl)(F:FD)(b:Nat)(fr:SF)(h:SH)(f:SV)(vs:List SV)(Q:QV):Prop:=
 ∀own ae A P m s (R':wW→ak→Prop) f' a5,Rel G F b own ae A P m fr h s→VR P m f f'→aO P m vs a5→
  (∀v h' v' s' P' m',Q v h'→P.le P'→m.le m'→VR P' m' v v'→Rel G F b own ae A P' m' fr h' s'→R' (.ok (.ret v')) s')→ki (aR G.prog G.w) A (.call f' ⟨a5,[]⟩) R' s
abbrev CC(G:Gl)(F:FD)(b:Nat)(fr:SF)(h:SH)(f:SV)(vs:List SV)(Q:QV):Prop:=Bx (RB G F b fr h f vs Q)
theorem aby{f:SV}{vs:List SV}{Q:QV}{X:QX}(w:CC G F b fr h f vs Q):WC G F b fr h f vs Q X:=
 .mk λown ae A P m s Q' E' f' a5 R hf hv c d=>P7 (w.run own ae A P m s _ f' a5 R hf hv λv h' v' s' P' m'=>c v h' v' s' P' m')
structure BF(sc:cb)(ps:List Str):Prop where
 fn:sc.kind=.function
 Vn:∀p∈sc.names,p.2≠.free
 co:sc.isCoroutine=an
 gen:sc.isGenerator=an
 nd:(sc.names.map (·.1)).Nodup
 U1:ps.Nodup
 kinds:∀x∈ps,sc.names.lookup x=aa .local∨sc.names.lookup x=aa .cell
theorem BF.of{sc:cb}{ps:List Str}(ok:CF sc ps=ab):BF sc ps:=by
 have q1:=(bO _ _).mp ok;have q2:=(bO _ _).mp q1.1;have q3:=(bO _ _).mp q2.1;have q4:=(bO _ _).mp q3.1;have q5:=(bO _ _).mp q4.1;have q6:=(bO _ _).mp q5.1;have nt:∀{c:Bool},(!c)=ab→c=an:=λ{c} h=>by cases c with|true=>exact cJ h|false=>rfl
 refine⟨fC q6.1,λp hp=>bne_iff_ne.mp (dc.mp q6.2 p hp),nt q5.2,nt q4.2,fC q3.2,fC q2.2,λx hx=>?_⟩;have:=dc.mp q1.2 x hx
 cases q:sc.names.lookup x with
 |none=>rw[q] at this;exact cJ this
 |some k=>rw[q] at this;cases k<;>first|exact .inl rfl|exact .inr rfl|exact cJ this
theorem Na{sc:cb}{y:Str}(hc:sc.names.lookup y=aa .cell):y∈iL sc:=bB.mpr ⟨(y,.cell),m9.mpr ⟨m_ hc,rfl⟩,rfl⟩
theorem T9{sc:cb}{ps:List Str}{q:Bool}{vs:List SV}{a5:List Value}{dI:ak}{qual:Str}{fa:Option au}{code:Value}(ok:BF sc ps)(c7:a5.length=ps.length)(hv:aO P m vs a5)
  (he:bY=newEnv sc dI.heap.objs.size uw (gt (dI.heap.objs.size+1) sc.names []) qual fa code af zK)
  (x:InCallC dI bY.locals (bindL bY.kindOf (ps.zip a5) λ_=>af) bY.cells (bindC bY.kindOf (ps.zip a5) λ_=>af) s):
  FrR ⟨sc,iL sc,q⟩ (bY.locals::(iL sc).filterMap (bY.cells.lookup ·)) bY P m (ps.zip vs) s.heap:=by
 have wg:bY.scope=sc:=he▸rfl;have Jq:∀y,bY.kindOf y=sc.names.lookup y:=λy=>ay (λsc:cb=>sc.names.lookup y) wg;have nd:((ps.zip a5).map (·.1)).Nodup:=(agi (bF c7.symm):(ps.zip a5).map (·.1)=ps).symm▸ok.U1;have cell:∀{y},sc.names.lookup y=aa .cell→∃c,bY.cells.lookup y=aa c∧c∈bY.locals::(iL sc).filterMap (bY.cells.lookup ·)∧c≠bY.locals∧s.heap.IsCell c (bindC bY.kindOf (ps.zip a5) (λ_=>af) y):=λ{y} hc=>
  xE (zP.mp (El (n:=dI.heap.objs.size+1) (acc:=[]) (.inl hc))) λc vX=>by
   have vX:bY.cells.lookup y=aa c:=he▸vX;exact⟨c,vX,.tail _ (gQ.mpr ⟨y,Na hc,vX⟩),dG (x.above y c (m_ vX)),x.cell y c vX⟩
 have PG:∀{y},sc.names.lookup y≠aa .free:=λe=>ok.Vn _ (m_ e) rfl;refine⟨wg,ok.fn,he▸rfl,he▸rfl,.head _,⟨_,x.toInCall.ns,λy v hy jj=>aj (Mh hv hy) λv' q1 q2=>⟨v',S8 ((Jq y).trans jj) (.inr ⟨nd,q1⟩),q2⟩⟩,λy v hy jj=>aj (Mh hv hy) λv' q1 q2=>?_,
  λy hy=>hG (cell (hy.elim id λe=>bc e PG)) λc h1 h2 _ h4=>⟨c,h1,.inl ⟨h2,_,h4⟩⟩,λy hy=>?_,λy z c hy h1 h2=>name_of_addr x.apart (m_ h1) (m_ h2),λa ha=>?_⟩
 ·have hc:=jj.elim id λe=>bc e PG
  exact hG (cell hc) λc h1 h2 h3 h4=>⟨c,v',h1,q2,.inl ⟨h2,h3,S9 (λe=>nomatch (((Jq y).trans hc).symm.trans e:aa agb=aa .local)) (.inr ⟨nd,q1⟩)▸h4⟩⟩
 ·refine aj (bB.mp hy) λp hp e=>?_
  have hp:=m9.mp hp;have hc:sc.names.lookup y=aa .cell:=e▸(HP ok.nd hp.1).trans (ay aa (eq_of_beq hp.2));exact⟨hc,hG (cell hc) λc h1 h2 h3 h4=>⟨c,_,h1,h2,h3,h4⟩⟩
 ·exact(dE.mp ha).elim (λe=>x.toInCall.ns.elim λo h=>h.elim λes h=>h.elim λep h=>⟨o,e▸h.1,xR h.2.1⟩) λha=>aj (gQ.mp ha) λy _ hy=>aj (x.cell y a hy) λo q1 q2=>⟨o,q1,CT q2⟩
theorem afo{a:au}{k:Nat}{ps:List Str}{eC vs:List SV}{body:List bx}{sc:cb}{Q:QV}(H:d0 G a k ps eC body sc)(hk:vs.length=k)
  (w:j6 G ⟨sc,iL sc,F.q⟩ b (ps.zip (vs++eC)) h body (λf _ h'=>Q f.val h') (λ_ _ _=>False)):CC G F (b+1) fr h (.glob a) vs Q:=by
 refine .mk λown ae A P m s R' f' a5 R hf hv c=>hf▸sO H.at_ λo fd ds f=>?_;have ok:=BF.of H.ok;have MG:=hv.app (f.ds P m R.basePR);have c7:(a5++ds).length=ps.length:=MG.length.symm.trans (cU.trans ((ay (· +eC.length) hk).trans H.len.symm));have hb:BindsTo s fd ⟨a5,[]⟩ (ps.zip (a5++ds)):=kp_binds R.f7 λS=>f.bind S a5 (hv.length.symm.trans hk);have MK:=R.depth;refine codeAny_call_function (bd (b6 _ _) MK) (R.f7 a o f.lk) f.data (f.scope▸ok.co) (f.scope▸ok.gen) f.body (f.code.keeps R.bs) (hb _ _ _ _ ?_);rw[f.scope,f.glob,f.blt,f.clo];refine wpAny_newFunctionEnv_cells ok.fn (λy hy=>(ok.kinds y.1 ((agi (bF c7.symm):(ps.zip (a5++ds)).map (·.1)=ps)▸agj (f:=(·.1)) hy)).imp id λq=>⟨q,El (.inl q)⟩) λbY he s' x=>⟨(G.nolimit.keeps R.bs).keeps x.toInCall.keep,codeAny_func ?_⟩;clear hb;have Pe:bY.frame=aa bY.locals:=he▸rfl;refine jW x.toInCall.same λhh tk es=>?_;have Rn:=R.enter (b':=b) (A':=A.deeper bY) (s':=s') x.toInCall.keep (es▸rfl) (es▸rfl) (λa ha=>zQ ((dE.mp ha).elim (λe=>e▸x.toInCall.fresh) λha=>aj (gQ.mp ha) λy _ hy=>cj (bd x.toInCall.fresh (x.above y a (m_ hy)))):∀a∈bY.locals::(iL sc).filterMap (bY.cells.lookup ·),s.heap.get? a=af) (T9 (q:=F.q) ok c7 (MG.mono R.sN.t .rfl) he x) (λl hl=>⟨[bY],ay (ph (bY::·)) hl,⟨bY,l,rfl,rfl⟩,λe rZ=>?_⟩)
  (bd (bF (uA A.depth 1 b)) MK) (bd (show A.units+3+8*b+8≤A.units+8*(b+1)+8 from oj (ah (bF (uA A.units 3 (8*b))) (e6 (aJ:3≤8) _)) 8) R.units) rfl R.quiet
 ·refine ox (w.run _ _ _ _ _ _ _ (λ_ _=>False) Rn (λfl eo aC f' bz cD cu hq hP hm hf bk=>?_) (λ_ _ _ _ _ _ _ q=>q.elim)) (λ_ _ q=>q) (λ_ _ q=>q.elim)
  refine jz (R.leave bk hP hm λl l' hl jZ=>⟨[bY],aY (jZ.symm.trans (ay (ph (bY::·)) hl)),λa ha=>aj (gQ.mp ha) λe rZ hf=>aY (Pe.symm.trans (bS.mp rZ▸hf))▸.head _⟩) λl1 l2 cW=>?_
  cases fl with
  |ret v=>exact aj hf λv' z q=>z▸c _ _ _ _ _ _ hq l1 hm (q.mono l2 .rfl) cW
  |_=>exact hf▸c _ _ _ _ _ _ hq l1 hm rfl cW
 ·have p:bY.scope.kind≠.module∧∃L o,bY.frame=aa L∧L∈bY.locals::(iL sc).filterMap (bY.cells.lookup ·)∧s'.heap.get? L=aa o∧∀vs,o.data≠.fields vs:=
   ⟨λz=>(nomatch (ok.fn.symm.trans ((ay Scope.kind (he▸rfl:bY.scope=sc)).symm.trans z):ScopeKind.function=.module)),x.toInCall.ns.elim λo h=>h.elim λes h=>h.elim λep h=>⟨bY.locals,o,Pe,.head _,h.1,λvs e=>nomatch (h.2.1.symm.trans e)⟩⟩
  exact bS.mp rZ▸p
theorem Rel.lower(R:Rel G F (b+1) own ae A P m fr h s)(A':dZ)(h1:A'.handled=A.handled)(h2:A'.depth≤A.depth+1)(h3:A'.frames=A.frames)(h4:A'.guards=A.guards)(h5:A'.units≤A.units+8):Rel G F b own ae A' P m fr h s:=
 ⟨R.gens,R.os,R.bs,R.basePR,h3.symm▸R.frs,R.obj,R.dom,R.inj,R.sep,R.ownP,R.f,bd (ah (oj h2 b) (bF (uA A.depth 1 b))) R.depth,
  bd (oj (ah (oj h5 (8*b)) (bF (uA A.units 8 (8*b)))) 8) R.units,h4.trans R.guards,λq=>h1.trans (R.quiet q)⟩
theorem Rel.O9{A':dZ}(R:Rel G F (b+1) own ae A P m fr h s){P':aV}{m':Mu}{h':SH}{s':ak}(R':Rel G F b own ae A' P' m' fr h' s')(h3:A'.frames=A.frames):Rel G F (b+1) own ae A P' m' fr h' s':=
 ⟨R'.gens,R'.os,R'.bs,R'.basePR,h3▸R'.frs,R'.obj,R'.dom,R'.inj,R'.sep,R'.ownP,R'.f,R.depth,R.units,R.guards,R.quiet⟩
theorem call_cls{C fI:au}{n:Nm}{vs:List SV}{Q:QV}(hm:makesIn G.K C=ab)(hi:ie G.K (.ref C) "__init__"=aa (aa (.ref fI)))(hf:typeIn G.K (.ref fI)=aa (.type "function"))(hn:h n=af)
  (w:CC G F b fr (h.set n (.inst C [])) (.glob fI) (.ref n::vs) (λv h'=>v=.none∧Q (.ref n) h')):CC G F (b+1) fr h (.glob C) vs Q:=by
 refine .mk ?_;intro own ae A P m s R' f' a5 R lM hv c;obtain rfl:=lM;obtain⟨a6,le⟩:=R.alloc hn (so:=.inst C []) (ad:=(s.heap.objs.size+1,s.heap.objs.size)) (s':={s with heap:=(s.heap.push emptyDict).push (instObj C s.heap.objs.size)})
  (λa o e=>dT _ (dT _ e)) rfl rfl (bR _) (ar _)
  ⟨du (dq _),by
   show((s.heap.push emptyDict).push (instObj C s.heap.objs.size)).get? (s.heap.objs.size+1)=_;have:=fP (s.heap.push emptyDict) (o:=instObj C s.heap.objs.size) rfl;rw[mc] at this;exact this,[],0,dT _ (fP _ rfl),rfl⟩
 have hu:∀args,(HQ "type.__call__" args).cUnits≤8:=λargs=>by
  have:(HQ "type.__call__" args).frames=0:=rfl;show 1+3*(HQ "type.__call__" args).frames≤8;exact dK _
 have bk:=a6.lower (A.under (.builtin "type.__call__" ⟨.ref C::a5,[]⟩)) rfl (by
   show A.depth+_≤_;have:(HQ "type.__call__" ⟨.ref C::a5,[]⟩).weight=1:=by rfl
   exact ar _) rfl rfl (by show A.units+_≤_;have:=hu ⟨.ref C::a5,[]⟩;exact e6 this _)
 obtain⟨hh,g,d,t,os⟩:=s;refine make_core (makes_of R.f7 hm) (P8 R.f7 hi) (λself=>bind_fn R.f7 self hf) (.inl rfl) ?_;refine w.run own ae _ P _ _ _ _ (.ref (hh.objs.size+1)::a5) bk rfl ⟨_,_,rfl,⟨_,Mu.i9,rfl⟩,aO.mono aV.le.rfl.t le _ hv⟩ (λv h' v' s' P' m' q hP hm fB cW=>?_);obtain⟨rfl,q⟩:=q;obtain rfl:=fB;exact⟨rfl,c _ _ _ _ _ _ q hP (le.trans hm) ⟨_,hm _ _ Mu.i9,rfl⟩ (a6.O9 cW rfl)⟩
theorem call{func:Expr}{args:List Expr}{pos:Pos}{Q:QV}{X:QX}
  (ti:∀ae,d9 (.Call func args [] pos) ae=(do wX pos (←d9 func ae) [] (jv pos (gh args ae)) []))
  (hs:∀ae,(jv pos (gh args ae)).any (·.1)=an)
  (w:WE G F b fr h func (λf ag=>callable G f=ab∧jY G F b fr ag args (λvs aC=>WC G F b fr aC f vs Q X) X) X):WE G F b fr h (.Call func args [] pos) Q X:=by
 refine .mk ?_;intro own ae A P m s Q' E' R c d;rw[ti ae];refine wb (w.run own ae A P m s _ _ R (λf ag f' aZ bW bU hq hP hm hf a6=>?_) d);exact LU (first:=[]) (first':=[]) hq.1 hs hq.2 a6 hf rfl (c.mono hP hm) (d.mono hP hm)
def GMb(G:Gl)(F:FD)(b:Nat)(fr:SF)(h:SH)(u:SV)(name:Str)(f:SV):Prop:=
 ∀own ae A P m s (Q':Value×List Value→ak→Prop) (E':Value→ak→Prop) u' pl,Rel G F b own ae A P m fr h s→VR P m u u'→
  (∀f' t,VR P m f f'→Q' (f',[u']) {s with toks:=t})→aw (aR G.prog G.w) A (getMethod u' name pl) Q' E' s
abbrev GM(G:Gl)(F:FD)(b:Nat)(fr:SF)(h:SH)(u:SV)(name:Str)(f:SV):Prop:=Bx (GMb G F b fr h u name f)
theorem UT{n:Nm}{C f:au}{fs:SF}{name:Str}(hn:h n=aa (.inst C fs))(hg:zM G.K C name=ab)(hf:ie G.K (.ref C) name=aa (aa (.ref f)))(ht:isFn G.K (.ref f)=ab)
  (hl:fs.lookup name=af):GM G F b fr h (.ref n) name (.glob f):=by
 refine .mk ?_;intro own ae A P m s Q' E' u' pl R hu c;revert c;refine R.wi hn hu λbT xs k h1 q2 q3 q4 q5 I=>?_;intro c;exact method_fn R.f7 I (HL hg).1 (HL hg).2 hf (eX.mp ht) (by show(lookIn name (qI xs k)).map _=_;rw[lookIn_dict _ _ _,q5.J_ hl];rfl) (c _ s.toks rfl)
theorem Sd{o:Expr}{name:Str}{gJ pos:Pos}{args:List Expr}{Q:QV}{X:QX}
  (ti:∀ae,∃pl,d9 (.Call (.Attribute o name gJ) args [] pos) ae=(do
   let ov ←d9 o ae
   kh gJ.atName
   let(f,first) ←ju [ov] (getMethod ov name pl)
   wX pos f first (jv pos (gh args ae)) []))
  (hs:∀ae,(jv pos (gh args ae)).any (·.1)=an)
  (w:WE G F b fr h o (λu ag=>∃f,callable G f=ab∧GM G F b fr ag u name f∧jY G F b fr ag args (λvs aC=>WC G F b fr aC f (u::vs) Q X) X) X):
  WE G F b fr h (.Call (.Attribute o name gJ) args [] pos) Q X:=by
 refine .mk ?_;intro own ae A P m s Q' E' R c d;refine xE (ti ae) λpl hf=>?_;rw[hf];refine wb (w.run own ae A P m s _ _ R (λu ag u' aZ bW bU hq hP hm hu a6=>?_) d);refine bG hq λf hc hg hw=>?_;clear hq;refine wb (jJ (wb (dM (hg.run own ae A bW bU aZ _ _ u' pl a6 hu (λf' t lM=>?_)))));exact LU (first:=[u]) (first':=[u']) hc hs hw (a6.tok t) lM (aO.one hu) (c.mono hP hm) (d.mono hP hm)
theorem JI{e:Expr}{pos:Pos}{Q:QS}{X:dP}(hs:∀ae:Env,Dt e af pos.line ae=pure an)
  (w:WE G F b fr h e (λ_ ag=>Q .next fr ag) (λx h=>X x fr h)):WS G F b fr h (.Expr e pos) Q X:=by
 refine .mk ?_;intro own ae A P m s Q' E' R c d;have hi:interactive ae=an:=by
  unfold interactive;rw[R.f.sc,R.f.kind];rfl
 rw[exec_Expr ae e pos hi (hs ae)];refine wb (jJ (wb (w.run own ae A P m s _ _ R (λu ag u' aZ bW bU hq hP hm hu a6=>?_) d.ka)));exact wpAny_dropValue (c _ _ _ _ _ _ _ hq hP hm rfl a6)
structure fF(G:Gl)(own:List au)(P:aV)(m:Mu)(hp:cO)(T:List au):Prop where
 all:∀a∈T,P a=af∧a∉own∧(∀n ad,m n=aa ad→a≠ad.1∧a≠ad.2)∧G.base.get? a=af∧∃o,hp.get? a=aa o∧¬kd o∧∀v,o.data≠.cell v
variable{T:List au}
theorem Rel.oZ(R:Rel G F b own ae A P m fr h s)(hT:fF G own P m s.heap T)(hk:∀a o,a∉T→s.heap.get? a=aa o→s'.heap.get? a=aa o)(hg:s'.gens=s.gens)(ho:s'.os=s.os):
  Rel G F b own ae A P m fr h s':=by
 have nP:∀{a o},P a=aa o→a∉T:=λ{a o} e ha=>a7 ((hT.all a ha).1.symm.trans e);have nO:∀{a},a∈own→a∉T:=λ{a} h1 ha=>(hT.all a ha).2.1 h1;exact R.upd (λe=>hk _ _ (nP e)) hg ho (λl h2 h4=>LY h2 h4 λa q o=>q.elim (λq=>hk _ _ (nO q)) λq=>q.elim λo' q=>hk _ _ (nP q))
  (λn so e=>aj (R.obj n so e) λad q1 q2=>⟨ad,q1,q2.mono aV.le.rfl.t .rfl (λo=>hk _ o λha=>((hT.all _ ha).2.2.1 n ad q1).1 rfl) λo=>hk _ o λha=>((hT.all _ ha).2.2.1 n ad q1).2 rfl⟩) R.dom (R.f.keep .rfl .rfl λa ha o e=>⟨o,hk _ _ (nO ha) e,rfl,rfl⟩)
theorem Rel.hold(R:Rel G F b own ae A P m fr h s)(hT:fF G own P m s.heap T):Rel G F b own ae A (P.under T s.heap) m fr h s∧P.le (P.under T s.heap):=by
 have le:P.le (P.under T s.heap):=λa o e=>(mq (λha=>a7 ((hT.all a ha).1.symm.trans e)) _).trans e;exact⟨⟨R.gens,R.os,R.bs,λa o e=>le _ _ (R.basePR a o e),jy R.frs λl h1 h2 h3 h4 h5=>⟨l,h1,h2,h3,λa ha=>(h4 a ha).imp id λq=>q.elim λo q=>⟨o,le _ _ q⟩,λa o e=>if ha:a∈T then⟨o.slots,(uO ha _).symm.trans e,λ_=>rfl⟩ else h5 a o ((mq ha _).symm.trans e)⟩,
  λn so e=>aj (R.obj n so e) λad q1 q2=>⟨ad,q1,q2.mono le.t .rfl (λ_ x=>x) λ_ x=>x⟩,R.dom,R.inj,λn ad e=>have q:=R.sep n ad e;⟨(mq (λha=>((hT.all _ ha).2.2.1 n ad e).1 rfl) _).trans q.1,(mq (λha=>((hT.all _ ha).2.2.1 n ad e).2 rfl) _).trans q.2.1,q.2.2⟩,
  λa ha=>(mq (λBB=>(hT.all _ BB).2.1 ha) _).trans (R.ownP a ha),R.f.keep le .rfl λa _ o e=>⟨o,e,rfl,rfl⟩,R.depth,R.units,R.guards,R.quiet⟩,le⟩
theorem Rel.drop(R:Rel G F b own ae A P m fr h s)(hT:fF G own P m s.heap T)(R':Rel G F b own ae A P' m' fr' h' s')(hP:(P.under T s.heap).le P')(hm:m.le m'):
  P.le (P'.less T)∧P'.fV (P'.less T)∧Rel G F b own ae A (P'.less T) m' fr' h' s'∧fF G own (P'.less T) m' s'.heap T∧∀a∈T,s'.heap.get? a=s.heap.get? a:=by
 have nT:∀{a o},P a=aa o→a∉T:=λ{a o} e ha=>a7 ((hT.all a ha).1.symm.trans e);have rJ:∀{a},a∈T→∃o,s.heap.get? a=aa o∧P' a=aa o∧¬kd o∧∀v,o.data≠.cell v:=λ{a} ha=>aj (hT.all a ha).2.2.2.2 λo e1 e2=>⟨o,e1,hP a o ((uO ha _).trans e1),e2⟩;have le:P.le (P'.less T):=λa o e=>(nh (nT e)).trans (hP a o ((mq (nT e) _).trans e));have fV:P'.fV (P'.less T):=λa o e hd=>(nh λha=>hG (rJ ha) λo' _ e1 e2 _=>e2 (aY (e.symm.trans e1)▸hd)).trans e;have M_:∀{a o v},P' a=aa o→o.data=.cell v→P'.less T a=aa o:=λ{a o v} e hd=>(nh λha=>hG (rJ ha) λo' _ e1 _ e2=>e2 v (aY (e.symm.trans e1)▸hd)).trans e;have nn:∀{a},P' a=af→a∉T:=λ{a} ea ha=>hG (rJ ha) λo' _ e1 _ _=>fu (e1.symm.trans ea);have frs:=jy R'.frs λl h1 h2 h3 h4 h5=>jy R.frs λAq g1 _ _ g4 _=>(⟨l,h1,h2,h3,λa ha=>g4 a (aY (h1.symm.trans g1)▸ha),h5⟩:∃l,A.frames=aa l∧s'.heap.FunFrames G.base l∧(∃e0 r,l=e0::r∧e0.frame=ae.frame)∧(∀a∈l.filterMap (·.frame),a∈own∨∃o,P a=aa o)∧∀a o,P' a=aa o→∃sl,s'.heap.get? a=aa {o with slots:=sl}∧(a∉l.filterMap (·.frame)→sl=o.slots));have ex:∀a∈T,s'.heap.get? a=s.heap.get? a:=λa ha=>jy frs λl _ _ _ h4 h5=>hG (rJ ha) λo q5 q6 _ _=>aj (h5 a o q6) λsl e1 e2=>
  e1.trans ((ay aa (IE o sl (e2 λhl=>(h4 a hl).elim (hT.all a ha).2.1 λz=>z.elim λo' z=>a7 ((hT.all a ha).1.symm.trans z)))).trans q5.symm)
 have X:=R'.f;exact uo le fV ⟨R'.gens,R'.os,R'.bs,λa o e=>le _ _ (R.basePR a o e),jy frs λl h1 h2 h3 h4 h5=>⟨l,h1,h2,h3,λa ha=>(h4 a ha).imp id λq=>q.elim λo q=>⟨o,le _ _ q⟩,λa o e=>h5 a o ((λ{a o} e=>if ha:a∈T then a7 ((DQ ha).symm.trans e) else(nh ha).symm.trans e:∀{a o},P'.less T a=aa o→P' a=aa o) e)⟩,
  λn so e=>aj (R'.obj n so e) λad q1 q2=>⟨ad,q1,q2.mono fV .rfl (λ_ x=>x) λ_ x=>x⟩,R'.dom,R'.inj,λn ad e=>have q:=R'.sep n ad e;⟨(nh (nn q.1)).trans q.1,(nh (nn q.2.1)).trans q.2.1,q.2.2⟩,λa ha=>have q:=R'.ownP a ha;(nh (nn q)).trans q,
  ⟨X.sc,X.kind,X.glob,X.blt,X.rY,aj X.ns λmm q1 q2=>⟨mm,q1,λx v hx hl=>aj (q2 x v hx hl) λv' z1 z2=>⟨v',z1,z2.mono fV .rfl⟩⟩,λx v hx hl=>bP (X.mB x v hx hl) λc v' q1 q2 q3=>⟨c,v',q1,q2.mono fV .rfl,q3.imp id λq=>aj q λo z1 z2=>⟨o,M_ z1 z2,z2⟩⟩,
   λx hx=>aj (X.rx x hx) λc q1 q2=>⟨c,q1,q2.imp id λq=>d_ q λo v z1 z2=>⟨o,v,M_ z1 z2,z2⟩⟩,X.sX,X.apart,X.mP⟩,R'.depth,R'.units,R'.guards,R'.quiet⟩
  ⟨λa ha=>have z:=hT.all a ha;⟨DQ ha,z.2.1,λn ad e=>have y:=R'.sep n ad e;⟨λq=>nn y.1 (q▸ha),λq=>nn y.2.1 (q▸ha)⟩,z.2.2.2.1,(ex a ha).symm▸z.2.2.2.2⟩⟩ ex
section
open AutoSeq1 (wpAny_loadPart')
variable{prog:fD}{w:cE}{E:Value→ak→Prop}
theorem ψ{it t:au}{i:Nat}{items:Array Value}{x:Value}{Q:Value→ak→Prop}(hit:s.heap.IsTupleIter it t i)(ht:s.heap.IsTuple t items)(hx:items[i]? =aa x)
  (hQ:∀h',h'.IsTupleIter it t (i+1)→sB it s.heap h'→Q x {s with heap:=h'}):aw (aR prog w) A (HS (.ref it)) Q E s:=by
 refine bG (id hit) λo ho hc hd=>?_;refine xf ht λol lE _ nl vR=>?_;clear ht;unfold HS;refine wb (qK (name:=d5 "__next__") hit.typeIs F.slot_tuple_iterator_next
  (i5 F.slot_tuple_iterator_next hit.typeIs F.entry_tuple_iterator_next ?_ (F.args_tuple_iterator_next_1 _)))
 show aw _ _ (field (.ref it) 0 >>=_) _ _ s;refine wb (uB ho hd (x:=.ref t) rfl ?_);show aw _ _ (if(Du t==eH)=ab then _ else _) _ _ s;rw[aK (show ¬((Du t==eH)=ab) from iD)];show aw _ _ (field (.ref it) 1 >>=_) _ _ s;refine wb (uB ho hd (x:=.int i 0) rfl ?_);show aw _ _ (seqItems? (.ref t) >>=_) _ _ s;refine wb (wY lE vR ?_);simp only[HT,hx];refine wb (sE ho hd aJ (aD (aU x rfl (aD (hQ _ ?_ (pt ..))))));exact⟨_,lf _ ho (P9 (HU hd _)),(Dv ..).trans hc,by
  rw[HU hd _];simp[e_]⟩
theorem IT{it t:au}{i:Nat}{items:Array Value}{Q:Value→ak→Prop}(hh:A.handled=af)(hit:s.heap.IsTupleIter it t i)(ht:s.heap.IsTuple t items)(hx:items[i]? =af)
  (hE:∀h' e,P_ it s.heap h'→(∃o,h'.get? e=aa o∧o.cls=.type "StopIteration")→E (.ref e) {s with heap:=h'}):aw (aR prog w) A (HS (.ref it)) Q E s:=by
 refine bG (id hit) λo ho hc hd=>?_;refine xf ht λol lE _ nl vR=>?_;clear ht;unfold HS;refine wb (qK (name:=d5 "__next__") hit.typeIs F.slot_tuple_iterator_next
  (i5 F.slot_tuple_iterator_next hit.typeIs F.entry_tuple_iterator_next ?_ (F.args_tuple_iterator_next_1 _)))
 show aw _ _ (field (.ref it) 0 >>=_) _ _ s;refine wb (uB ho hd (x:=.ref t) rfl ?_);show aw _ _ (if(Du t==eH)=ab then _ else _) _ _ s;rw[aK (show ¬((Du t==eH)=ab) from iD)];show aw _ _ (field (.ref it) 1 >>=_) _ _ s;refine wb (uB ho hd (x:=.int i 0) rfl ?_);show aw _ _ (seqItems? (.ref t) >>=_) _ _ s;refine wb (wY lE vR ?_);simp only[HT,hx];refine wb (jK (wb (sE ho hd aJ ?_)));show aw _ _ (newExc (.type "StopIteration") [] >>=_) _ _ _;refine wb ?_;simp only[newExc,newTuple];refine wb (sF ?_ (by size_fits));refine wb (m:=Qa _ _) (qL (a:=eH) (by first|rfl|(simp only[Qa];rfl)) ?_);refine sF ?_ (by size_fits);simp only[HV];refine wb (wpAny_handled ?_)
 first|rw[show A.in1.handled=af from hh]|rw[hh]
 refine wb (aD (wpAny_throw ?_));exact hE _ _ (((pt ..).extBut.push _).push _) (aU _ (fP _ rfl) rfl)
theorem aat(hh:A.handled=af)(it t:au)(dg:t≠it)(items:Array Value):
  Draws prog w A it [it,t] items.size (λi v=>items[i]? =aa v) (λi h=>h.IsTupleIter it t i∧h.IsTuple t items) where
 live:=λ_ _ st=>let⟨o,ho,_⟩:=st.1;⟨o,ho⟩
 frame:=λ_ _ _ st hk=>⟨st.1.at λo e=>hk it (.head _) o e,let⟨o,ho,r⟩:=st.2;⟨o,hk t (.tail _ (.head _)) o ho,r⟩⟩
 item:=λi s Q E hi st hQ=>
  ψ st.1 st.2 (jr hi) λh' fU g6=>hQ _ h' s.toks (jr hi) ⟨fU,let⟨o,ho,r⟩:=st.2;⟨o,(g6.2 t dg).trans ho,r⟩⟩ g6
 done:=λs Q E st hE=>IT hh st.1 st.2 (Array.getElem?_size ..) hE
theorem aem{i:Nat}{it t:au}{items:Array Value}(hh:A.handled=af)(hx:items[i]? =af):
  Draws prog w A it [it,t] 0 (λ_ _=>True) (λ_ h=>h.IsTupleIter it t i∧h.IsTuple t items) where
 live:=λ_ _ st=>let⟨o,ho,_⟩:=st.1;⟨o,ho⟩
 frame:=λ_ _ _ st hk=>⟨st.1.at λo e=>hk it (.head _) o e,let⟨o,ho,r⟩:=st.2;⟨o,hk t (.tail _ (.head _)) o ho,r⟩⟩
 item:=λi s Q E hi=>nomatch hi
 done:=λs Q E st hE=>IT hh st.1 st.2 hx hE
theorem Zg(l:au)(items:Array Value)(n:Nat)(dct:Option au)(sl:Array (Option Value)):
  Meets (Builtin.«enumerate.__new__» ⟨[.type "enumerate",.ref l],[]⟩) (λ_ R s=>s.heap.get? l=aa {cls:=.type "tuple",dict:=dct,data:=.seq items n,slots:=sl}∧
   R (.ok (.ret (.ref (s.heap.push {cls:=.type "tuple_iterator",data:=.fields #[.ref l,.int 0 0]}).objs.size)))
    {s with heap:=(s.heap.push {cls:=.type "tuple_iterator",data:=.fields #[.ref l,.int 0 0]}).push {cls:=.type "enumerate",data:=.fields #[.none,.bool an,.ref s.heap.objs.size,e_ 0,.none,.none]}}):=
 .of_wp λprog w A R s h=>by
  obtain⟨hp,g,d,tk,os⟩:=s;refine xA h λhl h=>?_;have tw:=sub_enumerate;have hL:Heap.IsTuple (Shared.heap ⟨hp,g,d,tk,os⟩) l items:=⟨_,hl,rfl,n,rfl⟩
  wp_walk using HR hl
  refine wpAny_stack_any λst=>aD ?_;generalize alc _ _ _ _=b
  cases b
  ·wp_walk using HR hl,Qb hL
   exact(aU _ rfl h)
  ·wp_walk using HR hl,Qb hL
   exact(aU _ rfl h)
theorem XS{l:au}{items:Array Value}{Q:Value→ak→Prop}(hL:s.heap.IsTuple l items)
  (h:∀h',IsEnum h' (s.heap.objs.size+1) s.heap.objs.size 0 .none→h'.IsTupleIter s.heap.objs.size l 0→h'.objs.size=s.heap.objs.size+2→
   (∀b o,s.heap.get? b=aa o→h'.get? b=aa o)→Q (.ref (s.heap.objs.size+1)) {s with heap:=h'}):
  aw (aR prog w) A (pv (.type "enumerate") [.ref l]) Q E s:=by
 obtain⟨⟨c,dct,dt,sl⟩,hl,hc,n,hd⟩:=hL
 replace hc:c=.type "tuple":=hc
 replace hd:dt=.seq items n:=hd
 subst hc hd;refine callType_new F.called_enumerate aW (F.typeCall_enumerate_1 _) (F.newCall_enumerate_1 _) (λobj=>F.args_object_init_2 obj _) F.entry_enumerate_new
  (Zg l items n dct sl) ⟨hl,?_⟩
 have hz:(s.heap.push {cls:=.type "tuple_iterator",data:=.fields #[.ref l,.int 0 0]}).objs.size=s.heap.objs.size+1:=mc ..;show _∧_;rw[hz];have he:IsEnum ((s.heap.push {cls:=.type "tuple_iterator",data:=.fields #[.ref l,.int 0 0]}).push
   {cls:=.type "enumerate",data:=.fields #[.none,.bool an,.ref s.heap.objs.size,e_ 0,.none,.none]}) (s.heap.objs.size+1) s.heap.objs.size 0 .none:=by
  have:=fP (s.heap.push {cls:=.type "tuple_iterator",data:=.fields #[.ref l,.int 0 0]})
   (o:={cls:=.type "enumerate",data:=.fields #[.none,.bool an,.ref s.heap.objs.size,e_ 0,.none,.none]}) rfl
  rw[hz] at this;exact this
 refine⟨⟨_,he,rfl⟩,h _ he ⟨_,dT _ (fP _ rfl),rfl,rfl⟩ (by rw[mc _ _,hz]) λb o x=>dT _ (dT _ x)⟩
end
inductive df where
 |list (n:Nm)
 |tup (vs:List SV)
 |range (a:Int) (c:Nat)
 |keys (n:Nm) (len:Nat)
 |enumL (n:Nm)
 |enumT (vs:List SV)
 |str (x:Str)
def t8(hp:cO)(J:au)(P:aV)(m:Mu)(i:Nat):df→Prop
 |.list n=>∃ad,m n=aa ad∧hp.IsListIter J ad.1 i
 |.tup vs=>∃t,VR P m (.tup vs) (.ref t)∧hp.IsTupleIter J t i
 |_=>False
def qp(k:df)(i:Nat)(P:aV)(m:Mu)(hp:cO)(I:au)(T:List au):Prop:=∃J old,T=[I,J]∧I≠J∧IsEnum hp I J i old∧t8 hp J P m i k
def kZ(k:df)(i:Nat)(P:aV)(m:Mu)(hp:cO)(I:au)(T:List au):Prop:=
 match k with
 |.list n=>T=[I]∧t8 hp I P m i (.list n)
 |.tup vs=>T=[I]∧t8 hp I P m i (.tup vs)
 |.range a c=>T=[I]∧IsRangeIter hp I (a+i) ((c:Int) - i) 1
 |.keys n len=>T=[I]∧∃ad,m n=aa ad∧hp.IsKeyIter I ad.1 i len len
 |.enumL n=>qp (.list n) i P m hp I T
 |.enumT vs=>qp (.tup vs) i P m hp I T
 |.str x=>T=[I]∧∃t,hp.IsStrIter I "str_ascii_iterator" x t i
noncomputable def oG(es:List (SV×SV)):Bool:=es.all λp=>match p.1 with|.str _=>ab|_=>an
theorem gE.strs{w:cE}{prog:fD}{P:aV}{m:Mu}:∀{es:List (SV×SV)} {xs:List dL},gE w P m es xs→oG es=ab→
  ∃kB:List (Str×Value),uC (Dw prog w) xs kB∧es.map (·.1)=kB.map (λp=>SV.str p.1)∧(∀e∈xs,∃k,(Dw prog w).is k e.key=ab∧e.hash=(Dw prog w).hash k):=by
 intro es
 induction es with
 |nil=>intro xs h _;cases h;exact(cK ([]) .nil rfl (λe he=>nomatch he))
 |cons p es ih=>
  intro xs h ha;obtain⟨k,v⟩:=p;refine tg h λe r ax h1 h2 h3 h4=>?_;clear h;subst ax;refine bG (ih h4 (Dx.mp ha).2) λkB q1 q2 q3=>?_;have hx:∃x,k=.str x:=by
   replace ha:=(Dx.mp ha).1
   cases k with
   |str x=>exact⟨x,rfl⟩
   |_=>exact cJ ha
  refine xE hx λx br=>?_;clear hx;subst br;refine xE h2 λt ht=>?_;clear h2;have hk:(Dw prog w).is x e.key=ab:=ht▸qF x;exact(cK ((x,e.val)::kB) (.cons hk rfl q1) (ay (SV.str x::·) q2) (Qc.mpr ⟨(aU x hk h1),q3⟩))
theorem gE.length{w:cE}{P:aV}{m:Mu}{es:List (SV×SV)}:∀{xs:List dL},gE w P m es xs→es.length=xs.length:=by
 induction es with
 |nil=>intro xs h;cases h;rfl
 |cons p es ih=>intro xs h;refine tg h λe r ax _ _ _ h4=>?_;clear h;subst ax;exact ay (· +1) (ih h4)
noncomputable def zr(o:Option cw)(f:List SV→Option SV):Option (Option SV):=match o with|some (.list vs)=>aa (f vs)|_=>af
noncomputable def ET(o:Option cw)(f:List (SV×SV)→Option (Option SV)):Option (Option SV):=match o with|some (.dict es)=>f es|_=>af
def jD(A:Prop)(B:SV→Prop):Option (Option SV)→Prop
 |none=>False
 |some af=>A
 |some (aa v)=>B v
theorem jD.imp{A A':Prop}{B B':SV→Prop}(a:A→A')(c:∀v,B v→B' v):∀{o:Option (Option SV)},jD A B o→jD A' B' o
 |some af,w=>a w
 |some (aa v),w=>c v w
theorem KN{A:Prop}{B:SV→Prop}{o:Option cw}{f:List SV→Option SV}(w:jD A B (zr o f)):∃vs,o=aa (.list vs)∧jD A B (aa (f vs)):=
 match o,w with
 |some (.list vs),w=>(aU vs rfl w)
theorem Y9{A:Prop}{B:SV→Prop}{o:Option cw}{f:List (SV×SV)→Option (Option SV)}(w:jD A B (ET o f)):∃es,o=aa (.dict es)∧jD A B (f es):=
 match o,w with
 |some (.dict es),w=>(aU es rfl w)
theorem Fq{A:Prop}{B:SV→Prop}{C:Prop}{P:aV}{m:Mu}{vs:List SV}{xs:Array Value}{i:Nat}{f:SV→SV}(q:aO P m vs xs.toList){o:Option SV}(ho:o=vs[i]?.map f)(w:jD A B (aa o))(e:xs[i]? =af→A→C)
  (c:∀v v',xs[i]? =aa v'→VR P m v v'→B (f v)→C):C:=by
 subst ho
 cases hv:vs[i]? with
 |none=>
  rw[hv] at w;exact e (Array.getElem?_eq_none (by rw[←fQ,←q.length];exact km.mp hv)) w
 |some v=>
  rw[hv] at w;refine aj (q.get hv) λv' hx uj=>?_;exact c v v' (jt.symm.trans hx) uj w
noncomputable def ji(k:df)(i:Nat)(h:SH):Option (Option SV):=
 match k with
 |.list n=>zr (h n) (λvs=>vs[i]?)
 |.tup vs=>aa vs[i]?
 |.range a c=>aa (if i<c then aa (.int (a+i)) else af)
 |.keys n len=>ET (h n) (λes=>if es.length=len∧oG es=ab then aa (es[i]?.map (·.1)) else af)
 |.enumL n=>zr (h n) (λvs=>vs[i]?.map λv=>.tup [.int i,v])
 |.enumT vs=>aa (vs[i]?.map λv=>.tup [.int i,v])
 |.str x=>aa (x.cps[i]?.map λc=>.str ⟨#[c]⟩)
noncomputable def GQ:df→Bool
 |.enumL _=>ab
 |.enumT _=>ab
 |_=>an
inductive mD(k:df):Expr→Prop where
 |name {x:Str} {p:Pos} (h:GQ k=an):mD k (.Name x p)
 |tup {es:List Expr} {n:Nat} {p:Pos}:mD k (.Tuple es n p)
theorem t8.move{k:df}{i:Nat}{P P':aV}{m m':Mu}{hp bX:cO}{J:au}(hP:P.fV P')(hm:m.le m')(hJ:∀o,hp.get? J=aa o→bX.get? J=aa o)(x:t8 hp J P m i k):t8 bX J P' m' i k:=by
 cases k with
 |list n=>obtain⟨ad,h1,o,h2,h3⟩:=x;exact⟨ad,hm _ _ h1,o,hJ _ h2,h3⟩
 |tup vs=>obtain⟨t,h1,o,h2,h3⟩:=x;exact⟨t,h1.mono hP hm,o,hJ _ h2,h3⟩
 |_=>exact x
theorem qp.move{k:df}{i:Nat}{P P':aV}{m m':Mu}{hp bX:cO}{I:au}{T:List au}(hP:P.fV P')(hm:m.le m')(hT:∀a∈T,bX.get? a=hp.get? a)(x:qp k i P m hp I T):qp k i P' m' bX I T:=by
 refine gK x λJ old ax h0 h2 h3=>?_;clear x;subst ax;exact⟨J,old,rfl,h0,(hT I (.head _)).trans h2,h3.move hP hm λo e=>(hT J (.tail _ (.head _))).trans e⟩
theorem kZ.move{k:df}{i:Nat}{P P':aV}{m m':Mu}{hp bX:cO}{I:au}{T:List au}(hP:P.fV P')(hm:m.le m')(hT:∀a∈T,bX.get? a=hp.get? a)(x:kZ k i P m hp I T):kZ k i P' m' bX I T:=by
 have hI {o} (e:T=[I]):hp.get? I=aa o→bX.get? I=aa o:=(hT I (e▸.head _)).trans
 cases k with
 |list n=>exact⟨x.1,x.2.move hP hm λo=>hI x.1⟩
 |tup vs=>exact⟨x.1,x.2.move hP hm λo=>hI x.1⟩
 |range a c=>exact⟨x.1,hI x.1 x.2⟩
 |keys n len=>obtain⟨e,ad,h1,o,h2,h3⟩:=x;exact⟨e,ad,hm _ _ h1,o,hI e h2,h3⟩
 |enumL n=>exact qp.move hP hm hT x
 |enumT vs=>exact qp.move hP hm hT x
 |str x'=>obtain⟨e,t,o,h2,h3⟩:=x;exact⟨e,t,o,hI e h2,h3⟩
variable{I:au}
theorem Rel.mK(R:Rel G F b own ae A P m fr h s){n:Nm}{vs:List SV}(hn:h n=aa (.list vs)){ad:au×au}(hm:m n=aa ad){C:Prop}(c:∀xs k,s.heap.get? ad.1=aa (DW xs k)→aO P m vs xs.toList→C):C:=
 bG (R.obj n _ hn) λ_ q1 _ q2=>d_ q2 λxs k q2 q3=>c xs k (aY (q1.symm.trans hm)▸q2) q3
theorem Rel.MU(R:Rel G F b own ae A P m fr h s)(hT:fF G own P m s.heap T){vs:List SV}{t:au}(to:VR P m (.tup vs) (.ref t)):∃xs,s.heap.IsTuple t xs∧aO P m vs xs.toList∧∀a∈T,t≠a:=by
 obtain⟨a,o,items,n,e,q1,q2,q3,q4⟩:=to;obtain rfl:=Qd e;refine bG (R.rP q1) λo' z1 z2 z3=>?_;exact⟨items,⟨o',z1,z2.trans q2,n,z3.trans q3⟩,q4,λa ha e=>by subst e;exact nomatch ((hT.all t ha).1.symm.trans q1)⟩
theorem Sr{M:i2}{E:Value→ak→Prop}{k:df}{t:Expr}{v:Value}{Q:Unit→ak→Prop}(ht:mD k t){o:Obj}{T:String}{fs:Array Value}(ho:s.heap.get? I=aa o)(hc:o.cls=.type T)(hd:o.data=.fields fs)(hp:(["enumerate","zip","dict_itemiterator","dict_reverseitemiterator","odict_iterator","itertools.zip_longest","itertools.pairwise"]:List String).contains T=an)
  (hq:Q () s):aw M A (Dy t (.ref I) v) Q E s:=by
 cases ht with
 |name _=>exact aD hq
 |tup=>
  cases v with
  |ref a=>
   refine wb (wpAny_load ho ?_);rw[hc,hd];refine(?_:aw M A (if(_ && _)=ab then _ else _) Q E s);rw[hp];exact aD hq
  |_=>exact aD hq
def Go(G:Gl)(F:FD)(b:Nat)(own:List au)(ae:Env)(A:dZ)(P:aV)(m:Mu)(fr:SF)(h:SH)(k:df)(i:Nat)(I:au)(T:List au)(v:SV)(Q':Value→ak→Prop):Prop:=
 ∀v' s' P',P.le P'→Rel G F b own ae A P' m fr h s'→VR P' m v v'→kZ k (i+1) P' m s'.heap I T→fF G own P' m s'.heap T→Q' v' s'
theorem fF.same{P:aV}(hT:fF G own P m s.heap T){hp:cO}(x:∀a∈T,∃o,hp.get? a=aa o∧¬kd o∧∀v,o.data≠.cell v):fF G own P m hp T:=
 ⟨λa ha=>(uo ((hT.all a ha).1) ((hT.all a ha).2.1) ((hT.all a ha).2.2.1) ((hT.all a ha).2.2.2.1) (x a ha))⟩
theorem pM{o:Obj}{vs:Array Value}(h:o.data=.fields vs):∀v,o.data≠.cell v:=λv e=>by rw[h] at e;cases e
theorem vz{T:String}{o:Obj}(hc:o.cls=.type T)(h1:T≠"tuple")(h2:T≠"range"):¬kd o:=by
 rintro(⟨e,_⟩|⟨e,_⟩)<;>rw[hc] at e<;>cases e
 ·exact h1 rfl
 ·exact h2 rfl
theorem Rel.NK(R:Rel G F b own ae A P m fr h s){n:Nm}{es:List (SV×SV)}{ad:au×au}(hn:h n=aa (.dict es))(h1:m n=aa ad)(ha:oG es=ab):
  ∃kB,kB.length=es.length∧es.map (·.1)=kB.map (λp=>SV.str p.1)∧s.heap.DictAt (Dw G.prog G.w) ad.1 kB es.length:=by
 refine IM (R.obj n _ hn) λbT q1 _ xs q2 q3 q4 _=>?_;have e:=aY (q1.symm.trans h1);subst e;refine bG (q3.strs (prog:=G.prog) ha) λkB z1 z2 z3=>?_;exact⟨kB,(aI ..).symm.trans ((ay oq z2.symm).trans (aI ..)),z2,_,xs,q2,⟨rfl,rfl,rfl⟩,rfl,λe he=>z3 e (Array.mem_toList_iff.mpr he),z1,
  wQ.mpr (ald (λhab e=>hab (ay SV.str e)) (wQ.mp (z2▸q4)))⟩
noncomputable def AP(T:String):Bool:=!((["enumerate","zip","dict_itemiterator","dict_reverseitemiterator","odict_iterator","itertools.zip_longest","itertools.pairwise"]:List String).contains T||T=="tuple"||T=="range")
theorem yI{hp:cO}{T:String}{fs:Array Value}(p:AP T=ab)(x:∃o,hp.get? I=aa o∧o.cls=.type T∧o.data=.fields fs):∃o,hp.get? I=aa o∧¬kd o∧∀v,o.data≠.cell v:=by
 refine bG x λo ho hc hd=>?_;clear x;refine xA (Dz.mp ((jL _).mp p)) λp1 p3=>?_;exact(cK o ho (vz hc (λe=>bc (eX.mpr e) ((Dz.mp p1).2▸iD)) (λe=>bc (eX.mpr e) (p3▸iD))) (pM hd))
theorem y4{k:df}{i:Nat}{t:Expr}{v:SV}{v':Value}{Q':Value→ak→Prop}{E':Value→ak→Prop}{h':cO}{tk:Tok}{T:String}{fs:Array Value}(ht:mD k t)(R:Rel G F b own ae A P m fr h s)(hT:fF G own P m s.heap [I])
  (hs:sB I s.heap h') (x:∃o,h'.get? I=aa o∧o.cls=.type T∧o.data=.fields fs) (hp:AP T=ab) (w:Go G F b own ae A P m fr h k i I [I] v Q') (hv:VR P m v v') (hI:kZ k (i+1) P m h' I [I]):
  aw (aR G.prog G.w) A (Dy t (.ref I) v') (λ_ bz=>Q' v' bz) E' {s with heap:=h',toks:=tk}:=by
 have y:=yI hp x;refine bG x λo ho hc hd=>?_;clear x;exact Sr (s:={s with heap:=h',toks:=tk}) ht ho hc hd (Dz.mp (Dz.mp ((jL _).mp hp)).1).1
  (w v' _ P .rfl (R.oZ hT (λa o ha e=>(hs.2 a λq=>ha (q▸.head _)).trans e) rfl rfl) hv hI (hT.same λa ha=>bS.mp ha▸y))
theorem wy{Qe:ak→Prop}{h':cO}{J:au}(R:Rel G F b own ae A P m fr h s)(hT:fF G own P m s.heap T)(hJ:J∈T)(w:∀s',Rel G F b own ae A P m fr h s'→Qe s')(he:P_ J s.heap h'):Qe {s with heap:=h'}:=
 w _ (R.oZ hT (λa o ha e=>he a o (λq=>ha (q▸hJ)) e) rfl rfl)
theorem Pt{kk k:df}{i:Nat}{J t:au}{old:Value}{St:Nat→cO→Prop}{vs:List SV}{xs:Array Value}{acb:List Expr}{kt:Nat}{pos:Pos}{Qe:ak→Prop}{Q':Value→ak→Prop}{E':Value→ak→Prop}(D:Draws G.prog G.w A.in1 J [J,t] xs.size (λi v=>xs[i]? =aa v) St)
  (R:Rel G F b own ae A P m fr h s) (hT:fF G own P m s.heap [I,J]) (qd:I≠J) (Tw:I≠t) (hE:IsEnum s.heap I J i old) (kX:St i s.heap) (en:xs[i]? =af→∀Q:Option Value→ak→Prop,(∀h',P_ J s.heap h'→Q af {s with heap:=h'})→aw (aR G.prog G.w) A (uD (.ref I)) Q E' s) (q:aO P m vs xs.toList)
  (src:∀{P' h'},P.fV P'→St (i+1) h'→t8 h' J P' m (i+1) k) (ob:∀{j h'},St j h'→∃o,h'.get? J=aa o∧¬kd o∧∀v,o.data≠.cell v)
  (Η:∀{P' h'},qp k (i+1) P' m h' I [I,J]→kZ kk (i+1) P' m h' I [I,J])
  (w:jD (∀s',Rel G F b own ae A P m fr h s'→Qe s') (λv=>Go G F b own ae A P m fr h kk i I [I,J] v Q') (aa (vs[i]?.map λv=>.tup [.int i,v]))):
  aw (aR G.prog G.w) A (uD (.ref I)) (λr aZ=>match r with
   |none=>Qe aZ
   |some v'=>aw (aR G.prog G.w) A (Dy (.Tuple acb kt pos) (.ref I) v') (λ_ bz=>Q' v' bz) E' aZ) E' s:=by
 refine Fq q rfl w (λhx w=>?_) λv v' hx uj w=>?_
 ·exact en hx _ λh' he=>wy R hT (.tail _ (.head _)) w he
 ·refine wpAny_pyNext_enum_itemD D hE kX (oi.mp hx).1 qd (λe=>(dE.mp e).elim qd λe=>Tw (bS.mp e)) λx h' tk Y2 I3 JT Sf hsz hk=>?_
  cases aY (hx.symm.trans Y2)
  have bk:=R.oZ (s':={s with heap:=h',toks:=tk+1}) hT (λa o ha e=>hk a o (λq=>ha (q▸.head _)) (λq=>ha (q▸.tail _ (.head _))) e) rfl rfl;refine mz (R.free (ar s.heap.objs.size)) λf1 f2 f3 f4=>?_;refine xA (bk.Px (s:={s with heap:=h',toks:=tk+1}) Sf f1 f2 f3 f4) λcW le=>?_;refine wpAny_letOwnedTupleGo_enum (s:={s with heap:=h',toks:=tk+1}) I3 λaC NG FY=>?_;have wp {hp:cO} (x:∃o,hp.get? I=aa o∧¬kd o∧∀v,o.data≠.cell v) (y:∃o,hp.get? J=aa o∧¬kd o∧∀v,o.data≠.cell v):fF G own (P.set s.heap.objs.size {cls:=.type "tuple",data:=.seq #[.int i tk,v']}) m hp [I,J]:=by
   refine⟨λa ha=>?_⟩;refine Ak (hT.all a ha) λp1 p2 p3 p4 o ho _=>?_;refine(uo ((aK (du (jI ho))).trans p1) p2 p3 p4 ?_);rcases dE.mp ha with rfl|ha
   ·exact x
   ·cases bS.mp ha;exact y
  refine aj (ob JT) λo ho Nv=>?_;have hoJ:aC.get? J=aa o:=(FY.2 J qd.symm).trans ho;exact w _ _ _ le (cW.oZ (s':={s with heap:=aC,toks:=tk+1}) (wp (cK _ I3 (vz rfl aW aW) (pM rfl)) (aU o ho Nv)) (λa o ha e=>(FY.2 a (λq=>ha (q▸.head _))).trans e) rfl rfl)
   ⟨s.heap.objs.size,_,_,_,rfl,aP rfl,rfl,rfl,⟨_,_,rfl,⟨_,rfl⟩,_,_,rfl,uj.mono le.t .rfl,rfl⟩⟩ (Η ⟨J,v',rfl,qd,NG,(src le.t JT).move (λ_ _ e _=>e) .rfl λo e=>(FY.2 J qd.symm).trans e⟩) (wp ⟨_,NG,vz rfl aW aW,pM rfl⟩ ⟨o,hoJ,Nv⟩)
theorem LS{k:df}{i:Nat}{t:Expr}{Qe:ak→Prop}{Q':Value→ak→Prop}{E':Value→ak→Prop}(hq:F.q=ab)(ht:mD k t)(R:Rel G F b own ae A P m fr h s)(hI:kZ k i P m s.heap I T)(hT:fF G own P m s.heap T)
  (w:jD (∀s',Rel G F b own ae A P m fr h s'→Qe s') (λv=>Go G F b own ae A P m fr h k i I T v Q') (ji k i h)):
  aw (aR G.prog G.w) A (uD (.ref I)) (λr aZ=>match r with
   |none=>Qe aZ
   |some v'=>aw (aR G.prog G.w) A (Dy t (.ref I) v') (λ_ bz=>Q' v' bz) E' aZ) E' s:=by
 have hh:=R.quiet hq
 cases k with
 |list n=>
  refine mN hI λcP ad h1 hit=>?_;clear hI;subst cP;refine aj (KN w) λvs hn w=>?_;refine R.mK hn h1 λxs kk q2 q3=>?_;refine Fq q3 (agk ..).symm w (λhx w=>wpAny_pyNext_list_end hh hit ⟨_,q2,rfl,kk,rfl⟩ hx λh' he=>wy R hT (.head _) w he) λv v' hx uj w=>?_;refine wpAny_pyNext_list_item hit ⟨_,q2,rfl,kk,rfl⟩ hx λh' fU hs=>?_;exact y4 ht R hT hs fU rfl w uj ⟨rfl,ad,h1,fU⟩
 |tup vs=>
  refine mN hI λcP tt to hit=>?_;clear hI;subst cP;refine bG (R.MU hT to) λxs hl q _=>?_;refine Fq q (agk ..).symm w (λhx w=>wpAny_pyNext_tuple_end hh hit hl hx λh' he=>wy R hT (.head _) w he) λv v' hx uj w=>?_;refine wpAny_pyNext_tuple_item hit hl hx λh' fU hs=>?_;exact y4 ht R hT hs fU rfl w uj ⟨rfl,tt,to,fU⟩
 |range a c=>
  refine xA hI λcP hit=>?_;clear hI;subst cP
  by_cases CO:i<c
  ·replace w:jD _ _ (aa (if i<c then _ else _)):=w
   rw[aP CO] at w;refine wpAny_pyNext_range_item hit (Int.sub_pos_of_lt (ib.mpr CO)) λh' fU hs=>?_;have e2:(c:Int) - (i:Int) - 1=(c:Int) - ((i+1:Nat):Int):=Int.sub_sub ..;have wK:IsRangeIter h' I (a+((i+1:Nat):Int)) ((c:Int) - ((i+1:Nat):Int)) 1:=e2▸Int.add_assoc a i 1▸fU;exact y4 ht R hT hs (cK _ wK rfl rfl) rfl w ⟨_,rfl⟩ ⟨rfl,wK⟩
  ·replace w:jD _ _ (aa (if i<c then _ else _)):=w
   rw[aK CO] at w;exact wpAny_pyNext_range_end hh hit (Int.sub_nonpos_of_le (wZ.mpr (js.mp CO))) λh' he=>wy R hT (.head _) w he
 |keys n len=>
  refine mN hI λcP ad h1 hit=>?_;clear hI;subst cP;refine aj (Y9 w) λes hn w=>?_
  by_cases hc:es.length=len∧oG es=ab
  ·rw[aP hc] at w
   refine bG (R.NK hn h1 hc.2) λkB c7 z2 hD=>?_;have Zz:=hc.1;subst Zz;have hv:es[i]?.map (·.1)=kB[i]?.map (λp=>SV.str p.1):=dv.symm.trans ((ay (·[i]?) z2).trans dv);rw[hv] at w
   cases hx:kB[i]? with
   |none=>
    rw[hx] at w;exact wpAny_pyNext_dict_end hh (c7.symm▸hit) hD hx λh' he=>wy R hT (.head _) w he
   |some kv=>
    rw[hx] at w;refine wpAny_pyNext_dict_item (c7.symm▸hit) hD (k:=kv.1) (v:=kv.2) hx λkey h' hk wK hs=>?_;refine xE (Value.isStrOf_shape hk) λtk br=>?_;subst br;rw[c7] at wK;exact y4 ht R hT hs wK rfl w ⟨_,rfl⟩ ⟨rfl,ad,h1,wK⟩
  ·rw[aK hc] at w;exact w.elim
 |enumL n=>
  cases ht with
  |name e=>exact iV e
  |tup=>
   refine Kl hI λJ old ax qd hE ad h1 hit=>?_;clear hI;subst ax;refine aj (KN w) λvs hn w=>?_;refine R.mK hn h1 λxs kk q2 q3=>?_;have ne {a} (ha:a∈[I,J]):a≠ad.1:=((hT.all a ha).2.2.1 n ad h1).1;exact Pt (k:=.list n) (Draws.list (A:=A.in1) hh J ad.1 (ne (.tail _ (.head _))).symm xs) R hT qd (ne (.head _)) hE ⟨hit,_,q2,rfl,kk,rfl⟩ (λhx Q w=>wpAny_pyNext_enum_end hh hE hit ⟨_,q2,rfl,kk,rfl⟩ hx w) q3 (λ_ st=>⟨ad,h1,st.1⟩) (λst=>yI rfl st.1) id w
 |enumT vs=>
  cases ht with
  |name e=>exact iV e
  |tup=>
   refine Kl hI λJ old ax qd hE tt to hit=>?_;clear hI;subst ax;refine bG (R.MU hT to) λxs hl q hp=>?_;exact Pt (k:=.tup vs) (aat (A:=A.in1) hh J tt (hp J (.tail _ (.head _))) xs) R hT qd (hp I (.head _)).symm hE ⟨hit,hl⟩ (λhx Q w=>wpAny_pyNext_enum_endD (aem (A:=A.in1) hh hx) hE ⟨hit,hl⟩ w) q (λle st=>⟨tt,to.mono le .rfl,st.1⟩) (λst=>yI rfl st.1) id w
 |str x=>
  refine B6 hI λcP tt hit=>?_;clear hI;subst cP
  cases hv:x.cps[i]? with
  |none=>
   replace w:jD _ _ (aa (x.cps[i]?.map _)):=w
   rw[hv] at w;exact wpAny_pyNext_ascii_end hh hit hv λh' he=>wy R hT (.head _) w he
  |some c=>
   replace w:jD _ _ (aa (x.cps[i]?.map _)):=w
   rw[hv] at w;refine wpAny_pyNext_ascii_item hit hv λh' fU hs=>?_;exact y4 ht R hT hs fU rfl w ⟨_,rfl⟩ ⟨rfl,tt,fU⟩
inductive xe(G:Gl)(F:FD)(b:Nat)(own:List au)(ae:Env)(A:dZ)(P:aV)(m:Mu)(k:df)(I:au)(T:List au)(J:Nat→Nat→SF→SH→Prop)(n:Nat)(s:ak):Prop
 |mk (P':aV) (m':Mu) (fr:SF) (h:SH) (i:Nat) (hJ:J n i fr h) (hP:P.le P') (hm:m.le m') (R:Rel G F b own ae A P' m' fr h s) (hI:kZ k i P' m' s.heap I T) (hT:fF G own P' m' s.heap T)
noncomputable def nX:dP:=λ_ _ _=>False
theorem t9{E':Value→ak→Prop}:pY G F b own ae A P m nX E':=λ_ _ _ _ _ _ _ q=>q.elim
theorem ace{Mw:Expr}{body eZ:List bx}{pos:Pos}{Q:QS}{X:dP}(J:Nat→SF→SH→Prop)(n:Nat)(h0:J n fr h)
  (turn:∀n fr h,J n fr h→WB G F b fr h Mw (λc ag=>if c then j6 G F b fr ag body (λf eo aC=>match f with
    |.next=>∃k,k<n∧J k eo aC
    |.cont=>∃k,k<n∧J k eo aC
    |.brk=>Q .next eo aC
    |.ret v=>Q (.ret v) eo aC) nX
   else j6 G F b fr ag eZ Q nX) lZ):WS G F b fr h (.While Mw body eZ pos) Q X:=by
 refine .mk ?_;intro own ae A P m s Q' E' R c d;refine wpAny_While ?_;refine codeAny_whileLoop (λn s'=>∃P' m' fr' h',J n fr' h'∧P.le P'∧m.le m'∧Rel G F b own ae A P' m' fr' h' s') ?_ n ⟨P,m,fr,h,h0,.rfl,.rfl,R⟩;rintro n aZ ⟨bW,bU,bw,ag,hJ,hP,hm,a6⟩;refine(turn n bw ag hJ).run own ae A bW bU aZ _ _ a6 (λt aC bz cD cu hq cQ cM bk=>?_) (λ_ _ _ _ _ _ q=>q.elim)
 cases t with
 |true=>
  refine hq.run own ae A cD cu bz _ _ bk (λf jU cL f' ey ly np q fZ ir hf cW=>?_) t9
  cases f with
  |next=>obtain rfl:=hf;refine aj q λk hk q=>?_;exact⟨k,hk,ly,np,jU,cL,q,(hP.trans cQ).trans fZ,(hm.trans cM).trans ir,cW⟩
  |cont=>obtain rfl:=hf;refine aj q λk hk q=>?_;exact⟨k,hk,ly,np,jU,cL,q,(hP.trans cQ).trans fZ,(hm.trans cM).trans ir,cW⟩
  |brk=>obtain rfl:=hf;exact c _ _ _ _ _ _ _ q ((hP.trans cQ).trans fZ) ((hm.trans cM).trans ir) rfl cW
  |ret v=>refine aj hf λv' br hv=>?_;clear hf;subst br;exact c _ _ _ _ _ _ _ q ((hP.trans cQ).trans fZ) ((hm.trans cM).trans ir) ⟨_,rfl,hv⟩ cW
 |false=>
  exact hq.run own ae A cD cu bz _ _ bk (λf jU cL f' ey ly np q fZ ir hf cW=>c _ _ _ _ _ _ _ q ((hP.trans cQ).trans fZ) ((hm.trans cM).trans ir) hf cW) t9
def WX(G:Gl)(F:FD)(b:Nat)(fr:SF)(h:SH)(e:Expr)(Q:df→SH→Prop)(X:QX):Prop:=
 ∀own ae A P m s (Q':Value→ak→Prop) (E':Value→ak→Prop),Rel G F b own ae A P m fr h s→
  (∀k h' I T s' P' m',Q k h'→P.le P'→m.le m'→Rel G F b own ae A P' m' fr h' s'→kZ k 0 P' m' s'.heap I T→fF G own P' m' s'.heap T→Q' (.ref I) s')→
  gT G F b own ae A P m fr X E'→aw (aR G.prog G.w) A (d9 e ae) (λx aZ=>aw (aR G.prog G.w) A (qM x) Q' E' aZ) E' s
abbrev WI(G:Gl)(F:FD)(b:Nat)(fr:SF)(h:SH)(e:Expr)(Q:df→SH→Prop)(X:QX):Prop:=Bx (WX G F b fr h e Q X)
inductive rC(h:SH):SV→df→Prop
 |lst {n:Nm} {vs:List SV} (hn:h n=aa (.list vs)):rC h (.ref n) (.list n)
 |dct {n:Nm} {es:List (SV×SV)} (hn:h n=aa (.dict es)) (ha:oG es=ab):rC h (.ref n) (.keys n es.length)
 |tup {vs:List SV}:rC h (.tup vs) (.tup vs)
 |str {x:Str} (hx:x.cps.all (· <128)=ab):rC h (.str x) (.str x)
 |rng {n:Nat} (hn:n<2^40):rC h (.range 0 n) (.range 0 n)
theorem Uv{n:Nat}(hn:n<2^40):agl 0 n 1=n∧agm 0 n 1=ab:=by
 have hsz:agl 0 n 1=n:=by
  show(if(0:Int) <1 then if(0:Int) <n then((n:Int) - 0-1) / 1+1 else 0 else _)=_;rw[aP aW,agn _]
  split<;>lia
 refine⟨hsz,?_⟩;have f {x:Int} (a:0≤x) (c:x≤2^40):ale x=ab:=Dx.mpr ⟨eQ (DB aW a),eQ (ago c aW)⟩;have I5:=jq n;have Ci:(n:Int)≤2^40:=wZ.mpr (cj hn);unfold agm;rw[hsz,f (x:=n) I5 Ci];rw[aP (show(1:Int) > 0 by exact aW),show(n:Int)+(1-1)=n from agp _,f I5 Ci];exact HW _
theorem Rel.Z3(R:Rel G F b own ae A P m fr h s){a:au}{o:Obj}(e:P a=aa o){vs:Array Value}(hd:o.data=.fields vs):s.heap.get? a=aa o:=by
 obtain⟨l,h1,h2,h3,h4,h5⟩:=R.frs;refine aj (h5 a o e) λsl e1 e2=>?_;have:a∉l.filterMap (·.frame):=λhl=>by
  refine mN (h2.mem hl) λ_ o' g1 g2=>?_;rw[e1] at g1;obtain rfl:=aY g1;exact g2 vs hd
 rw[e1,IE o sl (e2 this)]
theorem So{v:SV}{k:df}{v':Value}{Q':Value→ak→Prop}{E':Value→ak→Prop}(R:Rel G F b own ae A P m fr h s)(hv:VR P m v v')(hk:rC h v k)
  (c:∀I T s',Rel G F b own ae A P m fr h s'→kZ k 0 P m s'.heap I T→fF G own P m s'.heap T→Q' (.ref I) s'):aw (aR G.prog G.w) A (qM v') Q' E' s:=by
 have push {o:Obj} {T:String} {fs:Array Value} (hp:AP T=ab) (hc:o.cls=.type T) (hd:o.data=.fields fs) (hf:o.isFreed=an) (hI:(∃o',(s.heap.push o).get? s.heap.objs.size=aa o'∧o'.cls=.type T∧o'.data=.fields fs)→kZ k 0 P m (s.heap.push o) s.heap.objs.size [s.heap.objs.size]):
   Q' (.ref s.heap.objs.size) {s with heap:=s.heap.push o}:=by
  refine mz (R.free (ar s.heap.objs.size)) λf1 f2 f3 f4=>?_;have x:∃o',(s.heap.push o).get? s.heap.objs.size=aa o'∧o'.cls=.type T∧o'.data=.fields fs:=(cK o (fP _ hf) hc hd);exact c _ _ {s with heap:=s.heap.push o} (R.grow (λa o' e=>dT _ e) rfl rfl) (hI x) ⟨λa ha=>bS.mp ha▸(uo f1 f3 f2 f4 (yI hp x))⟩
 cases hk with
 |lst hn=>
  refine aj hv λad h1 e=>?_;clear hv;subst e;refine R.mK hn h1 λxs kk q2 q3=>?_;exact Qf ⟨_,q2,rfl,kk,rfl⟩ (push (T:="list_iterator") rfl rfl rfl rfl λx=>⟨rfl,ad,h1,x⟩)
 |dct hn ha=>
  refine aj hv λad h1 e=>?_;clear hv;subst e;refine bG (R.NK hn h1 ha) λkB c7 _ hD=>?_;have SW:(ad.1==Dn)=an:=k9.mpr λe=>by
   obtain⟨o,ho⟩:=G.Bc;have h2:=R.basePR _ _ ho;rw[←e,(R.sep _ _ h1).1] at h2;exact a7 h2
  exact wpAny_pyIter_dict SW hD (push (T:="dict_keyiterator") rfl rfl rfl rfl λx=>⟨rfl,ad,h1,c7▸x⟩)
 |tup=>
  have fB:=hv;obtain⟨a,o,items,n,e,q1,q2,q3,q4⟩:=hv;subst e;refine bG (R.rP q1) λo' z1 z2 z3=>?_;exact Qb ⟨o',z1,z2.trans q2,n,z3.trans q3⟩ (push (T:="tuple_iterator") rfl rfl rfl rfl λx=>⟨rfl,a,fB,x⟩)
 |str hx=>
  refine xE hv λt e=>?_;clear hv;subst e;exact wpAny_pyIter_ascii hx (push (T:="str_ascii_iterator") rfl rfl rfl rfl λx=>⟨rfl,t,x⟩)
 |rng hn=>
  refine oY hv λr t u w e q1=>?_;clear hv;subst e;refine xA (Uv hn) λhsz ρ=>?_;refine wpAny_pyIter_range (R.Z3 q1 rfl) ρ (push (T:="range_iterator") rfl rfl rfl rfl λx=>⟨rfl,?_⟩);rw[hsz];exact fP s.heap (o:={cls:=.type "range_iterator",data:=.fields #[e_ 0,e_ _,e_ 1]}) rfl
theorem Zc{e:Expr}{Q:df→SH→Prop}{X:QX}(w:WE G F b fr h e (λv ag=>∃k,rC ag v k∧Q k ag) X):WI G F b fr h e Q X:=by
 refine .mk ?_;intro own ae A P m s Q' E' R c d;refine w.run own ae A P m s _ _ R (λv ag v' aZ bW bU hq hP hm hv a6=>?_) d;refine aj hq λk hk hq=>?_;exact So a6 hv hk λI T s' bk hI hT=>c k ag I T s' bW bU hq hP hm bk hI hT
theorem Uf{t iter:Expr}{body eZ:List bx}{pos:Pos}{Q:QS}{X:dP}(hq:F.q=ab)(oF:∀ae x,w0 iter ae x=pure x)
  (w:WI G F b fr h iter (λk ag=>mD k t∧∃J:Nat→Nat→SF→SH→Prop,(∃n,J n 0 fr ag)∧
   ∀n i eo aC,J n i eo aC→jD (j6 G F b eo aC eZ Q nX) (λv=>
    WA G F b eo aC t v (λjU cL=>j6 G F b jU cL body (λf xz j4=>match f with
     |.next=>∃k,k<n∧J k (i+1) xz j4
     |.cont=>∃k,k<n∧J k (i+1) xz j4
     |.brk=>Q .next xz j4
     |.ret v=>Q (.ret v) xz j4) nX) nX) (ji k i aC)) (λx h=>X x fr h)):WS G F b fr h (.For t iter body eZ pos) Q X:=by
 refine .mk ?_;intro own ae A P m s Q' E' R c d;refine wpAny_For (w.run own ae A P m s _ _ R (λk ag I T aZ bW bU hw hP hm a6 hI hT=>?_) d.ka) (oF ae);obtain⟨qz,J,⟨n,h0⟩,turn⟩:=hw;refine codeAny_forLoop_any (xe G F b own ae A P m k I T J) ?_ n ⟨bW,bU,fr,ag,0,h0,hP,hm,a6,hI,hT⟩;intro n bz ⟨cD,cu,eo,aC,i,hJ,cQ,cM,bk,Ez,wp⟩;refine LS (T:=T) hq qz bk Ez wp ((turn n i eo aC hJ).imp (λtn ey cW=>?_) λv tn v' ey ly fZ cW fB Hx xI=>?_)
 ·exact tn.run own ae A cD cu ey _ _ cW (λf jU cL f' ey ly np q fZ ir hf cW=>c _ _ _ _ _ _ _ q (cQ.trans fZ) (cM.trans ir) hf cW) t9
 ·refine xA (cW.hold xI) λf8 le=>?_
  refine tn.run own ae A _ cu ey _ _ v' f8 (fB.mono le.t .rfl) (λHf wD yo ya v9 q uq lW k8=>?_) t9;refine q.run own ae A ya v9 yo _ _ k8 (λf vK r8 f' tW wj rQ n9 ro l6 hf pd=>?_) t9;refine yk (cW.drop xI pd (uq.trans ro) (lW.trans l6)) λl1 l2 rz G0 hex=>?_;have lP:=(cQ.trans fZ).trans l1;have lm:=(cM.trans lW).trans l6;have on {k'} (q:J k' (i+1) vK r8):xe G F b own ae A P m k I T J k' tW:=⟨_,rQ,vK,r8,i+1,q,lP,lm,rz,Hx.move l1.t (lW.trans l6) hex,G0⟩
  cases f with
  |next=>cases hf;refine aj n9 λkk gm Fd=>?_;clear n9;exact(aU kk gm (on Fd))
  |cont=>cases hf;refine aj n9 λkk gm Fd=>?_;clear n9;exact(aU kk gm (on Fd))
  |brk=>cases hf;exact c _ _ _ _ _ _ _ n9 lP lm rfl rz
  |ret v=>refine aj hf λv' br hv=>?_;clear hf;subst br;exact c _ _ _ _ _ _ _ n9 lP lm ⟨_,rfl,hv.mono l2 .rfl⟩ rz
theorem Oz{names:List (Str×lg)}:∀{n:Nat} {acc:List (Str×au)},gt n names acc=gt n names []++acc:=by
 induction names with
 |nil=>exact rfl
 |cons p r ih=>
  intro n acc;show(if p.2==.cell then gt (n+1) r ((p.1,n)::acc) else gt n r acc)=(if p.2==.cell then gt (n+1) r [(p.1,n)] else gt n r [])++acc;exact if z:(p.2==.cell)=ab then(aP z).trans (ih.trans ((List.append_cons ..).trans (ih (acc:=[(p.1,n)])▸(aP z).symm▸rfl))) else(aK z).trans (ih.trans (ay (· ++acc) (aK z).symm))
noncomputable def jQ(cells:List (Str×au)):List (Str×lg)→List (Str×au)→List (Str×au)
 |[],acc=>acc
 |(n,k)::r,acc=>if k==.free then jQ cells r ((n,(cells.lookup n).getD 0)::acc) else jQ cells r acc
theorem XB{ae:Env}{f:Str×lg→List (Str×au)→Sem (ForInStep (List (Str×au)))}
  (hf:∀n k cs,f (n,k) cs=if k==.free then(do let a ←cellOf ae n;pure (.yield ((n,a)::cs))) else pure (.yield cs)) {names:List (Str×lg)}:∀{acc:List (Str×au)},
  (∀p∈names,p.2=.free→∃c,ae.cells.lookup p.1=aa c)→forIn names acc f=pure (jQ ae.cells names acc):=by
 induction names with
 |nil=>exact λ_=>rfl
 |cons p r ih=>
  intro acc h;show _=pure (if p.2==.free then jQ ae.cells r ((p.1,(ae.cells.lookup p.1).getD 0)::acc) else jQ ae.cells r acc);rw[py,hf _ _ _];have ih {acc}:=ih (acc:=acc) λp hp=>h p (.tail _ hp)
  by_cases hk:(p.2==.free)=ab
  ·rw[aP hk,aP hk]
   refine xE (h p (.head _) (eX.mp hk)) λc hc=>?_;have e:cellOf ae p.1=pure c:=by unfold cellOf;rw[hc]
   rw[e,hc,pure_bind _ _,pure_bind _ _];exact ih
  ·rw[aK hk,aK hk,pure_bind _ _]
   exact ih
theorem Α{ae:Env}{scope:cb}(h:∀p∈scope.names,p.2=.free→∃c,ae.cells.lookup p.1=aa c):closureFor scope ae=pure (jQ ae.cells scope.names []):=
 (ay (· >>=λcs=>pure cs) (XB (λ_ _ _=>rfl) h)).trans (pure_bind ..)
theorem adn{cells:List (Str×au)}{x:Str}{names:List (Str×lg)}:∀{acc:List (Str×au)},(names.lookup x=aa .free∨acc.lookup x=aa ((cells.lookup x).getD 0))→(jQ cells names acc).lookup x=aa ((cells.lookup x).getD 0):=by
 induction names with
 |nil=>exact λh=>h.elim (λe=>a7 e) id
 |cons p r ih=>
  intro acc h;show((if p.2==.free then jQ cells r ((p.1,(cells.lookup p.1).getD 0)::acc) else jQ cells r acc).lookup x)=_;exact if e:x=p.1 then if z:(p.2==.free)=ab then(aP z).symm▸ih (.inr ((i8 (p:=(p.1,(cells.lookup p.1).getD 0)) e).trans (ay (λx=>aa ((cells.lookup x).getD 0)) e.symm))) else(aK z).symm▸ih (.inr (h.elim (λq=>bc (eX.mpr (aY ((i8 e).symm.trans q))) z) id))
   else have h:=h.imp (gW e).symm.trans id;if z:(p.2==.free)=ab then(aP z).symm▸ih (h.imp id (gW (p:=(p.1,(cells.lookup p.1).getD 0)) e).trans) else(aK z).symm▸ih h
theorem Sa{cells:List (Str×au)}{y:Str}{c:au}{names:List (Str×lg)}:∀{acc:List (Str×au)},(y,c)∈jQ cells names acc→(y,c)∈acc∨(y,.free)∈names∧c=(cells.lookup y).getD 0:=by
 induction names with
 |nil=>exact .inl
 |cons p r ih=>
  intro acc h
  replace h:(y,c)∈(if p.2==.free then jQ cells r ((p.1,(cells.lookup p.1).getD 0)::acc) else jQ cells r acc):=h
  exact if z:(p.2==.free)=ab then(ih ((ay (λl:List (Str×au)=>(y,c)∈l) (aP z)).mp h)).elim (λq=>(dE.mp q).elim (λe=>have ee:=ay m6 e;.inr ⟨dE.mpr (.inl (jw ee (eX.mp z).symm)),(ay Dk e).trans (ay (λy=>(cells.lookup y).getD 0) ee.symm)⟩) .inl) λq=>.inr ⟨.tail _ q.1,q.2⟩
   else(ih ((ay (λl:List (Str×au)=>(y,c)∈l) (aK z)).mp h)).imp id λq=>⟨.tail _ q.1,q.2⟩
theorem Ur{x:Str}{names:List (Str×lg)}:∀{n:Nat} {acc:List (Str×au)},(∀p∈names,x=p.1→p.2≠.cell)→(gt n names acc).lookup x=acc.lookup x:=by
 induction names with
 |nil=>exact λ_=>rfl
 |cons p r ih=>
  intro n acc h;show((if p.2==.cell then gt (n+1) r ((p.1,n)::acc) else gt n r acc).lookup x)=_;have ih {n acc}:=ih (n:=n) (acc:=acc) λp hp=>h p (.tail _ hp);exact if z:(p.2==.cell)=ab then(aP z).symm▸ih.trans (gW λe=>h p (.head _) e (eX.mp z)) else(aK z).symm▸ih
noncomputable def s_(sc:cb):Str×lg→Str×lg:=λ(n,k)=>if(k==.free && sc.kind==.function && sc.names.lookup n==aa .cell) then(n,.cell) else(n,k)
noncomputable def B_(scope sc:cb):cb:={scope with names:=scope.names.map (s_ sc)}
noncomputable def db(scope:cb)(F:FD):FD:=⟨B_ scope F.sc,iL scope,F.q⟩
noncomputable def gZ(scope:cb)(fr:SF):SF:=fr.filter λp=>scope.names.lookup p.1==aa .free
noncomputable def qu(scope:cb)(F:FD):Bool:=
 decide (scope.kind=.function) && decide ((scope.names.map (·.1)).Nodup) &&
 scope.names.all λp=>p.2 !=.free||(match F.sc.names.lookup p.1 with|some .cell=>ab|some .free=>ab|_=>an)
structure Bb(scope:cb)(F:FD):Prop where
 fn:scope.kind=.function
 nd:(scope.names.map (·.1)).Nodup
 fr:∀p∈scope.names,p.2=.free→F.sc.names.lookup p.1=aa .cell∨F.sc.names.lookup p.1=aa .free
theorem Bb.of{scope:cb}{F:FD}(ok:qu scope F=ab):Bb scope F:=by
 have q:=(bO _ _).mp ok;have q1:=(bO _ _).mp q.1;refine⟨fC q1.1,fC q1.2,λp hp e=>?_⟩;have:=(Bool.or_eq_true_iff.mp (dc.mp q.2 p hp)).resolve_left λz=>bne_iff_ne.mp z e
 cases q:F.sc.names.lookup p.1 with
 |none=>rw[q] at this;exact cJ this
 |some k=>rw[q] at this;cases k<;>first|exact .inl rfl|exact .inr rfl|exact cJ this
theorem V2(sc:cb)(p:Str×lg):(s_ sc p).1=p.1∧((s_ sc p).2=p.2∨p.2=.free∧(s_ sc p).2=.cell):=
 match p with
 |(n,k)=>B3 (P:=λq:Str×lg=>q.1=n∧(q.2=k∨k=.free∧q.2=.cell)) (λz=>⟨rfl,.inr ⟨eX.mp ((bO _ _).mp ((bO _ _).mp z).1).1,rfl⟩⟩) λ_=>⟨rfl,.inl rfl⟩
theorem Nq{sc:cb}{x:Str}{names:List (Str×lg)}:(names.map (s_ sc)).lookup x=names.lookup x∨names.lookup x=aa .free∧(names.map (s_ sc)).lookup x=aa .cell:=by
 induction names with
 |nil=>exact .inl rfl
 |cons p r ih=>
  have k:=V2 sc p;exact if h:x=p.1 then have e:=h.trans k.1.symm;k.2.imp (λq=>(i8 e).trans ((ay aa q).trans (i8 h).symm)) λq=>⟨(i8 h).trans (ay aa q.1),(i8 e).trans (ay aa q.2)⟩
   else have e:x≠(s_ sc p).1:=λe=>h (e.trans k.1);ih.imp (λq=>(gW e).trans (q.trans (gW h).symm)) λq=>⟨(gW h).trans q.1,(gW e).trans q.2⟩
theorem EK{scope:cb}{x:Str}{v:SV}(hx:(gZ scope fr).lookup x=aa v):scope.names.lookup x=aa .free∧fr.lookup x=aa v:=by
 induction fr with
 |nil=>exact a7 hx
 |cons p r ih=>
  replace hx:w4 x (List.filter (λp=>scope.names.lookup p.1==aa .free) (p::r))=aa v:=hx
  rw[HX] at hx;exact if hp:(scope.names.lookup p.1==aa .free)=ab then
    have hx:=(ay (w4 x) (aP hp)).symm.trans hx
    if e:x=p.1 then⟨(ay (scope.names.lookup ·) e).trans (eq_of_beq hp),(i8 e).trans ((i8 e).symm.trans hx)⟩ else have q:=ih ((gW e).symm.trans hx);⟨q.1,(gW e).trans q.2⟩
   else
    have q:=ih ((ay (w4 x) (aK hp)).symm.trans hx)
    ⟨q.1,(gW λe=>hp (eX.mpr (e▸q.1))).trans q.2⟩
theorem Uu{M:i2}{E:Value→ak→Prop}{scope:cb}{cl:List (Str×au)}{e:Expr}{it acc:Value}{wh:Option (Value→Sem Unit)}{Q:Value→ak→Prop}
  (h:∀bY,bY=({scope:=relabel scope ae,locals:=s.heap.objs.size,globals:=ae.globals,cells:=gt (s.heap.objs.size+1) scope.names cl,qual:=ae.qual,func:=af,code:=ae.code,frame:=ae.frame,builtins:=ae.builtins}:Env)→
   ki M A (.compStart e 0 it acc bY) (HY M A E wh Q acc bY.locals) {s with heap:=HZ (s.heap.push {cls:=.type "dict",data:=.dict #[]}) scope.names}):
  aw M A (newFunctionEnv scope ae.globals cl [] ae.qual af .none (aa ae)) (λPD nj=>ki M A (.compStart e 0 it acc {PD with scope:=relabel scope ae}) (HY M A E wh Q acc PD.locals) nj) E s:=by
 have k:=h _ rfl;rw[←mc s.heap {cls:=.type "dict",data:=.dict #[]}] at k;exact wb (Qg (wb (wpAny_layCells _ (λ_ _ _=>rfl) _ _ _ _ (wb (aD (aD k))))))
theorem Rel.Tp(R:Rel G F b own ae A P m fr h s){scope:cb}(ok:Bb scope F)
  (he:bY={scope:=relabel scope ae,locals:=s.heap.objs.size,globals:=ae.globals,cells:=gt (s.heap.objs.size+1) scope.names (jQ ae.cells scope.names []),qual:=ae.qual,func:=af,code:=ae.code,frame:=ae.frame,builtins:=ae.builtins}):
  ∃mF,Rel G (db scope F) b mF bY A (P.under own s.heap) m (gZ scope fr) h {s with heap:=HZ (s.heap.push {cls:=.type "dict",data:=.dict #[]}) scope.names}∧
   (∀a∈mF,s.heap.get? a=af)∧bY.locals∈mF:=by
 have hL:bY.locals=s.heap.objs.size:=he▸rfl;have cs:=cellsFrom_ok scope.names (s.heap.push {cls:=.type "dict",data:=.dict #[]}) (s.heap.objs.size+1) [] ⟨λ_ _ hm=>cT hm,.nil⟩ (bF (mc ..).symm);rw[mc] at cs;have lG:=(Heap.Ns.new s.heap (.type "dict")).keeps (Qh scope.names _);have cells:bY.cells=gt (s.heap.objs.size+1) scope.names (jQ ae.cells scope.names []):=he▸rfl;have kn:∀{p},p∈scope.names→scope.names.lookup p.1=aa p.2:=λhp=>HP ok.nd hp;have cN:∀{y},y∈iL scope→scope.names.lookup y=aa .cell:=λhy=>aj (bB.mp hy) λp hp e=>have hp:=m9.mp hp;e▸(kn hp.1).trans (ay aa (eq_of_beq hp.2));have cA:∀{x},scope.names.lookup x=aa .cell→∃c,bY.cells.lookup x=aa c∧(x,c)∈gt (s.heap.objs.size+1) scope.names []:=λ{x} e=>xE (zP.mp (El (n:=s.heap.objs.size+1) (acc:=[]) (.inl e))) λc hc=>
  ⟨c,(ay (w4 x) (cells.trans Oz)).trans (List.lookup_append.trans (ay (λo:Option au=>o.or (w4 x (jQ ae.cells scope.names []))) hc)),m_ hc⟩
 have cB:∀{x},scope.names.lookup x=aa .free→bY.cells.lookup x=aa ((ae.cells.lookup x).getD 0):=λ{x} e=>
  (ay (w4 x) cells).trans ((Ur λp hp z q=>nomatch (aY (e.symm.trans ((ay (scope.names.lookup ·) z).trans (kn hp)))).trans q).trans (adn (.inl e)))
 have cC:∀{y c},bY.cells.lookup y=aa c→(y,c)∈gt (s.heap.objs.size+1) scope.names []∨(scope.names.lookup y=aa .free∧c=(ae.cells.lookup y).getD 0):=λ{y c} e=>
  (dw.mp (cells.trans Oz▸m_ e)).imp id λq=>(Sa q).elim (λq=>cT q) λq=>⟨kn q.1,q.2⟩
 have ou:∀{x},scope.names.lookup x=aa .free→∃c,ae.cells.lookup x=aa c∧c<s.heap.objs.size∧∃o v,P.under own s.heap c=aa o∧o.data=.cell v:=λ{x} e=>aj (R.f.rx x (ok.fr _ (m_ e) rfl)) λc hc k=>⟨c,hc,
  k.elim (λk=>k.2.elim λv q=>aj q λo q1 q2=>⟨jI q1,o,v,(uO k.1 _).trans q1,q2⟩) λk=>d_ k λo v q1 q2=>⟨xE (R.oV q1) λsl z=>jI z,o,v,R.sN _ _ q1,q2⟩⟩
 have iw:∀{x c},scope.names.lookup x=aa .cell→bY.cells.lookup x=aa c→(x,c)∈gt (s.heap.objs.size+1) scope.names []:=λ{x c} e h=>aj (cA e) λc' h1 h2=>aY (h1.symm.trans h)▸h2;have ow:∀{a},a∈bY.locals::(iL scope).filterMap (bY.cells.lookup ·)→a=s.heap.objs.size∨∃y,(y,a)∈gt (s.heap.objs.size+1) scope.names []:=λha=>(dE.mp ha).imp (·.trans hL) λha=>aj (gQ.mp ha) λy hy e=>⟨y,iw (cN hy) e⟩;have hf:∀a∈bY.locals::(iL scope).filterMap (bY.cells.lookup ·),s.heap.get? a=af:=λa ha=>zQ ((ow ha).elim (λe=>bF e.symm) λha=>ha.elim λy hy=>gg (cs.empty y a hy).2);have mo:∀{x c},scope.names.lookup x=aa .cell→bY.cells.lookup x=aa c→c∈bY.locals::(iL scope).filterMap (bY.cells.lookup ·):=λ{x c} e h=>.tail _ (gQ.mpr ⟨x,Na e,h⟩);have rb:∀{x k},scope.names.lookup x=aa k→(B_ scope F.sc).names.lookup x=aa k∨k=.free∧(B_ scope F.sc).names.lookup x=aa .cell:=λe=>Nq.imp (·.trans e) λq=>⟨aY (e.symm.trans q.1),q.2⟩;refine⟨_,R.enter (λa o e=>Qh _ _ a o (dT _ e)) rfl rfl hf
  ⟨(ay Env.scope he).trans (ay (B_ scope) R.f.sc),ok.fn,(ay Env.globals he).trans R.f.glob,(ay Env.builtins he).trans R.f.blt,.head _,⟨_,hL▸lG,λx v hx hl=>xA (EK hx) λq1 _=>?_⟩,λx v hx hl=>xA (EK hx) λq1 q2=>?_,λx hx=>?_,λx hx=>?_,λx y c hx h1 h2=>?_,λa ha=>?_⟩
  (λl hl=>⟨[],hl,jy R.frs λl0 g1 _ g3 _ _=>aY (g1.symm.trans hl)▸d_ g3 λe0 l' z q=>⟨e0,l',z,q.trans (ay Env.frame he).symm⟩,λe rZ=>cT rZ⟩) R.depth R.units rfl R.quiet,hf,.head _⟩
 ·exact(rb q1).elim (λe=>nomatch e.symm.trans hl) λe=>nomatch e.2.symm.trans hl
 ·exact bP (R.f.mB x v q2 (ok.fr _ (m_ q1) rfl)) λc v' z1 z2 z3=>⟨c,v',(cB q1).trans (ay (λo:Option au=>aa (o.getD 0)) z1),z2.mono R.sN.t .rfl,.inr (z3.elim (λy=>aj y.2.2 λo y1 y2=>⟨o,(uO y.1 _).trans y1,y2⟩) λy=>aj y λo y1 y2=>⟨o,R.sN _ _ y1,y2⟩)⟩
 ·have p7:=λq:scope.names.lookup x=aa .free=>bG (ou q) λc hc _ k=>(⟨c,(cB q).trans (ay (λo:Option au=>aa (o.getD 0)) hc),.inr k⟩:∃c,bY.cells.lookup x=aa c∧((c∈bY.locals::(iL scope).filterMap (bY.cells.lookup ·)∧∃v,(HZ (s.heap.push {cls:=.type "dict",data:=.dict #[]}) scope.names).IsCell c v)∨∃o v,P.under own s.heap c=aa o∧o.data=.cell v))
  have mB:=λq:scope.names.lookup x=aa .cell=>aj (cA q) λc hc k=>(⟨c,hc,.inl ⟨mo q hc,af,(cs.empty _ _ k).1⟩⟩:∃c,bY.cells.lookup x=aa c∧((c∈bY.locals::(iL scope).filterMap (bY.cells.lookup ·)∧∃v,(HZ (s.heap.push {cls:=.type "dict",data:=.dict #[]}) scope.names).IsCell c v)∨∃o v,P.under own s.heap c=aa o∧o.data=.cell v));exact(Nq (sc:=F.sc) (x:=x) (names:=scope.names)).elim (λe=>hx.elim (λq=>mB (e.symm.trans q)) λq=>p7 (e.symm.trans q)) λe=>p7 e.1
 ·have e:=cN hx
  exact⟨(rb e).elim id λe=>e.2,aj (cA e) λc h1 h2=>xA (cs.empty _ _ h2) λq1 q2=>⟨c,af,h1,mo e h1,hL▸dG q2,q1⟩⟩
 ·have m1:=iw (cN hx) h1
  exact(cC h2).elim (λm2=>name_of_addr cs.apart m1 m2) λq=>bG (ou q.1) λakb hc lt _=>bc (bI (q.2.trans (ay (λo:Option au=>o.getD 0) hc)▸lt) (gg (cs.empty _ _ m1).2)) (fo _)
 ·exact(ow ha).elim (λe=>Gk lG λo es ep q1 q2 _=>⟨o,e▸q1,xR q2⟩) λq=>q.elim λy hy=>aj (cs.empty y a hy).1 λo q1 q2=>⟨o,q1,CT q2⟩
noncomputable def By(elt:Expr)(gens:List dC)(scope:cb)(pos:Pos)(d:Nat)(acc:Value)(ae:Env)(K:Sem lj):Sem lj:=
 match gens[d+1]? with
 |some g'=>do
  let x ←d9 g'.iter ae
  kh g'.iter.pos
  let x ←if g'.is_async !=0 then foldedIterable g'.iter x else w0 g'.iter ae x
  let _ ←runOwn (.compStart (.ListComp elt gens scope pos) (d+1) (←ju [x] (if g'.is_async !=0 then asyncIter x else qM x)) acc ae) ae
  K
 |none=>do
  (do let _ ←pv (.builtin "list.append") [acc,←d9 elt ae])
  K
noncomputable def lA(gens:List dC):Bool:=gens.all λg=>g.is_async==0
theorem PH{gens:List dC}{d:Nat}{g:dC}(hg:gens[d]? =aa g)(ho:lA gens=ab):g.is_async=0:=eq_of_beq (dc.mp ho g (bN hg))
theorem wp_turn{M:i2}{A:dZ}{E:Value→ak→Prop}{s:ak}{elt:Expr}{gens:List dC}{scope:cb}{pos:Pos}{d:Nat}{g:dC}{it acc:Value}{ae:Env}{Q:lj→ak→Prop}(hg:gens[d]? =aa g)(ho:lA gens=ab)
  (h:aw M A (uD it) (λr aZ=>match r with
   |none=>Q (.done .next) aZ
   |some v=>aw M A (Dy g.target it v) (λ_ bz=>aw M A (pq g.target ae v) (λ_ ey=>aw M A (forIn g.ifs ab (λc r=>if r=ab then do let ok ←isTrue c ae (d9 c ae);pure (H0 ok) else pure (H0 r)))
     (λok nj=>aw M A (if ok=ab then By elt gens scope pos d acc ae (again (.compLoop (.ListComp elt gens scope pos) d it acc ae)) else again (.compLoop (.ListComp elt gens scope pos) d it acc ae)) Q E nj) E ey) E bz) E aZ) E s):
  aw M A (compTurn (.ListComp elt gens scope pos) d it acc ae) Q E s:=by
 obtain⟨t,i,ifs,a⟩:=g;obtain rfl:a=0:=(PH hg ho)
 delta compTurn
 dsimp only;rw[hg];refine wb (jJ (wb (ox h (λr aZ ag=>?_) λ_ _ x=>x)))
 cases r with
 |none=>exact aD ag
 |some v=>exact wb (ox ag (λ_ bz aC=>wb (ox aC (λ_ ey cL=>wb (ox cL (λok nj j4=>j4) λ_ _ x=>x)) λ_ _ x=>x)) λ_ _ x=>x)
variable{elt:Expr}{gens:List dC}{scope:cb}{pos:Pos}{acc:Nm}{d:Nat}
def ω(G:Gl)(F:FD)(b:Nat)(fr:SF)(h:SH)(elt:Expr)(gens:List dC)(scope:cb)(pos:Pos)(acc:Nm)(d:Nat)(k:df)(i:Nat)(Q:QF):Prop:=
 ∀own ae A P m s I T (R':wW→ak→Prop) ad,Rel G F b own ae A P m fr h s→kZ k i P m s.heap I T→fF G own P m s.heap T→m acc=aa ad→
  (∀fr' h' s' P' m',Q fr' h'→P.le P'→m.le m'→Rel G F b own ae A P' m' fr' h' s'→R' (.ok .next) s')→ki (aR G.prog G.w) A (.compLoop (.ListComp elt gens scope pos) d (.ref I) (.ref ad.1) ae) R' s
abbrev Af(G:Gl)(F:FD)(b:Nat)(fr:SF)(h:SH)(elt:Expr)(gens:List dC)(scope:cb)(pos:Pos)(acc:Nm)(d:Nat)(k:df)(i:Nat)(Q:QF):Prop:=Bx (ω G F b fr h elt gens scope pos acc d k i Q)
def ac3(G:Gl)(F:FD)(b:Nat)(fr:SF)(h:SH)(elt:Expr)(gens:List dC)(scope:cb)(pos:Pos)(acc:Nm)(d:Nat)(Q:QF):Prop:=
 ∀own ae A P m s (K:Sem lj) (Q':lj→ak→Prop) (E':Value→ak→Prop) ad,Rel G F b own ae A P m fr h s→m acc=aa ad→
  (∀fr' h' s' P' m',Q fr' h'→P.le P'→m.le m'→Rel G F b own ae A P' m' fr' h' s'→aw (aR G.prog G.w) A K Q' E' s')→aw (aR G.prog G.w) A (By elt gens scope pos d (.ref ad.1) ae K) Q' E' s
abbrev x9(G:Gl)(F:FD)(b:Nat)(fr:SF)(h:SH)(elt:Expr)(gens:List dC)(scope:cb)(pos:Pos)(acc:Nm)(d:Nat)(Q:QF):Prop:=Bx (ac3 G F b fr h elt gens scope pos acc d Q)
def E0(G:Gl)(F:FD)(b:Nat)(fr:SF)(h:SH)(ifs:List Expr)(Q:Bool→SH→Prop):Prop:=match ifs with
 |[]=>Q ab h
 |[c]=>WB G F b fr h c Q lZ
 |_=>False
theorem qx{E':Value→ak→Prop}:gT G F b own ae A P m fr lZ E':=λ_ _ _ _ _ _ q=>q.elim
theorem OZ{n:Nm}{vs:List SV}{v:SV}{v':Value}{ad:au×au}{Q':Value→ak→Prop}{E':Value→ak→Prop}(R:Rel G F b own ae A P m fr h s)(hn:h n=aa (.list vs))(hm:m n=aa ad)(hv:VR P m v v')(hz:vs.length≤cR)
  (c:∀s',Rel G F b own ae A P m fr (h.set n (.list (vs++[v]))) s'→Q' .none s'):aw (aR G.prog G.w) A (pv (.builtin "list.append") [.ref ad.1,v']) Q' E' s:=by
 refine R.mK hn hm λxs kk q2 q3=>?_;refine wpAny_list_append_plain (items:=xs) ⟨kk,q2⟩ (λh' hl hs=>c _ (hl.elim λkk' jZ=>aj (R.obj n _ hn) λTb z1 z2=>
  R.turn hn hm (λa o n1 n2 e=>(hs.2 a n1).trans e) rfl rfl ⟨aY (z1.symm.trans hm)▸z2.1,xs.push v',kk',jZ,(H3 (xs:=xs) (x:=v')).symm▸q3.app (aO.one hv)⟩)) (fQ▸q3.length▸hz)
theorem IX{k:df}{i:Nat}{Q':Value→ak→Prop}{E':Value→ak→Prop}(R:Rel G F b own ae A P m fr h s)(hI:kZ k i P m s.heap I T)(hq:Q' (.ref I) s):aw (aR G.prog G.w) A (qM (.ref I)) Q' E' s:=by
 have en {k} (hI:qp k i P m s.heap I T):aw (aR G.prog G.w) A (qM (.ref I)) Q' E' s:=by
  refine gK hI λJ old _ _ hE _=>?_;clear hI;exact agq hE hq
 cases k with
 |list n=>refine mN hI λ_ ad _ hit=>?_;clear hI;exact wpAny_pyIter_listiter hit hq
 |tup vs=>refine mN hI λ_ t _ hit=>?_;clear hI;exact wpAny_pyIter_tupleiter hit hq
 |range a c=>exact wpAny_pyIter_rangeiter hI.2 hq
 |keys n len=>refine mN hI λ_ ad _ hit=>?_;clear hI;exact wpAny_pyIter_keyiter hit hq
 |enumL n=>exact en hI
 |enumT n=>exact en hI
 |str x=>refine B6 hI λ_ t hit=>?_;clear hI;exact wpAny_pyIter_striter_ascii hit hq
theorem Pf{g:dC}(hg:gens[d]? =aa g)(ho:lA gens=ab){it qb:Value}{R':wW→ak→Prop}
  (h0:ki (aR G.prog G.w) A (.compLoop (.ListComp elt gens scope pos) d it qb ae) R' s)
  (h1:aw (aR G.prog G.w) A (qM it) (λyP s'=>ki (aR G.prog G.w) A (.compLoop (.ListComp elt gens scope pos) d yP qb ae) R' s') (notedBy (aR G.prog G.w) A ae λx s'=>R' (.error x) s') s):
  ki (aR G.prog G.w) A (.compStart (.ListComp elt gens scope pos) d it qb ae) R' s:=by
 have ha:g.is_async=0:=by
  have:=dc.mp ho g (bN hg)
  simpa using this
 refine Qi ?_;have e:(aR G.prog G.w).den (.compStart (.ListComp elt gens scope pos) d it qb ae)=((compStart (.ListComp elt gens scope pos) d it qb ae).onRaise (λx=>do H4 x ae;kh theWindowsPlace)):=by
  cases d<;>rfl
 rw[e];show aw _ A _ _ _ s;refine wpAny_notedAt ?_;unfold compStart clausesOf;rw[hg];simp only[Option.elim_some,ha,show((0:Int) !=0)=an from rfl,Bool.false_eq_true,if_false];refine wb (zN (wpAny_ite ?_))
 split
 ·exact wb (aD (aD (Qj rfl h0)))
 ·exact wb (jK (wb (jJ (wb (ox h1 (λyP s' h'=>aD (Qj rfl h')) λ_ _ x=>x)))))
theorem TF{Q:QF}(hd:gens[d+1]? =af)(w:WE G F b fr h elt (λv ag=>∃vs,ag acc=aa (.list vs)∧vs.length≤cR∧Q fr (ag.set acc (.list (vs++[v])))) lZ):x9 G F b fr h elt gens scope pos acc d Q:=by
 refine .mk λown ae A P m s K Q' E' ad R hm c=>?_;unfold By;rw[hd];exact wb (wb (w.run own ae A P m s _ _ R (λv ag v' aZ bW bU hq hP x0 hv a6=>bG hq λvs h1 h2 h3=>wb (OZ a6 h1 (x0 _ _ hm) hv h2 λs' R'=>aD (c _ _ _ _ _ h3 hP x0 R'))) qx))
theorem Wk{g':dC}{Q:QF}(hd:gens[d+1]? =aa g')(ho:lA gens=ab)(oF:∀ae x,w0 g'.iter ae x=pure x)
  (w:WI G F b fr h g'.iter (λk ag=>Af G F b fr ag elt gens scope pos acc (d+1) k 0 Q) lZ):x9 G F b fr h elt gens scope pos acc d Q:=by
 refine .mk λown ae A P m s K Q' E' ad R hm c=>?_;unfold By;rw[hd];obtain⟨t,it,ifs,a⟩:=g';obtain rfl:a=0:=(PH hd ho);refine wb (ox (w.run own ae A P m s (λit aZ=>aw (aR G.prog G.w) A (runOwn (.compStart (.ListComp elt gens scope pos) (d+1) it (.ref ad.1) ae) ae) (λ_ bz=>aw (aR G.prog G.w) A K Q' E' bz) E' aZ) E' R (λk ag I T aZ bW bU hq hP x0 a6 hI hT=>?_) qx) (λx aZ ag=>?_) λ_ _ x=>x)
 ·have rE:ki (aR G.prog G.w) A (.compLoop (.ListComp elt gens scope pos) (d+1) (.ref I) (.ref ad.1) ae) (λr s'=>match r with|.ok f=>aw (aR G.prog G.w) A K Q' E' s'|.error e=>cameBackBy (aR G.prog G.w) A ae E' e s') aZ:=
   hq.run own ae A bW bU aZ I T _ ad a6 hI hT (x0 _ _ hm) λfr' h' s' P' m' q a b R'=>c _ _ _ _ _ q (hP.trans a) (x0.trans b) R'
  exact wpAny_runOwn (Pf hd ho rE (IX a6 hI rE))
 ·exact wb (jJ (wb (qL (oF ae x) (wb (dM (ox ag (λit bz aC=>wb aC) λ_ _ x=>x))))))
theorem Δ{ifs:List Expr}{Qt:Bool→SH→Prop}{Q':Bool→ak→Prop}{E':Value→ak→Prop}(q:E0 G F b fr h ifs Qt)(R:Rel G F b own ae A P m fr h s)
  (c:∀t h' s' P' m',Qt t h'→P.le P'→m.le m'→Rel G F b own ae A P' m' fr h' s'→Q' t s'):
  aw (aR G.prog G.w) A (forIn ifs ab (λc r=>if r=ab then do let ok ←PySem.isTrue c ae (d9 c ae);pure (H0 ok) else pure (H0 r))) Q' E' s:=
 match ifs,q with
 |[],q=>wpAny_tests_nil (c _ _ _ _ _ q .rfl .rfl R)
 |[_],q=>wpAny_tests_one (q.run own ae A P m s _ _ R (λt r8 tW wj rQ n9 ro l6 pd=>c _ _ _ _ _ n9 ro l6 pd) qx)
theorem Z4{g:dC}{k:df}{i:Nat}{Q:QF}(hg:gens[d]? =aa g)(ho:lA gens=ab)(hq:F.q=ab)(qz:mD k g.target)(J:Nat→Nat→SF→SH→Prop)(n:Nat)(h0:J n i fr h)
  (turn:∀n i eo aC,J n i eo aC→jD (Q eo aC) (λv=>
    WA G F b eo aC g.target v (λjU cL=>E0 G F b jU cL g.ifs (λc j4=>if c then x9 G F b jU j4 elt gens scope pos acc d (λHf wD=>∃k,k<n∧J k (i+1) Hf wD)
      else ∃k,k<n∧J k (i+1) jU j4)) nX) (ji k i aC)):Af G F b fr h elt gens scope pos acc d k i Q:=by
 refine .mk ?_;intro own ae A P m s I T R' ad R hI hT hm c;have e:∀it qb,(aR G.prog G.w).den (.compLoop (.ListComp elt gens scope pos) d it qb ae)=((compTurn (.ListComp elt gens scope pos) d it qb ae).onRaise (λx=>do H4 x ae;theTreesLotGoes x)):=λit qb=>by
  cases d<;>rfl
 refine codeAny_loop rfl (xe G F b own ae A P m k I T J) (λn bz=>?_) n ⟨P,m,fr,h,i,h0,.rfl,.rfl,R,hI,hT⟩;intro⟨cD,cu,eo,aC,i,hJ,cQ,cM,bk,Ez,wp⟩;rw[e _ _];show aw _ A _ _ _ bz;refine wpAny_noted ?_;have stop:∀{s'},(∃k',k'<n∧xe G F b own ae A P m k I T J k' s')→aw (aR G.prog G.w) A (again (.compLoop (.ListComp elt gens scope pos) d (.ref I) (.ref ad.1) ae)) (λfin s'=>match fin with
   |.done f=>R' (.ok f) s'
   |.again c'=>c'=.compLoop (.ListComp elt gens scope pos) d (.ref I) (.ref ad.1) ae∧∃k',k'<n∧xe G F b own ae A P m k I T J k' s') (notedBy (aR G.prog G.w) A ae λe s'=>R' (.error e) s') s':=λq=>aD ⟨rfl,q⟩
 refine wp_turn hg ho (LS (T:=T) hq qz bk Ez wp ((turn n i eo aC hJ).imp (λtn ey cW=>c _ _ _ _ _ tn cQ cM cW) λv tn v' ey ly fZ cW fB Hx xI=>?_));refine xA (cW.hold xI) λf8 le=>tn.run own ae A _ cu ey _ _ v' f8 (fB.mono le.t .rfl) (λHf wD yo ya v9 q uq lW k8=>?_) t9;have fin {vK r8 tW wj rQ} (q:∃k',k'<n∧J k' (i+1) vK r8) (ro:ya.le wj) (l6:v9.le rQ) (pd:Rel G F b own ae A wj rQ vK r8 tW):=stop (s':=tW)
  (aj q λkk hk Wn=>yk (cW.drop xI pd (uq.trans ro) (lW.trans l6)) λl1 l2 rz G0 hex=>⟨kk,hk,_,rQ,vK,r8,i+1,Wn,(cQ.trans fZ).trans l1,(cM.trans lW).trans l6,rz,Hx.move l1.t (lW.trans l6) hex,G0⟩)
 refine Δ q k8 λt r8 tW wj rQ n9 ro l6 pd=>?_
 cases t with
 |true=>exact(show x9 G F b _ _ _ _ _ _ _ _ _ from n9).run own ae A wj rQ tW _ _ _ ad pd (l6 _ _ (lW _ _ (cM _ _ hm))) λfr' h' s' P' m' q a b RK=>fin q (ro.trans a) (l6.trans b) RK
 |false=>exact fin n9 ro l6 pd
noncomputable instance:DecidableEq SV
 |.str x,.str y=>decidable_of_iff (x=y) ⟨ay _,SV.str.inj⟩
 |_,_=>Classical.propDecidable _
mutual
noncomputable def SV.data:Nat→SV→Bool
 |_,.none=>ab
 |_,.int _=>ab
 |_,.str _=>ab
 |n+1,.tup vs=>eK n vs
 |_,_=>an
noncomputable def eK:Nat→List SV→Bool
 |_,[]=>ab
 |n,v::vs=>SV.data n v && eK n vs
end
theorem sL{n:Nat}:∀{vs:List SV},eK n vs=ab↔∀v∈vs,SV.data n v=ab
 |[]=>⟨λ_=>nofun,λ_=>rfl⟩
 |v::vs=>(bO _ _▸Iff.rfl:(SV.data n v && eK n vs)=ab↔_).trans ((and_congr_right λ_=>sL (vs:=vs)).trans Qc.symm)
theorem DR{n:Nat}:∀{vs:List SV},SV.keys n vs=ab↔∀v∈vs,SV.key n v=ab
 |[]=>⟨λ_=>nofun,λ_=>rfl⟩
 |v::vs=>(bO _ _▸Iff.rfl:(SV.key n v && SV.keys n vs)=ab↔_).trans ((and_congr_right λ_=>DR (vs:=vs)).trans Qc.symm)
theorem pK{n:Nat}{k:SV}{C:Prop}(h:SV.key n k=ab)(ci:∀i,k=.int i→C)(cs:∀i,k=.str i→C)(ct:∀vs q,n=q+1→k=.tup vs→(∀v∈vs,SV.key q v=ab)→C):C:=by
 cases k with
 |int i=>exact ci i rfl
 |str i=>exact cs i rfl
 |tup vs=>
  cases n with
  |zero=>exact cJ h
  |succ n=>exact ct vs n rfl rfl (DR.mp h)
 |_=>cases n<;>exact cJ h
theorem sM{n:Nat}:∀{v:SV},SV.key n v=ab→SV.data n v=ab:=by
 induction n with
 |zero=>intro v h;exact pK h (λi e=>e▸rfl) (λi e=>e▸rfl) λ_ _ e=>nomatch e
 |succ n ih=>intro v h;exact pK h (λi e=>e▸rfl) (λi e=>e▸rfl) λvs q e e' k=>by cases e;subst e';exact sL.mpr λv hv=>ih (k v hv)
theorem VR.kinds{x:SV}{v:Value}{n:Nat}{C:SV→Value→Prop}(hx:VR P m x v)(dx:SV.data n x=ab)(c0:C .none .none)(ci:∀i t,C (.int i) (.int i t))(cs:∀i t,C (.str i) (.str i t))
  (ct:∀xs a o items k q,n=q+1→(∀v∈xs,SV.data q v=ab)→P a=aa o→o.cls=.type "tuple"→o.data=.seq items k→aO P m xs items.toList→C (.tup xs) (.ref a)):C x v:=by
 cases x with
 |none=>cases hx;exact c0
 |int i=>refine xE hx λt br=>?_;clear hx;subst br;exact ci i t
 |str i=>refine xE hx λt br=>?_;clear hx;subst br;exact cs i t
 |tup xs=>
  obtain⟨a,o,items,k,rfl,h1,h2,h3,h4⟩:=hx
  cases n with
  |zero=>exact cJ dx
  |succ n=>exact ct xs a o items k n rfl (sL.mp dx) h1 h2 h3 h4
 |_=>cases n<;>exact cJ dx
theorem Rel.nM(R:Rel G F b own ae A P m fr h s){vs:List SV}{v:Value}(hv:VR P m (.tup vs) v):∃a items,v=.ref a∧s.heap.IsTuple a items∧aO P m vs items.toList:=by
 obtain⟨a,o,items,n,rfl,h2,h3,h4,h5⟩:=hv;refine bG (R.rP h2) λo' q1 q2 q3=>?_;exact⟨a,items,rfl,⟨o',q1,q2.trans h3,n,q3.trans h4⟩,h5⟩
theorem aO.size{vs:List SV}{xs:Array Value}(h:aO P m vs xs.toList):vs.length=xs.size:=by rw[h.length,fQ]
theorem aO.at{vs:List SV}{xs:Array Value}(h:aO P m vs xs.toList){j:Nat}(hj:j<xs.size):∃x,vs[j]? =aa x∧VR P m x xs[j]:=by
 have hl:j<vs.length:=h.size▸hj;refine aj (h.get (fb hl)) λw q1 q2=>?_
 cases q1.symm.trans (jt.trans (jr hj))
 exact(aU (vs[j]) (fb hl) q2)
theorem DX(x y:List SV):decide (x=y)=((bo (min x.length y.length)).all (λj=>decide (x[j]? =y[j]?)) && x.length==y.length):=by
 by_cases h:x=y
 ·subst h
  exact(eQ rfl).trans (Dx.mpr ⟨dc.mpr λj _=>eQ rfl,qF _⟩).symm
 ·refine(i0 h).trans (DC.mpr λe=>h ?_).symm
  refine xA (Dx.mp e) λe1 e2=>?_;have e2:=eq_of_beq e2;refine agr λj=>?_;rcases Qk j x.length with hj|hj
  ·exact fC (dc.mp e1 j (dR.mpr (Nat.lt_min.mpr ⟨hj,e2▸hj⟩)))
  ·exact(md hj).trans (md (e2▸hj)).symm
theorem aO.inj{xs:List SV}(ih:∀x∈xs,∀y v,VR P m x v→VR P m y v→∀k,SV.data k y=ab→x=y){k:Nat}:∀{ys:List SV} {vs:List Value},aO P m xs vs→aO P m ys vs→(∀y∈ys,SV.data k y=ab)→xs=ys:=by
 induction xs with
 |nil=>
  intro ys vs hx hy _
  cases hx
  cases ys with
  |nil=>rfl
  |cons y ys=>refine d_ hy λ_ _ e _=>?_;clear hy;exact wk e
 |cons x xs il=>
  intro ys vs hx hy dy;refine bP hx λv r ax h1 h2=>?_;clear hx;subst ax
  cases ys with
  |nil=>cases hy
  |cons y ys=>
   refine bP hy λ_ _ e h3 h4=>?_;clear hy
   cases e
   rw[ih x dA y v h1 h3 k (dy y dA),il (λx hx=>ih x (eT _ hx)) h2 h4 λy hy=>dy y (eT _ hy)]
theorem VR.R5(n:Nat):∀{x:SV} {v:Value},VR P m x v→SV.data n x=ab→∀y,VR P m y v→∀k,SV.data k y=ab→x=y:=by
 have base {n:Nat} {x:SV} {v:Value} (hx:VR P m x v) (dx:SV.data n x=ab) (ct:∀xs a o items k q,n=q+1→(∀v∈xs,SV.data q v=ab)→P a=aa o→o.data=.seq items k→aO P m xs items.toList→
   ∀ys q8 l k,P a=aa o→(∀v∈ys,SV.data k v=ab)→o.data=.seq q8 l→aO P m ys q8.toList→xs=ys):∀y,VR P m y v→∀k,SV.data k y=ab→x=y:=by
  refine hx.kinds (C:=λx v=>∀y,VR P m y v→∀k,SV.data k y=ab→x=y) dx ?_ (λi t=>?_) (λi t=>?_) λxs a o items k q e d h1 _ h3 h4=>?_<;>intro y hy j dy
  ·exact hy.kinds (C:=λy v=>v=.none→.none=y) dy (λ_=>rfl) (λ_ _=>nofun) (λ_ _=>nofun) (λ_ _ _ _ _ _ _ _ _ _ _ _=>nofun) rfl
  ·exact hy.kinds (C:=λy v=>v=.int i t→.int i=y) dy nofun (λ_ _ e=>by cases e;rfl) (λ_ _=>nofun) (λ_ _ _ _ _ _ _ _ _ _ _ _=>nofun) rfl
  ·exact hy.kinds (C:=λy v=>v=.str i t→.str i=y) dy nofun (λ_ _=>nofun) (λ_ _ e=>by cases e;rfl) (λ_ _ _ _ _ _ _ _ _ _ _ _=>nofun) rfl
  ·refine hy.kinds (C:=λy v=>v=.ref a→.tup xs=y) dy nofun (λ_ _=>nofun) (λ_ _=>nofun) (λys a' o' q8 l q' _ dy p1 _ p3 p4 e'=>?_) rfl
   cases e'
   cases h1.symm.trans p1
   exact ay SV.tup (ct xs a o items k q e d h1 h3 h4 ys q8 l q' h1 dy p3 p4)
 induction n with
 |zero=>intro x v hx dx;exact base hx dx λ_ _ _ _ _ _ e=>nomatch e
 |succ n il=>
  intro x v hx dx;refine base hx dx λxs a o items k q e d _ h3 h4 ys q8 l j _ dy p3 p4=>?_
  cases e
  cases h3.symm.trans p3
  exact h4.inj (λx hx y v h1 h2 k dk=>il h1 (d x hx) y h2 k dk) p4 dy
theorem VR.inj(x:SV){y:SV}{v:Value}{n k:Nat}(hx:VR P m x v)(hy:VR P m y v)(dx:SV.data n x=ab)(dy:SV.data k y=ab):x=y:=hx.R5 n dx y hy k dy
open PySem.SeqAt in
theorem Rel.vZ(R:Rel G F b own ae A P m fr h s)(n:Nat):∀{A':dZ} {x y:SV} {v u:Value},VR P m x v→VR P m y u→SV.data n x=ab→SV.data n y=ab→A'.units+n<ez→EqAt A' s v u (decide (x=y)):=by
 have no {A':dZ} {x y:SV} {v u:Value} (e:EqAt A' s v u an) (ne:x≠y):EqAt A' s v u (decide (x=y)):=by rw[i0 ne];exact e
 have fj {A':dZ} {x y:SV} {v u:Value} (e:EqAt A' s v u ab) (ne:x=y):EqAt A' s v u (decide (x=y)):=by rw[eQ ne];exact e
 have tu {a:au} {o:Obj} {items:Array Value} {k:Nat} (h1:P a=aa o) (h2:o.cls=.type "tuple") (h3:o.data=.seq items k):s.heap.IsTuple a items:=by
  refine bG (R.rP h1) λo' q1 q2 q3=>?_;exact⟨o',q1,q2.trans h2,k,q3.trans h3⟩
 have Kn {n:Nat} {A':dZ} {x y:SV} {v u:Value} (hx:VR P m x v) (hy:VR P m y u) (dx:SV.data n x=ab) (dy:SV.data n y=ab) (hu:A'.units<ez)
   (tt:∀xs ys a c ia ic q,n=q+1→(∀v∈xs,SV.data q v=ab)→(∀v∈ys,SV.data q v=ab)→VR P m (.tup xs) (.ref a)→VR P m (.tup ys) (.ref c)→s.heap.IsTuple a ia→s.heap.IsTuple c ic→aO P m xs ia.toList→aO P m ys ic.toList→
    EqAt A' s (.ref a) (.ref c) (decide (SV.tup xs=SV.tup ys))):EqAt A' s v u (decide (x=y)):=by
  refine hx.kinds (C:=λx v=>EqAt A' s v u (decide (x=y))) dx ?_ (λi t=>?_) (λi t=>?_) λxs a o items k q e d h1 h2 h3 h4=>?_
  ·exact hy.kinds (C:=λy u=>EqAt A' s .none u (decide (.none=y))) dy (fj (.same _) rfl) (λj t'=>no (.none_int j t') (nomatch ·)) (λj t'=>no (.none_str j t') (nomatch ·)) λys c o items k q e d h1 h2 h3 h4=>no (.none_tuple (tu h1 h2 h3) hu) (nomatch ·)
  ·refine hy.kinds (C:=λy u=>EqAt A' s (.int i t) u (decide (.int i=y))) dy (no (.int_none i t) (nomatch ·)) (λj t'=>?_) (λj t'=>no (.int_str i t j t') (nomatch ·)) λys c o items k q e d h1 h2 h3 h4=>no (.int_tuple i t (tu h1 h2 h3) hu) (nomatch ·)
   have e:=EqAt.int_int (A:=A') (s:=s) i t j t'
   by_cases z:i=j
   ·exact fj (eX.mpr z▸e) (z▸rfl)
   ·exact no (k9.mpr z▸e) λw=>z (by cases w;rfl)
  ·refine hy.kinds (C:=λy u=>EqAt A' s (.str i t) u (decide (.str i=y))) dy (no (.str_none i t) (nomatch ·)) (λj t'=>no (.str_int i t j t') (nomatch ·)) (λj t'=>?_) λys c o items k q e d h1 h2 h3 h4=>no (.str_tuple i t (tu h1 h2 h3) hu) (nomatch ·)
   have e:=EqAt.str_str (A:=A') (s:=s) i t j t'
   by_cases z:i=j
   ·exact fj (eX.mpr z▸e) (z▸rfl)
   ·exact no (k9.mpr z▸e) λw=>z (by obtain rfl:=Mine.Internal.SV.str.inj w;rfl)
  ·exact hy.kinds (C:=λy u=>EqAt A' s (.ref a) u (decide (.tup xs=y))) dy (no (.tuple_none (tu h1 h2 h3) hu) (nomatch ·)) (λj t'=>no (.tuple_int j t' (tu h1 h2 h3) hu) (nomatch ·)) (λj t'=>no (.tuple_str j t' (tu h1 h2 h3) hu) (nomatch ·))
    λys c o' q8 k' q' e' d' p1 p2 p3 p4=>tt xs ys a c items q8 q e d (by cases e.symm.trans e';exact d') ⟨a,o,items,k,rfl,h1,h2,h3,h4⟩ ⟨c,o',q8,k',rfl,p1,p2,p3,p4⟩ (tu h1 h2 h3) (tu p1 p2 p3) h4 p4
 induction n with
 |zero=>intro A' x y v u hx hy dx dy hu;exact Kn hx hy dx dy hu λ_ _ _ _ _ _ _ e=>nomatch e
 |succ n ih=>
  intro A' x y v u hx hy dx dy hu;refine Kn hx hy dx dy (bd (b6 _ _) hu) λxs ys a c ia ic q e dx dy vx vy ha hc nU nB=>?_
  cases e
  by_cases MP:a=c
  ·subst MP
   exact fj (.same _) (vx.inj _ vy (n:=n+1) (k:=n+1) (sL.mpr dx) (sL.mpr dy))
  ·have e:decide (SV.tup xs=SV.tup ys)=((bo (min ia.size ic.size)).all (λj=>decide (xs[j]? =ys[j]?)) && ia.size==ic.size):=by
    rw[←nU.size,←nB.size,←DX];exact mY.mpr ⟨λh=>by cases h;rfl,ay _⟩
   rw[e];refine EqAt.of_refs MP (RcAt.tuples ha hc (bd (b6 _ _) hu) λj h1 h2=>?_);refine aj (nU.at h1) λx q1 q2=>?_;refine aj (nB.at h2) λy p1 p2=>?_;rw[(mY.mpr (by rw[q1,p1];exact⟨aY,ay _⟩):decide (xs[j]? =ys[j]?)=decide (x=y))];exact ih q2 p2 (dx x (bN q1)) (dy y (bN p1)) (by show A'.units+1+n<ez;exact bd (bF (wN _ _)) ‹_›)
section
section
theorem Rel.room(R:Rel G F b own ae A P m fr h s):A.units+8<ez:=bd (oj (b6 _ _) 8) R.units
theorem A9{α:Type}{M:i2}{A:dZ}{E:Value→ak→Prop}{Q:α→ak→Prop}{s:ak}{c:Bool}{x y:Sem α}(e:c=ab)(w:aw M A x Q E s):aw M A (if c=ab then x else y) Q E s:=by subst e;exact w
theorem mS{α:Type}{M:i2}{A:dZ}{E:Value→ak→Prop}{Q:α→ak→Prop}{s:ak}{c:Bool}{x y:Sem α}(e:c=an)(w:aw M A y Q E s):aw M A (if c=ab then x else y) Q E s:=by subst e;exact w
theorem Z8(w:cE)(l:List SV):C8 w l=l.map (bZ w):=by
 induction l with
 |nil=>rfl
 |cons x r ih=>exact ay (bZ w x::·) ih
theorem Y7{E:Value→ak→Prop}{A:dZ}{Q:Array Int→ak→Prop}{f:Value→Array Int→Sem (ForInStep (Array Int))}(hf:∀v r,f v r=(do let y ←pyHash v;pure (.yield (r.push y)))){left:List SV}:
  ∀{rest:List Value} {r:Array Int} {s:ak},aO P m left rest→(∀k∈left,∀{v:Value} {s':ak} {Q':Int→ak→Prop},s'.heap=s.heap→VR P m k v→(∀t,Q' (bZ G.w k) {s' with toks:=t})→aw (aR G.prog G.w) A (pyHash v) Q' E s')→
  (∀r' t,r'.toList=r.toList++left.map (bZ G.w)→Q r' {s with toks:=t})→aw (aR G.prog G.w) A (forIn rest r f) Q E s:=by
 induction left with
 |nil=>exact λ{_ r s} h _ hq=>h▸aD (hq r s.toks (gP _).symm)
 |cons k left ih=>
  intro rest r s h hk hq;refine bP h λv rest e h1 h2=>e▸?_;rw[py,hf _ _];exact wb (wb (hk k (.head _) rfl h1 λt=>aD (ih h2 (λk' dW=>hk k' (.tail _ dW)) λr' t' e=>hq r' t' (e.trans (by rw[H3,wR _ _ _];rfl)))))
theorem Rel.hash(E:Value→ak→Prop)(n:Nat):∀{A:dZ} {s:ak} {k:SV} {v:Value} {Q:Int→ak→Prop},A.units+n<ez→VR P m k v→
  (∀a o,P a=aa o→∃o',s.heap.get? a=aa o'∧o'.cls=o.cls∧o'.data=o.data)→SV.key n k=ab→(∀t,Q (bZ G.w k) {s with toks:=t})→aw (aR G.prog G.w) A (pyHash v) Q E s:=by
 induction n with
 |zero=>
  exact λ{A s k v Q} hu hv hP hk hq=>pK hk (λi e=>xE (e▸hv:VR P m (.int i) v) λt z=>z▸ags ((e▸hq:∀t,Q (bZ G.w (.int i)) {s with toks:=t}) _)) (λi e=>xE (e▸hv:VR P m (.str i) v) λt z=>z▸agt ((e▸hq:∀t,Q (bZ G.w (.str i)) {s with toks:=t}) _)) λvs q e=>nomatch e
 |succ n ih=>
  refine λ{A s k v Q} hu hv hP hk hq=>pK hk (λi e=>xE (e▸hv:VR P m (.int i) v) λt z=>z▸ags ((e▸hq:∀t,Q (bZ G.w (.int i)) {s with toks:=t}) _)) (λi e=>xE (e▸hv:VR P m (.str i) v) λt z=>z▸agt ((e▸hq:∀t,Q (bZ G.w (.str i)) {s with toks:=t}) _)) λvs q e e' E1=>?_;subst e';refine oY hv λa o items q' ev h=>mz h λh2 h3 h4 h5=>bG (hP a o h2) λo' ho hc hd=>ev▸?_;have hT:s.TypeIs (.ref a) "tuple":=⟨o',ho,hc.trans h3⟩;unfold pyHash;unfold pyHashByItsType;refine wb (wpAny_cRoomFor_or (.inr (bd (b6 _ _) hu)) (wb (qN hT F.slot_tuple_hash.lookup ?_)));show aw _ _ (if(aa (H5 "tuple.__hash__")==aa eH)=ab then _ else _) Q E s;refine dU (by rw[agu _];rfl) (wb (qN hT F.slot_tuple_hash.lookup ?_));show aw _ _ (callSpecialIfBoundUnlessNone? (.ref a) "__hash__" _ >>=_) Q E s;refine wb (wpAny_callSpecialIfBoundUnlessNone?_slot hT F.slot_tuple_hash (i5 F.slot_tuple_hash hT F.entry_tuple_hash ?_ (F.args_tuple_hash_1 _)));show aw _ _ (Ql (.ref a) >>=_) _ _ s;refine wb (wpAny_tupleItemsOf ho (hd.trans h4) (wb ?_));rw[←H6];refine Y7 (λ_ _=>rfl) h5 (λk dW v s' Q' hs hv hq=>ih (A:=A.in1) (bd (bF (Dj _ _)) hu) hv (hs▸hP) ((DD e).symm▸E1 k dW) hq) λr t e=>?_;show aw _ _ (retInt (Dm r.toList)) _ _ _;refine wpAny_ret_mkInt ?_;rw[e];show aw _ _ (if(decide (-(2:Int)^63≤Dm (vs.map (bZ G.w))) && decide (Dm (vs.map (bZ G.w)) <2^63))=ab then _ else _) Q E _;have hq:∀t,Q (PU (Dm (vs.map (bZ G.w)))) {s with toks:=t}:=Z8 G.w vs▸(show ∀t,Q (LO (C8 G.w vs)) {s with toks:=t} from hq);unfold PU at hq;exact jM (λhr=>aD (by have:=hq;rw[aP hr] at this;exact this _)) λhr=>wb (jK (aD (by have:=hq;rw[aK hr] at this;exact this _)))
theorem D3{α β:Type}{A:dZ}{E:Value→ak→Prop}{Q:β→ak→Prop}{b:β}{f:α→β→Sem (ForInStep β)}{rest:List α}
  (h:∀v∈rest,∀{Q':ForInStep β→ak→Prop},Q' (.yield b) s→aw (aR G.prog G.w) A (f v b) Q' E s) (hq:Q b s):aw (aR G.prog G.w) A (forIn rest b f) Q E s:=by
 induction rest with
 |nil=>exact aD hq
 |cons v rest ih=>
  rw[py];exact wb (h v dA (ih λw hw=>h w (eT _ hw)))
theorem aO.back{l:List SV}:∀{rest:List Value},aO P m l rest→∀v∈rest,∃k∈l,VR P m k v:=by
 induction l with
 |nil=>exact λh v hv=>cT (h▸hv)
 |cons k l ih=>exact λh v hv=>bP h λx r e h1 h2=>(dE.mp (e▸hv:v∈x::r)).elim (λz=>⟨k,.head _,z.symm▸h1⟩) λz=>aj (ih h2 v z) λk' a b=>⟨k',.tail _ a,b⟩
theorem Ad{E:Value→ak→Prop}{A:dZ}{n:Nat}{v:Value}{Q:Bool→ak→Prop}(h:carriedByValue v=ab)(hq:Q ab s):aw (aR G.prog G.w) A (H7 n v) Q E s:=(eqIsQuiet_byValue _ h).symm▸aD hq
theorem IF(E:Value→ak→Prop)(R:Rel G F b own ae A P m fr h s)(n:Nat):∀{A:dZ} {k:SV} {v:Value} {Q:Bool→ak→Prop},VR P m k v→
  SV.key n k=ab→Q ab s→aw (aR G.prog G.w) A (H7 n v) Q E s:=by
 induction n with
 |zero=>exact λ{A k v Q} hv hk hq=>pK hk (λi e=>xE (e▸hv:VR P m (.int i) v) λt z=>Ad (z▸rfl) hq) (λi e=>xE (e▸hv:VR P m (.str i) v) λt z=>Ad (z▸rfl) hq) λvs q e=>nomatch e
 |succ n ih=>
  refine λ{A k v Q} hv hk hq=>pK hk (λi e=>xE (e▸hv:VR P m (.int i) v) λt z=>Ad (z▸rfl) hq) (λi e=>xE (e▸hv:VR P m (.str i) v) λt z=>Ad (z▸rfl) hq) λvs q e e' E1=>?_;subst e';refine bP (R.nM hv) λa items ev hT h5=>ev▸xf hT λo ho hc q hd=>?_;have hT:s.TypeIs (.ref a) "tuple":=⟨o,ho,hc⟩;unfold H7;refine wb (qN hT PySem.F.slot_tuple_eq.lookup ?_);show aw _ _ (H8 (.ref a) (.type "tuple") >>=_) _ _ s;refine wb (w5 hT agv (wb (wY ho hd (wb ?_))));show aw _ _ (forIn items _ _) _ _ s;rw[←H6];exact D3 (λv hv Q' ga=>aj (h5.back v hv) λk' dW fB=>wb (ih fB ((DD e).symm▸E1 k' dW) (aD ga))) (aD hq)
theorem ajj{n:Nat}:∀{k:Nat} {v:SV},n≤k→SV.key n v=ab→SV.key k v=ab:=by
 induction n with
 |zero=>exact λ{k v} _ h=>pK h (λi e=>e▸rfl) (λi e=>e▸rfl) λvs q e=>nomatch e
 |succ n ih=>
  refine λ{k v} hl h=>pK h (λi e=>e▸rfl) (λi e=>e▸rfl) λvs q e e' hk=>e'▸?_
  cases k with
  |zero=>exact bc hl (agw _)
  |succ k=>
   exact DR.mpr λv hv=>ih (H9 hl) ((DD e).symm▸hk v hv)
theorem gE.at{w:cE}{es:List (SV×SV)}:∀{xs:List dL} {j:Nat} {e:dL},gE w P m es xs→xs[j]? =aa e→∃k v,es[j]? =aa (k,v)∧e.hash=bZ w k∧VR P m k e.key∧VR P m v e.val:=by
 induction es with
 |nil=>exact λh q=>a7 (h▸q)
 |cons p es ih=>
  intro xs j e h q;refine tg h λe' r z h1 h2 h3 h4=>?_;subst z
  cases j with
  |zero=>exact aY q▸⟨p.1,p.2,rfl,h1,h2,h3⟩
  |succ j=>exact ih h4 q
theorem TL{es:List (SV×SV)}(hn:(es.map (·.1)).Nodup){i j:Nat}{k v v':SV}(hi:es[i]? =aa (k,v))(hj:es[j]? =aa (k,v')):i=j:=
 (Qm (by rw[aI _];exact(cV.mp hi).1) hn).mp ((dv.trans (ay (ph m6) hi)).trans (dv.trans (ay (ph m6) hj)).symm)
theorem Ml{β:Type}{A:dZ}{E:Value→ak→Prop}{Q:β→ak→Prop}(c:Prop){hit:Nat→Prop}{f:Nat→β→Sem (ForInStep β)}{b:β}{d b':Nat→β}{rest:List Nat}(nd:rest.Nodup)
  (step:∀x∈rest,∀{Q':ForInStep β→ak→Prop},(¬hit x→Q' (.yield b) s)→(hit x→Q' (.done (d x)) s∧(c→Q' (.yield (b' x)) s))→aw (aR G.prog G.w) A (f x b) Q' E s)
  (Jp:c→∀x∈rest,∀y∈rest,y≠x→hit x→∀{Q':ForInStep β→ak→Prop},Q' (.yield (b' x)) s→aw (aR G.prog G.w) A (f y (b' x)) Q' E s)
  (no:(∀x∈rest,¬hit x)→Q b s) (fj:∀x∈rest,hit x→Q (d x) s∧(c→Q (b' x) s)):aw (aR G.prog G.w) A (forIn rest b f) Q E s:=by
 induction rest with
 |nil=>exact aD (no nofun)
 |cons x rest ih=>
  rw[py];have m {y}:y∈rest→y∈x::rest:=eT _;refine wb (step x dA (λh=>ih nd.of_cons (λy hy=>step y (m hy)) (λcc y hy z hz=>Jp cc y (m hy) z (m hz)) (λhn=>no λy hy=>?_) λy hy=>fj y (m hy)) λh=>⟨aD (fj x dA h).1,λcc=>?_⟩)
  ·rcases dE.mp hy with rfl|hy
   ·exact h
   ·exact hn y hy
  ·exact D3 (λy hy Q' hq=>Jp cc x dA y (m hy) (λe=>(lh.mp nd).1 (e▸hy)) h hq) ((fj x dA h).2 cc)
theorem aa1{α:Type}{A:dZ}{E:Value→ak→Prop}{Q:α→ak→Prop}{v:Value}{c:Bool}{u:Str→Sem α}{r:Sem α}(h:∀i t,v=.str i t→c=ab→aw (aR G.prog G.w) A (u i) Q E s)(hr:aw (aR G.prog G.w) A r Q E s):
  aw (aR G.prog G.w) A (match v with|.str i _=>if c=ab then u i else r|_=>r) Q E s:=by
 cases v with
 |str i t=>exact jM (h i t rfl) λ_=>hr
 |_=>exact hr
theorem Yw{α:Type}{A:dZ}{E:Value→ak→Prop}{Q:α→ak→Prop}{v:Value}{c:Bool}{u r:Sem α}(h:¬c=ab)(hr:aw (aR G.prog G.w) A r Q E s):
  aw (aR G.prog G.w) A (match v with|.ref _=>if c=ab then u else r|_=>r) Q E s:=by
 cases v with
 |ref a=>exact jM (λe=>bc e h) λ_=>hr
 |_=>exact hr
theorem Tr(R:Rel G F b own ae A P m fr h s){α:Type}{A':dZ}{E:Value→ak→Prop}{Q:α→ak→Prop}{f:Bool→Sem α}{c:Bool}{k:SV}{v:Value}{stored:List Value}(hv:VR P m k v)(hk:SV.key 6 k=ab)(hs:∀v'∈stored,∃k',VR P m k' v'∧SV.key 6 k'=ab)
  (hq:aw (aR G.prog G.w) A' (f an) Q E s):aw (aR G.prog G.w) A' (if c=ab then pure an >>=f else tableMayTell v stored >>=f) Q E s:=by
 have quiet {E:Value→ak→Prop} {v':Value} {k':SV} {Q:Bool→ak→Prop} (fB:VR P m k' v') (dW:SV.key 6 k'=ab) (hq:Q ab s):aw (aR G.prog G.w) A' (H7 8 v') Q E s:=IF E R 8 fB (ajj aJ dW) hq;refine jM (λ_=>wb (aD hq)) λ_=>wb ?_;unfold tableMayTell;refine jM (λ_=>aD hq) λ_=>wb (quiet hv hk (wb (D3 (λv' fB Q' ga=>?_) (aD hq))));refine aj (hs v' fB) λk' z1 z2=>?_;exact wb (quiet z1 z2 (aD ga))
structure DA(w:cE)(P:aV)(m:Mu)(s:ak)(n:Nm)(es:List (SV×SV))(ad:au×au)(xs:Array dL):Prop where
 mn:m n=aa ad
 e:ad.2=ad.1
 o:s.heap.get? ad.1=aa (yx xs es.length)
 ent:gE w P m es xs.toList
 nd:(es.map (·.1)).Nodup
 keys:∀k∈es.map (·.1),SV.key 6 k=ab
 sys:(ad.1==Dn)=an
variable{w:cE}{n:Nm}{es:List (SV×SV)}{ad:au×au}{xs:Array dL}{k:SV}{v:Value}
theorem DA.size(D:DA w P m s n es ad xs):es.length=xs.size:=by
 have:=D.ent.length
 rwa [fQ] at this
theorem DA.tok(D:DA w P m s n es ad xs)(t:Nat):DA w P m {s with toks:=t} n es ad xs:=⟨D.mn,D.e,D.o,D.ent,D.nd,D.keys,D.sys⟩
theorem DA.at(D:DA w P m s n es ad xs){j:Nat}{e:dL}(q:xs[j]? =aa e){C:Prop}(c:∀k' v',es[j]? =aa (k',v')→e.hash=bZ w k'→VR P m k' e.key→SV.key 6 k'=ab→C):C:=
 gK (D.ent.at (jt.trans q)) λk' v' q1 q2 q3 _=>c k' v' q1 q2 q3 (D.keys k' (bB.mpr ⟨_,bN q1,rfl⟩))
theorem DA.of(D:DA w P m s n es ad xs){j:Nat}{p:SV}(q:es[j]? =aa (k,p)){C:Prop}(c:∀e,xs[j]? =aa e→e.hash=bZ w k→VR P m k e.key→C):C:=by
 have g:=jr (D.size▸(cV.mp q).1:j<xs.size);exact D.at g λk' v' q1 q2 q3 _=>have z:=(gi (aY (q.symm.trans q1))).1;c _ g (q2.trans (ay (bZ w) z.symm)) (z.symm▸q3)
noncomputable abbrev BO(xs:Array dL)(h:Int):List Nat:=placesWithHash xs.size (λi=>xs[i]?.map (·.hash)) h
theorem AY{h:Int}{x:Nat}(hx:x∈BO xs h){C:Prop}(c:∀e,xs[x]? =aa e→(e.hash==h)=ab→C):C:=by
 have z:=m9.mp hx;have g:=jr (dR.mp z.1);exact c _ g ((ay (λo:Option dL=>o.map (·.hash)==aa h) g).symm.trans z.2)
theorem DA.pl(D:DA w P m s n es ad xs){j:Nat}{p:SV}(q:es[j]? =aa (k,p)):j∈BO xs (bZ w k):=
 D.of q λe q1 q2 _=>m9.mpr ⟨dR.mpr (oi.mp q1).1,(ay (λo:Option dL=>o.map (·.hash)==aa (bZ w k)) q1).trans (eX.mpr (ay aa q2))⟩
theorem Lp{h:Int}:(BO xs h).Nodup:=alf _ HE
theorem Md{i:Str}{t:Tok}(hv:VR P m k (.str i t))(hk:SV.key 6 k=ab):k=.str i:=
 pK hk (λj e=>xE (e▸hv:VR P m (.int j) _) λt' (z:Value.str i t=.int j t')=>nomatch z) (λj e=>xE (e▸hv:VR P m (.str j) _) λ_ z=>e.trans (ay SV.str (Value.str.inj z).1.symm)) λvs q _ e _=>oY (e▸hv:VR P m (.tup vs) _) λa _ _ _ (z:Value.str i t=.ref a) _=>nomatch z
theorem ab2{i:Str}(hv:VR P m (.str i) v):v.isStr i=ab:=xE hv λt e=>e▸qF i
theorem Vi{i:Str}(hv:VR P m k v)(hk:SV.key 6 k=ab)(hi:v.isStr i=ab):k=.str i:=by
 cases v with
 |str x t=>exact(Md hv hk).trans (ay SV.str (eX.mp hi))
 |_=>exact cJ hi
section
variable{E:Value→ak→Prop}{Q:Option Nat→ak→Prop}(R:Rel G F b own ae A P m fr h s)(hu:A'.units+7<ez)(D:DA G.w P m s n es ad xs)(hv:VR P m k v)(gm:SV.key 6 k=ab)
include R hu D hv gm
theorem AQ{x:Nat}{e:dL}(q:xs[x]? =aa e){Q:Bool→ak→Prop}(fj:∀p,es[x]? =aa (k,p)→Q ab s)(no:(¬∃p,es[x]? =aa (k,p))→Q an s):aw (aR G.prog G.w) A' (eqBool e.key v) Q E s:=
 D.at q λk' p q1 _ q3 q5=>R.vZ 6 q3 hv (sM q5) (sM gm) (oy hu) _ _ _ _ (if z:k'=k then(eQ z).symm▸fj p (z▸q1) else(i0 z).symm▸no λw=>xE w λp' w=>z (gi (aY (q1.symm.trans w))).1)
theorem WF(ua:(∀(j:Nat) (p:SV),es[j]? ≠aa (k,p))→Q af s)(ri:∀(j:Nat) (p:SV),es[j]? =aa (k,p)→Q (aa j) s){i:Str}{t:Tok}(ev:v=.str i t):aw (aR G.prog G.w) A' (foundByValue ad.1 v xs i) Q E s:=by
 have ks:=Md (ev▸hv) gm;unfold foundByValue
 cases hf:xs.findIdx? (λe=>e.key.isStr i) with
 |none=>exact aD (ua λj p hj=>D.of hj λe q1 _ q3=>bc (ab2 (ks▸q3)) (DC.mp (Array.findIdx?_eq_none_iff.mp hf e (agx q1))))
 |some j=>
  refine(Array.findIdx?_eq_some_iff_getElem.mp hf).elim λhlt hi=>?_;have q:=jr hlt;dsimp only;rw[q];refine wb (qO D.o rfl (wb (AQ R hu D hv gm q (λp y=>wb (qO D.o rfl (mS (mX _) (wb (jK (aD (ri j p y))))))) λn=>(n ?_).elim)));exact D.at q λk' v' q1 _ q3 q5=>⟨v',(Vi q3 q5 hi.1).trans ks.symm▸q1⟩
theorem Wv(ua:(∀(j:Nat) (p:SV),es[j]? ≠aa (k,p))→Q af s)(ri:∀(j:Nat) (p:SV),es[j]? =aa (k,p)→Q (aa j) s):aw (aR G.prog G.w) A' (dictWalkPlain ad.1 v (bZ G.w k) xs (BO xs (bZ G.w k))) Q E s:=by
 unfold dictWalkPlain;refine wb (Ml False (hit:=λx=>∃p,es[x]? =aa (k,p)) (d:=λx=>(aa (aa x),())) (b':=λx=>(aa (aa x),())) Lp (λx hx Q' no fj=>AY hx λe q hh=>?_) nofun (λhz=>aD (ua λj p q=>hz j (D.pl q) ⟨p,q⟩)) λx hx w=>xE w λp hp=>⟨aD (ri x p hp),nofun⟩);rw[q];exact(A9 hh (wb (qO D.o rfl (wb (AQ R hu D hv gm q (λp y=>wb (qO D.o rfl (mS (mX _) (wb (jK (aD (fj ⟨p,y⟩).1)))))) λn=>wb (qO D.o rfl (mS (mX _) (wb (jK (aD (no n)))))))))))
theorem N9(ua:(∀(j:Nat) (p:SV),es[j]? ≠aa (k,p))→Q af s)(ri:∀(j:Nat) (p:SV),es[j]? =aa (k,p)→Q (aa j) s):aw (aR G.prog G.w) A' (dictFind ad.1 v (bZ G.w k)) Q E s:=by
 unfold dictFind;refine dM (wb (H_ D.o rfl (aa1 (λi t ev aka=>WF R hu D hv gm ua ri ev) (jM (λ_=>Wv R hu D hv gm ua ri) λ_=>Yw ?_ (Tr R hv gm ?_ ?_)))))
 ·rw[←agg,propext agy]
  exact λw=>aj w λe jd hc=>xE (uE jd) λj hj=>D.at (jt.symm.trans hj) λk' _ _ q2 q3 q5=>
   have hc:=(bO _ _).mp hc
   bne_iff_ne.mp hc.2 (VR.inj k' (eq_of_beq hc.1▸q3) hv (sM q5) (sM gm)▸q2)
 ·exact λv' fB=>aj (gQ.mp fB) λx hx hi=>AY hx λe q _=>D.at q λk' _ _ _ q3 q5=>⟨k',aY ((ay (ph (·.key)) q).symm.trans hi)▸q3,q5⟩
 ·refine mS rfl (wb (Ml True (hit:=λx=>∃p,es[x]? =aa (k,p)) (d:=λx=>(aa (aa x),af)) (b':=λx=>(af,aa x)) Lp (λx hx Q' no fj=>AY hx λe q hh=>?_) (λ_ x hx y hy ne hz Q' hq=>AY hy λe q hh=>?_) (λhz=>aD (ua λj p q=>hz j (D.pl q) ⟨p,q⟩)) λx hx w=>xE w λp hp=>⟨aD (ri x p hp),λ_=>aD (ri x p hp)⟩))
  ·rw[q]
   exact(A9 hh (wb (qO D.o rfl (wb (AQ R hu D hv gm q (λp y=>wb (qO D.o rfl (mS (mX _) (A9 rfl (mS rfl (wb (jK (jM (λ_=>aD (fj ⟨p,y⟩).1) λ_=>aD ((fj ⟨p,y⟩).2 trivial))))))))) λn=>wb (qO D.o rfl (mS (mX _) (mS rfl (wb (jK (mS rfl (aD (no n)))))))))))))
  ·rw[q]
   exact(A9 hh (wb (qO D.o rfl (wb (AQ R hu D hv gm q (λp' bX=>xE hz λp hp=>bc (TL D.nd bX hp) ne) λn=>wb (qO D.o rfl (mS (mX _) (mS rfl (wb (jK (mS rfl (aD hq))))))))))))
end
end
end
noncomputable def bh:List (SV×SV)→SV→SV→List (SV×SV)
 |[],k,v=>[(k,v)]
 |(k',v')::r,k,v=>if k'=k then(k',v)::r else(k',v')::bh r k v
theorem Pq(p:SV×SV)(r:List (SV×SV))(k v:SV):bh (p::r) k v=if p.1=k then(p.1,v)::r else p::bh r k v:=rfl
theorem ve{p:SV×SV}{r:List (SV×SV)}{x:SV}(e:x=p.1):(p::r).lookup x=aa p.2:=e▸afy
theorem sW{p:SV×SV}{r:List (SV×SV)}{x:SV}(e:x≠p.1):(p::r).lookup x=r.lookup x:=by
 rw[k_,k9.mpr e]
theorem ZK{es:List (SV×SV)}{k v p:SV}:∀{j:Nat},(es.map (·.1)).Nodup→es[j]? =aa (k,p)→bh es k v=es.set j (k,v):=by
 induction es with
 |nil=>exact λ_ h=>a7 h
 |cons q r ih=>
  intro j hn h
  cases j with
  |zero=>
   obtain rfl:q=(k,p):=aY h;exact aP rfl
  |succ j=>exact(aK λe:q.1=k=>(lh.mp hn).1 (bB.mpr ⟨_,bN (show r[j]? =_ from h),e.symm⟩)).trans (ay (q::·) (ih (lh.mp hn).2 h))
theorem PC{es:List (SV×SV)}{k v:SV}(hn:k∉es.map (·.1)):bh es k v=es++[(k,v)]:=by
 induction es with
 |nil=>rfl
 |cons q r ih=>exact(aK λe:q.1=k=>hn (e▸.head _)).trans (ay (q::·) (ih λz=>hn (.tail _ z)))
theorem NI{es:List (SV×SV)}{k v:SV}:(bh es k v).map (·.1)=if k∈es.map (·.1) then es.map (·.1) else es.map (·.1)++[k]:=by
 induction es with
 |nil=>exact(aK DE).symm
 |cons q r ih=>
  rw[Pq]
  by_cases e:q.1=k
  ·rw[aP e]
   exact(aP (e▸.head _)).symm
  ·rw[aK e]
   refine(ay (q.1::·) ih).trans ?_;exact if z:k∈r.map (·.1) then(ay (q.1::·) (aP z)).trans (aP (.tail _ z)).symm else(ay (q.1::·) (aK z)).trans (aK λy=>(dE.mp y).elim (λy=>e y.symm) z).symm
theorem uQ{es:List (SV×SV)}{k v:SV}(x:SV):x∈(bh es k v).map (·.1)↔x=k∨x∈es.map (·.1):=by
 rw[NI];exact if z:k∈es.map (·.1) then(aP z).symm▸⟨.inr,λy=>y.elim (λy=>y▸z) id⟩ else(aK z).symm▸dw.trans ((or_congr_right bS).trans or_comm)
theorem oN{es:List (SV×SV)}{k v:SV}(hn:(es.map (·.1)).Nodup):((bh es k v).map (·.1)).Nodup:=by
 rw[NI];exact if z:k∈es.map (·.1) then(aP z).symm▸hn else(aK z).symm▸lq.mpr ⟨hn,ko _ _,λa ha c hc e=>z (bS.mp hc▸e▸ha)⟩
theorem fy{es:List (SV×SV)}{k v:SV}(x:SV):(bh es k v).lookup x=if x=k then aa v else es.lookup x:=by
 induction es with
 |nil=>exact if e:x=k then(ve (p:=(k,v)) e).trans (aP e).symm else(sW (p:=(k,v)) e).trans (aK e).symm
 |cons q r ih=>
  rw[Pq]
  by_cases e:q.1=k
  ·rw[aP e]
   exact if y:x=q.1 then(ve (p:=(q.1,v)) y).trans (aP (y.trans e)).symm else(sW (p:=(q.1,v)) y).trans ((sW y).symm.trans (aK λz=>y (z.trans e.symm)).symm)
  ·rw[aK e]
   exact if y:x=q.1 then(ve y).trans ((ve y).symm.trans (aK λz=>e (y.symm.trans z)).symm) else(sW y).trans (ih.trans ((sW (p:=q) (r:=r) y)▸rfl))
theorem lU{es:List (SV×SV)}{k:SV}:es.lookup k=af↔k∉es.map (·.1):=by
 induction es with
 |nil=>exact⟨λ_ z=>cT z,λ_=>rfl⟩
 |cons q r ih=>exact if y:k=q.1 then⟨λz=>fu ((ve y).symm.trans z),λz=>bc (y▸.head _) z⟩ else(sW (p:=q) (r:=r) y)▸ih.trans ⟨λz w=>(dE.mp w).elim y z,λz w=>z (.tail _ w)⟩
theorem aek{es:List (SV×SV)}{k p:SV}:∀{j:Nat},(es.map (·.1)).Nodup→es[j]? =aa (k,p)→es.lookup k=aa p:=by
 induction es with
 |nil=>exact λ_ h=>a7 h
 |cons q r ih=>
  intro j hn h
  cases j with
  |zero=>
   obtain rfl:q=(k,p):=aY h;exact ve rfl
  |succ j=>exact(sW λe:k=q.1=>(lh.mp hn).1 (bB.mpr ⟨_,bN (show r[j]? =_ from h),e⟩)).trans (ih (lh.mp hn).2 h)
@[elab_as_elim] theorem Q6{P:aV}{m:Mu}{x y z:SV}{l:List Value}{C:List Value→Prop}(hv:aO P m [x,y,z] l)(k:∀x' y' z',VR P m x x'→VR P m y y'→VR P m z z'→C [x',y',z']):C l:=
 bP hv λx' r e hx hr=>e▸gu (motive:=λr=>C (x'::r)) hr λy' z' hy hz=>k x' y' z' hx hy hz
theorem DA.ty{w:cE}{n:Nm}{es:List (SV×SV)}{ad:au×au}{xs:Array dL}(D:DA w P m s n es ad xs):s.TypeIs (.ref ad.1) "dict":=⟨_,D.o,rfl⟩
theorem Rel.dictAt(R:Rel G F b own ae A P m fr h s){n:Nm}{es:List (SV×SV)}(hn:h n=aa (.dict es)):
  ∃ad xs,DA G.w P m s n es ad xs:=
 IM (R.obj n _ hn) λad h1 h2 xs h3 h4 h5 h6=>⟨ad,xs,h1,h2,h3,h4,h5,h6,k9.mpr λe=>xE G.Bc λo ho=>fu ((R.basePR _ _ ho).symm.trans (e▸(R.sep _ _ h1).1))⟩
@[elab_as_elim] theorem pH{n:Nm}{u:Value}{C:Value→Prop}(hu:VR P m (.ref n) u)(R:Rel G F b own ae A P m fr h s){es:List (SV×SV)}(hn:h n=aa (.dict es))(k:∀ad xs,DA G.w P m s n es ad xs→C (.ref ad.1)):C u:=
 jW (R.dictAt hn) λad xs D=>aj hu λbT hm e=>e▸aY (D.mn.symm.trans hm)▸k ad xs D
theorem Rel.MR(R:Rel G F b own ae A P m fr h s)(t:Nat):∀a o,P a=aa o→∃o',({s with toks:=t}:ak).heap.get? a=aa o'∧o'.cls=o.cls∧o'.data=o.data:=
 λa o e=>R.rP e
theorem IK{es:List (SV×SV)}{k:SV}(qn:∀(j:Nat) p,es[j]? ≠aa (k,p)):k∉es.map (·.1):=λhx=>
 aj (bB.mp hx) λp hp hk=>xE (uE hp) λj hj=>qn j p.2 (hj.trans (ay aa (jw hk rfl)))
theorem yH{E:Value→ak→Prop}{n:Nm}{es:List (SV×SV)}{k:SV}{v:Value}{ad:au×au}{xs:Array dL}{Q:Option Value→ak→Prop}(R:Rel G F b own ae A P m fr h s)(hu:A'.units+7<ez)
  (D:DA G.w P m s n es ad xs) (hv:VR P m k v) (gm:SV.key 6 k=ab) (c1:∀x y t,es.lookup k=aa x→VR P m x y→Q (aa y) {s with toks:=t}) (c2:∀t,es.lookup k=af→Q af {s with toks:=t}):aw (aR G.prog G.w) A' (sG ad.1 v) Q E s:=by
 unfold sG;refine dM (wb (Rel.hash E 6 (oy hu) hv (R.MR s.toks) gm λt=>wb (N9 (R.tok t) hu (D.tok t) hv gm (λqn=>aD (c2 _ (lU.mpr (IK qn)))) λj p hj=>?_)));refine wb (H_ (s:={s with toks:=t}) D.o rfl (aD ?_));have hlt:j<xs.size:=D.size▸(cV.mp hj).1;have g:=jr hlt;rw[g];exact gK (D.ent.at (jt.trans g)) λk' v' q1 q2 q3 q4=>c1 p _ t (aek D.nd hj) ((gi (aY (hj.symm.trans q1))).2▸q4)
theorem gE.set{w:cE}{es:List (SV×SV)}{k p x:SV}{y:Value}:∀{xs:List dL} {j:Nat},gE w P m es xs→es[j]? =aa (k,p)→VR P m x y→gE w P m (es.set j (k,x)) (xs.modify j λe=>{e with val:=y}):=by
 induction es with
 |nil=>exact λ_ q=>a7 q
 |cons q es ih=>
  intro xs j h z hv;refine tg h λe' r e h1 h2 h3 h4=>?_
  cases j with
  |zero=>exact(gi (aY z)).1▸e▸⟨_,_,rfl,h1,h2,hv,h4⟩
  |succ j=>exact e▸⟨_,_,rfl,h1,h2,h3,ih h4 z hv⟩
theorem gE.snoc{w:cE}{es:List (SV×SV)}{k x:SV}{e:dL}(h1:e.hash=bZ w k)(h2:VR P m k e.key)(h3:VR P m x e.val):∀{xs:List dL},gE w P m es xs→gE w P m (es++[(k,x)]) (xs++[e]):=by
 induction es with
 |nil=>exact λh=>by obtain rfl:=h;exact⟨_,_,rfl,h1,h2,h3,rfl⟩
 |cons q es ih=>exact λh=>tg h λe' r z g1 g2 g3 g4=>z▸⟨_,_,rfl,g1,g2,g3,ih g4⟩
theorem UZ{E:Value→ak→Prop}{n:Nm}{es:List (SV×SV)}{k x:SV}{v y:Value}{ad:au×au}{xs:Array dL}{Q:Unit→ak→Prop}(R:Rel G F b own ae A P m fr h s)(hu:A'.units+7<ez)
  (hn:h n=aa (.dict es)) (D:DA G.w P m s n es ad xs) (hv:VR P m k v) (gm:SV.key 6 k=ab) (hx:VR P m x y) (hz:es.length≤cR)
  (c:∀s',Rel G F b own ae A P m fr (h.set n (.dict (bh es k x))) s'→Q () s'):aw (aR G.prog G.w) A' (dictSet ad.1 v y) Q E s:=by
 have go:∀(s':ak) {GK:Array dL} {es':List (SV×SV)},sB ad.1 s.heap s'.heap→s'.gens=s.gens→s'.os=s.os→bh es k x=es'→s'.heap.get? ad.1=aa (yx GK es'.length)→gE G.w P m es' GK.toList→Q () s':=λs' _ _ hs hg ho e g E=>
  c s' (R.turn hn D.mn (λa o n1 n2 q=>(hs.2 a n1).trans q) hg ho ⟨D.e,_,e▸g,e▸E,(oN D.nd:((bh es k x).map (·.1)).Nodup),(λz hz=>((uQ z).mp hz).elim (λe=>e▸gm) (D.keys z):∀z∈(bh es k x).map (·.1),SV.key 6 z=ab)⟩)
 unfold dictSet;refine dM (wb (Rel.hash E 6 (oy hu) hv (R.MR s.toks) gm λt=>?_));unfold dictSetHashed;refine dM (wb (N9 (R.tok t) hu (D.tok t) hv gm (λqn=>?_) λj p hj=>?_))
 ·refine wb (jK (wpAny_updateDictKeys (s:={s with toks:=t}) (hz:=D.size▸hz) D.o rfl (go _ (pt ..) rfl rfl (PC (IK qn)) ((lf _ D.o (agz (Obj.data_mapDictKeys (o:=yx xs es.length) rfl _))).trans ?_) (by rw[H3];exact gE.snoc (e:=⟨bZ G.w k,v,y⟩) rfl hv hx D.ent))))
  rw[cU];rfl
 ·exact wb (jK (wb (wpAny_updateDict (s:={s with toks:=t}) D.o rfl (wpAny_point (go _ (pt ..) rfl rfl (ZK D.nd hj) ((lf _ D.o (agz (Obj.data_mapDict (o:=yx xs es.length) rfl _))).trans (by rw[List.length_set];rfl)) (by rw[Array.toList_modify];exact D.ent.set hj hx))))))
theorem Rel.fresh(R:Rel G F b own ae A P m fr h s){a:au}(ha:s.heap.get? a=af):
  P a=af∧(∀n ad,m n=aa ad→a≠ad.1∧a≠ad.2)∧a∉own∧G.base.get? a=af:=by
 have no:∀{o},s.heap.get? a≠aa o:=λe=>fu (e.symm.trans ha);refine o_ (wT.mpr λo e=>xE (R.oV e) λ_ q=>no q) (λn ad e=>?_) (λho=>aj (R.f.mP a ho) λo q _=>no q) (wT.mpr λo e=>no (R.bs a o e))
 cases q:h n with
 |none=>exact a7 ((R.dom n q).symm.trans e)
 |some so=>
  refine aj (R.obj n so q) λbT z1 z2=>?_;have:=aY (z1.symm.trans e);exact xE z2.lF λo1 p1=>xE z2.at2 λo2 p2=>⟨λz=>no ((z.trans (ay m6 this.symm))▸p1),λz=>no ((z.trans (ay Dk this.symm))▸p2)⟩
theorem Rel.newExc(R:Rel G F b own ae A P m fr h s){hp:cO}{e:au}{cls:String}(N:ag0 s.heap hp e cls)(t:Nat):
  Rel G F b own ae A P m fr h {s with heap:=hp,toks:=t}∧Bf G.base hp P m own e cls:=
 mz (R.fresh N.new) λq1 q2 q3 q4=>bP N.there λob t' p1 p2 p3=>⟨R.grow N.keeps rfl rfl,⟨ob,_,p1,p2,p3,rfl⟩,q4,q1,q2,q3⟩
theorem adr{n:Nm}{es:List (SV×SV)}{k v:SV}{Q:QV}{X:QX}(hn:h n=aa (.dict es))(hk:SV.key 6 k=ab)(hl:es.lookup k=aa v)(hq:Q v h):WO G F b fr h [.ref n,k] (bv i6) Q X:=by
 refine .mk λown ae A P m s Q' E' a5 R hv c d=>gu hv λu kv hu jh=>pH hu R hn λad xs D=>?_;show aw _ _ (i6 (.ref ad.1) kv) _ _ _;unfold i6;refine dM (wb (zR D.ty aW (wb (qK (name:=d5 "__getitem__") D.ty DF (i5 DF D.ty ag1 ?_ (ag2 _ _))))));show aw _ _ (sG ad.1 kv >>=_) _ _ s;exact wb (yH R (show A.units+1+7<ez from R.room) D jh hk (λx y t e hy=>aD ⟨y,rfl,aD (c.here hq (aY (e.symm.trans hl)▸hy) (R.tok t))⟩) λt e=>a7 (e.symm.trans hl))
theorem Ze{n:Nm}{es:List (SV×SV)}{k:SV}{Q:QV}{X:QX}(hF:F.q=ab)(hn:h n=aa (.dict es))(hk:SV.key 6 k=ab)(hl:es.lookup k=af)(hx:X "KeyError" h):WO G F b fr h [.ref n,k] (bv i6) Q X:=by
 refine .mk λown ae A P m s Q' E' a5 R hv c d=>gu hv λu kv hu jh=>pH hu R hn λad xs D=>?_;show aw _ _ (i6 (.ref ad.1) kv) _ _ _;unfold i6;refine dM (wb (zR D.ty aW (wb (qK (name:=d5 "__getitem__") D.ty DF (i5 DF D.ty ag1 ?_ (ag2 _ _))))));show aw _ _ (sG ad.1 kv >>=_) _ _ s;refine wb (yH R (show A.units+1+7<ez from R.room) D jh hk (λx y t e hy=>fu (e.symm.trans hl)) λt e=>?_);show aw _ _ (Ia ad.1 kv >>=_) _ _ _;refine wb (Ib D.sys (wb (uF (s:={s with toks:=t}) D.ty ?_)));show aw _ _ (if(zS "dict" !=zS "dict")=ab then _ else _) _ _ _;exact dU rfl (wb (jK (wpAny_raise_newExc (A:=A.in1) plainExc_KeyError (R.quiet hF) λh' e N=>xA (R.newExc N t) λR' x=>d _ _ e _ P m hx .rfl .rfl x R')))
theorem F9{u:SV}{T:String}{name:Str}{id:String}(pa:PlainAttrs T)(slot:Slot T name id)(uc:uG (.builtin id)=pure (.type "method_descriptor"))
  (hT:∀own ae A P m s u',Rel G F b own ae A P m fr h s→VR P m u u'→s.TypeIs u' T∧∀a,u'=.ref a→∃o,s.heap.get? a=aa o∧o.dict=af):GM G F b fr h u name (.bi id):=
 .mk λown ae A P m s Q' E' u' pl R hu c=>xA (hT own ae A P m s u' R hu) λt1 t2=>getMethod_builtin t1 pa slot uc t2 (c _ s.toks rfl)
theorem Sc{n:Nm}{es:List (SV×SV)}{name:Str}{id:String}(hn:h n=aa (.dict es))(slot:Slot "dict" name id)(uc:uG (.builtin id)=pure (.type "method_descriptor")):GM G F b fr h (.ref n) name (.bi id):=
 F9 PySem.F.plainAttrs_dict slot uc λown ae A P m s u' R hu=>pH hu R hn λad xs D=>⟨D.ty,λa e=>Qd e▸⟨_,D.o,rfl⟩⟩
theorem HA{n:Nm}{vs:List SV}{name:Str}{id:String}(hn:h n=aa (.list vs))(slot:Slot "list" name id)(uc:uG (.builtin id)=pure (.type "method_descriptor")):GM G F b fr h (.ref n) name (.bi id):=
 F9 PySem.F.plainAttrs_list slot uc λown ae A P m s u' R hu=>aj hu λad hm e=>R.mK hn hm λxs k h3 h4=>
  e▸⟨⟨_,h3,rfl⟩,λa e=>Qd e▸⟨_,h3,rfl⟩⟩
theorem YH{x:Str}{name:Str}{id:String}(slot:Slot "str" name id)(uc:uG (.builtin id)=pure (.type "method_descriptor")):GM G F b fr h (.str x) name (.bi id):=
 F9 PySem.F.plainAttrs_str slot uc λown ae A P m s u' R hu=>xE hu λt e=>e▸⟨rfl,λa e=>nomatch e⟩
theorem JL{n:Nm}{es:List (SV×SV)}{k:SV}{Q:QV}{X:QX}(hn:h n=aa (.dict es))(hk:SV.key 6 k=ab)(hq:Q ((es.lookup k).getD .none) h):WC G F b fr h (.bi "dict.get") [.ref n,k] Q X:=by
 have hq:∀r,es.lookup k=r→Q (r.getD .none) h:=λr e=>e▸hq;refine .mk λown ae A P m s Q' E' f' a5 R hf hv c d=>hf▸gu hv λu kv hu jh=>pH hu R hn λad xs D=>i5 Ic D.ty Qn ?_ (PySem.F.args_dict_get_2 _ _);show aw _ _ (sG ad.1 kv >>=_) _ _ s;refine wb (yH R (show A.units+1+7<ez from R.room) D jh hk (λx y t e hy=>aD ⟨y,rfl,c.here (hq _ e) hy (R.tok t)⟩) λt e=>?_);show aw _ _ (Ia ad.1 kv >>=_) _ _ _;exact wb (Ib D.sys (aD ⟨.none,rfl,c.here (hq _ e) rfl (R.tok t)⟩))
theorem X_{n:Nm}{es:List (SV×SV)}{k z:SV}{Q:QV}{X:QX}(hn:h n=aa (.dict es))(hk:SV.key 6 k=ab)(hq:Q ((es.lookup k).getD z) h):WC G F b fr h (.bi "dict.get") [.ref n,k,z] Q X:=by
 have hq:∀r,es.lookup k=r→Q (r.getD z) h:=λr e=>e▸hq;refine .mk λown ae A P m s Q' E' f' a5 R hf hv c d=>hf▸Q6 hv λu kv zv hu jh hz=>pH hu R hn λad xs D=>i5 Ic D.ty Qn ?_ (ag3 _ _ _);show aw _ _ (sG ad.1 kv >>=_) _ _ s;refine wb (yH R (show A.units+1+7<ez from R.room) D jh hk (λx y t e hy=>aD ⟨y,rfl,c.here (hq _ e) hy (R.tok t)⟩) λt e=>?_);show aw _ _ (Ia ad.1 kv >>=_) _ _ _;exact wb (Ib D.sys (aD ⟨zv,rfl,c.here (hq _ e) hz (R.tok t)⟩))
theorem Mv{E:Value→ak→Prop}{n:Nm}{es:List (SV×SV)}{k:SV}{v:Value}{ad:au×au}{xs:Array dL}{Q:Bool→ak→Prop}(R:Rel G F b own ae A P m fr h s)
  (D:DA G.w P m s n es ad xs) (jh:VR P m k v) (hk:SV.key 6 k=ab) (c:∀t,Q (es.lookup k).isSome {s with toks:=t}):aw (aR G.prog G.w) A (contains (.ref ad.1) v) Q E s:=by
 unfold contains;refine dM (wb (qN D.ty slot_dict_contains.lookup ?_));show aw _ _ (if(aa (H5 "dict.__contains__")==aa eH)=ab then _ else _) _ E s;refine dU (by rw[agu _];rfl) (wb (wpAny_callSpecialUnlessNone?_slot (name:=d5 "__contains__") D.ty ag4
  (i5 ag4 D.ty entry_dict_contains ?_ (args_dict_contains _ _))))
 show aw _ _ (sG ad.1 v >>=_) _ _ s;refine wb (yH R (show A.units+1+7<ez from R.room) D jh hk (λx y t e hy=>?_) λt e=>?_)
 ·show aw _ _ (Ie (.bool ab)) _ _ _
  exact aD ⟨_,rfl,HK (by have:=c t;rw[e] at this;exact this)⟩
 ·show aw _ _ (alg ad.1 v >>=_) _ _ _
  exact wb (wpAny_pendingKey_other D.sys (aD ⟨_,rfl,HK (by have:=c t;rw[e] at this;exact this)⟩))
theorem Rj{n:Nm}{es:List (SV×SV)}{k:SV}{Q:QV}{X:QX}(hn:h n=aa (.dict es))(hk:SV.key 6 k=ab)(hq:Q (.bool (es.lookup k).isSome) h):WO G F b fr h [k,.ref n] (bv (c5 .In)) Q X:=by
 refine .mk λown ae A P m s Q' E' a5 R hv c d=>gu hv λkv u jh hu=>pH hu R hn λad xs D=>?_;show aw _ _ (do return ag5 (←contains (.ref ad.1) kv)) _ _ s;exact wb (Mv R D jh hk λt=>aD (c.here hq rfl (R.tok t)))
theorem Wc{n:Nm}{es:List (SV×SV)}{k:SV}{Q:QV}{X:QX}(hn:h n=aa (.dict es))(hk:SV.key 6 k=ab)(hq:Q (.bool (!(es.lookup k).isSome)) h):WO G F b fr h [k,.ref n] (bv (c5 .NotIn)) Q X:=by
 refine .mk λown ae A P m s Q' E' a5 R hv c d=>gu hv λkv u jh hu=>pH hu R hn λad xs D=>?_;show aw _ _ (do return ag5 (!(←contains (.ref ad.1) kv))) _ _ s;exact wb (Mv R D jh hk λt=>aD (c.here hq rfl (R.tok t)))
theorem NB{n:Nm}{es:List (SV×SV)}{k v:SV}{Q:QV}{X:QX}(hn:h n=aa (.dict es))(hk:SV.key 6 k=ab)(hz:es.length≤cR)(hq:Q .none (h.set n (.dict (bh es k v)))):
  WO G F b fr h [.ref n,k,v] (GH λx y z=>do ux x y z;pure .none) Q X:=by
 refine .mk λown ae A P m s Q' E' a5 R hv c d=>Q6 hv λu kv xv hu jh Em=>pH hu R hn λad xs D=>?_;show aw _ _ (do ux (.ref ad.1) kv xv;pure eH) _ _ _;refine wb ?_;unfold ux;refine dM (wb (zR D.ty aW (wb (qK (name:=d5 "__setitem__") D.ty ag6
  (i5 ag6 D.ty entry_dict_setitem ?_ (args_dict_setitem _ _ _))))))
 show aw _ _ (alh "__setitem__" ⟨[.ref ad.1,kv,xv],[]⟩ >>=_) _ _ s;refine wb (wpAny_notOrdered_dict D.ty ?_);show aw _ _ (dictSet ad.1 kv xv >>=_) _ _ s;exact wb (UZ R (show A.units+1+7<ez from R.room) hn D jh hk Em hz λs' R'=>aD ⟨.none,rfl,aD (aD (c.here hq rfl R'))⟩)
theorem Wb{E:Value→ak→Prop}{Q:Value→ak→Prop}{n:Nm}{es:List (SV×SV)}{ad:au×au}{xs:Array dL}(D:DA G.w P m s n es ad xs)(hz:es.length<2^62)(k:∀t u,Q (.int es.length t) {s with toks:=u}):
  aw (aR G.prog G.w) A (runValue (.builtin "len" ⟨[.ref ad.1],[]⟩)) Q E s:=by
 refine Qo (w6 entry_len ?_);rw[zT plain_len _];unfold Builtin.«len»;refine wb (m:=oneArg "len" _) (aD (wb (m:=Qp (.ref ad.1) (d5 "__len__")) (qK (name:=d5 "__len__") D.ty ag7
  (i5 ag7 D.ty PySem.F.entry_dict_len ?_ (PySem.F.args_dict_len_1 _)))))
 show aw _ _ (dictSize ad.1 >>=_) _ _ s;unfold dictSize;refine wb (wb (H_ D.o rfl (aD ?_)));show aw _ _ (ali ad.1 >>=_) _ _ s;refine wb (wpAny_pendingCount_other D.sys (wpAny_ret_mkInt (wb (dM (aD (wb (wpAny_letGo ?_)))))));have e0:((xs.size:Nat):Int)+((0:Nat):Int)=(es.length:Int):=(agp _).trans (ay Nat.cast D.size.symm);rw[e0];show aw _ _ (if(es.length:Int) <0 then _ else _) _ _ _;refine dU (i0 (qG.mpr (jq _))) ?_;show aw _ _ (if(es.length:Int)≥2^63 then _ else _) _ _ _;exact dU (i0 (Int.not_le.mpr (sv (ib.mpr hz) aW))) (wb (wpAny_mkInt (aD (k _ _))))
theorem Zn{n:Nm}{es:List (SV×SV)}{Q:Bool→SH→Prop}{X:QX}(hn:h n=aa (.dict es))(nr:es.length<2^62)(hq:Q (!es.isEmpty) h):WT G F b fr h (.ref n) Q X:=by
 refine .mk λown ae A P m s Q' E' v' R hv c d=>pH hv R hn λad xs D=>?_;have dg:((es.length:Int) !=0)=!es.isEmpty:=by cases es<;>rfl
 unfold zL;refine wb (wpAny_callSpecial?_none (name:=d5 "__bool__") D.ty noBool_dict (wb (qN (name:=d5 "__len__") D.ty PySem.F.slot_dict_len.lookup ?_)));exact wb (Wb D nr λt u=>aD (dg▸c _ _ _ P m hq .rfl .rfl (R.tok u)))
theorem SJ{pos:Pos}{Q:QV}{X:QX}{n:Nm}(hn:h n=af)(hq:Q (.ref n) (h.set n (.dict []))):WE G F b fr h (.Dict [] [] pos) Q X:=by
 refine .mk λown ae A P m s Q' E' R c d=>?_;show aw _ _ (do kh pos;newDict) _ _ _;refine wb (jJ (wb (Qg (aD ?_))));refine xA (R.alloc hn (so:=.dict []) (ad:=(s.heap.objs.size,s.heap.objs.size)) (s':={s with heap:=s.heap.push {cls:=.type "dict",data:=.dict #[]}})
  (λa o e=>dT _ e) rfl rfl (ar _) (ar _) ⟨rfl,#[],fP _ rfl,rfl,.nil,λ_ h=>cT h⟩) λbk le=>?_
 exact c _ _ _ _ _ _ hq .rfl le ⟨_,Mu.i9,rfl⟩ bk
section
open PyProof.Rows (IsTup)
def BL(G:Gl)(a:au)(vs:List SV):Prop:=∃xs,G.base.IsList a xs∧∀(P:aV) (m:Mu),(∀a o,G.base.get? a=aa o→P a=aa o)→aO P m vs xs.toList
inductive de(G:Gl)(h:SH):SV→List SV→Prop
 |own {n:Nm} {vs:List SV} (hn:h n=aa (.list vs)):de G h (.ref n) vs
 |base {a:au} {vs:List SV} (hb:BL G a vs):de G h (.glob a) vs
inductive GI(G:Gl)(h:SH):SV→Prop
 |lst {u:SV} {vs:List SV} (hl:de G h u vs):GI G h u
 |dict {n:Nm} {es:List (SV×SV)} (hn:h n=aa (.dict es)):GI G h (.ref n)
 |tup {vs:List SV}:GI G h (.tup vs)
 |str {x:Str}:GI G h (.str x)
theorem Rel.jp(R:Rel G F b own ae A P m fr h s){u:SV}{vs:List SV}(hl:de G h u vs){u':Value}(hu:VR P m u u'):∃a xs,u'=.ref a∧s.heap.IsList a xs∧aO P m vs xs.toList:=by
 cases hl with
 |own hn=>
  refine aj hu λad hm ax=>?_;clear hu;subst ax;refine R.mK hn hm λxs k h3 h4=>?_;exact⟨_,xs,rfl,⟨_,h3,rfl,_,rfl⟩,h4⟩
 |base hb=>
  obtain rfl:=hu;obtain⟨xs,⟨o,h1,h2,k,h3⟩,h4⟩:=hb;exact⟨_,xs,rfl,⟨o,R.bs _ _ h1,h2,k,h3⟩,h4 P m R.basePR⟩
theorem Rel.sd(R:Rel G F b own ae A P m fr h s){vs:List SV}{u':Value}(hu:VR P m (.tup vs) u'):∃a xs,u'=.ref a∧IsTup s.heap a xs∧aO P m vs xs.toList:=by
 obtain⟨a,xs,rfl,⟨o,h1,h2,k,h3⟩,h4⟩:=R.nM hu;exact⟨a,xs,rfl,⟨o,h1,h2,k,h3⟩,h4⟩
theorem Pp(R:Rel G F b own ae A P m fr h s){u:SV}{u':Value}(hg:GI G h u)(hu:VR P m u u'){Q:Bool→ak→Prop}{E:Value→ak→Prop}(hq:Q an s):aw (aR G.prog G.w) A (getitemInPython u') Q E s:=by
 have go:∀{T id:String},s.TypeIs u' T→Slot T "__getitem__" id→aw (aR G.prog G.w) A (getitemInPython u') Q E s:=λhT sl=>by
  rw[getitemInPython_of_ne hT.not_modules];exact wb (qN hT sl.lookup (aD hq))
 cases hg with
 |lst hl=>refine bP (R.jp hl hu) λa xs ax hl _=>?_;subst ax;exact go hl.typeIs slot_list_getitem
 |dict hn=>
  exact jW (R.dictAt hn) λad xs D=>aj hu λbT hm e=>go (e▸aY (D.mn.symm.trans hm)▸D.ty) DF
 |tup=>refine bP (R.sd hu) λa xs ax ht _=>?_;subst ax;exact go ht.typeIs DG
 |str=>refine xE hu λt br=>?_;clear hu;subst br;exact go (T:="str") rfl PySem.F.slot_str_getitem
theorem BE{wn slice:Expr}{pos:Pos}{Q:QV}{X:QX}(hs:∀o i,subscripted slice an o i=operate [o,i] (i6 o i))
  (w:WE G F b fr h wn (λu ag=>WE G F b fr ag slice (λk aC=>GI G aC u∧WO G F b fr aC [u,k] (bv i6) Q X) X) X):WE G F b fr h (.Subscript wn slice pos) Q X:=by
 refine .mk ?_;intro own ae A P m s Q' E' R c d;rw[eval_Subscript _ _ _];refine wb (w.run own ae A P m s _ _ R (λu ag u' aZ bW bU hq hP hm hu a6=>?_) d);refine wb (dM (hq.run own ae A bW bU aZ _ _ a6 (λk aC k' bz cD cu gS cQ cM hk bk=>?_) (d.mono hP hm)));refine xA gS λg acr=>?_;clear gS;refine wb (jJ (wb (Pp bk g (hu.mono cQ.t cM) ?_)));rw[hs _ _];refine wb (Qq (acr.run own ae A cD cu bz _ _ [u',k'] bk ⟨_,_,rfl,hu.mono cQ.t cM,_,_,rfl,hk,rfl⟩ (λv cL v' ey ly np sj fZ ir hv cW=>?_) (d.mono (hP.trans cQ) (hm.trans cM))));exact wb (P4 (aD (c _ _ _ _ _ _ sj ((hP.trans cQ).trans fZ) ((hm.trans cM).trans ir) hv cW)))
theorem Hh{j n:Nat}(h:j<n):oz (j:Int) n=aa j:=by
 show(if(decide (0≤(if(j:Int) <0 then(j:Int)+n else j)) && decide ((if(j:Int) <0 then(j:Int)+n else j) <n))=ab then aa (if(j:Int) <0 then(j:Int)+n else j).toNat else af)=aa j;rw[show(if(j:Int) <0 then(j:Int)+n else j)=j from aK (qG.mpr (jq j))];exact aP ((bO _ _).mpr ⟨eQ (jq j),eQ (ib.mpr h)⟩)
theorem X6{n:Nat}:oz (-1) (n+1)=aa n:=by
 show(if(decide (0≤(-1+((n+1:Nat):Int))) && decide ((-1+((n+1:Nat):Int)) < ((n+1:Nat):Int)))=ab then aa (-1+((n+1:Nat):Int)).toNat else af)=aa n;rw[show(-1+((n+1:Nat):Int))=n from(ay (-1+·) (Int.add_comm (n:Int) 1)).trans (Int.neg_add_cancel_left 1 (n:Int))];exact aP ((bO _ _).mpr ⟨eQ (jq n),eQ (ib.mpr (dq n))⟩)
theorem Y'{k:Int}{n j:Nat}(hj:oz k n=aa j):(0≤k∧k.toNat=j∧k<n)∨(k<0∧-(n:Int)≤k∧(k+n).toNat=j):=by
 unfold oz at hj;simp only at hj
 by_cases hk:k<0
 ·rw[aP hk] at hj
  split at hj
  ·rename_i q
   simp only[bO,decide_eq_true_eq] at q;exact .inr (cG hk (Int.sub_nonneg.mp (by rw[Int.sub_neg _ _];exact q.1)) (aY hj))
  ·exact a7 hj
 ·rw[aK hk] at hj
  split at hj
  ·rename_i q
   simp only[bO,decide_eq_true_eq] at q;exact .inl (cG q.1 (aY hj) q.2)
  ·exact a7 hj
theorem YT{u:SV}{vs:List SV}{i:Int}{j:Nat}{v:SV}{Q:QV}{X:QX}(hl:de G h u vs)(C6:-(2^63)≤i)(xw:i<2^63)(hj:oz i vs.length=aa j)(hv:vs[j]? =aa v)(hq:Q v h):
  WO G F b fr h [u,.int i] (bv i6) Q X:=by
 refine .mk ?_;intro own ae A P m s Q' E' a5 R d6 c d;refine gu d6 λu' i' hu zB=>?_
 first|refine nc zB λt=>?_|refine pG zB λt=>?_
 refine bP (R.jp hl hu) λa xs ax hL hX=>?_;subst ax;refine aj (hX.get hv) λx hx B4=>?_;rw[hX.size] at hj;have s9:xs[j]? =aa x:=by simpa using hx
 show aw _ _ (i6 (.ref a) (.int i t)) _ _ _;rcases Y' hj with⟨h1,h2,h3⟩|⟨h1,h2,h3⟩
 ·exact wpAny_getItem_list hL h1 xw (by rw[h2];exact s9) (c.here hq B4 R)
 ·exact wpAny_getItem_list_neg hL h1 h2 C6 (by rw[h3];exact s9) (c.here hq B4 R)
theorem Mf{vs:List SV}{i:Int}{j:Nat}{v:SV}{Q:QV}{X:QX}(C6:-(2^63)≤i)(xw:i<2^63)(hj:oz i vs.length=aa j)(hv:vs[j]? =aa v)(hq:Q v h):
  WO G F b fr h [.tup vs,.int i] (bv i6) Q X:=by
 refine .mk ?_;intro own ae A P m s Q' E' a5 R d6 c d;refine gu d6 λu' i' hu zB=>?_
 first|refine nc zB λt=>?_|refine pG zB λt=>?_
 refine bP (R.sd hu) λa xs ax hL hX=>?_;subst ax;refine aj (hX.get hv) λx hx B4=>?_;rw[hX.size] at hj;exact alj hL C6 xw hj (by simpa using hx) (c.here hq B4 R)
theorem RI{u:SV}{vs:List SV}{Q:Bool→SH→Prop}{X:QX}(hl:de G h u vs)(nr:vs.length<2^62)(hq:Q (!vs.isEmpty) h):WT G F b fr h u Q X:=by
 refine .mk ?_;intro own ae A P m s Q' E' v' R hv c d;refine bP (R.jp hl hv) λa xs ax hL hX=>?_;subst ax;have e:(!xs.isEmpty)=!vs.isEmpty:=by
  unfold ag8;rw[←hX.size]
  cases vs<;>rfl
 refine wpAny_truthy_list hL (by rw[←hX.size];exact wq nr) ?_;rw[e];exact c _ _ _ P m hq .rfl .rfl (R.tok _)
theorem YI{vs:List SV}{Q:Bool→SH→Prop}{X:QX}(nr:vs.length<2^62)(hq:Q (!vs.isEmpty) h):WT G F b fr h (.tup vs) Q X:=by
 refine .mk ?_;intro own ae A P m s Q' E' v' R hv c d;refine bP (R.sd hv) λa xs ax hL hX=>?_;subst ax;have e:(!xs.isEmpty)=!vs.isEmpty:=by
  unfold ag8;rw[←hX.size]
  cases vs<;>rfl
 refine alk hL (by rw[←hX.size];exact wq nr) ?_;rw[e];exact c _ _ _ P m hq .rfl .rfl (R.tok _)
theorem Z6{u:SV}{vs:List SV}{Q:QV}{X:QX}(hl:de G h u vs)(nr:vs.length<2^62)(hq:Q (.int vs.length) h):WC G F b fr h (.bi "len") [u] Q X:=by
 first|refine jO ?_|refine jP ?_
 intro own ae A P m s Q' E' a5 R hv c d;refine jx hv λu' hu=>?_;refine bP (R.jp hl hu) λa xs ax hL hX=>?_;subst ax;refine Calls.call_len_list hL (by rw[←hX.size];exact wq nr) ?_;rw[←hX.size];exact c.here hq ⟨_,rfl⟩ (R.tok _)
theorem VK{vs:List SV}{Q:QV}{X:QX}(nr:vs.length<2^62)(hq:Q (.int vs.length) h):WC G F b fr h (.bi "len") [.tup vs] Q X:=by
 first|refine jO ?_|refine jP ?_
 intro own ae A P m s Q' E' a5 R hv c d;refine jx hv λu' hu=>?_;refine bP (R.sd hu) λa xs ax hL hX=>?_;subst ax;refine alm hL (by rw[←hX.size];exact wq nr) ?_;rw[←hX.size];exact c.here hq ⟨_,rfl⟩ (R.tok _)
theorem T4{vs:List SV}{xs:Array Value}(hX:aO P m vs xs.toList)(x:SV)(e:Value→Bool)(he:∀(j:Nat) (v:SV) (y:Value),vs[j]? =aa v→xs[j]? =aa y→e y=decide (v=x)):xs.any e=decide (x∈vs):=by
 rw[propext Qr,decide_eq_true_eq,propext Array.any_eq_true]
 constructor
 ·rintro⟨i,hi,hq⟩
  refine aj (hX.at hi) λv q1 q2=>?_;rw[he i v _ q1 (jr hi),decide_eq_true_eq] at hq;exact hq▸bN q1
 ·intro hm
  refine xE (uE hm) λj hj=>?_;refine aj (hX.get hj) λy q1 q2=>?_;have q1:xs[j]? =aa y:=by simpa using q1
  obtain⟨fh,e'⟩:=oi.mp q1;refine⟨j,fh,?_⟩;rw[e',he j x y hj q1];simp
theorem Rel.K6(R:Rel G F b own ae A P m fr h s){vs:List SV}{xs:Array Value}{x:SV}{x':Value}(hX:aO P m vs xs.toList)(hx:VR P m x x')(hd:eK 6 vs=ab)(xV:SV.data 6 x=ab):
  ∃e:Value→Bool,(∀y,y∈xs→SeqAt.EqAt A.in1 s y x' (e y))∧xs.any e=decide (x∈vs):=by
 classical
 rw[sL] at hd;have key:∀y,y∈xs→∃v,v∈vs∧VR P m v y:=λy hy=>by
  obtain⟨j,hj,rfl⟩:=Array.mem_iff_getElem.mp hy;refine aj (hX.at hj) λv q1 q2=>?_;exact(aU v (bN q1) q2)
 refine(aU (λy=>if hy:y∈xs then decide (ag9 (key y hy)=x) else an) (λy hy=>?_) ?_)
 ·refine xA (Qs (key y hy)) λk1 k2=>?_
  simp only[hy,dif_pos];exact R.vZ 6 k2 hx (hd _ k1) xV (by show A.units+1+6<ez;have:=R.room;exact cj ‹_›)
 ·refine T4 hX x _ λj v y hv hy=>?_
  have hm:y∈xs:=agx hy;refine xA (Qs (key y hm)) λk1 k2=>?_;simp only[hm,dif_pos];refine aj (hX.get hv) λy' q1 q2=>?_;have q1:xs[j]? =aa y':=by simpa using q1
  rw[hy] at q1;obtain rfl:=aY q1;rw[VR.inj _ k2 q2 (hd _ k1) (hd _ (bN hv))]
theorem Xx{u:SV}{vs:List SV}{x:SV}{Q:QV}{X:QX}(hl:de G h u vs)(hd:eK 6 vs=ab)(xV:SV.data 6 x=ab)(hq:Q (.bool (decide (x∈vs))) h):WO G F b fr h [x,u] (bv (c5 .In)) Q X:=by
 refine .mk ?_;intro own ae A P m s Q' E' a5 R d6 c d;refine gu d6 λx' u' hx hu=>?_;refine bP (R.jp hl hu) λa xs ax hL hX=>?_;subst ax;refine aj (R.K6 hX hx hd xV) λe he ha=>?_;refine SeqAt.in_listAt e hL he ?_;rw[ha];exact c.here hq rfl R
theorem Wt{u:SV}{vs:List SV}{x:SV}{Q:QV}{X:QX}(hl:de G h u vs)(hd:eK 6 vs=ab)(xV:SV.data 6 x=ab)(hq:Q (.bool (!decide (x∈vs))) h):WO G F b fr h [x,u] (bv (c5 .NotIn)) Q X:=by
 refine .mk ?_;intro own ae A P m s Q' E' a5 R d6 c d;refine gu d6 λx' u' hx hu=>?_;refine bP (R.jp hl hu) λa xs ax hL hX=>?_;subst ax;refine aj (R.K6 hX hx hd xV) λe he ha=>?_;refine SeqAt.notIn_listAt e hL he ?_;rw[ha];exact c.here hq rfl R
end
section
open PyProof.Rows (IsTup)
theorem aO.drop{P:aV}{m:Mu}:∀{x:List SV} {v:List Value} (k:Nat),aO P m x v→aO P m (x.drop k) (v.drop k)
 |x,v,0,h=>h
 |[],_,k+1,h=>by obtain rfl:=h;exact rfl
 |x::xs,_,k+1,h=>by refine bP h λw r ax h2 h3=>?_;clear h;subst ax;exact aO.drop k h3
theorem aO.take{P:aV}{m:Mu}:∀{x:List SV} {v:List Value} (k:Nat),aO P m x v→aO P m (x.take k) (v.take k)
 |x,v,0,h=>rfl
 |[],_,k+1,h=>by obtain rfl:=h;exact rfl
 |x::xs,_,k+1,h=>by refine bP h λw r ax h2 h3=>?_;clear h;subst ax;exact⟨w,_,rfl,h2,aO.take k h3⟩
theorem aO.set{P:aV}{m:Mu}{y:SV}{z:Value}(hy:VR P m y z):∀{x:List SV} {v:List Value} (k:Nat),aO P m x v→aO P m (x.set k y) (v.set k z)
 |[],_,k,h=>by obtain rfl:=h;exact rfl
 |x::xs,_,0,h=>by refine bP h λw r ax h2 h3=>?_;clear h;subst ax;exact⟨z,r,rfl,hy,h3⟩
 |x::xs,_,k+1,h=>by refine bP h λw r ax h2 h3=>?_;clear h;subst ax;exact⟨w,_,rfl,h2,aO.set hy k h3⟩
theorem aO.erase{P:aV}{m:Mu}:∀{x:List SV} {v:List Value} (k:Nat),aO P m x v→aO P m (x.eraseIdx k) (v.eraseIdx k)
 |[],_,k,h=>by obtain rfl:=h;exact rfl
 |x::xs,_,0,h=>by refine bP h λw r ax h2 h3=>?_;clear h;subst ax;exact h3
 |x::xs,_,k+1,h=>by refine bP h λw r ax h2 h3=>?_;clear h;subst ax;exact⟨w,_,rfl,h2,aO.erase k h3⟩
theorem aO.insert{P:aV}{m:Mu}{y:SV}{z:Value}(hy:VR P m y z){x:List SV}{v:List Value}(k:Nat)(h:aO P m x v):aO P m (x.take k++y::x.drop k) (v.take k++z::v.drop k):=
 aO.app (aO.take k h) ⟨z,_,rfl,hy,aO.drop k h⟩
theorem Yr{n:Nm}{vs:List SV}{v:SV}{Q:QV}{X:QX}(hn:h n=aa (.list vs))(hz:vs.length≤cR)(hq:Q .none (h.set n (.list (vs++[v])))):WC G F b fr h (.bi "list.append") [.ref n,v] Q X:=by
 first|refine jO ?_|refine jP ?_
 intro own ae A P m s Q' E' a5 R hv c d;refine gu hv λu v' zA fB=>?_;refine uN zA λad hm=>?_;exact OZ R hn hm fB hz λs' R'=>c.here hq rfl R'
theorem Rel.BY(R:Rel G F b own ae A P m fr h s){n:Nm}{vs gz:List SV}{ad:au×au}{xs:Array Value}{k:Nat}(hn:h n=aa (.list vs))(hm:m n=aa ad)(hx:s.heap.get? ad.1=aa (DW xs k))(f:Array Value→Array Value)
  (hv:aO P m gz (f xs).toList) (t:Nat):Rel G F b own ae A P m fr (h.set n (.list gz)) {s with heap:=s.heap.update ad.1 (mh f),toks:=t}:=by
 have hs:sB ad.1 s.heap (s.heap.update ad.1 (mh f)):=pt ..;refine R.mK hn hm λGK k' h3 h4=>?_;have he:ad.2=ad.1:=by
  refine bG (R.obj n _ hn) λTb z1 z2 _=>?_;exact aY (z1.symm.trans hm)▸z2
 refine R.turn (s':={s with heap:=s.heap.update ad.1 (mh f),toks:=t}) hn hm (λa o n1 n2 e=>(hs.2 a n1).trans e) rfl rfl ⟨he,f xs,_,IsL.update hx f,hv⟩
theorem Yf{n:Nm}{vs:List SV}{v:SV}{Q:QV}{X:QX}(hn:h n=aa (.list (vs++[v])))(hz:vs.length<cR)(hq:Q v (h.set n (.list vs))):WC G F b fr h (.bi "list.pop") [.ref n] Q X:=by
 first|refine jO ?_|refine jP ?_
 intro own ae A P m s Q' E' a5 R hv c d;refine jx hv λu zA=>?_;refine uN zA λad hm=>?_;refine R.mK hn hm λxs k h3 h4=>?_;have hsz:=h4.size;rw[cU,zU] at hsz;refine aj (h4.get (i:=vs.length) (y:=v) (by simp)) λy q1 q2=>?_;have hy:xs[xs.size-1]? =aa y:=by rw[←hsz,Qu _ _];simpa using q1
 refine Qv Qw ⟨_,h3,rfl⟩ aha (PySem.F.args_list_pop_1 _) (aln ad.1 xs k y hy (ah (bF hsz.symm) (sH hz))) ⟨h3,c.here hq q2 (R.BY hn hm h3 _ ?_ _)⟩;rw[←hsz,Qu _ _,ahb,dif_pos (lr (bF hsz)),ahc];have:=h4.erase vs.length
 rwa [show(vs++[v]).eraseIdx vs.length=vs by rw[List.eraseIdx_append_of_length_le (ar _) _];simp] at this
theorem SN{n:Nm}{vs:List SV}{v:SV}{Q:QV}{X:QX}(hn:h n=aa (.list (v::vs)))(hz:vs.length<cR)(hq:Q v (h.set n (.list vs))):WC G F b fr h (.bi "list.pop") [.ref n,.int 0] Q X:=by
 first|refine jO ?_|refine jP ?_
 intro own ae A P m s Q' E' a5 R hv c d;refine gu hv λu z zA zB=>?_;refine uN zA λad hm=>?_
 first|refine nc zB λt=>?_|refine pG zB λt=>?_
 refine R.mK hn hm λxs k h3 h4=>?_;have hsz:=h4.size;rw[iE] at hsz;refine aj (h4.get (i:=0) (y:=v) rfl) λy q1 q2=>?_;refine Qv Qw ⟨_,h3,rfl⟩ aha (PySem.F.args_list_pop_2 _ _) (alo ad.1 xs k 0 t 0 y (Qx aW aW) (seqIndex_of aW (hsz▸ib.mpr (dK _))) (by simpa using q1) (ah (bF hsz.symm) (sH hz))) ⟨h3,c.here hq q2 (R.BY hn hm h3 _ ?_ _)⟩;rw[ahb,dif_pos (lr (ah (lu _ _) (bF hsz))),ahc];exact h4.erase 0
theorem UV{n:Nm}{vs:List SV}{v:SV}{i:Nat}{Q:QV}{X:QX}(hn:h n=aa (.list vs))(hz:vs.length≤cR)(hi:i≤vs.length)(hq:Q .none (h.set n (.list (vs.take i++v::vs.drop i)))):
  WC G F b fr h (.bi "list.insert") [.ref n,.int i,v] Q X:=by
 first|refine jO ?_|refine jP ?_
 intro own ae A P m s Q' E' a5 R hv c d;refine ID hv λ_ _ v' zA zB fB=>?_;refine uN zA λad hm=>?_;refine nc zB λt=>?_;refine R.mK hn hm λxs k h3 h4=>?_;have hsz:=h4.size;have hL:cR<2^60:=bg;obtain⟨x,hx⟩:∃x:Int,x=(i:Int):=⟨_,rfl⟩;rw[←hx];have hfi:ahd x=ab:=Qx (hx▸jq i) (hx▸wq (bd hi (bd hz bg)));have h0:¬(!ahd x)=ab:=by rw[hfi];exact iD
 have tQ:xs.size≤cR:=by rw[←hsz];exact hz
 refine Qv ahe ⟨_,h3,rfl⟩ PySem.F.entry_list_insert (PySem.F.args_list_insert_3 _ _ _) (alp ad.1 xs k x t v' h0 tQ) ⟨h3,?_⟩;refine c.here hq rfl (R.BY hn hm h3 _ ?_ _);have e:(if x<0 then(x+(xs.size:Int)).toNat else min x.toNat xs.size)=i:=by
  rw[aK (hx▸qG.mpr (jq i)),hx];exact sA (ah hi (bF hsz))
 rw[e];have:=h4.insert fB i
 simpa [(na (by simp):List.take (xs.size-i) (List.drop i xs.toList)=List.drop i xs.toList)] using this
theorem adx{u w:SV}{vs ws:List SV}{n:Nm}{Q:QV}{X:QX}(hu:de G h u vs)(hw:de G h w ws)(hz:vs.length+ws.length≤cR)(hn:h n=af)(hq:Q (.ref n) (h.set n (.list (vs++ws)))):
  WO G F b fr h [u,w] (bv (m7 .Add)) Q X:=by
 refine .mk ?_;intro own ae A P m s Q' E' a5 R d6 c d;refine gu d6 λu' w' kQ FU=>?_;refine bP (R.jp hu kQ) λa xs ax hl hX=>?_;subst ax;refine bP (R.jp hw FU) λCh ys ax hb hY=>?_;subst ax;obtain⟨⟨cls,dd,data,sl⟩,ho,hc,k,hd⟩:=id hl;obtain⟨⟨akd,Ys,data2,WQ⟩,rM,rH,k2,xK⟩:=id hb;simp only at hc hd rH xK;subst hc hd rH xK;refine concat_meets ⟨_,ho,rfl⟩ ⟨_,rM,rfl⟩ noFill_list_add seq_list_add PySem.F.slot_list_add PySem.F.entry_list_add (PySem.F.args_list_add_2 _ _) (alq a Ch xs ys k k2 dd Ys sl WQ (by rw[←hX.size,←hY.size];exact hz)) (cG ho rM ?_);obtain⟨bk,le⟩:=R.alloc hn (so:=.list (vs++ws)) (ad:=(s.heap.objs.size,s.heap.objs.size)) (s':={s with heap:=s.heap.push {cls:=.type "list",data:=.seq (xs++ys)}})
  (λa o e=>dT _ e) rfl rfl (ar _) (ar _) ⟨rfl,_,0,fP _ rfl,by
   rw[ahf];exact aO.mono aV.le.rfl.t (Aa (R.dom n hn)) _ (hX.app hY)⟩
 exact c _ _ _ _ _ _ hq .rfl le ⟨_,Mu.i9,rfl⟩ bk
theorem Ts{u:SV}{vs:List SV}{n:Nm}{Q:QV}{X:QX}(hu:de G h u vs∨u=.tup vs)(hz:vs.length≤cR)(hn:h n=af)(hq:Q (.ref n) (h.set n (.list vs))):WC G F b fr h (.ty "list") [u] Q X:=by
 first|refine jO ?_|refine jP ?_
 intro own ae A P m s Q' E' a5 R hv c d;refine jx hv λu' kQ=>?_;have fin:∀{a:au} {o:Obj} {T:String} {xs:Array Value} {k:Nat},T="list"∨T="tuple"→s.heap.get? a=aa o→o.cls=.type T→o.data=.seq xs k→aO P m vs xs.toList→aw (aR G.prog G.w) A (pv (.type "list") [.ref a]) Q' E' s:=by
  intro a o T xs k hT ho hc hd hX;refine call_list_seq (hsz:=by rw[←hX.size];exact hz) a hT ho hc hd λh' c' hk hg=>?_;obtain⟨bk,le⟩:=R.alloc hn (so:=.list vs) (ad:=(s.heap.objs.size,s.heap.objs.size)) (s':={s with heap:=h'})
   hk rfl rfl (ar _) (ar _) ⟨rfl,xs,c',hg,aO.mono aV.le.rfl.t (Aa (R.dom n hn)) _ hX⟩
  exact c _ _ _ _ _ _ hq .rfl le ⟨_,Mu.i9,rfl⟩ bk
 rcases hu with hu|rfl
 ·obtain⟨a,xs,rfl,⟨o,ho,hc,k,hd⟩,hX⟩:=R.jp hu kQ
  exact fin (.inl rfl) ho hc hd hX
 ·obtain⟨a,xs,rfl,⟨o,ho,hc,k,hd⟩,hX⟩:=R.sd kQ
  exact fin (.inr rfl) ho hc hd hX
end
section
open PyProof.Rows (IsTup)
open PySem.SeqAt (EqAt RcAt)
open PySem.SeqAt (RcNeAt)
theorem Rel.Ps(R:Rel G F b own ae A P m fr h s){n:Nat}{xs ys:List SV}{ia ic:Array Value}(nU:aO P m xs ia.toList)(nB:aO P m ys ic.toList)(dx:eK n xs=ab)(dy:eK n ys=ab)(hu:A'.units+n<ez):
  ∀j (h1:j<ia.size) (h2:j<ic.size),EqAt A' s ia[j] ic[j] (decide (xs[j]? =ys[j]?)):=λj h1 h2=>
 aj (nU.at h1) λx q1 q2=>aj (nB.at h2) λy p1 p2=>
  (mY.mpr (by rw[q1,p1,Option.some.injEq _ _]):decide (xs[j]? =ys[j]?)=decide (x=y)).symm▸R.vZ n q2 p2 ((sL.mp dx) x (bN q1)) ((sL.mp dy) y (bN p1)) hu
theorem yt{n:Nat}{k:SV}{C:Prop}(h:SV.data (n+1) k=ab)(c0:k=.none→C)(ci:∀i,k=.int i→C)(cs:∀i,k=.str i→C)(ct:∀vs,k=.tup vs→eK n vs=ab→C):C:=by
 cases k with
 |none=>exact c0 rfl
 |int i=>exact ci i rfl
 |str i=>exact cs i rfl
 |tup vs=>exact ct vs rfl h
 |_=>exact bc h iD
theorem Rel.JW(R:Rel G F b own ae A P m fr h s){x y:SV}{v u:Value}(hx:VR P m x v)(hy:VR P m y u)(dx:SV.data 6 x=ab)(dy:SV.data 6 y=ab):
  RcAt A s v u (decide (x=y))∧RcNeAt A s v u (!decide (x=y)):=by
 have hu:A.units<ez:=bd (b6 _ _) R.room;have no:∀{x y:SV} {v u:Value},RcAt A s v u an→RcNeAt A s v u ab→x≠y→RcAt A s v u (decide (x=y))∧RcNeAt A s v u (!decide (x=y)):=λ{x y v u} a b ne=>(i0 ne).symm▸⟨a,b⟩;have fj:∀{t:Bool} {x y:SV} {v u:Value},RcAt A s v u t→RcNeAt A s v u (!t)→(t=ab↔x=y)→RcAt A s v u (decide (x=y))∧RcNeAt A s v u (!decide (x=y)):=λ{t x y v u} a b ne=>(show t=decide (x=y) from Qr.mpr (ne.trans h_.symm))▸⟨a,b⟩;refine yt dx (λe=>?_) (λi e=>?_) (λi e=>?_) λxs e dxs=>?_<;>subst e
 ·obtain rfl:=hx
  refine yt dy (λe=>?_) (λj e=>?_) (λj e=>?_) λys e Cz=>?_<;>subst e
  ·obtain rfl:=hy;exact fj (t:=ab) .none_none .none_none ⟨λ_=>rfl,λ_=>rfl⟩
  ·exact xE hy λt' e=>e▸no (.none_int j t') (.none_int j t') nofun
  ·exact xE hy λt' e=>e▸no (.none_str j t') (.none_str j t') nofun
  ·exact bP (R.nM hy) λa items e hb _=>e▸no (.none_tuple hb hu) (.none_tuple hb hu) nofun
 ·refine xE hx λt e=>e▸?_
  refine yt dy (λe=>?_) (λj e=>?_) (λj e=>?_) λys e Cz=>?_<;>subst e
  ·obtain rfl:=hy;exact no (.int_none i t) (.int_none i t) nofun
  ·exact xE hy λt' e=>e▸fj (.int_int i t j t') (.int_int i t j t') (eX.trans ⟨ay SV.int,SV.int.inj⟩)
  ·exact xE hy λt' e=>e▸no (.int_str i t j t') (.int_str i t j t') nofun
  ·exact bP (R.nM hy) λa items e hb _=>e▸no (.int_tuple i t hb hu) (.int_tuple i t hb hu) nofun
 ·refine xE hx λt e=>e▸?_
  refine yt dy (λe=>?_) (λj e=>?_) (λj e=>?_) λys e Cz=>?_<;>subst e
  ·obtain rfl:=hy;exact no (.str_none i t) (.str_none i t) nofun
  ·exact xE hy λt' e=>e▸no (.str_int i t j t') (.str_int i t j t') nofun
  ·exact xE hy λt' e=>e▸fj (.str_str i t j t') (.str_str i t j t') (eX.trans ⟨ay SV.str,SV.str.inj⟩)
  ·exact bP (R.nM hy) λa items e hb _=>e▸no (.str_tuple i t hb hu) (.str_tuple i t hb hu) nofun
 ·refine bP (R.nM hx) λa ia e ha nU=>e▸?_
  refine yt dy (λe=>?_) (λj e=>?_) (λj e=>?_) λys e Cz=>?_<;>subst e
  ·obtain rfl:=hy;exact no (.tuple_none ha hu) (.tuple_none ha hu) nofun
  ·exact xE hy λt' e=>e▸no (.tuple_int j t' ha hu) (.tuple_int j t' ha hu) nofun
  ·exact xE hy λt' e=>e▸no (.tuple_str j t' ha hu) (.tuple_str j t' ha hu) nofun
  ·refine bP (R.nM hy) λc ic e hc nB=>e▸?_
   have z:=R.Ps (A':=A.in1) nU nB dxs Cz (bd (e6 (aJ:1+5≤8) A.units) R.room);refine fj (RcAt.tuples ha hc hu z) (RcNeAt.tuples ha hc hu z) ?_;rw[←nU.size,←nB.size,←DX,propext h_];exact⟨ay SV.tup,SV.tup.inj⟩
theorem SP{x y:SV}{Q:QV}{X:QX}(dx:SV.data 6 x=ab)(dy:SV.data 6 y=ab)(hq:Q (.bool (decide (x=y))) h):WO G F b fr h [x,y] (bv (c5 .Eq)) Q X:=.mk λown ae A P m s Q' E' a5 R d6 c d=>gu d6 λv u hx hy=>(R.JW hx hy dx dy).1 _ _ _ _ (c.here hq rfl R)
theorem V4{x y:SV}{Q:QV}{X:QX}(dx:SV.data 6 x=ab)(dy:SV.data 6 y=ab)(hq:Q (.bool (!decide (x=y))) h):WO G F b fr h [x,y] (bv (c5 .NotEq)) Q X:=.mk λown ae A P m s Q' E' a5 R d6 c d=>gu d6 λv u hx hy=>(R.JW hx hy dx dy).2 _ _ _ _ (c.here hq rfl R)
theorem Rel.Ο(R:Rel G F b own ae A P m fr h s){u w:SV}{vs ws:List SV}{u' w':Value}(hu:de G h u vs)(hw:de G h w ws)(kQ:VR P m u u')(FU:VR P m w w')(dx:eK 6 vs=ab)(dy:eK 6 ws=ab):
  RcAt A s u' w' (decide (vs=ws))∧RcNeAt A s u' w' (!decide (vs=ws)):=by
 have AR:A.units<ez:=bd (b6 _ _) R.room;refine bP (R.jp hu kQ) λa ia e ha nU=>e▸bP (R.jp hw FU) λc ic e hc nB=>e▸?_
 by_cases hsz:ia.size=ic.size
 ·have z:=R.Ps (A':=A.in1) nU nB dx dy (bd (e6 (aJ:1+6≤8) A.units) R.room)
  have e:decide (vs=ws)=(bo ia.size).all (λj=>decide (vs[j]? =ws[j]?)):=by
   rw[DX _ _,nU.size,nB.size,←hsz,Nat.min_self _,qF _,Ig _]
  rw[e];exact⟨RcAt.lists ha hc hsz AR z,RcNeAt.lists ha hc hsz AR z⟩
 ·have hb:(ia.size !=ic.size)=ab:=bne_iff_ne.mpr hsz
  rw[i0 λe=>hsz (nU.size.symm.trans ((ay oq e).trans nB.size))];exact⟨RcAt.lists_lengths ha hc hb AR,RcNeAt.lists_lengths ha hc hb AR⟩
theorem acl{u w:SV}{vs ws:List SV}{Q:QV}{X:QX}(hu:de G h u vs)(hw:de G h w ws)(dx:eK 6 vs=ab)(dy:eK 6 ws=ab)(hq:Q (.bool (!decide (vs=ws))) h):WO G F b fr h [u,w] (bv (c5 .NotEq)) Q X:=.mk λown ae A P m s Q' E' a5 R d6 c d=>gu d6 λv u hx hy=>(R.Ο hu hw hx hy dx dy).2 _ _ _ _ (c.here hq rfl R)
theorem aec{u:SV}{vs:List SV}{Q:QV}{X:QX}(hu:de G h u vs)(hz:vs.length≤cR)(hq:Q (.tup vs) h):WC G F b fr h (.ty "tuple") [u] Q X:=by
 refine .mk λown ae A P m s Q' E' f' a5 R hf hv c d=>hf▸jx hv λu' kQ=>bP (R.jp hu kQ) λa xs e hL hX=>e▸call_tuple_list (hsz:=hX.size▸hz) hL λh' hk=>?_;refine bG ((R.grow hk rfl rfl:Rel G F b own ae A P m fr h {s with heap:=h'}).EW hX) λP' le bk hv=>?_;rw[ahg] at bk;exact c _ _ _ _ P' m hq le .rfl hv bk
noncomputable def fk(vs:List SV)(lo hi:Option Int):List SV:=(vs.drop (lo.elim 0 (fE vs.length))).take (hi.elim vs.length (fE vs.length) - lo.elim 0 (fE vs.length))
theorem C_{n j:Nat}:fE n (j:Int)=min j n:=by
 unfold fE;rw[show(if(j:Int) <0 then(j:Int)+n else j)=j from aK (qG.mpr (jq j))];exact if h:j≤n then(ay (λz:Int=>(max 0 z).toNat) (ahh (wZ.mpr h))).trans ((ay Ih (Qy (jq j))).trans (sA h).symm)
  else(ay (λz:Int=>(max 0 z).toNat) (Int.min_eq_right (wZ.mpr (Ii h)))).trans ((ay Ih (Qy (jq n))).trans (Ij (Ii h)).symm)
def ym(G:Gl)(F:FD)(b:Nat)(fr:SF)(h:SH)(e:Option Expr)(Q:Option Int→SH→Prop)(X:QX):Prop:=match e with
 |none=>Q af h
 |some e=>WE G F b fr h e (λv h'=>∃i,v=.int i∧Q (aa i) h') X
theorem aO.slice{vs:List SV}{xs:Array Value}(hX:aO P m vs xs.toList)(lo hi:Option Int):aO P m (fk vs lo hi) (slicePick xs lo hi af).toList:=by
 rw[slicePick_plain _ _ _,fk,hX.size];exact(hX.drop _).take _
theorem LC{e:Option Expr}{Q:Option Int→SH→Prop}{X:QX}{Q':Value→ak→Prop}{E':Value→ak→Prop}(w:ym G F b fr h e Q X)(R:Rel G F b own ae A P m fr h s)(d:gT G F b own ae A P m fr X E')
  (c:∀i h' v' s' P' m',Q i h'→P.le P'→m.le m'→zV v' i→Rel G F b own ae A P' m' fr h' s'→Q' v' s'):aw (aR G.prog G.w) A (evalPart e ae) Q' E' s:=by
 cases e with
 |none=>rw[evalPart_none _];exact aD (c _ _ _ _ _ _ w .rfl .rfl .none R)
 |some e=>
  refine w.run own ae A P m s _ _ R (λv ag v' aZ bW bU hq hP hm hv a6=>?_) d;obtain⟨i,rfl,hq⟩:=hq;obtain⟨t,rfl⟩:=hv;exact c _ _ _ _ _ _ hq hP hm (.int ..) a6
theorem Ba(i:Int)(n:Nat):(if i<0 then max (i+(n:Int)) 0 else min i (n:Int))=((fE n i:Nat):Int):=by
 rw[clipAt_cast _ _];exact if h:i<0 then(aP h).trans ((Int.max_comm _ _).trans (ay (max 0) (((ay (min · (n:Int)) (aP h)).trans (ahh (Int.add_le_of_le_sub_right ((Int.sub_self (n:Int)).symm▸ahi h)))).symm)))
  else(aK h).trans (((Qy (Int.le_min.mpr ⟨qG.mp h,jq n⟩)).symm).trans (ay (λx=>max 0 (min x (n:Int))) (aK h).symm))
theorem Φ(lo hi:Option Int)(n:Nat):Ik lo hi 1 (n:Int)=(((lo.elim 0 (fE n):Nat):Int),((hi.elim n (fE n):Nat):Int)):=by
 cases lo with
 |none=>cases hi with
  |none=>rfl
  |some i=>exact jw rfl (Ba i n)
 |some j=>cases hi with
  |none=>exact jw (Ba j n) rfl
  |some i=>exact jw (Ba j n) (Ba i n)
theorem Yd(a c:Nat):ahj (a:Int) (c:Int) 1=c-a:=by
 show(if(a:Int) <c then((c:Int) - a-1) / 1+1 else 0:Int).toNat=_;exact if h:(a:Int) <c then(ay Ih ((aP h).trans ((ay (· +1) (agn _)).trans (ahk _ _)))).trans (Int.toNat_sub c a)
  else(ay Ih (aK h)).trans (Nat.sub_eq_zero_of_le (wZ.mp (qG.mp h))).symm
theorem Pc{E:Value→ak→Prop}{v:Value}{k:Option Int}{Q:Option Int→ak→Prop}(hp:zV v k)(hq:Q k s):aw (aR G.prog G.w) A (alr v) Q E s:=by
 cases hp with
 |none=>exact ahl hq
 |int i t=>exact als hq
theorem aeg{E:Value→ak→Prop}{sl:au}{n:Nat}{vl vu:Value}{lo hi:Option Int}{Q:Int×Int×Nat→ak→Prop}(hs:s.heap.IsSliceOf sl vl vu .none)(pl:zV vl lo)(pu:zV vu hi)
  (hq:Q (((lo.elim 0 (fE n):Nat):Int),1,hi.elim n (fE n) - lo.elim 0 (fE n)) s):aw (aR G.prog G.w) A (ahm (.ref sl) (pure (n:Int))) Q E s:=by
 refine bG (id hs) λos um ME kD=>?_;unfold ahm alt;refine wb (wb (uB um kD (x:=vl) rfl (wb (uB um kD (x:=vu) rfl (wb (uB um kD (x:=.none) rfl (aD (wb (ahl ?_)))))))));show aw _ _ (if((1:Int)==0)=ab then _ else _) _ _ s;refine dU rfl (wb (Pc pl (wb (Pc pu (wb (aD ?_))))));show aw _ _ (pure ((Ik lo hi 1 (n:Int)).1,(1:Int),ahj (Ik lo hi 1 (n:Int)).1 (Ik lo hi 1 (n:Int)).2 1)) _ _ s;rw[Φ _ _ _];exact aD ((Yd _ _).symm▸hq)
theorem XA(xs:Array Value)(a c:Nat):((bo (c-a)).filterMap λ(k:Nat)=>xs[((a:Int)+(k:Int)*1).toNat]?).toArray=((xs.toList.drop a).take (c-a)).toArray:=by
 have e:(λ(k:Nat)=>xs[((a:Int)+(k:Int)*1).toNat]?)=λk=>xs[a+k]? :=funext λk=>ay (λi:Nat=>xs[i]?) ((ay (λz:Int=>((a:Int)+z).toNat) (Int.mul_one _)).trans (HT (a+k)));have:=pick_run xs a (c-a);rw[List.filterMap_map] at this;rw[e];exact ay List.toArray this
theorem Vy{E:Value→ak→Prop}{t sl:au}{xs:Array Value}{vs:List SV}{vl vu:Value}{lo hi:Option Int}{Q:Value→ak→Prop}(R:Rel G F b own ae A P m fr h s)(ht:IsTup s.heap t xs)(hX:aO P m vs xs.toList)(hs:s.heap.IsSliceOf sl vl vu .none)(pl:zV vl lo)(pu:zV vu hi)(hz:vs.length≤cR)
  (hv:VR P m (.tup vs) (.ref t)) (c:∀v' s' P',P.le P'→VR P' m (.tup (fk vs lo hi)) v'→Rel G F b own ae A P' m fr h s'→Q v' s'):aw (aR G.prog G.w) A (i6 (.ref t) (.ref sl)) Q E s:=by
 refine bG (id hs) λos um ME kD=>?_;have hp:fk vs lo hi=(vs.drop (lo.elim 0 (fE xs.size))).take (hi.elim xs.size (fE xs.size) - lo.elim 0 (fE xs.size)):=hX.size▸rfl;rw[hp] at c;unfold i6;refine dM (wb (zR ht.typeIs aW (wb (qK (name:=d5 "__getitem__") ht.typeIs DG
  (i5 DG ht.typeIs ahn ?_ (aho _ _))))))
 show aw _ _ (Ql (.ref t) >>=_) _ _ s;refine wb (alu ht (wb (uF ⟨os,um,ME⟩ (pz rfl (wb (aeg hs pl pu ?_))))));generalize lo.elim 0 (fE xs.size)=a at c ⊢;generalize hi.elim xs.size (fE xs.size)=e at c ⊢;clear pl pu hp;show aw _ _ (if((a:Int)==0 && (1:Int)==1 && (e-a)==xs.size)=ab then _ else _) _ _ s;refine jM (λhw=>?_) λhw=>?_
 ·have hw:=(bO _ _).mp hw
  have ha:a=0:=w7 (eq_of_beq ((bO _ _).mp hw.1).1);have ev:(vs.drop a).take (e-a)=vs:=by rw[eq_of_beq hw.2,ha,←hX.size];exact zW
  rw[ev] at c;exact wb (wb (uF ht.typeIs (aD (wb (jK (aD ⟨_,rfl,aD (c (.ref t) s P .rfl hv R)⟩))))))
 ·rw[XA _ _ _]
  refine wb (m:=alv _) (sF (aD ⟨_,rfl,aD ?_⟩) ?_)
  ·refine bG (R.EW ((hX.drop a).take (e-a))) λP' le bk pQ=>?_
   exact c _ _ P' le pQ bk
  ·show Array.size _≤cR
   rw[agh];exact ah (List.length_take_le' _ _) (ah (bF zX) (ah (ku _ _) (ah (bF (fQ.trans hX.size.symm)) hz)))
def SL(G:Gl)(h:SH)(u:SV)(lo hi:Option Int)(Q:QV):Prop:=
 (∃vs,u=.tup vs∧vs.length≤cR∧Q (.tup (fk vs lo hi)) h)∨∃vs,de G h u vs∧vs.length≤cR∧∃n,h n=af∧Q (.ref n) (h.set n (.list (fk vs lo hi)))
theorem yl{wn:Expr}{lo hi:Option Expr}{p pos:Pos}{Q:QV}{X:QX}
  (w:WE G F b fr h wn (λu ag=>ym G F b fr ag lo (λi aC=>ym G F b fr aC hi (λj cL=>SL G cL u i j Q) X) X) X):
  WE G F b fr h (.Subscript wn (.Slice lo hi af p) pos) Q X:=by
 refine .mk ?_;intro own ae A P m s Q' E' R c d;rw[eval_Subscript _ _ _];refine wb (w.run own ae A P m s _ _ R (λu ag u' aZ bW bU hq hP hm hu a6=>?_) d);refine wb (dM (wpAny_Slice (LC hq a6 (d.mono hP hm) λi aC vl bz cD cu gS cQ cM pl bk=>LC gS bk (d.mono (hP.trans cQ) (hm.trans cM)) λj cL vu ey ly np sj fZ ir pu cW=>?_)));rw[evalPart_none _];refine aD ?_;have Bj:=hu.mono (cQ.trans fZ).t (cM.trans ir);have f8:Rel G F b own ae A ly np fr cL {ey with heap:=ey.heap.push {cls:=.type "slice",data:=.fields #[vl,vu,.none]}}:=cW.grow (λa o e=>dT _ e) rfl rfl;have g:GI G cL u:=by
  rcases sj with⟨vs,rfl,_⟩|⟨vs,hl,_⟩
  ·exact .tup
  ·exact .lst hl
 have fin:∀{v':Value} {s':ak} {P' m'} {v:SV} {h':SH},Q v h'→ly.le P'→np.le m'→VR P' m' v v'→Rel G F b own ae A P' m' fr h' s'→aw (aR G.prog G.w) A (do P0 wn u' v';pure v') Q' E' s':=λhq a e hv R'=>
  wb (P4 (aD (c _ _ _ _ _ _ hq (((hP.trans cQ).trans fZ).trans a) (((hm.trans cM).trans ir).trans e) hv R')))
 refine wb (jJ (wb (Pp f8 g Bj (wb (Qq ?_)))));rcases sj with⟨vs,rfl,hz,hq⟩|⟨vs,hl,hz,n,hn,hq⟩
 ·refine bP (f8.sd Bj) λt xs ax ht hX=>?_;subst ax
  exact Vy f8 ht hX (ahp ..) pl pu hz Bj λv' s' P' le hv R'=>fin hq le .rfl hv R'
 ·refine bP (f8.jp hl Bj) λa xs ax hL hX=>?_;subst ax
  refine wpAny_getItem_list_slice hL (ahp ..) pl pu .none (by simp) ?_ (by rw[←hX.size];exact hz);obtain⟨k8,le⟩:=f8.alloc hn (so:=.list (fk vs i j)) (ad:=(ey.heap.objs.size+1,ey.heap.objs.size+1)) (s':={ey with heap:=(ey.heap.push {cls:=.type "slice",data:=.fields #[vl,vu,.none]}).push {cls:=.type "list",data:=.seq (slicePick xs i j af)}})
   (λa o e=>dT _ e) rfl rfl (by rw[mc _ _];exact ar _) (by rw[mc _ _];exact ar _) ⟨rfl,_,0,by rw[←mc ey.heap _];exact fP _ rfl,by
    exact aO.mono aV.le.rfl.t (Aa (f8.dom n hn)) _ (hX.slice i j)⟩
  rw[mc _ _];exact fin hq .rfl le ⟨_,Mu.i9,rfl⟩ k8
end
noncomputable def AD(y x:Str):Bool:=!(Builtin.Str.occurrences x y 0 x.length 1).isEmpty
variable{Q:QV}{X:QX}
theorem zi{f:Value→Value→Sem Value}{x y r:Int}(hf:∀(M:fD) (w:cE) (A:dZ) (E:Value→ak→Prop) (s:ak) (t u:Tok) (Q:Value→ak→Prop),(∀t' k,Q (.int r t') {s with toks:=k})→aw (aR M w) A (f (.int x t) (.int y u)) Q E s)
  (hq:Q (.int r) h):WO G F b fr h [.int x,.int y] (bv f) Q X:=by
 refine .mk ?_;intro own ae A P m s Q' E' a5 R d6 c d;obtain⟨v,r,rfl,⟨t,rfl⟩,u,r',rfl,⟨t',rfl⟩,rfl⟩:=d6;exact hf _ _ _ _ _ _ _ _ λt' k=>c.here hq ⟨_,rfl⟩ (R.tok k)
theorem Rq{x y:Int}(hq:Q (.int (x+y)) h):WO G F b fr h [.int x,.int y] (bv (m7 .Add)) Q X:=zi (λ_ _ _ _ _ _ _ _ k=>P.add_int (k _ _)) hq
theorem YW{x y:Int}(hq:Q (.int (x+y)) h):WO G F b fr h [.int x,.int y] (bv (sC .Add)) Q X:=zi (λ_ _ _ _ _ _ _ _ k=>P.iadd_int (k _ _)) hq
theorem Wq{x y:Int}(hq:Q (.int (x-y)) h):WO G F b fr h [.int x,.int y] (bv (m7 .Sub)) Q X:=zi (λ_ _ _ _ _ _ _ _ k=>P.sub_int (k _ _)) hq
theorem VW{x y:Int}(hq:Q (.int (x-y)) h):WO G F b fr h [.int x,.int y] (bv (sC .Sub)) Q X:=zi (λ_ _ _ _ _ _ _ _ k=>P.isub_int (k _ _)) hq
theorem WZ{x y:Int}(hy:0<y)(hq:Q (.int (x % y)) h):WO G F b fr h [.int x,.int y] (bv (m7 .Mod)) Q X:=by
 refine zi (λ_ _ _ _ _ _ _ _ k=>AutoIntOps.mod_1 (by simp;exact ahq hy) ?_) hq;rw[Int.fmod_eq_emod_of_nonneg _ (ahi hy)];exact k _ _
theorem G_{f:Value→Value→Sem Value}{x y:Int}{r:Bool}(hf:∀(M:fD) (w:cE) (A:dZ) (E:Value→ak→Prop) (s:ak) (t u:Tok) (Q:Value→ak→Prop),Q (.bool r) s→aw (aR M w) A (f (.int x t) (.int y u)) Q E s)
  (hq:Q (.bool r) h):WO G F b fr h [.int x,.int y] (bv f) Q X:=by
 refine .mk ?_;intro own ae A P m s Q' E' a5 R d6 c d;obtain⟨v,r,rfl,⟨t,rfl⟩,u,r',rfl,⟨t',rfl⟩,rfl⟩:=d6;exact hf _ _ _ _ _ _ _ _ (c.here hq rfl R)
theorem YB{x y:Int}(hq:Q (.bool (decide (x<y))) h):WO G F b fr h [.int x,.int y] (bv (c5 .Lt)) Q X:=G_ (λ_ _ _ _ _ _ _ _ k=>P.lt_int k) hq
theorem RY{x y:Int}(hq:Q (.bool (decide (x > y))) h):WO G F b fr h [.int x,.int y] (bv (c5 .Gt)) Q X:=G_ (λ_ _ _ _ _ _ _ _ k=>P.gt_int k) hq
theorem ab6{x y:Int}(hq:Q (.bool (decide (x≥y))) h):WO G F b fr h [.int x,.int y] (bv (c5 .GtE)) Q X:=G_ (λ_ _ _ _ _ _ _ _ k=>P.ge_int k) hq
noncomputable def isNone:SV→Bool
 |.none=>ab
 |_=>an
noncomputable def lH:SV→Bool
 |.bi _=>an
 |_=>ab
theorem aae{v:SV}{v':Value}(hv:VR P m v v')(hb:lH v=ab):plainIs v' .none=ab∧(v'==eH)=isNone v:=by
 cases v with
 |none=>obtain rfl:=hv;exact⟨rfl,rfl⟩
 |bool c=>obtain rfl:=hv;exact⟨rfl,rfl⟩
 |int i=>refine xE hv λt br=>?_;clear hv;subst br;exact⟨rfl,rfl⟩
 |str i=>refine xE hv λt br=>?_;clear hv;subst br;exact⟨rfl,rfl⟩
 |tup vs=>refine oY hv λa _ _ _ j8 _=>?_;clear hv;subst j8;exact⟨rfl,rfl⟩
 |ref n=>refine aj hv λa _ ax=>?_;clear hv;subst ax;exact⟨rfl,rfl⟩
 |range a c=>refine oY hv λr _ _ _ j8 _=>?_;clear hv;subst j8;exact⟨rfl,rfl⟩
 |glob a=>obtain rfl:=hv;exact⟨rfl,rfl⟩
 |bi id=>exact cJ hb
 |ty n=>obtain rfl:=hv;exact⟨rfl,rfl⟩
theorem Sj{v:SV}(hb:lH v=ab)(hq:Q (.bool (!isNone v)) h):WO G F b fr h [v,.none] (bv (c5 .IsNot)) Q X:=by
 refine .mk ?_;intro own ae A P m s Q' E' a5 R d6 c d;refine gu d6 λv' u hv hu=>?_;obtain rfl:=hu;refine xA (aae hv hb) λh1 h2=>?_;refine wpAny_isNot_plain h1 ?_;rw[h2];exact c.here hq rfl R
theorem aff{x y:Str}(hq:Q (.bool (AD y x)) h):WO G F b fr h [.str y,.str x] (bv (c5 .In)) Q X:=by
 refine .mk ?_;intro own ae A P m s Q' E' a5 R d6 c d;obtain⟨v,r,rfl,⟨t,rfl⟩,u,r',rfl,⟨t',rfl⟩,rfl⟩:=d6;exact PySem.P.in_str (c.here hq rfl R)
theorem RD{x:Str}(nr:x.length<2^62)(hq:Q (.int x.length) h):WC G F b fr h (.bi "len") [.str x] Q X:=by
 first|refine jO ?_|refine jP ?_
 intro own ae A P m s Q' E' a5 R hv c d;refine jx hv λu' zA=>?_
 first|refine nc zA λt=>?_|refine pG zA λt=>?_
 exact PySem.P.len_str (O6 nr) (c.here hq ⟨_,rfl⟩ (R.tok _))
theorem Xn{x:Str}{i:Int}{ch:Nat}(C6:-(2^63)≤i)(xw:i<2^63)(hc:(oz i x.length).bind (x.cps[·]?)=aa ch)(hq:Q (.str ⟨#[ch]⟩) h):WO G F b fr h [.str x,.int i] (bv i6) Q X:=by
 refine .mk ?_;intro own ae A P m s Q' E' a5 R d6 c d;obtain⟨v,r,rfl,⟨t,rfl⟩,u,r',rfl,⟨t',rfl⟩,rfl⟩:=d6;refine PySem.P.getItem_str (by simp;lia) hc (c.here hq ⟨_,rfl⟩ (R.tok _))
theorem Wg{i:Int}{Q:Bool→SH→Prop}(hq:Q (i !=0) h):WT G F b fr h (.int i) Q X:=by
 refine .mk ?_;intro own ae A P m s Q' E' v' R hv c d;refine xE hv λt br=>?_;clear hv;subst br;exact ahr (c _ _ _ P m hq .rfl .rfl R)
theorem YL{prog:fD}{w:cE}{A:dZ}{E:Value→ak→Prop}{s:ak}{n:Int}{t:Tok}{Q:Value→ak→Prop}
  (h:Q (.ref s.heap.objs.size) {s with heap:=s.heap.push {cls:=.type "range",data:=.fields #[.int 0 s.toks,.int n t,.int 1 (s.toks+1)]},toks:=s.toks+1+1}):
  aw (aR prog w) A (pv (.type "range") [.int n t]) Q E s:=
 callType_new F.called_range aW (F.typeCall_range_1 _) (F.newCall_range_1 _) (λobj=>F.initArgs_range_1 obj _) F.entry_range_new
  (AutoRange.range___new___type_int_0 n t (by rw[pA _ _];kernel_rfl)) ⟨⟨_,fP _ rfl,rfl⟩,h⟩
theorem Zh{n:Int}(hq:Q (.range 0 n) h):WC G F b fr h (.ty "range") [.int n] Q X:=by
 first|refine jO ?_|refine jP ?_
 intro own ae A P m s Q' E' a5 R hv c d;refine jx hv λu' zA=>?_
 first|refine nc zA λt=>?_|refine pG zA λt=>?_
 refine YL ?_;refine xA (R.Po {cls:=.type "range",data:=.fields #[.int 0 s.toks,.int n t,.int 1 (s.toks+1)]} rfl) λbk le=>?_;exact c _ _ _ _ _ m hq le .rfl ⟨_,s.toks,t,s.toks+1,rfl,aP rfl⟩ (bk.tok _)
noncomputable def rG:SV→Option Bool
 |.none=>aa an
 |.bool c=>aa c
 |.int i=>aa (i !=0)
 |_=>af
theorem Rv{prog:fD}{w:cE}{E:Value→ak→Prop}{v:SV}{v':Value}{c:Bool}{Q:Bool→ak→Prop}(hv:VR P m v v')(hc:rG v=aa c)(hq:Q c s):aw (aR prog w) A (zL v') Q E s:=by
 cases v with
 |none=>obtain rfl:=hv;(first|exact a7 hc|obtain rfl:=aY hc);exact aD hq
 |bool c=>obtain rfl:=hv;(first|exact a7 hc|obtain rfl:=aY hc);exact HK hq
 |int i=>refine xE hv λt br=>?_;clear hv;subst br;(first|exact a7 hc|obtain rfl:=aY hc);exact ahr hq
 |_=>(first|exact a7 hc|obtain rfl:=aY hc)
theorem Yv{vs:List SV}{ts:List Bool}{xs:Array Value}(hX:aO P m vs xs.toList)(ht:vs.map rG=ts.map aa):
  TruthOf G.prog G.w A' (λi v=>xs[i]? =aa v) (λi=>ts.getD i an):=by
 intro i v s Q E hi hq;obtain⟨hj,e⟩:=oi.mp hi;refine aj (hX.at hj) λx q1 q2=>?_;rw[e] at q2;have h1:(vs.map rG)[i]? =aa (rG x):=by rw[dv,q1];rfl
 rw[ht] at h1;simp only[dv] at h1
 cases h2:ts[i]? with
 |none=>rw[h2] at h1;(first|exact a7 h1|obtain rfl:=aY h1)
 |some c=>
  rw[h2] at h1;simp at h1;refine Rv q2 h1.symm ?_;have:ts.getD i an=c:=by unfold List.getD;rw[h2];rfl
  rw[←this];exact hq
theorem Oc:∀(ts:List Bool),(bo ts.length).all (λi=>ts.getD i an)=ts.all id
 |[]=>rfl
 |t::ts=>by
  rw[iE,Qz,DH,ahs,DH,←Oc ts];rfl
theorem Nw:∀(ts:List Bool),(bo ts.length).any (λi=>ts.getD i an)=ts.any id
 |[]=>rfl
 |t::ts=>by
  rw[iE,Qz,PZ,aht,PZ,←Nw ts];rfl
theorem Lz(R:Rel G F b own ae A P m fr h s)(hF:F.q=ab){u:SV}{u':Value}{vs:List SV}{ts:List Bool}(hl:de G h u vs)(hu:VR P m u u')(ht:vs.map rG=ts.map aa){Q':Value→ak→Prop}{E':Value→ak→Prop}(all:Bool)
  (c:∀s',Rel G F b own ae A P m fr h s'→Q' (.bool (if all then ts.all id else ts.any id)) s'):aw (aR G.prog G.w) A (pv (.builtin (if all then "all" else "any")) [u']) Q' E' s:=by
 refine bP (R.jp hl hu) λa xs ax hL hX=>?_;subst ax;have hsz:ts.length=xs.size:=by
  rw[←hX.size];have:=ay oq ht
  simpa using this.symm
 have it:∀{Q:Value→ak→Prop},(∀I h',h'.IsListIter I a 0→h'.IsList a xs→a≠I→(∀b o,b≠I→s.heap.get? b=aa o→h'.get? b=aa o)→s.heap.get? I=af→Q (.ref I) {s with heap:=h'})→aw (aR G.prog G.w) A.in1 (qM (.ref a)) Q E' s:=by
  intro Q hQ;have hI:s.heap.get? s.heap.objs.size=af:=zQ (ar _);have dg:a≠s.heap.objs.size:=λe=>by refine aj hL λo ho _=>?_;clear hL;rw[e,hI] at ho;exact a7 ho
  exact Qf hL (hQ _ _ ⟨_,fP _ rfl,rfl,rfl⟩ (let⟨o,e1,e2⟩:=hL;⟨o,dT _ e1,e2⟩) dg (λb o _ e=>dT _ e) hI)
 have tr:=λA'=>Yv (G:=G) (A':=A') hX ht
 cases all with
 |true=>
  refine call_all_walk (it λI h' h1 h2 dg hk hI=>?_);refine⟨I,_,_,_,_,_,_,rfl,QA (A:=A.in1) (R.quiet hF) I a dg xs,⟨h1,h2⟩,tr _,λmx tk GA=>?_⟩;rw[←hsz,Oc _];refine c _ (R.grow (s':={s with heap:=mx,toks:=tk}) (λb o e=>?_) rfl rfl);have:b≠I:=λe'=>by rw[e',hI] at e;exact a7 e
  exact GA b o (by simpa using this) (hk b o this e)
 |false=>
  refine call_any_walk (it λI h' h1 h2 dg hk hI=>?_);refine⟨I,_,_,_,_,_,_,rfl,QA (A:=A.in1) (R.quiet hF) I a dg xs,⟨h1,h2⟩,tr _,λmx tk GA=>?_⟩;rw[←hsz,Nw _];refine c _ (R.grow (s':={s with heap:=mx,toks:=tk}) (λb o e=>?_) rfl rfl);have:b≠I:=λe'=>by rw[e',hI] at e;exact a7 e
  exact GA b o (by simpa using this) (hk b o this e)
theorem YS{u:SV}{vs:List SV}{ts:List Bool}(hF:F.q=ab)(hl:de G h u vs)(ht:vs.map rG=ts.map aa)(hq:Q (.bool (ts.all id)) h):WC G F b fr h (.bi "all") [u] Q X:=by
 first|refine jO ?_|refine jP ?_
 intro own ae A P m s Q' E' a5 R hv c d;refine jx hv λu' hu=>?_;exact Lz R hF hl hu ht ab λs' R'=>c.here hq rfl R'
theorem Su{u:SV}{vs:List SV}{ts:List Bool}(hF:F.q=ab)(hl:de G h u vs)(ht:vs.map rG=ts.map aa)(hq:Q (.bool (ts.any id)) h):WC G F b fr h (.bi "any") [u] Q X:=by
 first|refine jO ?_|refine jP ?_
 intro own ae A P m s Q' E' a5 R hv c d;refine jx hv λu' hu=>?_;exact Lz R hF hl hu ht an λs' R'=>c.here hq rfl R'
theorem ab8{n:Nm}{C:au}{fs:SF}{Q:Bool→SH→Prop}(hn:h n=aa (.inst C fs))(hs:ie G.K (.ref C) "__bool__"=aa af)(hl:ie G.K (.ref C) "__len__"=aa af)(hq:Q ab h):WT G F b fr h (.ref n) Q X:=by
 refine .mk ?_;intro own ae A P m s Q' E' v' R hv c d;refine R.wi hn hv λbT xs k h1 q2 q3 q4 q5 I=>?_;unfold zL;refine wb (m:=Qp (.ref bT.1) (d5 "__bool__")) (wb (wb (I.type.here ((P8 R.f7 hs).here (aD ?_)))));refine wb (wb (I.type.here ((P8 R.f7 hl).here ?_)));exact aD (c _ _ _ P m hq .rfl .rfl R)
theorem TK{n:Nm}{C f:au}{fs:SF}(hn:h n=aa (.inst C fs))(hs:ie G.K (.ref C) "__len__"=aa (aa (.ref f)))(hf:isFn G.K (.ref f)=ab)
  (w:CC G F b fr h (.glob f) [.ref n] (λv h'=>∃i:Nat,v=.int i∧i<2^62∧Q (.int i) h')):WC G F (b+1) fr h (.bi "len") [.ref n] Q X:=by
 first|refine jO ?_|refine jP ?_
 intro own ae A P m s Q' E' a5 R hv c d;refine jx hv λu' zA=>?_;refine R.wi hn zA λbT xs k h1 q2 q3 q4 q5 I=>?_;refine ahu kind_len plain_len entry_len (args_len1 _) ?_;unfold Builtin.«len»;refine wb (m:=oneArg "len" _) (aD ?_);refine wb (m:=Qp (.ref bT.1) (d5 "__len__")) (special_fn R.f7 I hs (eX.mp hf) (P7 (w.run own ae A.in1 P m s _ _ _ (R.lower A.in1 rfl (bR _) rfl rfl (by show A.units+1≤_;exact e6 aJ _):Rel G F b own ae A.in1 P m fr h s) rfl (aO.one ⟨bT,h1,rfl⟩) λv h' v' s' P' m' hq hP hm hv R'=>?_)));obtain⟨i,rfl,hi,hq⟩:=hq;obtain⟨t,rfl⟩:=hv;refine wb (dM (aD ?_));refine wb (wpAny_letGo ?_);show aw _ _ (if(i:Int) <0 then _ else _) _ _ _;rw[aK (qG.mpr (jq _))];show aw _ _ (if(i:Int)≥2^63 then _ else _) _ _ _;rw[aK (O6 hi)];refine wb (wpAny_mkInt (aD (aU _ rfl ?_)));exact c _ _ _ _ _ _ hq hP hm ⟨_,rfl⟩ ((R.O9 R' rfl).tok _)
theorem Zr{f:SV}{f':Value}{args:List Expr}{pos:Pos}{K:List SV→SH→Prop}{X:QX}{Q':Value→ak→Prop}{E':Value→ak→Prop}(hf:callable G f=ab)(hs:∀ae,(jv pos (gh args ae)).any (·.1)=an)
  (w:jY G F b fr h args K X) (R:Rel G F b own ae A P m fr h s) (hv:VR P m f f') (d:gT G F b own ae A P m fr X E')
  (c:∀vs aC a5 bz cD cu,K vs aC→P.le cD→m.le cu→aO cD cu vs a5→Rel G F b own ae A cD cu fr aC bz→aw (aR G.prog G.w) A (pv f' a5) Q' E' bz):
  aw (aR G.prog G.w) A (wX pos f' [] (jv pos (gh args ae)) []) Q' E' s:=by
 refine callWith_of (P:=λhp=>G.K.In hp) (by rw[hs ae];rfl) (λhp K=>Kg hf hv hp K) ?_;have body:=w.run own ae A P m s pos (λvs s'=>G.K.In s'.heap∧aw (aR G.prog G.w) A (pv f' ([]++vs) []) Q' E' s') E' R (λvs aC a5 bz cD cu hq hP hm pQ bk=>
  ⟨bk.f7,c vs aC a5 bz cD cu hq hP hm pQ bk⟩) d
 exact I1 (hs ae) body
inductive Aj(G:Gl)(h:SH):List SV→df→Prop
 |lst {n:Nm} {vs:List SV} (hn:h n=aa (.list vs)):Aj G h [.ref n] (.enumL n)
 |tup {vs:List SV}:Aj G h [.tup vs] (.enumT vs)
theorem Uw{func:Expr}{args:List Expr}{pos:Pos}{Q:df→SH→Prop}(ti:∀ae,d9 (.Call func args [] pos) ae=(do wX pos (←d9 func ae) [] (jv pos (gh args ae)) []))
  (hs:∀ae,(jv pos (gh args ae)).any (·.1)=an)
  (w:WE G F b fr h func (λf ag=>f=.ty "enumerate"∧jY G F b fr ag args (λvs aC=>∃k,Aj G aC vs k∧Q k aC) X) X):WI G F b fr h (.Call func args [] pos) Q X:=by
 refine .mk ?_;intro own ae A P m s Q' E' R c d;rw[ti ae];refine wb (w.run own ae A P m s _ _ R (λf ag f' aZ bW bU hq hP hm hf a6=>?_) d);obtain⟨rfl,hq⟩:=hq;refine Zr (f:=.ty "enumerate") rfl hs hq a6 hf (d.mono hP hm) λvs aC a5 bz cD cu hk cQ cM hv bk=>?_;obtain rfl:f'=.type "enumerate":=hf;obtain⟨k,hk,hq⟩:=hk;have fin {J e:au} {h':cO} {T:String} {fs:Array Value} (hE:IsEnum h' e J 0 .none) (hk:∀b o,bz.heap.get? b=aa o→h'.get? b=aa o) (hI:kZ k 0 cD cu h' e [e,J]) (he:bz.heap.get? e=af) (hJ:bz.heap.get? J=af) (x:∃o,h'.get? J=aa o∧o.cls=.type T∧o.data=.fields fs) (hp:AP T=ab):
   aw (aR G.prog G.w) A (qM (.ref e)) Q' E' {bz with heap:=h'}:=by
  refine agq hE (c _ _ _ _ {bz with heap:=h'} _ _ hq (hP.trans cQ) (hm.trans cM) (bk.grow (s':={bz with heap:=h'}) hk rfl rfl) hI ⟨λa ha=>?_⟩);rcases dE.mp ha with rfl|ha
  ·obtain⟨q1,q2,q3,q4⟩:=bk.fresh he
   exact(tU q1 q3 q2 q4 _ hE (vz rfl aW aW) (pM rfl))
  ·cases bS.mp ha
   obtain⟨q1,q2,q3,q4⟩:=bk.fresh hJ;exact(uo q1 q3 q2 q4 (yI hp x))
 have JF:bz.heap.get? bz.heap.objs.size=af:=zQ (ar _);have qY:bz.heap.get? (bz.heap.objs.size+1)=af:=zQ (bR _);have dg:bz.heap.objs.size+1≠bz.heap.objs.size:=ahv _
 cases hk with
 |lst hn=>
  refine jx hv λu' zA=>?_;refine uN zA λad wF=>?_;refine bk.mK hn wF λxs kk q2 q3=>?_;exact call_enumerate_list ⟨_,q2,rfl,kk,rfl⟩ λh' hE hit hsz hk=>fin hE hk ⟨_,_,rfl,dg,hE,ad,wF,hit⟩ qY JF hit rfl
 |tup=>
  refine jx hv λu' hu=>?_;obtain⟨a,xs,rfl,ht,hX⟩:=bk.nM hu;exact XS ht λh' hE hit hsz hk=>fin hE hk ⟨_,_,rfl,dg,hE,a,hu,hit⟩ qY JF hit rfl
def Ev(G:Gl)(F:FD)(b:Nat)(fr:SF)(h:SH)(elt:Expr)(gens:List dC)(scope:cb)(pos:Pos)(iter:Expr)(Q:QV)(X:QX):Prop:=
 WI G F b fr h iter (λk ag=>∃acc,ag acc=af∧Af G (db scope F) b (gZ scope fr) (ag.set acc (.list [])) elt gens scope pos acc 0 k 0 (λ_ aC=>Q (.ref acc) aC)) X
theorem Vv{g:dC}{gs:List dC}(h:g.is_async=0):QB (g::gs)=an:=by cases g;exact ay (λx:Int=>x !=0) h
theorem X5{g:dC}{gs:List dC}:firstIter (g::gs) ae=d9 g.iter ae:=by cases g;rfl
theorem K4{elt:Expr}{g:dC}{gs:List dC}{scope:cb}{pos:Pos}{Q:QV}{X:QX}{wh:Option (Value→Sem Unit)}{Q':Value→ak→Prop}{E':Value→ak→Prop}
  (hg:lA (g::gs)=ab) (ok:qu scope F=ab) (oF:∀ae x,w0 g.iter ae x=pure x) (w:Ev G F b fr h elt (g::gs) scope pos g.iter Q X)
  (R:Rel G F b own ae A P m fr h s) (d:gT G F b own ae A P m fr X E')
  (c:∀v aC v' bz cD cu C,Q v aC→P.le cD→m.le cu→VR cD cu v v'→Rel G F b own ae A cD cu fr aC bz→fF G own cD cu bz.heap [C]→(∃mm,bz.heap.Ns C mm)→HY (aR G.prog G.w) A E' wh Q' v' C (.ok .next) bz):
  aw (aR G.prog G.w) A (comprehension (.ListComp elt (g::gs) scope pos) scope ae (firstIterPos (g::gs) pos) (newList []) (QB (g::gs)) (firstIter (g::gs) ae) wh) Q' E' s:=by
 have K:=Bb.of ok;rw[Vv (eq_of_beq (dc.mp hg g (.head _))),X5];refine wpAny_comprehension_free (e:=.ListComp elt (g::gs) scope pos) rfl (oF ae) (Α λp hp hk=>aj (R.f.rx p.1 (K.fr p hp hk)) λc hc _=>⟨c,hc⟩) K.fn (λx hx e=>(HP K.nd hx).trans (ay aa e)) ?_;refine w.run own ae A P m s _ _ R (λk ag I T aZ bW bU hq hP hm a6 hI hT=>aj hq λacc Eu hC=>?_) d;refine xA (a6.alloc Eu (so:=.list []) (ad:=(aZ.heap.objs.size,aZ.heap.objs.size)) (s':={aZ with heap:=aZ.heap.push {cls:=.type "list",data:=.seq #[]}})
  (λa o e=>dT _ e) rfl rfl (ar _) (ar _) ⟨rfl,#[],0,fP _ rfl,rfl⟩) λbk le=>sF (Uu λbY he=>?_)
 refine bG (bk.Tp K he) λmF cW ui xr=>?_;have keep:=λ{a o} (e:aZ.heap.get? a=aa o)=>Qh scope.names _ a o (dT {cls:=.type "dict",data:=.dict #[]} (dT {cls:=.type "list",data:=.seq #[]} e));have nO:=bk.Nz (ui _ xr);have rE:=hC.run mF _ A _ _ _ I T (HY (aR G.prog G.w) A E' wh Q' (.ref aZ.heap.objs.size) bY.locals) (aZ.heap.objs.size,aZ.heap.objs.size) cW
  (hI.move bk.sN.t le λa ha=>Ak (hT.all a ha) λ_ _ _ _ o ho _=>(keep ho).trans ho.symm)
  ⟨λa ha=>Ak (hT.all a ha) λt1 t2 t3 t4 o ho t5=>⟨(mq t2 _).trans t1,λhx=>fu ((dT _ ho).symm.trans (ui a hx)),λn ad e=>if z:n=acc then aY ((aP z).symm.trans e)▸⟨du (jI ho),du (jI ho)⟩ else t3 n ad ((aK z).symm.trans e),t4,o,keep ho,t5⟩⟩
  Mu.i9 λfr' j4 nj EQ Hs hq XE Hd f8=>jz (bk.leave f8 XE Hd λl l' h1 h2=>⟨[],aY (h2.symm.trans h1),λa ha=>cT ha⟩) λl1 l2 k8=>f8.f.ns.elim λmm lG=>c _ j4 _ nj (EQ.less own) Hs _ hq (hP.trans l1) ((hm.trans le).trans Hd) ⟨_,Hd _ _ Mu.i9,rfl⟩ k8
   ⟨λa ha=>(bS.mp ha).symm▸Gk lG.1 λo es ep q1 q2 _=>⟨(nh nO).trans (f8.ownP _ xr),nO,λn ad e=>have z:=f8.sep n ad e;⟨λq=>z.2.2.1 (q▸xr),λq=>z.2.2.2 (q▸xr)⟩,
    wT.mpr λo z=>fu ((f8.basePR _ _ z).symm.trans (f8.ownP _ xr)),o,q1,xR q2,λv e=>nomatch q2.symm.trans e⟩⟩ ⟨mm,lG.1⟩
 exact Pf (d:=0) (g:=g) rfl hg rE (IX cW (hI.move bk.sN.t le λa ha=>Ak (hT.all a ha) λ_ _ _ _ o ho _=>(keep ho).trans ho.symm) rE)
theorem KZ{elt:Expr}{g:dC}{gs:List dC}{scope:cb}{pos:Pos}(hg:lA (g::gs)=ab)(ok:qu scope F=ab)(oF:∀ae x,w0 g.iter ae x=pure x)
  (w:Ev G F b fr h elt (g::gs) scope pos g.iter Q X):WE G F b fr h (.ListComp elt (g::gs) scope pos) Q X:=by
 refine .mk ?_;intro own ae A P m s Q' E' R c d;rw[eval_ListComp];refine K4 hg ok oF w R d λv aC v' bz cD cu C hq hP hm hv bk hT lG=>?_;exact xE lG λmm lG=>⟨mm,lG,λh' hs=>c v aC v' _ cD cu hq hP hm hv (bk.oZ (s':={bz with heap:=h'}) hT (λa o ha e=>(hs.2 a λz=>ha (bS.mpr z)).trans e) rfl rfl)⟩
noncomputable def Ej(sc:cb)(x:Str)(p:Pos)(scope:cb)(cpos:Pos):Bool:=sc.names.lookup x==aa .local && p.line==cpos.line && !(scope.names.any λ(n,k)=>n==x && (k==.local||k==.cell))
theorem T6(R:Rel G F b own ae A P m fr h s){x:Str}{p:Pos}{elt:Expr}{gens:List dC}{scope:cb}{cpos:Pos}{line:Nat}:
  Dt (.ListComp elt gens scope cpos) (aa (.Name x p)) line ae=pure (Ej F.sc x p scope cpos):=by
 have hk:ae.blockKind=.function:=by
  unfold Env.blockKind;rw[R.f.sc,R.f.kind];rfl
 unfold Dt Ej;simp only[hk,PV,R.f.sc];rfl
theorem ae5{x:Str}{p pos:Pos}{elt:Expr}{g:dC}{gs:List dC}{scope:cb}{cpos:Pos}{Q:QS}{X:dP}(hg:lA (g::gs)=ab)(ok:qu scope F=ab)(oF:∀ae x,w0 g.iter ae x=pure x)(hx:qv F x=ab)
  (w:Ev G F b fr h elt (g::gs) scope cpos g.iter (λv ag=>Q .next (fr.put x v) ag) (λy h=>X y fr h)):WS G F b fr h (.Assign [.Name x p] (.ListComp elt (g::gs) scope cpos) pos) Q X:=by
 refine .mk ?_;intro own ae A P m s Q' E' R c d;have e:=T6 R (x:=x) (p:=p) (elt:=elt) (gens:=g::gs) (scope:=scope) (cpos:=cpos) (line:=pos.line);have put:=λ{v aC}=>Ov (G:=G) (b:=b) (pos:=p) (X:=X) (Q:=λfr' h'=>fr'=fr.put x v∧h'=aC) hx ⟨rfl,rfl⟩
 cases KL:Ej F.sc x p scope cpos with
 |false=>
  refine agd ((KZ hg ok oF w).run own ae A P m s _ _ R (λv ag v' aZ bW bU hq hP hm hv a6=>?_) d.ka) (e.trans (ay pure KL)) rfl;exact put.run own ae A bW bU aZ _ _ v' a6 hv (λfr' h' s' P' m' q a b R'=>c .next (fr.put x v) ag .next _ _ _ hq (hP.trans a) (hm.trans b) rfl (q.1▸q.2▸R')) (d.mono hP hm)
 |true=>
  rw[exec_Assign_Name_used _ _ _ _ (e.trans (ay pure KL))];refine wb (jJ (wb ?_));show aw _ _ (do let _ ←comprehension (.ListComp elt (g::gs) scope cpos) scope ae (firstIterPos (g::gs) cpos) (newList []) (QB (g::gs)) (firstIter (g::gs) ae) (aa (pq (.Name x p) ae))) _ _ _;refine wb ?_;refine K4 hg ok oF w R d.ka λv aC v' bz cD cu C hq hP hm hv bk hT lG=>oY lG λmm o es ep n1 n2=>xA (bk.hold hT) λcW le=>?_;refine put.run own ae A _ cu bz _ _ v' cW (hv.mono le.t .rfl) (λfr' h' s' P' m' q a b' R'=>?_) (d.mono (hP.trans le) hm);exact yk (bk.drop hT R' a b') λl1 l2 k8 SO hex=>⟨mm,⟨o,es,ep,(hex C (.head _)).trans n1,n2⟩,λh' hs=>aD (aD (c .next (fr.put x v) aC .next _ _ _ hq (hP.trans l1) (hm.trans b') rfl (q.1▸q.2▸k8.oZ (s':={s' with heap:=h'}) SO (λa o ha e=>(hs.2 a λz=>ha (bS.mpr z)).trans e) rfl rfl)))⟩
theorem Rel.slots(R:Rel G F b own ae A P m fr h s){l:List Env}(hl:A.frames=aa l){hp:cO}(hs:Heap.SlotsOnly (l.filterMap (·.frame)) s.heap hp)(t:Nat):
  Rel G F b own ae A P m fr h {s with heap:=hp,toks:=t}:=by
 obtain⟨Aq,h1,h2,h3,h4,h5⟩:=R.frs;obtain rfl:=aY (h1.symm.trans hl);have CY:∀n ad,m n=aa ad→ad.1∉Aq.filterMap (·.frame)∧ad.2∉Aq.filterMap (·.frame):=λn ad e=>by
  refine mz (R.sep n ad e) λq1 q2 q3 q4=>?_;refine⟨λz=>?_,λz=>?_⟩
  ·rcases h4 _ z with w|⟨o,w⟩
   ·exact q3 w
   ·rw[q1] at w;exact a7 w
  ·rcases h4 _ z with w|⟨o,w⟩
   ·exact q4 w
   ·rw[q2] at w;exact a7 w
 refine⟨R.gens,R.os,λa o e=>?_,R.basePR,⟨Aq,h1,h2.of_slotsOnly hs,h3,h4,λa o e=>?_⟩,λn so e=>?_,R.dom,R.inj,R.sep,R.ownP,R.f.keep .rfl .rfl λa _ o e=>?_,R.depth,R.units,R.guards,R.quiet⟩
 ·exact(hs.2.1 a λz=>by have:=(h2.mem z).1;rw[e] at this;exact fu this).trans (R.bs a o e)
 ·refine aj (h5 a o e) λsl e1 e2=>?_
  refine xE (hs.2.2 a _ e1) λVX e3=>?_;refine(aU VX e3 (λz=>?_));have:=hs.2.1 a z;rw[e1] at this;have:=ay (λo=>o.map (·.slots)) (e3.symm.trans this);simp at this;exact this.trans (e2 z)
 ·refine aj (R.obj n so e) λad q1 q2=>?_
  refine xA (CY n ad q1) λn1 n2=>?_;exact(aU ad q1 (q2.mono aV.le.rfl.t Mu.le.rfl (λo e=>(hs.2.1 _ n1).trans e) (λo e=>(hs.2.1 _ n2).trans e)))
 ·refine xE (hs.2.2 a o e) λsl e'=>?_
  exact(cK _ e' rfl rfl)
structure vh(G:Gl)(own:List au)(P:aV)(m:Mu)(hp:cO)(e tb:au)(x:String):Prop where
 free:fF G own P m hp [e,tb]
 at_:∃oe vs tY vV,hp.get? e=aa oe∧oe.cls=.type x∧oe.data=.fields vs∧vs[1]? =aa (.ref tb)∧hp.get? tb=aa tY∧tY.cls=.type "traceback"∧tY.data=.fields vV∧3<vV.size
 ne:e≠tb
theorem vh.move{hp bX:cO}{e tb:au}{x:String}(N:vh G own P m hp e tb x)(hT:fF G own P' m' bX [e,tb])(hk:∀a∈[e,tb],bX.get? a=hp.get? a):vh G own P' m' bX e tb x:=by
 obtain⟨oe,vs,tY,vV,h1,h2,h3,h4,h5,h6⟩:=N.at_;exact⟨hT,⟨oe,vs,tY,vV,(hk e dA).trans h1,h2,h3,h4,(hk tb (.tail _ (.head _))).trans h5,h6⟩,N.ne⟩
theorem xZ{o:Obj}{x:String}{vs:Array Value}(hc:o.cls=.type x)(hx:x≠"tuple"∧x≠"range")(hd:o.data=.fields vs):¬kd o:=vz hc hx.1 hx.2
theorem Tj(R:Rel G F b own ae A P m fr h s){e:au}{x:String}(hx:x≠"tuple"∧x≠"range")(N:Bf G.base s.heap P m own e x){Q:Unit→ak→Prop}{E:Value→ak→Prop}
  (c:∀s' tb,Rel G F b own ae A P m fr h s'→vh G own P m s'.heap e tb x→Q () s'):aw (aR G.prog G.w) A (H4 (.ref e) ae) Q E s:=by
 obtain⟨oe,vs,he,wI,hd,h1⟩:=N.obj;have hsz:1<vs.size:=(oi.mp h1).1;obtain⟨l,l1,l2,⟨e0,l',rfl,l3⟩,l4,l5⟩:=R.frs;refine gK l2.2.1 λL oL f1 f2 f3 f4=>?_;unfold H4;simp only[(l3▸f1:ae.frame=aa L)];refine wb (uB he hd h1 ?_);rw[aK aW];unfold PySem.frameOf;refine wb (wb (wpAny_frameEnvs l1 ?_));rw[(by simp[List.dropWhile,l3]:((e0::l').dropWhile λx=>x.frame !=ae.frame)=e0::l')];unfold frameObject;refine wb (wb (wpAny_readyFrames_fun l2 λag Jf=>aD ?_));rw[f1];refine aD ?_;refine wb (wpAny_entryPlaceOf λpl qt=>?_);unfold EntryCells.newEntry newFields;refine wb (sF ?_ (qt.sizeOk5 _ _ _ _ _));have a6:=R.slots l1 Jf s.toks;have TN:e∉(e0::l').filterMap (·.frame):=λz=>by
  refine mN (l2.mem z) λ_ o ho hn=>?_;rw[he] at ho;obtain rfl:=aY ho;exact hn vs hd
 have O':ag.get? e=aa oe:=(Jf.2.1 e TN).trans he;have Hw:=dT (h:=ag) {cls:=.type "traceback",dict:=af,data:=.fields ([eH,.ref L,.none,e_ L,.none]++(if pl.isEmpty then uH 6 eH else pl)).toArray} O';refine sE Hw hd hsz ?_;have Pw:ag.objs.size≠e:=dG (jI O');have qD:=HU hd (·.setIfInBounds 1 (Du ag.objs.size));have bk:Rel G F b own ae A P m fr h {s with heap:=ag.push {cls:=.type "traceback",dict:=af,data:=.fields ([eH,.ref L,.none,e_ L,.none]++(if pl.isEmpty then uH 6 eH else pl)).toArray}}:=
  a6.grow (s':={s with heap:=ag.push {cls:=.type "traceback",dict:=af,data:=.fields ([eH,.ref L,.none,e_ L,.none]++(if pl.isEmpty then uH 6 eH else pl)).toArray}}) (λa o e=>dT _ e) rfl rfl
 have YC:fF G own P m (ag.push {cls:=.type "traceback",dict:=af,data:=.fields ([eH,.ref L,.none,e_ L,.none]++(if pl.isEmpty then uH 6 eH else pl)).toArray}) [e]:=⟨λa ha=>by
  obtain rfl:a=e:=by simpa using ha
  exact(tU N.oV N.own N.mu N.base oe Hw (xZ wI hx hd) (pM hd))⟩
 have yn:sB e (ag.push {cls:=.type "traceback",dict:=af,data:=.fields ([eH,.ref L,.none,e_ L,.none]++(if pl.isEmpty then uH 6 eH else pl)).toArray}) _:=pt (f:=uI (·.setIfInBounds 1 (.ref ag.objs.size))) ..;have sU:=(yn.2 ag.objs.size Pw).trans (fP ag rfl);refine mz (a6.free (s:={s with heap:=ag,toks:=s.toks}) (ar ag.objs.size)) λg1 g2 g3 g4=>?_;have qY:=lf (uI (·.setIfInBounds 1 (.ref ag.objs.size))) Hw (P9 qD);refine c _ ag.objs.size (bk.oZ (s':={s with heap:=(ag.push {cls:=.type "traceback",dict:=af,data:=.fields ([eH,.ref L,.none,e_ L,.none]++(if pl.isEmpty then uH 6 eH else pl)).toArray}).update e (uI (·.setIfInBounds 1 (.ref ag.objs.size)))}) YC (λa o ha ea=>(yn.2 a (by simpa using ha)).trans ea) rfl rfl) ⟨⟨λa ha=>?_⟩,⟨_,_,_,_,qY,(Dv ..).trans wI,qD,by simp[hsz],sU,rfl,rfl,by exact aJ⟩,Ne.symm Pw⟩;rcases dE.mp ha with rfl|ha
 ·exact(tU N.oV N.own N.mu N.base _ qY (xZ ((Dv ..).trans wI) hx qD) (pM qD))
 ·obtain rfl:a=ag.objs.size:=by simpa using ha
  exact(tU g1 g3 g2 g4 _ sU (xZ rfl aW rfl) (pM rfl))
theorem JB(R:Rel G F b own ae A P m fr h s){e tb:au}{x:String}(hx:x≠"tuple"∧x≠"range")(N:vh G own P m s.heap e tb x){Q:Unit→ak→Prop}{E:Value→ak→Prop}
  (c:∀s',Rel G F b own ae A P m fr h s'→vh G own P m s'.heap e tb x→Q () s'):aw (aR G.prog G.w) A' (setFlight (.ref e) af) Q E s:=by
 obtain⟨oe,vs,tY,vV,h1,h2,h3,h4,h5,h6,h7,h8⟩:=N.at_;refine wpAny_setFlight_none h1 h3 h4 h5 h7 h8 ?_;have yn:sB tb s.heap _:=pt (f:=uI (·.setIfInBounds 3 .none)) ..;have qD:=HU h7 (·.setIfInBounds 3 eH);have oO:=lf (uI (·.setIfInBounds 3 eH)) h5 (P9 qD);have qY:=(yn.2 e N.ne).trans h1;refine c _ (R.oZ (s':={s with heap:=s.heap.update tb (uI (·.setIfInBounds 3 .none))}) N.free (λa o ha ea=>(yn.2 a (λz=>ha (by simp[z]))).trans ea) rfl rfl) ⟨⟨λa ha=>?_⟩,⟨_,_,_,_,qY,h2,h3,h4,oO,(Dv ..).trans h6,qD,by simpa using h8⟩,N.ne⟩;have base:=N.free.all a ha;rcases dE.mp ha with rfl|ha
 ·exact(tU base.1 base.2.1 base.2.2.1 base.2.2.2.1 _ qY (xZ h2 hx h3) (pM h3))
 ·obtain rfl:a=tb:=by simpa using ha
  exact(tU base.1 base.2.1 base.2.2.1 base.2.2.2.1 _ oO (xZ ((Dv ..).trans h6) aW qD) (pM qD))
noncomputable def FD.loud(F:FD):FD:={F with q:=an}
theorem Rel.mark(R:Rel G F b own ae A P m fr h s)(x:Option Value):Rel G F.loud b own ae (A.mark x) P m fr h s:=
 ⟨R.gens,R.os,R.bs,R.basePR,R.frs,R.obj,R.dom,R.inj,R.sep,R.ownP,⟨R.f.sc,R.f.kind,R.f.glob,R.f.blt,R.f.rY,R.f.ns,R.f.mB,R.f.rx,R.f.sX,R.f.apart,R.f.mP⟩,R.depth,R.units,R.guards,λq=>by exact cJ q⟩
theorem Rel.unmark{ady:aV}{afg:Mu}{ej:SF}{aA:SH}{dI:ak}{x:Option Value}(AM:Rel G F b own ae A ady afg ej aA dI)(R:Rel G F.loud b own ae (A.mark x) P m fr h s):Rel G F b own ae A P m fr h s:=
 ⟨R.gens,R.os,R.bs,R.basePR,R.frs,R.obj,R.dom,R.inj,R.sep,R.ownP,⟨R.f.sc,R.f.kind,R.f.glob,R.f.blt,R.f.rY,R.f.ns,R.f.mB,R.f.rx,R.f.sX,R.f.apart,R.f.mP⟩,AM.depth,AM.units,AM.guards,AM.quiet⟩
def XM(G:Gl)(x:String)(c:SV)(r:Bool):Prop:=
 ∀{F b own ae A P m fr h s} (A':dZ) (Q:Bool→ak→Prop) (E:Value→ak→Prop) (v':Value) (e:au),Rel G F b own ae A P m fr h s→VR P m c v'→s.TypeIs (.ref e) x→Q r s→aw (aR G.prog G.w) A' (excMatches (.ref e) v') Q E s
theorem Sg{x T:String}{r:Bool}(EA:lv (.type T) (.type "BaseException")=pure ab)(xu:lv (.type ((Manifest.find? T).elim "type" λx=>x.metatype)) (.type "tuple")=pure an)
  (tw:lv (.type x) (.type T)=pure r):XM G x (.ty T) r:=by
 intro F b own ae A P m fr h s A' Q E v' e R hv hT hq;obtain rfl:=hv;exact wpAny_excMatches_type hT EA xu tw hq
theorem Nt{body:List bx}{t:Expr}{uZ:bx}{vp:List bx}{Cm pos:Pos}{Q:QS}{X:dP}
  (w:j6 G F b fr h body Q (λx bw ag=>(x≠"tuple"∧x≠"range")∧WE G F.loud b bw ag t (λc aC=>XM G x c ab∧j6 G F.loud b bw aC (uZ::vp) Q nX) lZ)):
  WS G F b fr h (.Try body [.ExceptHandler (aa t) af (uZ::vp) Cm] [] [] pos) Q X:=by
 refine .mk ?_;intro own ae A P m s Q' E' R c d;refine wpAny_Try_except (w.run own ae A P m s _ _ R (λf bw ag f' aZ bW bU hq hP hm hf a6=>?_) (λx bw ag e aZ bW bU hq hP hm N a6=>?_))
 ·cases f with
  |next=>obtain rfl:=hf;exact wpAny_execs_nil (c _ _ _ _ _ _ _ hq hP hm rfl a6)
  |brk=>obtain rfl:=hf;exact c _ _ _ _ _ _ _ hq hP hm rfl a6
  |cont=>obtain rfl:=hf;exact c _ _ _ _ _ _ _ hq hP hm rfl a6
  |ret v=>refine aj hf λv' br hv=>?_;clear hf;subst br;exact c _ _ _ _ _ _ _ hq hP hm ⟨v',rfl,hv⟩ a6
 ·refine xA hq λhx hq=>?_
  refine Tj a6 hx N λbz tb bk Sl=>JB bk hx Sl λey cW Ey=>?_;refine wpAny_handleBy_cons (codeAny_handlers_test ?_) (by intro q;cases q);refine xA (cW.hold Ey.free) λf8 le=>?_;refine hq.run own ae (A.mark (aa (.ref e))) _ bU ey _ _ (f8.mark _) (λcv aC c' yo ya v9 B8 uq lW hc k8=>?_) qx;refine xA B8 λhX hw=>?_;clear B8;refine yk (cW.drop Ey.free (cW.unmark k8) uq lW) λl1 l2 pd Sz hex=>?_;have Kk:=Ey.move Sz hex;have Hb:yo.TypeIs (.ref e) x:=by
   obtain⟨oe,vs,tY,vV,h1,h2,_⟩:=Kk.at_;exact⟨oe,h1,h2⟩
  refine hX _ _ _ c' e k8 hc Hb ?_;simp only[if_true];refine codeAny_handlers_suite (JB pd hx Kk λRE rz aj0=>?_);exact hw.run own ae (A.mark (aa (.ref e))) _ v9 RE _ _ (rz.mark _) (λf eo cL f' ajt ako akc Wh VF UU hf UE=>c _ _ _ _ _ _ _ Wh ((hP.trans l1).trans VF) ((hm.trans lW).trans UU) hf (rz.unmark UE)) t9
theorem IJ{M:i2}{A:dZ}{E:Value→ak→Prop}{s:ak}{T:String}{Q:Bool→ak→Prop}(EA:lv (.type T) (.type "BaseException")=pure ab)(h:Q ab s):aw M A (isExcClass (.type T)) Q E s:=
 wb (qL (a:=ab) rfl (pz rfl (qL EA h)))
theorem OK{G:Gl}{x T U:String}{r q:Bool}(hT:lv (.type T) (.type "BaseException")=pure ab)(hU:lv (.type U) (.type "BaseException")=pure ab)
  (h1:lv (.type x) (.type T)=pure r) (h2:lv (.type x) (.type U)=pure q):XM G x (.tup [.ty T,.ty U]) (r||q):=by
 intro F b own ae A P m fr h s A' Q E v' e R hv Hb hq;obtain⟨a,xs,rfl,⟨o,ho,hc,n,hd⟩,hX⟩:=R.nM hv;have e1:xs.toList=[.type T,.type U]:=bP hX λv1 r1 e1 EM h=>bP h λv2 r2 e2 EH e3=>e1.trans (congr (ay DI EM) (e2.trans (congr (ay DI EH) e3)));refine wb (w5 ⟨o,ho,hc⟩ agv (pz rfl (wb (wY ho hd (wb (aD (wb ?_)))))));rw[ahw,e1,py];refine wb (wb (IJ hT (dU rfl (aD ?_))));refine(?_:aw _ _ (forIn [zS U] PUnit.unit _) _ _ _);rw[py];refine wb (wb (IJ hU (dU rfl (aD (aD ?_)))));refine wb (uF Hb (wb ?_));rw[py];refine wb (wb (qL h1 ?_))
 cases r with
 |true=>exact pz rfl (aD (aD (aD hq)))
 |false=>
  refine dU rfl (aD ?_);refine(?_:aw _ _ (forIn [zS U] (af,()) _) _ _ _);rw[py];refine wb (wb (qL h2 ?_))
  cases q with
  |true=>exact pz rfl (aD (aD (aD hq)))
  |false=>exact dU rfl (aD (aD (aD hq)))
theorem E5:lv (.type "KeyError") (.type "BaseException")=pure ab:=by rw[pA _ _];kernel_rfl
theorem LF:lv (.type "IndexError") (.type "BaseException")=pure ab:=by rw[pA _ _];kernel_rfl
theorem Oo:lv (.type "KeyError") (.type "KeyError")=pure ab:=by rw[pA _ _];kernel_rfl
theorem UN:lv (.type "KeyError") (.type "IndexError")=pure an:=by rw[pA _ _];kernel_rfl
theorem ZP:lv (.type "IndexError") (.type "KeyError")=pure an:=by rw[pA _ _];kernel_rfl
theorem χ:lv (.type "IndexError") (.type "IndexError")=pure ab:=by rw[pA _ _];kernel_rfl
theorem Zj{G:Gl}:XM G "KeyError" (.ty "KeyError") ab:=Sg E5 (by rw[pA _ _];kernel_rfl) Oo
theorem RF{G:Gl}:XM G "IndexError" (.tup [.ty "IndexError",.ty "KeyError"]) ab:=OK LF E5 χ ZP
theorem abr{G:Gl}:XM G "KeyError" (.tup [.ty "IndexError",.ty "KeyError"]) ab:=OK LF E5 UN Oo
theorem YE{o e:Expr}{a:Str}{C4 pos:Pos}{op:wS}{Q:QS}{X:dP}
  (w:WE G F b fr h o (λu ag=>WO G F b fr ag [u] (mr λx=>m8 x a ab) (λv aC=>WE G F b fr aC e (λy cL=>WO G F b fr cL [v,y] (bv (sC op)) (λr j4=>WO G F b fr j4 [u,r] (bv λx y=>do Dq x a y;pure .none) (λ_ wD=>Q .next fr wD) lZ) lZ) lZ) lZ) lZ):
  WS G F b fr h (.AugAssign (.Attribute o a C4) op e pos) Q X:=by
 refine .mk ?_;intro own ae A P m s Q' E' R c d;have Zu:exec (.AugAssign (.Attribute o a C4) op e pos) ae=(do
  kh pos
  let ov ←d9 o ae
  let new ←ju [ov] do
   kh C4.atName
   let old ←m8 ov a ab
   let v ←ju [old] (d9 e ae)
   kh pos
   operate [old,v] (sC op old v)
  kh C4.atName
  ju [new,ov] (Dq ov a new)
  release [new,ov] []
  pure .next):=rfl
 rw[Zu];refine wb (jJ (wb (w.run own ae A P m s _ _ R (λu ag u' aZ bW bU hq hP hm hu a6=>?_) qx)));refine wb (dM (wb (jJ (wb (hq.run own ae A bW bU aZ _ _ [u'] a6 (aO.one hu) (λv aC v' bz cD cu gS cQ cM hv bk=>?_) qx)))));refine wb (dM (gS.run own ae A cD cu bz _ _ bk (λy cL y' ey ly np sj fZ ir hy cW=>?_) qx));refine wb (jJ (Qq (sj.run own ae A ly np ey _ _ [v',y'] cW ⟨_,_,rfl,hv.mono fZ.t ir,_,_,rfl,hy,rfl⟩ (λr j4 r' nj EQ Hs Tg Nr N8 hr f8=>?_) qx)));have:=Tg.run own ae A EQ Hs nj (λ_ s'=>aw (aR G.prog G.w) A (do release [r',u'] [];pure Flow.next) Q' E' s') E' [u',r'] f8 ⟨_,_,rfl,(hu.mono ((cQ.trans fZ).trans Nr).t ((cM.trans ir).trans N8)),_,_,rfl,hr,rfl⟩ (λz wD z' yo ya v9 B8 uq lW hz k8=>?_) qx
 ·refine wb (jJ (wb (dM ?_)))
  exact Hg this
 ·exact wb (PX (aD (c _ _ _ _ _ _ _ B8 ((((hP.trans cQ).trans fZ).trans Nr).trans uq) ((((hm.trans cM).trans ir).trans N8).trans lW) rfl k8)))
section
open SetTable
theorem ZL{v:SV}(h:z_ v=ab)(n:Nat):SV.key n v=ab:=by cases v<;>simp_all [z_,SV.key]
theorem sS{v:SV}(h:fc v=ab)(n:Nat):SV.key (n+1) v=ab:=by
 cases v<;>simp[fc] at h
 show SV.keys n _=ab;exact DR.mpr λx hx=>ZL (h x hx) n
theorem cq.at{w:cE}:∀{vs:List SV} {es:List (Int×Value)} {i:Nat} {v:SV},cq w P m vs es→vs[i]? =aa v→∃e,es[i]? =aa e∧e.1=bZ w v∧VR P m v e.2
 |[],_,i,v,_,e=>a7 (List.getElem?_nil.symm.trans e)
 |v::vs,_,0,x,h,e=>by refine gK h λy r ax h1 h2 _=>?_;clear h;subst ax;obtain rfl:=aY e;exact(cK y rfl h1 h2)
 |v::vs,_,i+1,x,h,e=>by refine gK h λy r ax _ _ h3=>?_;clear h;subst ax;exact cq.at (i:=i) h3 e
theorem cq.length{w:cE}:∀{vs:List SV} {es:List (Int×Value)},cq w P m vs es→vs.length=es.length
 |[],_,h=>by obtain rfl:=h;rfl
 |v::vs,_,h=>by refine gK h λy r ax _ _ h3=>?_;clear h;subst ax;exact ay HF (cq.length h3)
theorem cq.at'{w:cE}{vs:List SV}{es:List (Int×Value)}{i:Nat}{e:Int×Value}(H:cq w P m vs es)(he:es[i]? =aa e):∃v,vs[i]? =aa v∧e.1=bZ w v∧VR P m v e.2:=by
 have hl:=(cV.mp he).1;rw[←H.length] at hl;refine bG (H.at (fb hl)) λe' q1 q2 q3=>?_;rw[he] at q1;obtain rfl:=aY q1;exact(cK _ (fb hl) q2 q3)
theorem cq.app{w:cE}:∀{vs a5:List SV} {es es':List (Int×Value)},cq w P m vs es→cq w P m a5 es'→cq w P m (vs++a5) (es++es')
 |[],_,_,_,h,h'=>by obtain rfl:=h;exact h'
 |v::vs,_,_,_,h,h'=>by refine gK h λy r ax h1 h2 h3=>?_;clear h;subst ax;exact⟨y,_,rfl,h1,h2,cq.app h3 h'⟩
theorem cq.take{w:cE}:∀{vs:List SV} {es:List (Int×Value)} (k:Nat),cq w P m vs es→cq w P m (vs.take k) (es.take k)
 |vs,es,0,h=>rfl
 |[],_,k+1,h=>by obtain rfl:=h;exact rfl
 |v::vs,_,k+1,h=>by refine gK h λy r ax h1 h2 h3=>?_;clear h;subst ax;exact⟨y,_,rfl,h1,h2,cq.take k h3⟩
theorem cq.drop{w:cE}:∀{vs:List SV} {es:List (Int×Value)} (k:Nat),cq w P m vs es→cq w P m (vs.drop k) (es.drop k)
 |vs,es,0,h=>h
 |[],_,k+1,h=>by obtain rfl:=h;exact rfl
 |v::vs,_,k+1,h=>by refine gK h λy r ax h1 h2 h3=>?_;clear h;subst ax;exact cq.drop k h3
theorem cq.ins{w:cE}{vs:List SV}{es:List (Int×Value)}{v:SV}{x:Value}{k:Nat}(H:cq w P m vs es)(hv:VR P m v x):cq w P m (kT vs k v) (kT es k (bZ w v,x)):=
 cq.app (H.take k) ⟨_,_,rfl,rfl,hv,H.drop k⟩
theorem cq.mapIdx{w:cE}{vs:List SV}{es:List (Int×Value)}(H:cq w P m vs es):∀(l:List Nat),(∀i∈l,i<vs.length)→cq w P m (l.filterMap (vs[·]?)) (l.filterMap (es[·]?))
 |[],_=>rfl
 |i::l,hl=>by
  refine bG (H.at (fb (hl i dA))) λe q1 q2 q3=>?_;rw[qP,qP,q1,fb (hl i dA)];exact⟨e,_,rfl,q2,q3,cq.mapIdx H l λj hj=>hl j (eT _ hj)⟩
theorem Zb{α:Type}(l:List α)(p:Nat)(x:α):(kT l p x).Perm (x::l):=by
 unfold kT;have:=List.perm_middle (l₁:=l.take p) (a:=x) (l₂:=l.drop p)
 rwa [PO] at this
theorem Rel.setAt(R:Rel G F b own ae A P m fr h s){n:Nm}{vs:List SV}(hn:h n=aa (.set vs)):
  ∃ad es k t,m n=aa ad∧ad.2=ad.1∧s.heap.get? ad.1=aa (gB es k t)∧f9 t (es.toList.map (·.1))∧cq G.w P m vs es.toList∧vs.Nodup∧(∀v∈vs,fc v=ab)∧t.led=!(G.w.params.followText "set-order"):=by
 obtain⟨ad,q1,q2,es,k,t,q3⟩:=R.obj n _ hn;exact⟨ad,es,k,t,q1,q2,q3⟩
theorem oM.fits{t:c9}{hs:List Int}(T:oM t hs)(h:hs.length≤t.mask):t.fits hs.length=ab:=by
 unfold SetTable.fits ahx;have:=T.len;rw[fQ] at this;simp[T.Am,this,h]
theorem f9.fits{t:c9}{es:Array (Int×Value)}(T:f9 t (es.toList.map (·.1))):t.fits es.size=ab:=by
 have:=T.1.fits (cj (ahy (bd (pB _ (aJ (n:=3) (m:=5))) T.2)))
 rwa [aI,fQ] at this
theorem D2{α β:Type}{M:i2}{E:Value→ak→Prop}{f:α→β→Sem (ForInStep β)}{p:α→Prop}{I:β→Prop}{Q:β→ak→Prop}{l:List α}{z:β}(hl:∀x∈l,p x)(hz:I z)(fin:∀z,I z→Q z s)
  (turn:∀x z,p x→I z→∀Q':ForInStep β→ak→Prop,(∀z,I z→Q' (.yield z) s)→(∀z,Q z s→Q' (.done z) s)→aw M A' (f x z) Q' E s):aw M A' (forIn l z f) Q E s:=by
 induction l generalizing z with
 |nil=>exact aD (fin _ hz)
 |cons x l ih=>rw[py];exact wb (turn x z (hl x (.head _)) hz _ (λz hz=>ih (λy hy=>hl y (.tail _ hy)) hz) λz hz=>aD hz)
theorem JG{v:SV}{y:Value}{C:Value→Prop}(ci:∀i t,C (.int i t))(cs:∀x t,C (.str x t))(ha:z_ v=ab)(hv:VR P m v y):C y:=by
 cases v with
 |int i=>exact xE hv λt e=>e▸ci i t
 |str x=>exact xE hv λt e=>e▸cs x t
 |_=>exact bc ha iD
theorem aO.all{p:SV→Prop}:∀{vs:List SV} {xs:List Value},aO P m vs xs→(∀v∈vs,p v)→∀y∈xs,∃v,p v∧VR P m v y
 |[],_,h,_=>by obtain rfl:=h;exact λy hy=>bc hy DE
 |v::vs,_,h,hp=>by
  refine bP h λx xs e h1 h2=>?_;subst e;exact λy hy=>(dE.mp hy).elim (λe=>(aU v (hp v (.head _)) (e▸h1))) (aO.all h2 (λu hu=>hp u (.tail _ hu)) y)
theorem Gh(R:Rel G F b own ae A P m fr h s){x:SV}{x':Value}(hf:fc x=ab)(hx:VR P m x x'){C:Value→Prop}
  (k:∀a o items q,s.heap.get? a=aa o→o.data=.seq items q→s.TypeIs (.ref a) "tuple"→(∀y∈items.toList,∃v,z_ v=ab∧VR P m v y)→C (.ref a)):C x':=by
 cases x with
 |tup vs=>
  obtain⟨a,items,rfl,⟨o,ho,hc,q,hd⟩,h5⟩:=R.nM hx;exact k a o items q ho hd ⟨o,ho,hc⟩ (h5.all λv hv=>dc.mp hf v hv)
 |_=>exact bc hf iD
theorem JM{M:i2}{E:Value→ak→Prop}{x:SV}{x':Value}{k:Nat}(R:Rel G F b own ae A P m fr h s)(hf:fc x=ab)(hx:VR P m x x'){Q:Bool→ak→Prop}(hq:Q an s):
  aw M A' (DK (k+1) x') Q E s:=by
 refine Gh (C:=λy=>aw M A' (DK (k+1) y) Q E s) R hf hx λa o items q ho hd hT hi=>?_;unfold DK;refine wb (uF hT ?_);refine pz rfl (wb (aD ?_));refine dU rfl ?_;refine wb (wY ho hd ?_);refine wb ?_;rw[←H6];refine D2 hi (I:=λr=>r.1=af) rfl (λz hz=>?_) λy z ⟨v,hv,hy⟩ hz Q' k1 _=>?_
 ·obtain⟨r1,r2⟩:=z
  obtain rfl:r1=af:=hz;exact aD hq
 ·have:DK k y=pure an:=JG (C:=λy=>DK k y=pure an) (λi t=>by cases k<;>rfl) (λi t=>by cases k<;>rfl) hv hy
  rw[this];exact wb (aD (dU rfl (aD (k1 _ rfl))))
theorem V9{E:Value→ak→Prop}(R:Rel G F b own ae A P m fr h s){x:SV}{x':Value}(hf:fc x=ab)(hx:VR P m x x'){Q:Bool→ak→Prop}(hq:Q an s)
  (l:List Value) (hl:∀y∈l,∃v,fc v=ab∧VR P m v y):aw (aR G.prog G.w) A' (ahz x' l) Q E s:=by
 refine wb (D2 hl (I:=λr=>r.1=af) rfl (λz hz=>?_) λy z ⟨v,hv,hy⟩ hz Q' k1 _=>?_)
 ·obtain⟨r1,r2⟩:=z
  obtain rfl:r1=af:=hz;exact aD hq
 ·refine jM (λ_=>aD (k1 _ rfl)) λ_=>?_
  exact wb (IF E R 8 hx (sS hf 7) (dU rfl (wb (IF E R 8 hy (sS hv 7) (dU rfl (wb (JM R hf hx (dU rfl (wb (JM R hv hy (dU rfl (aD (k1 _ rfl)))))))))))))
theorem Ru{l:List Nat}(hr:nA l){i j p:Nat}(hi:l[i]? =aa p)(hj:l[j]? =aa p):i=j:=by
 obtain⟨a,ea⟩:=cV.mp hi;obtain⟨c,ec⟩:=cV.mp hj;have:=PM.mp hr;rcases HD i j with q|q|q
 ·exact bc (this i j a c q) (by rw[ea,ec];exact fo _)
 ·exact q
 ·exact bc (this j i c a q) (by rw[ea,ec];exact fo _)
structure nH(w:cE)(P:aV)(m:Mu)(s:ak)(ad:au)(vs:List SV)(es:Array (Int×Value))(ep:Nat)(t:c9)(x:SV)(x':Value):Prop where
 ho:s.heap.get? ad=aa (gB es ep t)
 T:f9 t (es.toList.map (·.1))
 H:cq w P m vs es.toList
 fl:∀v∈vs,fc v=ab
 f:fc x=ab
 x:VR P m x x'
noncomputable def sU(es:Array (Int×Value))(i:Nat):Int:=(es[i]?.map (·.1)).getD 0
def LX(t:c9)(es:Array (Int×Value))(hx:Int)(p:Probe)(r:Met):Prop:=∀f:Nat→Int,f=sU es→t.probe f hx p=aa r
def Bh(t:c9)(vs:List SV)(x:SV)(hx:Int)(k:Nat):Prop:=∀n,n<k→∃(i:Nat) (v:SV),t.place.toList[i]? =aa (bm t.mask hx n).j∧vs[i]? =aa v∧v≠x
variable{E:Value→ak→Prop}{Q:SetFound→ak→Prop}{ad:au}{es:Array (Int×Value)}{ep:Nat}{t:c9}{x':Value}{hx:Int}{l9:Bool}{fuel i j:Nat}{rK:Option Probe}{next:Probe}{c:Int}{a:au}
theorem RR(ho:s.heap.get? ad=aa (gB es ep t))(AB:t.fits es.size=ab)(gw:decide (t.gaveWay=ab)=an)(hp:LX t es hx (rK.getD (t.probeStart hx)) (.empty j af))(hq:Q (.free j an) s):
  aw (aR G.prog G.w) A' (Il ad x' hx l9 (fuel+1) rK) Q E s:=by
 refine wb (kw ho rfl AB (dU gw ?_));rw[hp]
 ·exact aD hq
 ·rfl
theorem Yo(t:c9):t.sameMemory t.moves t.mask=aa ab:=aP (qF _)
theorem U4(a:au):isSame (.ref a) (.ref a)=pure ab:=by unfold isSame;simp
theorem wp_led{α:Type}{M:i2}{Q:α→ak→Prop}{c:Prop}[Decidable c]{x y:Sem α}(f:aw M A' y Q E s→aw M A' x Q E s)(h:aw M A' y Q E s):aw M A' (if c then x else y) Q E s:=
 jM (λ_=>f h) λ_=>h
theorem Xl{same:Bool}(ho:s.heap.get? ad=aa (gB es ep t))(AB:t.fits es.size=ab)(gw:decide (t.gaveWay=ab)=an)(hp:LX t es hx (rK.getD (t.probeStart hx)) (.candidate j i next))(hs:t.slot j=.live i)(he:es[i]? =aa (c,.ref a))
  (quiet:∀{Q':Bool→ak→Prop},Q' an s→aw (aR G.prog G.w) A' (ahz x' ((es.filter (·.1==hx)).toList.map (·.2))) Q' E s) (ZZ:∀{Q':Bool→ak→Prop},Q' same s→aw (aR G.prog G.w) A' (eqBool (.ref a) x') Q' E s)
  (fj:same=ab→Q (.there (if l9 then af else aa i)) s) (no:same=an→aw (aR G.prog G.w) A' (Il ad x' hx l9 fuel (aa next)) Q E s):
  aw (aR G.prog G.w) A' (Il ad x' hx l9 (fuel+1) rK) Q E s:=by
 refine wb (kw ho rfl AB (dU gw ?_));rw[hp]
 rotate_left
 ·rfl
 refine wp_led (λk=>wb (quiet (dU rfl k))) ?_;rw[he];refine wb (dM (ZZ (wb (kw ho rfl AB ?_))));refine jM (λe=>?_) λe=>?_
 ·obtain⟨rfl,rfl⟩:=(bO _ _).mp e
  exact aD (fj rfl)
 ·simp only[Yo,if_true,hs,he,U4]
  refine wb (wb (aD (aD ?_)))
  cases same with
  |true=>
   cases l9 with
   |true=>exact bc rfl e
   |false=>exact(aD (fj rfl):aw _ _ (pure (SetFound.there (aa i))) Q E s)
  |false=>exact no rfl
theorem MA{t:c9}{vs:List SV}{x v:SV}{hx:Int}{n i:Nat}(B:Bh t vs x hx n)(hp:t.place.toList[i]? =aa (bm t.mask hx n).j)(hv:vs[i]? =aa v)(ne:v≠x):Bh t vs x hx (n+1):=λn' hn=>
 (Nat.lt_succ_iff_lt_or_eq.mp hn).elim (B n') λe=>e▸(mC i v hp hv ne)
theorem Bh.taken{t:c9}{vs:List SV}{x:SV}{hx:Int}{n n':Nat}(B:Bh t vs x hx n)(hn:n'<n):(bm t.mask hx n').j∈t.place.toList:=by
 refine d_ (B n' hn) λi v e _=>?_;exact qH.mpr ⟨i,e⟩
variable{w:cE}{vs:List SV}{x:SV}{n:Nat}
theorem nH.val(S:nH w P m s ad vs es ep t x x')(hp:t.place.toList[i]? =aa n){C:Prop}(k:∀e v,es[i]? =aa e→sU es i=e.1→vs[i]? =aa v→e.1=bZ w v→VR P m v e.2→C):C:=by
 have hl:=(cV.mp hp).1;rw[S.T.1.len,aI] at hl;have he:=fb hl;refine bG (S.H.at' he) λv a c d=>?_;have rZ:=jt.symm.trans he;exact k _ v rZ (by unfold sU;rw[rZ];rfl) a c d
theorem nH.ζ(S:nH w P m s ad vs es ep t x x')(B:Bh t vs x (bZ w x) n)(nf:(bm t.mask (bZ w x) n).j∉t.place.toList):x∉vs:=λjd=>by
 refine xE (qH.mp jd) λi hi=>?_;refine bG (S.H.at hi) λe e1 e2 _=>?_;refine aj (S.T.1.path i e.1 (dv.trans (ay _ e1))) λn0 p1 p2=>?_;rw[e2] at p1 p2;rcases HD n0 n with q|q|q
 ·refine bP (B n0 q) λi' v r1 r2 r3=>?_
  rw[Ru S.T.1.rise r1 p1,hi] at r2;exact r3 (aY r2).symm
 ·exact nf (qH.mpr ⟨i,q▸p1⟩)
 ·exact nf (p2 n q)
theorem Gx{u:SV}{u':Value}(hu:fc u=ab)(hv:VR P m u u'):∃a,u'=.ref a:=by
 cases u with
 |tup vs=>exact jW hv λa o hv=>jW hv λitems q hv=>⟨a,hv.1⟩
 |_=>exact bc hu iD
theorem nH.turns(S:nH w P m s ad vs es ep t x x'):10*turns t.mask≤100000∧decide (t.gaveWay=ab)=an:=by
 unfold SetTable.gaveWay;rcases S.T.1.mask with e|e<;>rw[e]<;>exact⟨by exact aJ,rfl⟩
theorem K8{E:Value→ak→Prop}(R:Rel G F b own ae A P m fr h s)(S:nH G.w P m s ad vs es ep t x x')(l9:Bool)(hu:A'.units+1<ez){Q:SetFound→ak→Prop}
  (h1:∀i:Nat,vs[i]? =aa x→Q (.there (if l9 then af else aa i)) s)
  (h2:x∉vs→∀n,(bm t.mask (bZ G.w x) n).j∉t.place.toList→(∀n',n'<n→(bm t.mask (bZ G.w x) n').j∈t.place.toList)→Q (.free (bm t.mask (bZ G.w x) n).j an) s)
  {N:Nat} (hN:(bm t.mask (bZ G.w x) N).j∉t.place.toList) (lN:N<10*turns t.mask):
  ∀(fuel k:Nat) (rK:Option Probe),rK.getD (t.probeStart (bZ G.w x))=bm t.mask (bZ G.w x) k→k≤N→N<k+fuel→Bh t vs x (bZ G.w x) k→aw (aR G.prog G.w) A' (Il ad x' (bZ G.w x) l9 fuel rK) Q E s
 |0,k,_,_,a,c,_=>bc c (js.mpr a)
 |fuel+1,k,rK,kX,n1,n2,hb=>by
  refine aaf S.T.1 (sU es) (bZ G.w x) (I:=λn=>k≤n∧Bh t vs x (bZ G.w x) n) (λn i B hp ne=>⟨c8 B.1,S.val hp λe v _ a hv c _=>MA B.2 hp hv λq=>ne (a.trans (c.trans (q▸rfl)))⟩) hN _ k n1 (bI lN (lu _ _)) ⟨ar _,hb⟩ (λn B e nf=>?_) λn i B pe hp hh=>?_
  ·exact RR S.ho S.T.fits S.turns.2 (λf hf=>by rw[hf,kX];exact e) (h2 (S.ζ B.2 nf) n nf λn'=>B.2.taken)
  ·refine S.val hp λe v he ha hv hc hr=>?_
   have fv:=S.fl v (bN hv);refine xE (Gx fv hr) λa ea=>?_;refine Xl S.ho S.T.fits S.turns.2 (λf hf=>by rw[hf,kX];exact pe) (O0 S.T.1.rise (jt.symm.trans hp)) (he.trans (ay aa (jw rfl ea)):es[i]? =aa (e.1,.ref a)) (λhq=>V9 R S.f S.x hq _ λy hy=>?_)
    (λhq=>Rel.vZ R 1 (ea▸hr) S.x (sM (sS fv 0)) (sM (sS S.f 0)) hu _ _ _ _ hq) (λq=>h1 i (fC q▸hv)) λq=>?_
   ·refine aj (bB.mp hy) λe he ax=>?_;subst ax
    rw[Array.toList_filter,m9] at he;refine xE (qH.mp he.1) λi' qh=>?_;refine bG (S.H.at' qh) λu u1 u2 u3=>?_;exact(aU u (S.fl u (bN u1)) u3)
   ·have B':=MA B.2 hp hv (sk q)
    exact K8 R S l9 hu h1 h2 hN lN fuel (n+1) _ rfl (js.mp λq=>hN (B'.taken q):n+1≤N) (bI n2 (ah (bF (wN k fuel).symm) (oj (eG B.1) fuel))) B'
theorem MD{E:Value→ak→Prop}(R:Rel G F b own ae A P m fr h s)(S:nH G.w P m s ad vs es ep t x x')(l9:Bool)(hu:A'.units+1<ez){Q:SetFound→ak→Prop}
  (h1:∀i:Nat,vs[i]? =aa x→Q (.there (if l9 then af else aa i)) s)
  (h2:x∉vs→∀n,(bm t.mask (bZ G.w x) n).j∉t.place.toList→(∀n',n'<n→(bm t.mask (bZ G.w x) n').j∈t.place.toList)→Q (.free (bm t.mask (bZ G.w x) n).j an) s):
  aw (aR G.prog G.w) A' (setSearch ad x' (bZ G.w x) l9) Q E s:=by
 refine aj (S.T.Yl (bZ G.w x)) λN lN hN=>?_;exact K8 R S l9 hu h1 h2 hN lN 100000 0 af rfl (b_ _) (bI lN (ah S.turns.1 (lu _ _))) λ_ q=>bc q (m5 _)
end
section
open SetTable
theorem SH.i9{n:Nm}{o:cw}(hn:h n=aa o):h.set n o=h:=by
 funext x
 unfold SH.set
 by_cases e:x=n
 ·subst e;rw[aP rfl,hn]
 ·rw[aK e]
theorem iF{n:Nm}{o o':cw}:(h.set n o).set n o'=h.set n o':=by
 funext x
 unfold SH.set
 by_cases e:x=n
 ·rw[aP e,aP e]
 ·rw[aK e,aK e,aK e]
theorem aS{n:Nm}{o:cw}:(h.set n o) n=aa o:=aP rfl
theorem aq{n x:Nm}{o:cw}(e:x≠n):(h.set n o) x=h x:=aK e
theorem XH{E:Value→ak→Prop}(R:Rel G F b own ae A P m fr h s){x:SV}{x':Value}(hf:fc x=ab)(hx:VR P m x x'){Q:Bool→ak→Prop}(hq:∀r,Q r s)(k:Nat):
  aw (aR G.prog G.w) A' (zY (k+1) x') Q E s:=by
 refine Gh (C:=λy=>aw (aR G.prog G.w) A' (zY (k+1) y) Q E s) R hf hx λa o items q ho hd hT hi=>?_;unfold zY;refine wb (qN hT PySem.F.slot_tuple_hash.lookup (wb (wY ho hd (wb ?_))));rw[ahw,←H6];refine D2 hi (I:=λ_=>True) trivial (λz _=>?_) λy z ⟨v,hv,hy⟩ _ Q' k1 k2=>?_
 ·obtain⟨r1,r2⟩:=z
  cases r1<;>exact aD (hq _)
 ·have:∃r,zY k y=pure r:=JG (C:=λy=>∃r,zY k y=pure r) (λi t=>by cases k<;>exact⟨_,rfl⟩) (λi t=>by cases k<;>exact⟨_,rfl⟩) hv hy
  refine xE this λr hr=>?_;rw[hr];exact wb (aD (jM (λ_=>aD (k2 _ (aD (hq _)))) λ_=>aD (k1 _ trivial)))
theorem Rel.Ω(R:Rel G F b own ae A P m fr h s){n:Nm}{vs gz:List SV}{ad:au×au}{gI:Array (Int×Value)}{k:Nat}{gy:c9}(hn:h n=aa (.set vs))(hm:m n=aa ad){hp:cO}
  (hs:sB ad.1 s.heap hp) (ho:hp.get? ad.1=aa (gB gI k gy)) (T:f9 gy (gI.toList.map (·.1))) (H:cq G.w P m gz gI.toList) (q_:gz.Nodup) (iu:∀v∈gz,fc v=ab) (fT:gy.led=!(G.w.params.followText "set-order")):
  Rel G F b own ae A P m fr (h.set n (.set gz)) {s with heap:=hp}:=by
 refine bG (R.obj n _ hn) λbT q1 q2 _=>?_;obtain rfl:bT=ad:=aY (q1.symm.trans hm);exact R.turn (s':={s with heap:=hp}) hn hm (λa o n1 n2 e=>(hs.2 a n1).trans e) rfl rfl ⟨q2,gI,k,gy,ho,T,H,q_,iu,fT⟩
theorem getD_map{α β:Type}(f:α→β)(l:List α)(i:Nat)(d:α):(l.map f).getD i (f d)=f (l.getD i d):=by
 rw[pn,pn,dv];exact(Option.getD_map f d _)
theorem GO{α:Type}(dd:α){l:List α}:∀{o:List Nat},(∀i∈o,i<l.length)→o.filterMap (l[·]?)=o.map (l.getD · dd)
 |[],_=>rfl
 |i::o,h=>by
  have hi:=h i (.head _);exact(List.filterMap_cons_some (fb hi)).trans (congr (ay DI (pn.trans (ay (PT · dd) (fb hi))).symm) (GO dd λj hj=>h j (.tail _ hj)))
structure Mr(w:cE)(P:aV)(m:Mu)(vs:List SV)(x:SV)(n:Nat)(t:c9)(gz:List SV)(gI:Array (Int×Value))(gy:c9):Prop where
 W:oM gy (gI.toList.map (·.1))
 H:cq w P m gz gI.toList
 pm:gz.Perm (x::vs)
 mask:gy.mask=t.mask
 led:gy.led=t.led
 size:gI.size=n+1
theorem θ{α β:Type}(f:α→β)(l:List α)(p:Nat)(a:α):(kT l p a).map f=kT (l.map f) p (f a):=by
 unfold kT;rw[dN,sI,Im,zZ]
theorem M2{w:cE}{ad:au}{vs:List SV}{es:Array (Int×Value)}{ep:Nat}{t:c9}{x:SV}{x':Value}{n:Nat}(S:nH w P m s ad vs es ep t x x')
  (Co:(bm t.mask (bZ w x) n).j∉t.place.toList) (As:∀n',n'<n→(bm t.mask (bZ w x) n').j∈t.place.toList) (pl:Bool):
  ∃gz,Mr w P m vs x es.size t gz (Io es (t.put (bm t.mask (bZ w x) n).j).2 (bZ w x,x')) {(t.put (bm t.mask (bZ w x) n).j).1 with plain:=pl}:=by
 refine mz (VT S.T.1 Co As pl) λp1 p2 p3 W=>?_;have yG:(Io es _ _).toList=kT es.toList _ _:=af6 es (below t.place (bm t.mask (bZ w x) n).j) (bZ w x,x');rw[p2];refine⟨_,?_,yG▸S.H.ins S.x,Zb _ _ _,p3,rfl,?_⟩
 ·rw[yG]
  exact θ (·.1) es.toList _ (bZ w x,x')▸W
 ·rw[←fQ,yG]
  exact Hv _ _ _
theorem Ι{E:Value→ak→Prop}{ad:au}{vs:List SV}{es:Array (Int×Value)}{ep:Nat}{t:c9}(ho:s.heap.get? ad=aa (gB es ep t))(W:oM t (es.toList.map (·.1)))(H:cq G.w P m vs es.toList)(h5:es.size=5)(h7:t.mask=7){Q:Unit→ak→Prop}
  (k:∀uk qA xi,f9 qA (uk.toList.map (·.1))→cq G.w P m xi uk.toList→xi.Perm vs→qA.led=t.led→Q () {s with heap:=s.heap.update ad (uJ uk qA)}):aw (aR G.prog G.w) A' (setRelay ad 20) Q E s:=by
 have hl:(es.map (·.1)).size≤31:=by rw[Ip,h5];exact aJ
 have hf:t.fits es.size=ab:=by
  have:=W.fits (by rw[aI _,fQ,h5,h7];exact aJ)
  rwa [aI,fQ] at this
 refine tg (ZI (mask:=31) (.inr rfl) t.finger (t.movedTo 31) t.led t.plain (es.map (·.1)) hl) λqA iG g1 g2 R1 g3 g4=>?_;have hlt:∀i∈iG.toList,i<es.toList.length:=λi hi=>by
  have:=g3.mem_iff.mp hi;rw[Ip] at this;exact dR.mp this
 have fe:=GO (0,eH) hlt;have Fa:(iG.filterMap (es[·]?)).toList=iG.toList.map (es.toList.getD · (0,eH)):=by
  rw[←fe,Array.toList_filterMap];exact ay (uK · _) (funext λi=>jt.symm)
 have Cd:(iG.filterMap (es[·]?)).size=es.size:=by
  rw[←fQ,Fa,aI _,g3.length_eq,dS,Ip]
 have FV:cq G.w P m (iG.toList.filterMap (vs[·]?)) (iG.filterMap (es[·]?)).toList:=by
  rw[Fa,←fe];exact H.mapIdx iG.toList λi hi=>H.length▸hlt i hi
 have Ye:(iG.filterMap (es[·]?)).toList.map (·.1)=iG.toList.map λi=>(es.map (·.1)).toList.getD i 0:=by
  rw[Fa,pi,ah0];exact ay (Iq · _) (funext λi=>(getD_map (·.1) es.toList i (0,eH)).symm)
 have pm:=g3.filterMap (vs[·]?);rw[Ip,←fQ,←H.length,ah1] at pm;have K:=k (iG.filterMap (es[·]?)) qA (iG.toList.filterMap (vs[·]?)) ⟨by rw[Ye];exact g4,by rw[aI _,fQ,Cd,g2,h5];exact bg⟩ FV pm R1;have Υ:t.relaid (es.map (·.1)) 20=aa (qA,iG):=g1;refine wb (kw ho rfl hf (dU aW (wb ?_)));rw[Υ];refine(?_:aw _ _ (if((iG.filterMap (es[·]?)).size !=es.size)=ab then _ else _) _ _ _);generalize iG.filterMap (es[·]?)=uk at Cd K;refine dU (by rw[Cd,mX _];rfl) (aD (ah2 ho rfl K ?_));rw[Cd,h5];exact aJ
theorem VH{E:Value→ak→Prop}(R:Rel G F b own ae A P m fr h s){x:SV}{x':Value}(hf:fc x=ab)(hx:VR P m x x'){c:Bool}{α:Type}{K:Bool→Sem α}{Q:α→ak→Prop}(hq:∀r,aw (aR G.prog G.w) A' (K r) Q E s):
  aw (aR G.prog G.w) A' (if c then zY 8 x' >>=K else pure ab >>=K) Q E s:=jM (λ_=>wb (XH R hf hx hq 7)) λ_=>wb (aD (hq _))
theorem X2{t:c9}{hs:List Int}(T:oM t hs):t.tooFull=decide (hs.length*5≥t.mask*3):=by
 unfold tooFull ahx;rw[T.Am,←fQ,T.len];rfl
theorem adf{a:Nat}(h1:a*5<7*3)(h2:(a+1)*5≥7*3):a=4:=qQ (eS (ahy (a:=5) (i4 h1 bg))) (js.mp λq=>bc (ah h2 (qR 5 (sH q))) aW)
theorem aex{E:Value→ak→Prop}(R:Rel G F b own ae A P m fr h s){n:Nm}{vs:List SV}{ad:au×au}(hn:h n=aa (.set vs))(hm:m n=aa ad){x:SV}{x':Value}(hf:fc x=ab)(hx:VR P m x x')
  (hz:vs.length<18) (hu:A'.units+1<ez) {Q:Bool→ak→Prop}
  (c:∀hp a5 r,(a5.Nodup∧∀y,y∈a5↔y=x∨y∈vs)→Rel G F b own ae A P m fr (h.set n (.set a5)) {s with heap:=hp}→(∀a o,a≠ad.1→s.heap.get? a=aa o→hp.get? a=aa o)→Q r {s with heap:=hp}):
  aw (aR G.prog G.w) A' (setAddHashed ad.1 x' (bZ G.w x)) Q E s:=by
 obtain⟨bT,es,ep,t,wF,h2,ho,T,H,q_,iu,fT⟩:=R.setAt hn;obtain rfl:bT=ad:=aY (wF.symm.trans hm);have S:nH G.w P m s bT.1 vs es ep t x x':=⟨ho,T,H,iu,hf,hx⟩;have wg:decide (byScan x' es=ab)=an:=by refine xE (Gx hf hx) λa br=>?_;subst br;rfl
 have LL:es.size<18:=by rw[←fQ,←H.length];exact hz
 have fin:∀{gz gI gy LR hp} (r:Bool),f9 gy (gI.toList.map (·.1))→cq G.w P m gz gI.toList→gz.Perm (x::vs)→x∉vs→gy.led=t.led→sB bT.1 s.heap hp→hp.get? bT.1=aa (gB gI LR gy)→Q r {s with heap:=hp}:=
  λ{gz gI gy LR hp} r Vf Un pm va ld sb xM=>by
   have nd:=pm.nodup_iff.mpr (lh.mpr ⟨va,q_⟩);have mem:∀y,y∈gz↔y=x∨y∈vs:=λy=>pm.mem_iff.trans dE;exact c hp gz r ⟨nd,mem⟩ (R.Ω hn hm sb xM Vf Un nd (λv hv=>((mem v).mp hv).elim (λe=>e▸hf) (iu v)) (ld.trans fT)) λa o ha e=>(sb.2 a ha).trans e
 refine dM (wb (m:=setState bT.1) (kw ho rfl T.fits (dU wg (wb (MD R S ab hu (λi hi=>?_) λva k Co As=>?_)))))
 ·refine aD (c s.heap vs an ⟨q_,λy=>⟨.inr,λq=>q.elim (λe=>e▸bN hi) id⟩⟩ ?_ λa o _ e=>e)
  rw[SH.i9 hn];exact R
 ·have I:∀r:Bool,∃gz,Mr G.w P m vs x es.size t gz (Io es (t.put (bm t.mask (bZ G.w x) k).j).2 (bZ G.w x,x')) (if r=ab then(t.put (bm t.mask (bZ G.w x) k).j).1 else{(t.put (bm t.mask (bZ G.w x) k).j).1 with plain:=an}):=λr=>by
   cases r with
   |true=>exact M2 S Co As _
   |false=>exact M2 S Co As _
  refine wb (kw ho rfl T.fits ?_);dsimp only;generalize t.put (bm t.mask (bZ G.w x) k).j=tp at I ⊢
  cases tp with
  |mk t1 p1=>
  refine VH R hf hx λr=>?_;have I:=I r;dsimp only at I ⊢;generalize Io es p1 (bZ G.w x,x')=gI at I ⊢;generalize (if r=ab then t1 else{t1 with plain:=an})=gy at I ⊢;refine xE I λgz I=>?_;have s1:=pt s.heap bT.1 (uJ gI gy);have xM:(s.heap.update bT.1 (uJ gI gy)).get? bT.1=aa (gB gI (ep+1) gy):=lf (uJ gI gy) ho rfl;have FE:=X2 I.W;have room:=T.2;rw[aI,fQ] at room FE;refine wb (ah2 ho rfl ?_ (I.size▸ah LL aJ));refine jM (λq=>?_) λq=>?_
  ·have q:gI.size*5≥gy.mask*3:=fC (FE.symm.trans q)
   rw[I.mask,I.size] at q;have h7:t.mask=7:=T.1.mask.elim id λe=>by
    rw[e] at q;exact bc (ah q (qR 5 (eG (eS LL)))) aW
   rw[h7] at q room;have h4:=adf room q;rw[h4];refine wb (Ι (s:={s with heap:=s.heap.update bT.1 (uJ gI gy)}) xM I.W I.H (I.size.trans (h4▸rfl)) (I.mask.trans h7) λuk qA xi Xv FV pm ld=>aD ?_);have s2:=pt (s.heap.update bT.1 (uJ gI gy)) bT.1 (uJ uk qA);exact fin ab Xv FV (pm.trans I.pm) va (ld.trans I.led) ⟨s2.1.trans s1.1,λa ha=>(s2.2 a ha).trans (s1.2 a ha)⟩ (lf (uJ uk qA) xM rfl)
  ·refine aD (fin ab ⟨I.W,?_⟩ I.H I.pm va I.led s1 xM)
   rw[aI _,fQ];exact Nat.not_le.mp λz=>q (FE.trans (eQ z))
end
section
open SetTable
theorem Te{I a:au}{xs:Array Value}{l U:List SV}{n:Nm}{ad:au×au}{R':wW→ak→Prop}(hh:A'.in1.handled=af)(hu:A'.in1.units+2<ez)(dg:a≠I)(hm:m n=aa ad)(ha:a≠ad.1)(hI:I≠ad.1)
  (hX:aO P m l xs.toList) (iu:∀v∈l,fc v=ab) (hU:U.length<18) (tG:∀v∈l,v∈U)
  (hT:∀hp:cO,(∃i,hp.IsListIter I a i)→fF G own P m hp [I]):
  ∀(k i:Nat) (s:ak) (vs:List SV),i+k=xs.size→Rel G F b own ae A P m fr (h.set n (.set vs)) s→s.heap.IsListIter I a i→s.heap.IsList a xs→vs.Nodup→(∀y,y∈vs↔y∈l.take i)→
   (∀hp tk a5,Rel G F b own ae A P m fr (h.set n (.set a5)) {s with heap:=hp,toks:=tk}→a5.Nodup→(∀y,y∈a5↔y∈l)→R' (.ok (.ret .none)) {s with heap:=hp,toks:=tk})→
   ki (aR G.prog G.w) A' (.builtin "set.update.loop" ⟨[.ref ad.1,.ref I],[]⟩) R' s:=by
 have W:=QA (prog:=G.prog) (w:=G.w) (A:=A'.in1) hh I a dg xs;intro k
 induction k with
 |zero=>
  intro i s vs hk R h1 h2 q_ Bn hR;obtain rfl:i=xs.size:=hk;refine w6 ah3 ?_;rw[zT QC _];show aw _ A'.in1 (uD (.ref I) >>=_) _ _ s;refine wb (W.done s _ _ ⟨h1,h2⟩ λhp tk dW=>?_);show aw _ A'.in1 (Ie eH) _ _ _;refine aD (hR hp tk vs (R.oZ (s':={s with heap:=hp,toks:=tk}) (hT _ ⟨_,h1⟩) (λa o ha e=>dW a o ha e) rfl rfl) q_ λy=>?_);rw[propext (Bn y),na (bF (hX.size:l.length=xs.size))]
 |succ k ih=>
  intro i s vs hk R h1 h2 q_ Bn hR;have hlt:i<xs.size:=hk▸qS (dK k);refine w6 ah3 ?_;rw[zT QC _];show aw _ A'.in1 (uD (.ref I) >>=_) _ _ s;refine wb (W.item i s _ _ hlt ⟨h1,h2⟩ λv hp tk hP kX dW=>?_);refine aj (hX.at hlt) λx Kd OI=>?_;have hv:xs[i]? =aa v:=hP;rw[jr hlt] at hv;obtain rfl:=aY hv;have hf:=iu x (bN Kd);have a6:=R.oZ (s':={s with heap:=hp,toks:=tk}) (hT _ ⟨_,h1⟩) (λa o ha e=>dW a o ha e) rfl rfl;show aw _ A'.in1 (ju [xs[i]] (setAdd ad.1 xs[i]) >>=_) _ _ _;refine wb (dM ?_);unfold setAdd;refine dM ?_;refine wb (Rel.hash _ 1 (cj ‹_›) OI (λa o e=>a6.rP e) (sS hf 0) λt=>?_);refine aex (s:={s with heap:=hp,toks:=t}) (a6.tok t) aS hm hf OI (bd (fO q_ λy hy=>tG y (DL ((Bn y).mp hy))) hU:vs.length<18) (cj ‹_›) λbX a5 r d6 bk C3=>?_;rw[iF] at bk;refine aD ⟨Ir QC _,ih (i+1) _ a5 ((wN i k).trans hk) bk (kX.1.at λo e=>C3 _ o hI e) (kX.2.at λo e=>C3 _ o ha e) d6.1 (λy=>?_) λVj Tu xi=>hR Vj Tu xi⟩;rw[propext (d6.2 y),propext (Bn y),jN,Kd,propext dw];exact or_comm.trans (or_congr .rfl bS.symm)
theorem Ui{n:Nm}{ad:au×au}{I a:au}(R:Rel G F b own ae A P m fr h s)(hI:s.heap.objs.size≤I):∀hp:cO,(∃i,hp.IsListIter I a i)→fF G own P m hp [I]:=by
 rintro hp ⟨i,o,e1,e2,e3⟩;refine⟨λx hx=>?_⟩;obtain rfl:x=I:=by simpa using hx
 refine mz (R.free hI) λp1 p2 p3 p4=>?_;exact(tU p1 p3 p2 p4 o e1 (vz e2 aW aW) (λv e=>by rw[e3] at e;cases e))
theorem XF{Q₁:Value→ak→Prop}{E:Value→ak→Prop}{prog:fD}{w:cE}(args:List Value)(ha:args=[]∨∃x,args=[x])
  (k:Q₁ (.ref s.heap.objs.size) {s with heap:=s.heap.push {cls:=.type "set",dict:=af,data:=.set #[] 0 (.fresh 0 0 (!(w.params.followText "set-order")))}}):
  ki (aR prog w) A (.call (.builtin "set.__new__") ⟨.type "set"::args,[]⟩) (wants Q₁ E) s:=by
 refine Qi ?_;show aw _ A.in1 (do ah4 "set.__new__" ⟨.type "set"::args,[]⟩;again (.builtin "set.__new__" ⟨.type "set"::args,[]⟩)) _ _ s;have hc:ah4 "set.__new__" ⟨.type "set"::args,[]⟩=pure ():=by
  rcases ha with rfl|⟨x,rfl⟩
  ·exact PySem.F.newCall_set_0
  ·exact PySem.F.newCall_set_1 x
 refine wb (qL hc (aD ⟨Ir ah5 _,w6 PySem.F.entry_set_new ?_⟩));rw[zT ah5 _];unfold Builtin.«set.__new__» alw;have tw:=QD;obtain⟨hp,g,d,tk,os⟩:=s;rcases ha with rfl|⟨x,rfl⟩
 all_goals
  wp_walk
  refine zN (aD ?_);simp only[newObj];refine wb (Qg (aD ?_));exact aD k
noncomputable def yh(led:Bool):Obj:={cls:=.type "set",dict:=af,data:=.set #[] 0 (.fresh 0 0 led)}
theorem Nn{M:i2}{c:Code}{p:Value→ak→Prop}{E:Value→ak→Prop}{R:wW→ak→Prop}(w:ki M A c (wants p E) s)(k:∀v s',p v s'→R (.ok (.ret v)) s')(e:∀x s',E x s'→R (.error x) s'):ki M A c R s:=
 codeAny_mono w λr s' hr=>by
  cases r with
  |error x=>exact e x s' hr
  |ok f=>cases f with
   |ret v=>exact k v s' hr
   |_=>exact hr.elim
theorem JK{n:Nm}{args:List Value}(ha:args=[]∨∃x,args=[x])(hct:checkTypeCall "set" ⟨args,[]⟩=pure ())(R:Rel G F b own ae A P m fr h s)(hn:h n=af){Q':Value→ak→Prop}{E':Value→ak→Prop}
  (k:∀(aZ:ak) (led:Bool),Rel G F b own ae A P (m.set n (s.heap.objs.size,s.heap.objs.size)) fr (h.set n (.set [])) aZ→m.le (m.set n (s.heap.objs.size,s.heap.objs.size))→aZ.heap.get? s.heap.objs.size=aa (yh led)→(∀a o,s.heap.get? a=aa o→aZ.heap.get? a=aa o)→aZ.heap.objs.size=s.heap.objs.size+1→
   ki (aR G.prog G.w) A.in1 (.call (.builtin "set.__init__") ⟨[.ref s.heap.objs.size]++args,[]⟩) (wants (λr bz=>r=.none∧Q' (.ref s.heap.objs.size) bz) E') aZ):
  aw (aR G.prog G.w) A (pv (.type "set") args []) Q' E' s:=by
 obtain⟨c',tl,aj9⟩:=PySem.F.called_set.mro;have aj1:=PySem.F.called_set.made;have tw:=PySem.F.called_set.sub;have h1:=PySem.F.called_set.notType;have h2:=PySem.F.called_set.canCreate;have hli:=PySem.F.called_set.init.lookup;have hbi:=PySem.F.called_set.init.bind (.ref s.heap.objs.size);obtain⟨a6,le⟩:=R.alloc hn (so:=.set []) (ad:=(s.heap.objs.size,s.heap.objs.size)) (s':={s with heap:=s.heap.push (yh (!(G.w.params.followText "set-order")))})
  (λa o e=>dT _ e) rfl rfl (ar _) (ar _)
  ⟨rfl,#[],0,.fresh 0 0 (!(G.w.params.followText "set-order")),fP _ rfl,⟨⟨rfl,.nil,rfl,.inl rfl,λp hp=>bc hp DE,λi h hi=>nomatch hi⟩,(bg:0*5<7*3)⟩,rfl,.nil,λv hv=>bc hv DE,rfl⟩
 have hT:QE {s with heap:=s.heap.push (yh (!(G.w.params.followText "set-order")))} (.ref s.heap.objs.size) "set":=⟨_,fP _ rfl,rfl⟩;have K:=k _ _ a6 le (fP _ rfl) (λa o e=>dT _ e) (mc _ _);refine P7 (Qi ?_);refine(?_:aw _ _ (callAny (.type "set") _) _ _ _);refine aD ⟨Code.quiet_builtin _ (by decide +kernel),w6 PySem.F.entry_type_call ?_⟩;rw[Around.under_plain (weight_type_call_type "set" args []) rfl]
 repeat (any_goals (first|assumption|wp_step))
 clear a6 k;generalize Wy:s.heap.push (yh (!(G.w.params.followText "set-order")))=hp at hT K;refine Nn (XF (E:=E') (Q₁:=λobj aZ=>obj=.ref s.heap.objs.size∧aZ={s with heap:=hp}) args ha (Wy▸⟨rfl,rfl⟩)) (λv aZ hr=>?_) λ_ _ hr=>hr;obtain⟨rfl,rfl⟩:=hr
 repeat (any_goals (first|assumption|wp_step))
 refine Nn K (λv bz hr=>?_) λ_ _ hr=>hr;obtain⟨rfl,hq⟩:=hr
 repeat (any_goals (first|assumption|wp_step))
theorem YO{E':Value→ak→Prop}{Q₁:Value→ak→Prop}{l U:List SV}{n:Nm}{S a:au}{items:Array Value}(R:Rel G F b own ae A P m fr (h.set n (.set [])) s)(hF:F.q=ab)(hm:m n=aa (S,S)){led:Bool}(hs:s.heap.get? S=aa (yh led))(hl:s.heap.IsList a items)(hX:aO P m l items.toList)(ha:a<S)(hS:S<s.heap.objs.size)
  (iu:∀v∈l,fc v=ab) (hU:U.length<18) (tG:∀v∈l,v∈U)
  (k:∀hp tk a5,Rel G F b own ae A P m fr (h.set n (.set a5)) {s with heap:=hp,toks:=tk}→a5.Nodup→(∀y,y∈a5↔y∈l)→Q₁ .none {s with heap:=hp,toks:=tk}):
  ki (aR G.prog G.w) A.in1 (.call (.builtin "set.__init__") ⟨[.ref S]++[.ref a],[]⟩) (wants Q₁ E') s:=by
 have akp:=R.units;have Yx:A.in1.in1.in1.handled=af:=R.quiet hF;have Rm:A.in1.in1.in1.units+2<ez:=by simp;lia
 have g6:s.heap.get? S=aa {cls:=.type "set",dict:=af,data:=.set #[] 0 (.fresh 0 0 led)}:=hs;have hT:s.TypeIs (.ref S) "set":=⟨_,hs,rfl⟩;have hsz:(s.heap.push {cls:=.type "list_iterator",data:=.fields #[.ref a,.int 0 0]}).objs.size=s.heap.objs.size+1:=mc _ _;have bk:=R.grow (s':={s with heap:=s.heap.push {cls:=.type "list_iterator",data:=.fields #[.ref a,.int 0 0]}}) (λa o e=>dT _ e) rfl rfl;refine ah6 PySem.F.called_set.init.plain ah7 (check_set_init_1 hT ?_);refine xf (id hl) λol lE wI nl vR=>?_;obtain⟨aki,aju,akh,ajy⟩:=ol;simp only at wI vR;subst wI;subst vR;have akj:=PySem.F.sub_list_set;have ajp:=PySem.F.sub_list_frozenset;have dg:(zS "list"==zS "dict")=an:=aW;unfold Builtin.«set.__init__» noKeywords alx;generalize Yq:qM=PI
 wp_walk
 subst Yq;refine Qf hl ?_;refine wb (Qo ?_);exact Te (U:=U) (n:=n) (ad:=(S,S)) Yx Rm (du (i4 ha hS)) hm (du ha) (dG hS) hX iu hU tG (Ui (n:=n) (ad:=(0,0)) R (ar _)) items.size 0 _ [] (mZ _) bk ⟨_,fP _ rfl,rfl,rfl⟩ (hl.push _) .nil (λy=>.rfl) λhp tk a5 cW h3 h4=>aD (aD (k hp tk a5 cW h3 h4))
theorem X9{u:SV}{l U:List SV}{n:Nm}{Q:QV}{X:QX}(hF:F.q=ab)(hu:de G h u l)(iu:∀v∈l,fc v=ab)(hU:U.length<18)(tG:∀v∈l,v∈U)(hn:h n=af)
  (hq:∀vs:List SV,vs.Nodup→(∀y,y∈vs↔y∈l)→Q (.ref n) (h.set n (.set vs))):WC G F b fr h (.ty "set") [u] Q X:=by
 first|refine jO ?_|refine jP ?_
 intro own ae A P m s Q' E' a5 R hv c d;refine jx hv λu' kQ=>?_;refine bP (R.jp hu kQ) λa items ax hl hX=>?_;subst ax;refine JK (.inr ⟨_,rfl⟩) (PySem.F.typeCall_set_1 _) R hn λaZ led a6 le hs keep hsz=>?_;refine aj hl λol lE hd=>?_;exact YO a6 hF Mu.i9 hs ⟨ol,keep _ _ lE,hd⟩ (aO.mono aV.le.rfl.t le _ hX) (jI lE) (hsz▸dq _) iu hU tG λhp tk a5 cW h3 h4=>⟨rfl,c _ _ _ _ _ _ (hq a5 h3 h4) .rfl le ⟨_,Mu.i9,rfl⟩ cW⟩
end
section
open SetTable
theorem aag{M:i2}{src:Source}{n:Nat}{Q:Nat→ak→Prop}{E:Value→ak→Prop}(hn:n≠0)(k:∀i d,i<n→Q i {s with drawn:=d}):aw M A (choose src n) Q E s:=
 λ_ _ _=>⟨hn,k _ _ (Dg _ (oh hn))⟩
theorem J5{α:Type}{l:List α}:∀{i:Nat} (hi:i<l.length),(l[i]::l.eraseIdx i).Perm l:=by
 induction l with
 |nil=>exact λhi=>bc hi (m5 _)
 |cons x l ih=>exact λ{i} hi=>by cases i with
  |zero=>exact .refl _
  |succ i=>exact(List.Perm.swap x _ _).trans ((ih (Is hi)).cons x)
theorem Rel.un(R:Rel G F b own ae A P m fr h s){k:Nat}(hk:k≤8:=by decide):A.units+k<ez:=bd (ah (e6 hk _) (oj (b6 _ _) 8)) R.units
theorem Ly{α:Type}{l:List α}{i n:Nat}(hi:i<l.length)(h:l.length≤n+1):(l.eraseIdx i).length≤n:=ah (bF (List.length_eraseIdx_of_lt hi)) (QG h)
theorem MY{α:Type}{M:i2}{E:Value→ak→Prop}(n:Nat):∀(xs:List α) (s:ak) {Q:List α→ak→Prop},xs.length≤n→(∀ys d,ys.Perm xs→Q ys {s with drawn:=d})→aw M A (drawOrder n xs) Q E s:=by
 induction n with
 |zero=>exact λxs s Q h k=>aD (k [] s.drawn (ah8 (It.mp h)▸.nil))
 |succ n ih=>
  intro xs s Q h k
  cases xs with
  |nil=>exact aD (k [] s.drawn .nil)
  |cons x xs=>
   refine wb (aag (z0 _) λi d hi=>?_);rw[fb hi];exact wb (ih _ _ (Ly hi h) λys d' hp=>aD (k _ d' ((List.Perm.cons _ hp).trans (J5 hi))))
theorem OF{α:Type}(next:Nat→Nat)(fuel:Nat):∀(k:Nat) (left:List α) (out:Array α),left.length≤fuel→(ah9 next fuel k left out).toList.Perm (out.toList++left):=by
 induction fuel with
 |zero=>exact λk left out h=>ah8 (It.mp h)▸(gP _).symm▸.refl _
 |succ fuel ih=>
  intro k left out h;show(match left[next k % left.length]? with|some x=>ah9 next fuel (k+1) (left.eraseIdx (next k % left.length)) (out.push x)|none=>out).toList.Perm _
  cases e:left[next k % left.length]? with
  |none=>
   cases left with
   |nil=>exact(gP _).symm▸.refl _
   |cons x r=>exact bc (Dg _ (dK _)) (js.mpr (km.mp e))
  |some x=>
   refine(cV.mp e).elim λhi hx=>(ih (k+1) _ _ (Ly hi h)).trans ?_;rw[H3,wR _ _ _];exact List.Perm.append_left _ (hx▸J5 hi)
variable{w:cE}{prog:fD}
theorem A8{E:Value→ak→Prop}{Q:Bool→ak→Prop}(k:Q (w.params.followText "set-order") s):aw (aR prog w) A setsByText Q E s:=wb (zN (aD k))
theorem Yn{E:Value→ak→Prop}{ad:au×au}{es:Array (Int×Value)}{ep:Nat}{t:c9}(ho:s.heap.get? ad.1=aa (gB es ep t))(T:f9 t (es.toList.map (·.1)))(fT:t.led=!(G.w.params.followText "set-order"))
  {Q:Array (Int×Value)→ak→Prop} (k:∀(ys:Array (Int×Value)) d,ys.toList.Perm es.toList→Q ys {s with drawn:=d}):aw (aR G.prog G.w) A' (setWalk ad.1) Q E s:=by
 refine wb (kw ho rfl T.fits (wb (A8 ?_)));refine jM (λ_=>wb (zN (aD (k _ s.drawn (OF _ es.size 0 es.toList #[] (ar _)))))) λhb=>jM (λ_=>wb (MY es.size es.toList s (ar _) λys d hp=>aD (k _ d hp))) λ_=>
  wb (m:=do if !t.led && es.size > 1 then Do "set:maker-not-led") (dU (fT.trans (ay not (DC.mpr hb))▸rfl) (aD (aD (k es s.drawn (.refl _)))))
theorem Rel.drawn(R:Rel G F b own ae A P m fr h s)(d):Rel G F b own ae A P m fr h {s with drawn:=d}:=R.grow (s':={s with drawn:=d}) (λa o e=>e) rfl rfl
theorem U5{E:Value→ak→Prop}(R:Rel G F b own ae A P m fr h s){ad:au×au}{vs:List SV}{es:Array (Int×Value)}{ep:Nat}{t:c9}(ho:s.heap.get? ad.1=aa (gB es ep t))
  (T:f9 t (es.toList.map (·.1))) (H:cq G.w P m vs es.toList) (iu:∀v∈vs,fc v=ab) {x:SV} {x':Value} (hf:fc x=ab) (hx:VR P m x x') (hu:A'.units+1<ez) {Q:Option Nat→ak→Prop}
  (k:∀r:Option Nat,(r.isSome=ab↔x∈vs)→Q r s):aw (aR G.prog G.w) A' (setFind ad.1 x' (bZ G.w x)) Q E s:=by
 have wg:decide (byScan x' es=ab)=an:=by refine xE (Gx hf hx) λa br=>?_;subst br;rfl
 exact wb (m:=setState ad.1) (kw ho rfl T.fits (dU wg (wb (MD R (⟨ho,T,H,iu,hf,hx⟩:nH G.w P m s ad.1 vs es ep t x x') an hu (λi hi=>aD (k _ ⟨λ_=>bN hi,λ_=>rfl⟩)) λva n _ _=>aD (k _ ⟨λe=>bc e iD,λe=>bc e va⟩)))))
theorem ab0:Iu table "set.__ne__"=aa Builtin.«frozenset.__ne__»:=
 QH (id':="frozenset.__ne__") (by kernel_rfl) rfl (by decide +kernel) (by kernel_rfl)
theorem UB:lv (.type "set") (.type "frozenset")=pure an:=by rw[pA _ _];kernel_rfl
theorem ZB{M:i2}{E:Value→ak→Prop}{x y:Value}{Q:Value×Value→ak→Prop}(hq:Q (x,y) s):aw M A (aia "__ne__" ⟨[x,y],[]⟩) Q E s:=aD hq
theorem Vp{M:i2}{E:Value→ak→Prop}{x:Value}{Q:Bool→ak→Prop}(hT:s.TypeIs x "set")(hq:Q ab s):aw M A (aly x) Q E s:=
 wb (w5 hT QD (aD hq))
theorem aas{M:i2}{E:Value→ak→Prop}{x y:Value}{Q:Bool→ak→Prop}(hT:s.TypeIs x "set")(hq:Q an s):aw M A (H8 x (.type "frozenset") <&&> H8 y (.type "frozenset")) Q E s:=
 wb (w5 hT UB (aD hq))
theorem xl{E:Value→ak→Prop}{prog:fD}{w:cE}{a:au}{es:Array (Int×Value)}{ep:Nat}{t:c9}(ho:s.heap.get? a=aa (gB es ep t))(hf:t.fits es.size=ab){Q:Nat→ak→Prop}(hq:Q es.size s):
  aw (aR prog w) A (alz a) Q E s:=wb (wb (kw ho rfl hf (aD (aD hq))))
theorem Mc{E:Value→ak→Prop}{prog:fD}{w:cE}{a:au}{es:Array (Int×Value)}{ep:Nat}{t:c9}(ho:s.heap.get? a=aa (gB es ep t))(hf:t.fits es.size=ab){Q:Array (Int×Value)→ak→Prop}(hq:Q es s):
  aw (aR prog w) A (setEntries a) Q E s:=wb (kw ho rfl hf (aD hq))
theorem cq.mem{w:cE}{vs:List SV}{es:List (Int×Value)}(H:cq w P m vs es):∀e∈es,∃v∈vs,e.1=bZ w v∧VR P m v e.2:=λe he=>
 xE (qH.mp he) λi hi=>aj (H.at' hi) λv v1 v2=>⟨v,bN v1,v2⟩
structure yq(G:Gl)(P:aV)(m:Mu)(s:ak)(a:au)(vs:List SV)(es:Array (Int×Value))(ep:Nat)(t:c9):Prop where
 ho:s.heap.get? a=aa (gB es ep t)
 T:f9 t (es.toList.map (·.1))
 H:cq G.w P m vs es.toList
 nd:vs.Nodup
 fl:∀v∈vs,fc v=ab
 led:t.led=!(G.w.params.followText "set-order")
theorem Rel.LZ(R:Rel G F b own ae A P m fr h s){n:Nm}{ad:au×au}{vs:List SV}(hn:h n=aa (.set vs))(hm:m n=aa ad):∃es ep t,yq G P m s ad.1 vs es ep t:=
 aj (R.obj n _ hn) λbT q1 q2=>aY (q1.symm.trans hm)▸q2.2.elim λes z=>z.elim λk z=>z.elim λt z=>⟨es,k,t,z.1,z.2.1,z.2.2.1,z.2.2.2.1,z.2.2.2.2.1,z.2.2.2.2.2⟩
theorem Ρ{E:Value→ak→Prop}(R:Rel G F b own ae A P m fr h s){x:SV}{x':Value}(hf:fc x=ab)(hx:VR P m x x'){Q:Bool→ak→Prop}(hq:Q an s):aw (aR G.prog G.w) A' (QI x') Q E s:=
 Gh (C:=λy=>aw (aR G.prog G.w) A' (QI y) Q E s) R hf hx λa o items q ho hd hT hi=>wb (qN hT PySem.F.slot_tuple_eq.lookup (aD ((aW:(aa (H5 "tuple.__eq__")==aa (H5 "object.__eq__"))=an)▸hq)))
theorem Zm{α β:Type}{M:i2}{E:Value→ak→Prop}{f:α→β→Sem (ForInStep β)}{p:α→Prop}{I:β→Prop}{Q:β→ak→Prop}{l:List α}{z:β}(hz:I z)(fin:(∀x∈l,p x)→∀z,I z→Q z s)
  (turn:∀x∈l,∀z,I z→∀Q':ForInStep β→ak→Prop,(p x→∀z,I z→Q' (.yield z) s)→(∀z,Q z s→Q' (.done z) s)→aw M A' (f x z) Q' E s):aw M A' (forIn l z f) Q E s:=by
 induction l generalizing z with
 |nil=>exact aD (fin (λ_ h=>cT h) _ hz)
 |cons x l ih=>rw[py];exact wb (turn x (.head _) z hz _ (λhp z hz=>ih hz (λh=>fin λy hy=>(dE.mp hy).elim (· ▸hp) (h y)) λy hy=>turn y (.tail _ hy)) λz hz=>aD hz)
variable{E:Value→ak→Prop}{a a':au}{vs ws:List SV}{es es':Array (Int×Value)}{ep Fz:Nat}{t t':c9}
theorem XO(R:Rel G F b own ae A P m fr h s)(S:yq G P m s a vs es ep t)(S':yq G P m s a' ws es' Fz t')
  {Q:List (Int×Value)→ak→Prop} (k:∀(ys:List (Int×Value)) d,ys.Perm es.toList→Q ys {s with drawn:=d}):aw (aR G.prog G.w) A' (al0 a a') Q E s:=by
 refine wb (Mc S.ho S.T.fits (wb (Mc S'.ho S'.T.fits (wb ?_))));have all:∀x∈es.toList++es'.toList,∃v,fc v=ab∧VR P m v x.2:=λx hx=>(dw.mp hx).elim (λq=>bG (S.H.mem x q) λv v1 _ v3=>⟨v,S.fl v v1,v3⟩) λq=>bG (S'.H.mem x q) λv v1 _ v3=>⟨v,S'.fl v v1,v3⟩;generalize es.toList++es'.toList=l at all
 cases l with
 |nil=>exact aD (aD (k _ s.drawn (.refl _)))
 |cons x r=>
  refine aj (all x (.head _)) λv v1 v2=>?_;rw[py];exact wb (wb (m:=QI x.2) (Ρ R v1 v2 (pz rfl (wb (m:=al1 a) (wb (Yn (ad:=(a,a)) S.ho S.T S.led λys d hp=>aD (aD (aD (aD (k _ d hp))))))))))
theorem Yh(R:Rel G F b own ae A P m fr h s)(S:yq G P m s a vs es ep t)(S':yq G P m s a' ws es' Fz t')
  (hu:A'.units+1<ez) (hsz:es.size=es'.size) {id:String} {Q:Bool→ak→Prop} (k:∀(r:Bool) d,(r=ab↔∀y,y∈vs→y∈ws)→Q r {s with drawn:=d}):aw (aR G.prog G.w) A' (al2 id a a') Q E s:=by
 refine wb (xl S.ho S.T.fits (wb (xl S'.ho S'.T.fits (dU (i0 (hsz▸fo _)) (wb (QJ S.ho rfl S.T.fits (wb (XO R S S' λys d hp=>wb ?_))))))));refine Zm (s:={s with drawn:=d}) (I:=λr=>r.1=af) (p:=λe=>∃v∈ws,VR P m v e.2∧fc v=ab) rfl (λal z hz=>?_) λe he z hz Q' k1 k2=>?_
 ·obtain⟨r1,r2⟩:=z
  obtain rfl:r1=af:=hz;exact aD (k ab d ⟨λ_ y hy=>xE (qH.mp hy) λi hi=>bG (S.H.at hi) λe q1 q2 q3=>bG (al e (hp.mem_iff.mpr (bN q1))) λv v1 v2 v3=>
   VR.inj y q3 v2 (sM (sS (S.fl y hy) 0)) (sM (sS v3 0))▸v1,λ_=>rfl⟩)
 ·refine bG (S.H.mem e (hp.mem_iff.mp he)) λv v1 v2 v3=>wb (dM ?_)
  rw[v2];refine U5 (ad:=(a',a')) (s:={s with drawn:=d}) (R.drawn d) S'.ho S'.T S'.H S'.fl (S.fl v v1) v3 hu λr rg=>?_
  cases r with
  |none=>exact pz rfl (aD (k2 _ (aD (k an d ⟨λq=>cJ q,λq=>cJ (rg.mpr (q v v1))⟩))))
  |some i=>exact dU rfl (wb (m:=al3 id a ep) (wb (QJ (s:={s with drawn:=d}) S.ho rfl S.T.fits (dU (by rw[mX _];rfl) (aD (aD (k1 ⟨v,rg.mp rfl,v3,S.fl v v1⟩ _ rfl)))))))
theorem Us{n n':Nm}{vs ws:List SV}{Q:QV}{X:QX}(hn:h n=aa (.set vs))(pU:h n'=aa (.set ws))(hq:∀r:Bool,(r=ab↔∀y,y∈vs↔y∈ws)→Q (.bool (!r)) h):
  WO G F b fr h [.ref n,.ref n'] (bv (c5 .NotEq)) Q X:=by
 refine .mk λown ae A P m s Q' E' a5 R d6 c d=>bP d6 λv r z1 hv hr=>bP hr λu r' z2 hu z3=>aj hv λad hm z4=>aj hu λbT wF z5=>?_;subst z1;subst z2;subst z3;subst z4;subst z5;refine sO (R.LZ hn hm) λes ep t S=>sO (R.LZ pU wF) λes' Fz t' S'=>?_;have hT:s.TypeIs (.ref ad.1) "set":=⟨_,S.ho,rfl⟩;have BB:s.TypeIs (.ref bT.1) "set":=⟨_,S'.ho,rfl⟩;have Kz:∀(r:Bool) (dr:_),(r=ab↔∀y,y∈vs↔y∈ws)→Q' (.bool (!r)) {s with drawn:=dr}:=λr dr hr=>c _ _ _ _ _ _ (hq r hr) .rfl .rfl rfl (R.drawn dr);have Pd:vs.length=ws.length↔es.size=es'.size:=(S.H.length.trans fQ)▸(S'.H.length.trans fQ)▸.rfl;refine wpAny_richCompare_same_room (op:=.NotEq) hT BB aib (i5 aib hT ab0 ?_ (PySem.F.args_set_ne_2 _ _)) (R.un (k:=0));refine wb (m:=aia "__ne__" ⟨[.ref ad.1,.ref bT.1],[]⟩) (ZB (wb (Vp BB ?_)));refine wb (m:=aic (.ref ad.1)) (aD (wb (m:=aic (.ref bT.1)) (aD ?_)));refine wb (xl S.ho S.T.fits (wb (xl S'.ho S'.T.fits (wb ?_))));refine jM (λz=>?_) λz=>?_
 ·refine aD (aD ⟨_,rfl,λx=>(nomatch x),Kz an s.drawn ⟨λq=>cJ q,λq=>?_⟩⟩)
  exact bc (Pd.mp ((HH S.nd S'.nd).mpr q).length_eq) (bne_iff_ne.mp z)
 ·have hsz:es.size=es'.size:=Decidable.of_not_not λq=>z (bne_iff_ne.mpr q)
  refine wb (aas hT (Yh R S S' (R.un (k:=2)) hsz λr d hr=>?_));refine aD ⟨_,rfl,λx=>(nomatch x),Kz r d (hr.trans ⟨λq y=>⟨q y,λhy=>Dh λhn=>?_⟩,λq y=>(q y).mp⟩)⟩;exact bc (ah (fO (lh.mpr ⟨hn,S.nd⟩) λz hz=>(dE.mp hz).elim (λe=>e▸hy) (q z)) (bF (Pd.mpr hsz).symm)) (Nat.not_succ_le_self _)
end
section
open SetTable
theorem An:Slot "set_iterator" "__next__" "set_iterator.__next__":=
 .of (owner:="set_iterator") (n:="__next__") (by rw[typeLookup_type _ _,aid];kernel_rfl) (by decide +kernel) (by decide +kernel) (by decide +kernel)
  (.inl (by decide +kernel)) (by rw[pA _ _];kernel_rfl)
theorem OG:Slot "set_iterator" "__iter__" "set_iterator.__iter__":=
 .of (owner:="set_iterator") (n:="__iter__") (by rw[typeLookup_type _ _,aid];kernel_rfl) (by decide +kernel) (by decide +kernel) (by decide +kernel)
  (.inl (by decide +kernel)) (by rw[pA _ _];kernel_rfl)
theorem Sn:Iu table "set_iterator.__next__"=aa Builtin.«set_iterator.__next__»:=entryFor_of_tree (by kernel_rfl)
theorem R7(a:Value):argsOk "set_iterator.__next__" ⟨[a],[]⟩:=by unfold argsOk;kernel_rfl
theorem aa5:Iu table "set.__iter__"=aa Builtin.«frozenset.__iter__»:=
 QH (id':="frozenset.__iter__") (by kernel_rfl) rfl (by decide +kernel) (by kernel_rfl)
theorem VY:Iu table "set_iterator.__iter__"=aa Builtin.«dict_keyiterator.__iter__»:=
 QH (id':="dict_keyiterator.__iter__") (by kernel_rfl) rfl (by decide +kernel) (by kernel_rfl)
theorem Yj(a:Value):argsOk "set_iterator.__iter__" ⟨[a],[]⟩:=by unfold argsOk;kernel_rfl
def WM(w:cE)(a:au)(es:Array (Int×Value))(ep:Nat)(t:c9)(ord:List (Int×Value))(slot i:Nat):Prop:=
 (w.params.followText "set-order"=ab∧ord=(pickOrder (w.params.setOrder a ep) es).toList)∨(w.params.followText "set-order"=an∧(!t.plain && decide (es.size > 1))=an∧below t.place slot=i∧ord=es.toList)
def WD(hp:cO)(I tp:au)(es:Array (Int×Value))(ord:List (Int×Value)):Prop:=
 tp≠I∧∃ks:List Nat,hp.get? tp=aa {cls:=.type "tuple",data:=.seq (ks.map λ(k:Nat)=>e_ k).toArray}∧ks.length=ord.length∧∀(i k:Nat),ks[i]? =aa k→∃e,es[k]? =aa e∧ord[i]? =aa e
noncomputable def ul(a:au)(es:Array (Int×Value))(ep i:Nat)(first:Value):Obj:={cls:=.type "set_iterator",data:=.fields #[first,e_ (i:Int),.ref a,e_ (es.size:Int),e_ (ep:Int)]}
structure SI(w:cE)(I tp a:au)(es:Array (Int×Value))(ep:Nat)(t:c9)(ord:List (Int×Value))(i:Nat)(hp:cO):Prop where
 set:hp.get? a=aa (gB es ep t)
 it:(∃slot:Nat,hp.get? I=aa (ul a es ep i (e_ slot))∧WM w a es ep t ord slot i)∨(hp.get? I=aa (ul a es ep i (.ref tp))∧WD hp I tp es ord)
variable{w:cE}{tp a:au}{es:Array (Int×Value)}{ep:Nat}{t:c9}{ord:List (Int×Value)}{i:Nat}
theorem VQ{xs:Array Nat}(hr:nA xs.toList){i p:Nat}(h:xs[i]? =aa p):below xs (p+1)=i+1:=by
 have B:=C9 (xs:=xs) (p+1) hr;rcases HD (below xs (p+1)) (i+1) with q|q|q
 ·exact bc (B.hi i p h (eS q)) (mi (dq p))
 ·exact q
 ·have g:=jr (bI q B.le)
  exact bc (B.lo _ _ g q) (ma (hr.lt h g (dq i)))
theorem Ym{E:Value→ak→Prop}{prog:fD}(ho:s.heap.get? a=aa (gB es ep t))(T:f9 t (es.toList.map (·.1)))(hb:w.params.followText "set-order"=ab){Q:Array (Int×Value)→ak→Prop}(k:Q (pickOrder (w.params.setOrder a ep) es) s):aw (aR prog w) A (setWalk a) Q E s:=by
 unfold setWalk;refine wb (kw ho rfl T.fits (wb (A8 ?_)));exact pz (eQ hb) (wb (zN (aD k)))
theorem ade{E:Value→ak→Prop}{prog:fD}(S:SI w I tp a es ep t ord i s.heap)(T:f9 t (es.toList.map (·.1)))(fT:t.led=!(w.params.followText "set-order")){slot:Nat}{Q:Option (Value×Nat)→ak→Prop}
  (W:WM w a es ep t ord slot i) (k1:∀e zu,ord[i]? =aa e→WM w a es ep t ord zu (i+1)→Q (aa (e.2,zu)) s) (k2:ord[i]? =af→Q af s):aw (aR prog w) A (setNext a slot i ep) Q E s:=by
 unfold setNext;refine wb (kw S.set rfl T.fits (wb (A8 ?_)));rcases W with W|W
 ·refine pz (eQ W.1) (dU (by rw[mX _];rfl) (wb (Ym S.set T W.1 (aD ?_))))
  have e:(pickOrder (w.params.setOrder a ep) es)[i]? =ord[i]? :=W.2▸jt.symm;rw[e]
  cases q:ord[i]? with
  |none=>exact k2 q
  |some e=>exact k1 e slot q (.inl W)
 ·refine dU (by rw[W.1];rfl) (dU (i0 λe=>iD (W.2.1.symm.trans e)) (wb (m:=do if !t.led && !es.isEmpty then Do "set:maker-not-led") (dU (by rw[fT,W.1];rfl) (aD (aD ?_)))))
  have c7:t.place.size=es.size:=fQ.symm.trans (T.1.len.trans (aI _|>.trans fQ));have e:es[below t.place slot]? =ord[i]? :=by rw[W.2.2.1,W.2.2.2,jt]
  rw[e,W.2.2.1]
  cases q:ord[i]? with
  |none=>exact k2 q
  |some e=>
   have hi:i<t.place.size:=c7▸(cV.mp (W.2.2.2▸q)).1;have g:=jr hi;rw[g];exact k1 e _ q (.inr (o_ W.1 W.2.1 (VQ T.1.rise g) W.2.2.2))
theorem WD.move{hp bX:cO}(W:WD hp I tp es ord)(ht:∀o,tp≠I→hp.get? tp=aa o→bX.get? tp=aa o):WD bX I tp es ord:=⟨W.1,aj W.2 λks h1 h2=>⟨ks,ht _ W.1 h1,h2⟩⟩
theorem SI.move{hp bX:cO}(S:SI w I tp a es ep t ord i hp)(h:∀b∈[I,a,tp],∀o,hp.get? b=aa o→bX.get? b=aa o):SI w I tp a es ep t ord i bX:=
 ⟨h a (.tail _ (.head _)) _ S.set,S.it.imp (λx=>aj x λslot q1 q2=>⟨slot,h I (.head _) _ q1,q2⟩) λx=>⟨h I (.head _) _ x.1,x.2.move λo _=>h tp (.tail _ (.tail _ (.head _))) o⟩⟩
theorem SI.ty(S:SI w I tp a es ep t ord i s.heap):s.TypeIs (.ref I) "set_iterator":=S.it.elim (λx=>aj x λ_ q _=>⟨_,q,rfl⟩) λx=>⟨_,x.1,rfl⟩
theorem ac8{prog:fD}{E:Value→ak→Prop}{Q:lj→ak→Prop}(hh:A.handled=af)(k:∀e hp,(∀b o,s.heap.get? b=aa o→hp.get? b=aa o)→QE {s with heap:=hp} e "StopIteration"→E e {s with heap:=hp}):
  aw (aR prog w) A (do HV (←newExc (.type "StopIteration") []):Sem lj) Q E s:=by
 refine wb ?_;unfold newExc newTuple;refine wb (sF (wb (m:=Qa _ _) (qL (a:=eH) rfl (sF ?_ (by size_fits)))) (by size_fits));unfold HV;refine wb (wpAny_handled (hh.symm▸wb (aD (wpAny_throw ?_))));exact k _ _ (λb o q=>dT _ (dT _ q)) ⟨_,fP _ rfl,rfl⟩
theorem acn{E:Value→ak→Prop}{prog:fD}{Q:lj→ak→Prop}(rq:a≠I)(hh:A.handled=af)(T:f9 t (es.toList.map (·.1)))(fT:t.led=!(w.params.followText "set-order"))(S:SI w I tp a es ep t ord i s.heap)
  (k1:∀e,ord[i]? =aa e→∀hp,SI w I tp a es ep t ord (i+1) hp→(∀b o,b≠I→s.heap.get? b=aa o→hp.get? b=aa o)→Q (.done (.ret e.2)) {s with heap:=hp})
  (k2:ord[i]? =af→∀e hp,(∀b o,b≠I→s.heap.get? b=aa o→hp.get? b=aa o)→QE {s with heap:=hp} e "StopIteration"→E e {s with heap:=hp}):
  aw (aR prog w) A (Builtin.«set_iterator.__next__» ⟨[.ref I],[]⟩) Q E s:=by
 have lC:∀{hp:cO} {f:Obj→Obj} b o,b≠I→hp.get? b=aa o→(hp.update I f).get? b=aa o:=λb o hb q=>(zO _ _ (Ne.symm hb)).trans q;have stop:∀{hp:cO},ord[i]? =af→(∀b o,b≠I→s.heap.get? b=aa o→hp.get? b=aa o)→aw (aR prog w) A (do HV (←newExc (.type "StopIteration") []):Sem lj) Q E {s with heap:=hp}:=λ{hp} hn q=>
  ac8 (s:={s with heap:=hp}) hh λe bX q' ty=>k2 hn e bX (λb o hb h=>q' b o (q b o hb h)) ty
 unfold Builtin.«set_iterator.__next__»;refine wb (m:=slotArgs "__next__" 0 ⟨[.ref I],[]⟩) (aD ?_);rcases S.it with h|⟨hI,W⟩
 ·refine aj h λslot hI W=>?_
  refine wb (wpAny_fieldsOf hI rfl (wb (wb (kw S.set rfl T.fits (aD (dU (by rw[mX _];rfl) (wb (ade S T fT W (λe zu he W'=>?_) λhn=>?_))))))))
  ·have h1:=lf (uI (·.setIfInBounds 0 (e_ zu))) hI rfl
   refine wb (sE hI rfl (aie _) (wb (sE (s:={s with heap:=_}) h1 rfl (jG rfl) (aD (k1 e he _ ⟨lC _ _ rq (lC _ _ rq S.set),.inl ⟨zu,lf _ h1 rfl,W'⟩⟩ λb o hb q=>lC _ _ hb (lC _ _ hb q))))))
  ·exact wb (sE hI rfl (jG rfl) (stop hn λb o hb q=>lC _ _ hb q))
 ·refine wb (wpAny_fieldsOf hI rfl (wb (wb (kw S.set rfl T.fits (aD (dU (by rw[mX _];rfl) ?_))))))
  refine bG W.2 λks h3 h4 h5=>wb (wY h3 rfl ?_);dsimp only;rw[((List.getElem?_toArray).trans dv:((ks.map λ(k:Nat)=>e_ k).toArray)[(i:Int).toNat]? =ks[i]?.map λ(k:Nat)=>e_ k)]
  cases q:ks[i]? with
  |none=>
   exact wb (sE hI rfl (aie _) (wb (sE (s:={s with heap:=_}) (lf (uI (·.setIfInBounds 0 (e_ 0))) hI rfl) rfl (jG rfl) (stop (md (h4▸km.mp q)) λb o hb q=>lC _ _ hb (lC _ _ hb q)))))
  |some k=>
   refine aj (h5 i k q) λe e1 e2=>?_;refine wb (m:=setNextDrawn a ((k:Nat):Int).toNat ((ep:Int)).toNat) ?_;unfold setNextDrawn;refine wb (kw S.set rfl T.fits (dU (by rw[HT _,mX _];rfl) ?_));show aw _ _ (match es[k]? with|some (_,x)=>pure x|_=>_) _ _ _;rw[e1];exact aD (wb (sE hI rfl (jG rfl) (aD (k1 e e2 _ ⟨lC _ _ rq S.set,.inr ⟨lf _ hI rfl,W.move λo ht=>lC _ _ ht⟩⟩ λb o hb q=>lC _ _ hb q))))
theorem Mn{E:Value→ak→Prop}{prog:fD}{Q:Option Value→ak→Prop}(rq:a≠I)(hh:A.handled=af)(T:f9 t (es.toList.map (·.1)))(fT:t.led=!(w.params.followText "set-order"))(S:SI w I tp a es ep t ord i s.heap)
  (k1:∀e,ord[i]? =aa e→∀hp,SI w I tp a es ep t ord (i+1) hp→(∀b o,b≠I→s.heap.get? b=aa o→hp.get? b=aa o)→Q (aa e.2) {s with heap:=hp})
  (k2:ord[i]? =af→∀hp,(∀b o,b≠I→s.heap.get? b=aa o→hp.get? b=aa o)→Q af {s with heap:=hp}):aw (aR prog w) A (uD (.ref I)) Q E s:=by
 have hT:=S.ty;unfold uD;exact wb (wpAny_attempt (qK (name:=d5 "__next__") hT An (i5 An hT Sn (acn rq hh T fT S (λe he hp S' q=>⟨_,rfl,aD (k1 e he hp S' q)⟩) λhn e hp q ty=>wb (w5 ty isSubtype_stop (aD (k2 hn hp q)))) (R7 _))))
theorem Sv{prog:fD}(rq:a≠I)(hh:A.handled=af)(T:f9 t (es.toList.map (·.1)))(fT:t.led=!(w.params.followText "set-order"))(lE:ord.length=es.size):
  WalksS prog w A I [I,a,tp] [I] Eq es.size (λi v=>∃e,ord[i]? =aa e∧v=e.2) (λi s=>SI w I tp a es ep t ord i s.heap) where
 sub _ h:=(bS.mp h)▸.head _
 grefl _:=rfl
 gtrans _ _ _:=Eq.trans
 frame _ _ _ _ S _ h:=S.move h
 item _ _ _ _ hi S k:=Mn rq hh T fT S (λe he hp S' q=>k _ _ ⟨e,he,rfl⟩ S' ⟨λb o hb=>q b o λz=>hb (z▸.head _),rfl,rfl,rfl,ar _⟩) λhn=>bc (km.mp hn) (mi (lE.symm▸hi))
 done _ _ _ S k:=Mn rq hh T fT S (λe he=>bc (cV.mp he).1 (lE▸fo _)) λ_ hp q=>k _ ⟨λb o hb=>q b o λz=>hb (z▸.head _),rfl,rfl,rfl,ar _⟩
 self _ _ _ _ S k:=aif S.ty OG (i5 OG S.ty VY (aD ⟨_,rfl,_,_,S.ty,An.lookup,k⟩) (Yj _))
theorem Zv(a:Value):argsOk "set.__iter__" ⟨[a],[]⟩:=PySem.F.args_set_iter_1 a
theorem XR{E:Value→ak→Prop}{prog:fD}(ho:s.heap.get? a=aa (gB es ep t))(T:f9 t (es.toList.map (·.1))){Q:Bool→ak→Prop}(k:Q (!(w.params.followText "set-order") && (!t.plain && decide (es.size > 1))) s):
  aw (aR prog w) A (setDrawn a) Q E s:=by
 unfold setDrawn;exact wb (kw ho rfl T.fits (wb (A8 (aD k))))
theorem R9{E:Value→ak→Prop}{prog:fD}(ho:s.heap.get? a=aa (gB es ep t))(T:f9 t (es.toList.map (·.1)))(fT:t.led=!(w.params.followText "set-order"))(hsz:es.size≤cR){Q:Value→ak→Prop}
  (k:∀I tp hp d ord,(∀b o,s.heap.get? b=aa o→hp.get? b=aa o)→s.heap.objs.size≤I→s.heap.objs.size≤tp→SI w I tp a es ep t ord 0 hp→ord.Perm es.toList→Q (.ref I) {s with heap:=hp,drawn:=d}):
  aw (aR prog w) A (qM (.ref a)) Q E s:=by
 have hT:s.TypeIs (.ref a) "set":=⟨_,ho,rfl⟩;refine aif hT aig (i5 aig hT aa5 ?_ (Zv _));refine wb (m:=al4 "__iter__" ⟨[.ref a],[]⟩) (aD ?_);refine wb (xl ho T.fits (wb (XR ho T ?_)));have fin:∀(tp:au) (hp:cO) d first ord,(∀b o,s.heap.get? b=aa o→hp.get? b=aa o)→s.heap.objs.size≤hp.objs.size→s.heap.objs.size≤tp→(∀bX,(∀b o,hp.get? b=aa o→bX.get? b=aa o)→bX.get? hp.objs.size=aa (ul a es ep 0 first)→
   (∃slot:Nat,bX.get? hp.objs.size=aa (ul a es ep 0 (e_ slot))∧WM w a es ep t ord slot 0)∨(bX.get? hp.objs.size=aa (ul a es ep 0 (.ref tp))∧WD bX hp.objs.size tp es ord))→ord.Perm es.toList→
   aw (aR prog w) A.in1 (do Ie (←newFields "set_iterator" [first,e_ 0,.ref a,e_ (es.size:Int),e_ ((←setEpoch a):Int)])) (λ(fin:lj) s'=>∃v,fin=PySem.Fin.done (.ret v)∧∃T c,s'.TypeIs v T∧typeLookup (.type T) "__next__"=pure (aa c)∧Q v s') E {s with heap:=hp,drawn:=d}:=by
  intro tp hp d first ord q1 q2 q3 q4 q5
  have gk:∀b o,hp.get? b=aa o→(hp.push (ul a es ep 0 first)).get? b=aa o:=λb o e=>dT _ e;have gs:=fP hp (o:=ul a es ep 0 first) rfl;exact wb (QJ (s:={s with heap:=hp,drawn:=d}) (q1 _ _ ho) rfl T.fits (wb (m:=newFields _ _) (sF (aD ⟨_,rfl,"set_iterator",_,⟨_,gs,rfl⟩,An.lookup,k hp.objs.size tp _ d ord (λb o e=>gk b o (q1 b o e)) q2 q3 ⟨gk _ _ (q1 _ _ ho),q4 _ gk gs⟩ q5⟩) (by size_fits))))
 cases hb:w.params.followText "set-order" with
 |true=>
  refine dU (by rw[aih,Bool.false_and _];rfl) (wb (aD (fin s.heap.objs.size s.heap s.drawn (e_ 0) _ (λb o e=>e) (ar _) (ar _) (λbX _ g=>.inl ⟨0,g,.inl ⟨hb,rfl⟩⟩) ?_)));exact OF _ es.size 0 es.toList #[] (ar _)
 |false=>
  cases hd:(!t.plain && decide (es.size > 1)) with
  |false=>
   refine dU rfl (wb (aD (fin s.heap.objs.size s.heap s.drawn (e_ 0) es.toList (λb o e=>e) (ar _) (ar _) (λbX _ g=>.inl ⟨0,g,.inr (o_ hb hd ?_ rfl)⟩) (List.Perm.refl _))));have B:=C9 (xs:=t.place) 0 T.1.rise;exact(sJ _).elim id λq=>bc (B.lo 0 _ (jr (bI q B.le)) q) (m5 _)
  |true=>
   refine pz rfl (wb (MY es.size (bo es.size) s (bF dS) λks d hp=>?_));have hlt:∀{k},k∈ks→k<es.toList.length:=λ{k} h=>fQ▸dR.mp (hp.mem_iff.mp h);have fe:=GO (0,eH) (l:=es.toList) λi hi=>hlt hi;refine wb (wpAny_newTuple (fin s.heap.objs.size _ d (.ref s.heap.objs.size) (ks.filterMap (es.toList[·]?)) (λb o e=>dT _ e) (mc ..▸bR _) (ar _) (λbX dW g=>.inr ⟨g,mc ..▸du (dq _),ks,dW _ _ (fP _ rfl),?_,λi k Pk=>?_⟩) ?_) ?_)
   ·exact((ay oq fe).trans (aI _)).symm
   ·have hk:=hlt (bN Pk)
    refine⟨es.toList[k],by rw[←jt];exact fb hk,?_⟩;rw[fe,dv,Pk];exact ay aa (pn.trans (ay (PT · _) (fb hk)))
   ·have:=hp.filterMap (es.toList[·]?)
    rwa [←fQ,ah1] at this
   ·rw[aI _,hp.length_eq,dS];exact hsz
end
section
noncomputable def ev{α:Type}(lt:Nat→Nat→Bool):KasT α→α
 |.ret a=>a
 |.ask i j k=>ev lt (k (lt i j))
theorem zf{α β:Type}(lt:Nat→Nat→Bool)(f:α→KasT β)(t:KasT α):ev lt (t.bind f)=ev lt (f (ev lt t)):=by
 induction t with
 |ret _=>rfl
 |ask i j k ih=>exact ih (lt i j)
def Run{α:Type}(n:Nat)(Q:α→Prop):KasT α→Prop
 |.ret a=>Q a
 |.ask i j k=>i<n∧j<n∧∀b,Run n Q (k b)
theorem Run.ite{α:Type}{n:Nat}{Q:α→Prop}{c:Prop}[Decidable c]{t u:KasT α}(a:Run n Q t)(b:Run n Q u):Run n Q (if c then t else u):=
 if h:c then(aP h).symm▸a else(aK h).symm▸b
theorem Run.bind{α β:Type}{n:Nat}{Q:α→Prop}{Q':β→Prop}{f:α→KasT β}{t:KasT α}(r:Run n Q t)(hf:∀a,Q a→Run n Q' (f a)):Run n Q' (t.bind f):=by
 induction t with
 |ret a=>exact hf a r
 |ask i j k ih=>exact⟨r.1,r.2.1,λb=>ih b (r.2.2 b)⟩
theorem Run.ev{α:Type}{n:Nat}{Q:α→Prop}{t:KasT α}(lt:Nat→Nat→Bool)(r:Run n Q t):Q (ev lt t):=by
 induction t with
 |ret a=>exact r
 |ask i j k ih=>exact ih _ (r.2.2 _)
theorem Run.Sq{α:Type}{n:Nat}{Q:α→Prop}{lt lt':Nat→Nat→Bool}(hl:∀i j,i<n→j<n→lt i j=lt' i j){t:KasT α}(r:Run n Q t):Mine.Internal.ev lt t=Mine.Internal.ev lt' t:=by
 induction t with
 |ret a=>rfl
 |ask i j k ih=>exact(ay (λb=>Mine.Internal.ev lt (k b)) (hl i j r.1 r.2.1)).trans (ih _ (r.2.2 _))
theorem Run.YV{α:Type}{n:Nat}{lt:Nat→Nat→Bool}{CZ:Nat→Nat→(Bool→ak→Prop)→ak→Prop}{s:ak}(hc:∀i j C,i<n→j<n→C (lt i j) s→CZ i j C s){Q:α→ak→Prop}{Q':α→Prop}{t:KasT α}
  (r:Run n Q' t) (h:Q (Mine.Internal.ev lt t) s):t.kasWp CZ Q s:=by
 induction t with
 |ret a=>exact h
 |ask i j k ih=>exact hc i j _ r.1 r.2.1 (ih _ (r.2.2 _) h)
def PR(n:Nat)(p:Array Nat):Prop:=p.toList.Perm (bo n)
theorem PR.perm{n:Nat}{p q:Array Nat}(h:PR n p)(hp:q.Perm p):PR n q:=(Array.perm_iff_toList_perm.mp hp).trans h
theorem PR.rev{n:Nat}{p:Array Nat}(h:PR n p)(i j:Nat):PR n (kas_rev p i j):=h.perm (mirror_perm _ _ _ _)
theorem PR.size{n:Nat}{p:Array Nat}(h:PR n p):p.size=n:=h.length_eq.trans dS
section
variable{n:Nat}(hn:0<n)
include hn
theorem PR.at{p:Array Nat}(h:PR n p)(i:Nat):p.getD i 0<n:=by
 unfold aii;exact if q:i<p.size then(dif_pos q).symm▸dR.mp (h.mem_iff.mp (Array.getElem_mem_toList q)) else(dif_neg q).symm▸hn
theorem MI{p:Array Nat}(h:PR n p)(f:Nat):∀k,Run n (λ_=>True) (kas_asc p f k):=by
 induction f with
 |zero=>exact λ_=>trivial
 |succ f ih=>exact λk=>⟨h.at hn _,h.at hn _,λ_=>.ite trivial (ih _)⟩
theorem Yy(f:Nat):∀{p:Array Nat} (k q:Nat),PR n p→Run n (λr=>PR n r.1) (kas_desc f p k q):=by
 induction f with
 |zero=>exact λ_ _ h=>h
 |succ f ih=>exact λk q h=>⟨h.at hn _,h.at hn _,λ_=>.ite (.ite (ih _ _ (h.rev _ _)) (ih _ _ h)) ⟨h.at hn _,h.at hn _,λ_=>.ite h (ih _ _ h)⟩⟩
theorem OD{k nrem:Nat}{p:Array Nat}(h:PR n p):Run n (λr=>PR n r.2) (kas_tail3 k nrem p):=(MI hn (h.rev _ _) _ _).bind λ_ _=>h.rev 0 k
theorem J8{k nrem:Nat}{p:Array Nat}(h:PR n p):Run n (λr=>PR n r.2) (QK k nrem p):=
 (Yy hn _ _ _ h).bind λr hr=>.ite (OD hn (hr.rev _ _)) (OD hn hr)
theorem Kx{nrem:Nat}{p:Array Nat}(h:PR n p):Run n (λr=>PR n r.2) (Iv nrem p):=
 (MI hn h _ _).bind λ_ _=>.ite h (.ite ⟨h.at hn _,h.at hn _,λ_=>.ite h (J8 hn (h.rev _ _))⟩ (J8 hn h))
theorem V5{p:Array Nat}(h:PR n p)(k f:Nat):∀l r,Run n (λ_=>True) (kas_place p k f l r):=by
 induction f with
 |zero=>exact λ_ _=>trivial
 |succ f ih=>exact λl r=>.ite trivial ⟨h.at hn _,h.at hn _,λ_=>.ite (ih _ _) (ih _ _)⟩
theorem YK(f:Nat):∀{p:Array Nat} (k:Nat),PR n p→Run n (PR n) (DM f p k):=by
 induction f with
 |zero=>exact λ_ h=>h
 |succ f ih=>exact λk h=>(V5 hn h k _ _ _).bind λl _=>ih _ (h.perm (bubble_perm _ _ _))
theorem BQ:Run n (PR n) (z7 n):=
 (Kx hn (p:=(bo n).toArray) (.refl _)).bind λr hr=>.ite (YK hn _ _ hr) hr
end
theorem yg{α:Type}{c:Prop}[Decidable c]{x y:α}(h:c):(if decide c=ab then x else y)=x:=aP (eQ h)
theorem Fp{α:Type}{c:Prop}[Decidable c]{x y:α}(h:¬c):(if decide c=ab then x else y)=y:=aK λe=>h (fC e)
section
variable(key:Nat→Int)
abbrev kl(i j:Nat):Bool:=decide (key i<key j)
noncomputable def KP(p:Array Nat)(i:Nat):Int:=key (p.getD i 0)
def gp(r:Int→Int→Prop)(p:Array Nat)(k:Nat):Prop:=∀i,i+1<k→r (KP key p i) (KP key p (i+1))
def BC(n:Nat)(p:Array Nat):Prop:=∀i j,i<j→j<n→KP key p i≠KP key p j
variable{key}{r:Int→Int→Prop}{p:Array Nat}{m k n:Nat}
theorem BR{q:Array Nat}{i j:Nat}(h:p[i]? =q[j]?):KP key p i=KP key q j:=by
 unfold KP;rw[PQ,PQ,h]
theorem CD(hk:((bo n).map key).Nodup)(h:PR n p):BC key n p:=λi j vO hj e=>by
 have z:∀{i},i<n→(p.toList.map key)[i]? =aa (KP key p i):=λ{i} hi=>by
  have qh:i<p.size:=h.size.symm▸hi;unfold KP aii;rw[dif_pos qh,dv,jt,jr qh];rfl
 have hi:=i4 vO hj;exact du vO ((Qm (by rw[aI _];exact PS hi h.size.symm) ((h.map key).nodup_iff.mpr hk)).mp ((z hi).trans ((ay aa e).trans (z hj).symm)))
theorem gp.at(h:gp key r p k)(tr:∀{a b c},r a b→r b c→r a c){i j:Nat}(vO:i<j)(hj:j<k):r (KP key p i) (KP key p j):=by
 induction vO with
 |refl=>exact h i hj
 |step _ ih=>exact tr (ih (oy hj)) (h _ hj)
theorem gp.snoc(h:gp key r p (m+1))(hx:r (KP key p m) (KP key p (m+1))):gp key r p (m+2):=λi hi=>
 (zI (H9 hi)).elim (h i) λq=>DD q▸hx
theorem gp.one:gp key r p 1:=λi hi=>bc hi (ma (eG (b_ i)))
theorem E6{a b:Int}(h:¬a<b)(e:b≠a):b<a:=Int.lt_iff_le_and_ne.mpr ⟨qG.mp h,e⟩
theorem Lw(D:BC key n p)(f:Nat):∀{m} {C:Prop},m+1+f=n→gp key (· < ·) p (m+1)→
  (∀r,ev (kl key) (kas_asc p f (m+1))=r+1→r+1≤n→gp key (· < ·) p (r+1)→(r+1<n→KP key p (r+1) <KP key p r)→C)→C:=by
 induction f with
 |zero=>exact λ{m} _ e h c=>c m rfl (bF e) h λq=>bc e (du q)
 |succ f ih=>
  exact λ{m} _ e h c=>
  have hm:=e▸qS (dK f)
  if hc:KP key p (m+1) <KP key p m then c m (ay (ev (kl key)) (yg hc)) (cj hm) h λ_=>hc
  else ih ((Dj _ _).trans e) (h.snoc (E6 hc (D _ _ (dq m) hm))) λr e'=>c r ((ay (ev (kl key)) (Fp hc)).trans e')
theorem afe(D:BC key n p)(f:Nat):∀{m} {C:Prop},m+1+f=n→gp key (· > ·) p (m+1)→
  (∀r,ev (kl key) (kas_desc f p (m+1) 0)=(p,r+1,0)→r+1≤n→gp key (· > ·) p (r+1)→C)→C:=by
 induction f with
 |zero=>exact λ{m} _ e h c=>c m rfl (bF e) h
 |succ f ih=>
  exact λ{m} _ e h c=>
  have hm:=e▸qS (dK f)
  if hc:KP key p (m+1) <KP key p m then ih ((Dj _ _).trans e) (h.snoc hc) λr e'=>c r ((ay (ev (kl key)) ((yg hc).trans (aK (fo 0)))).trans e')
  else c m (ay (ev (kl key)) ((Fp hc).trans rfl)|>.trans (ay (ev (kl key)) (yg (E6 hc (D _ _ (dq m) hm))))) (cj hm) h
structure Good(key:Nat→Int)(n:Nat)(r:Nat×Array Nat):Prop where
 pos:0<r.1
 le:r.1≤n
 Lb:gp key (· < ·) r.2 r.1
theorem KG(hm:m<p.size){i:Nat}(hi:i≤m):KP key (kas_rev p 0 (m+1)) i=KP key p (m-i):=
 BR ((getElem?_mirror_all hm i).trans ((aP ⟨b_ _,lb hi⟩).trans (by rw[mZ _];rfl)))
theorem ac6(hm:m<p.size)(h:gp key (· > ·) p (m+1)):gp key (· < ·) (kas_rev p 0 (m+1)) (m+1):=λi hi=>by
 have hi:=Is hi;have z:m- (i+1)+1=m-i:=qT (af1 hi);rw[KG hm (cj hi),KG hm hi,←z];exact(h (m- (i+1)) (z▸lb (ku _ _)))
theorem aai(hk:((bo n).map key).Nodup)(h:PR n p)(hm:m<n)(A:gp key (· > ·) p (m+1)):Good key n (ev (kl key) (kas_tail3 (m+1) n p)):=by
 refine Lw (CD hk (h.rev 0 (m+1))) (n- (m+1)) (uv hm) (ac6 (h.size.symm▸hm) A) λr e l a _=>?_;exact(zf _ _ _).symm▸e.symm▸⟨dK r,l,a⟩
theorem U6(hk:((bo n).map key).Nodup)(h:PR n p)(hm:1<n)(A:KP key p 1<KP key p 0):Good key n (ev (kl key) (QK 1 n p)):=by
 refine afe (CD hk h) (n-2) (m:=1) (uv hm) (gp.one.snoc A) λr e l a=>?_;unfold QK;rw[zf _ _ _,e];exact aai hk h l a
theorem adc(hk:((bo n).map key).Nodup)(h:PR n p)(hn:0<n):Good key n (ev (kl key) (Iv n p)):=by
 refine Lw (CD hk h) (n-1) (m:=0) (uv hn) .one λr e l a d=>?_;unfold Iv;rw[zf _ _ _,e];refine if q:(r+1==n)=ab then(aP q).symm▸⟨dK r,l,a⟩ else(aK q).symm▸?_
 have hr:=wO l λz=>q (eX.mpr z)
 cases r with
 |zero=>exact(aK (fo 1)).symm▸U6 hk h hr (d hr)
 |succ r=>exact(aP (pC (dK r))).symm▸(ay (ev (kl key)) (yg (a.at sv (dK r) (dq _)))).symm▸⟨dK _,l,a⟩
theorem aen(D:BC key n p)(hk:k<n)(h:gp key (· < ·) p k)(f:Nat):∀{l r:Nat} {C:Prop},l≤k→r≤k→r≤l+f→(∀i,i<l→KP key p i<KP key p k)→(∀i,r≤i→i<k→KP key p k<KP key p i)→
  (∀x,ev (kl key) (kas_place p k f l r)=x→x≤k→(∀i,i<x→KP key p i<KP key p k)→(∀i,x≤i→i<k→KP key p k<KP key p i)→C)→C:=by
 induction f with
 |zero=>exact λ{l r} _ hl hr e a b c=>c l rfl hl a λi hi=>b i (ah e hi)
 |succ f ih=>
  exact λ{l r} _ hl hr e a b c=>
  if tF:l≥r then c l (ay (ev (kl key)) (aP tF)) hl a λi hi=>b i (ah tF hi)
  else
   have Mq:=aij tF;have h1:(l+r) / 2<r:=afz (Nat.two_mul r▸De Mq r);have h2:l≤(l+r) / 2:=(af0 wM).mpr (Nat.mul_two l▸e6 (cj Mq) l);have h3:=bI h1 hr
   if hc:KP key p k<KP key p ((l+r) / 2) then
    ih hl (cj h3) (eS (bI h1 e)) a (λi hi qh=>(wP hi).elim (λq=>q▸hc) λq=>sv hc (h.at sv q qh))
     λx e'=>c x ((ay (ev (kl key)) (aK tF)).trans ((ay (ev (kl key)) (yg hc)).trans e'))
   else
    have Ja:=E6 hc (D _ _ h3 hk)
    ih h3 hr (ah e (ah (eG (oj h2 f)) (bF (wN _ _).symm))) (λi hi=>(zI (eS hi)).elim (λq=>sv (h.at sv q h3) Ja) λq=>q▸Ja) b
     λx e'=>c x ((ay (ev (kl key)) (aK tF)).trans ((ay (ev (kl key)) (Fp hc)).trans e'))
theorem Y8{l:Nat}(hk:k<p.size)(hl:l≤k)(h:gp key (· < ·) p k)(a:∀i,i<l→KP key p i<KP key p k)(b:∀i,l≤i→i<k→KP key p k<KP key p i):gp key (· < ·) (bubble p k (k-l)) (k+1):=by
 have g:∀x,(bubble p k (k-l))[x]? =if x=l then p[k]? else if l<x∧x≤k then p[x-1]? else p[x]? :=λx=>by
  have:=getElem?_bubble hk (k-l) (ku _ _) x;rw[Nat.sub_sub_self hl] at this;exact this
 generalize bubble p k (k-l)=q at g ⊢;have lo:∀x,x<l→KP key q x=KP key p x:=λx hx=>BR ((g x).trans ((aK (du hx)).trans (aK λc=>Nat.lt_asymm hx c.1)));have up:∀x,l≤x→x<k→KP key q (x+1)=KP key p x:=λx hx s9=>BR ((g _).trans ((aK (dG (lb hx))).trans (aP ⟨lb hx,s9⟩)));have PF:KP key q l=KP key p k:=BR ((g l).trans (aP rfl));intro i hi;have hi:=Is hi;rcases Qk i l with y|y
 ·rw[lo i y]
  exact(zI y).elim (λz=>(lo _ z).symm▸h i (bI z hl)) λz=>(z▸PF:KP key q (i+1)=_).symm▸a i y
 ·rw[up i y hi]
  refine(wP y).elim (λz=>z▸PF.symm▸b l (ar _) (z▸hi)) ?_
  cases i with
  |zero=>exact λz=>bc z (m5 _)
  |succ j=>exact λz=>(up j (eS z) (oy hi)).symm▸h j hi
theorem Tc(hk:((bo n).map key).Nodup)(f:Nat):∀{p:Array Nat} {k:Nat},k+f=n→PR n p→gp key (· < ·) p k→gp key (· < ·) (ev (kl key) (DM f p k)) n:=by
 induction f with
 |zero=>exact λe _ h=>e▸h
 |succ f ih=>
  intro p k e hp h;have Ms:k<n:=e▸qS (dK f);refine aen (CD hk hp) Ms h k (b_ _) (ar _) (bF (mZ k).symm) (λi hi=>bc hi (m5 i)) (λi hi qh=>bc qh (ma hi)) λl e' hl a b=>?_;refine((zf (kl key) (λl=>DM f (bubble p k (k-l)) (k+1)) (kas_place p k k 0 k)).trans (ay (λl=>ev (kl key) (DM f (bubble p k (k-l)) (k+1))) e'):ev (kl key) (DM (f+1) p k)=_).symm▸?_;exact ih ((Dj _ _).trans e) (hp.perm (bubble_perm _ _ _)) (Y8 (hp.size.symm▸Ms) hl h a b)
theorem XJ(hk:((bo n).map key).Nodup)(hn:0<n):gp key (· < ·) (ev (kl key) (z7 n)) n:=by
 have c:=adc hk (p:=(bo n).toArray) (.refl _) hn;have r:=(Kx hn (nrem:=n) (p:=(bo n).toArray) (.refl _)).ev (kl key);unfold z7;rw[zf _ _ _];generalize ev (kl key) (Iv n _)=x at c r ⊢;have e:=Nat.max_eq_left c.pos;exact if q:x.1<n then(aP q).symm▸Tc hk _ (e.symm▸uv c.le) r (e.symm▸c.Lb) else(aK q).symm▸qQ c.le (pg q)▸c.Lb
end
end
noncomputable def p8{α:Type}(lt:Nat→Nat→Bool)(l:List α)(d:α):List α:=if l.length<2 then l else(ev lt (z7 l.length)).toList.map λi=>l.getD i d
variable{prog:fD}{w:cE}{E:Value→ak→Prop}{a:au}{vs:List Value}{n:Nat}{lt:Nat→Nat→Bool}
noncomputable def Av(a:au)(zc:Nat)(s:SortSt):Sem lj:=do
 let sorted:=(arrOf s).map (·.2)
 let ack:=(←seqEpoch a) !=zc
 aik (.ref a) λ_=>sorted
 if let aa e:=failedOf s then rule "list.sort.comparison-raised";throw e
 if ack then rule "list.sort.modified";raiseError "ValueError" "list modified during sort"
 Ie .none
noncomputable def EG(a:au)(items:Array Value)(zc:Nat):Sem lj:=do
 let kind ←if items.size<2 then pure general' else keyKind' items
 let r ←(if items.size<2 then pure () else sortRuns').run (SortSt.mk' kind (items.zip items) #[] 7 af)
 Av a zc r.2
theorem Rd(a:au):Builtin.«list.sort» ⟨[.ref a],[]⟩=(do
  let items ←al5 (.ref a)
  aik (.ref a) λ_=>#[]
  let zc ←seqEpoch a
  let R6 ←newTuple items.toList
  let Z5 ←newList []
  ju [R6,Z5] (EG a items zc)):=rfl
theorem JH{P:lj→ak→Prop}{st:SortSt}{e1:Nat}{out:List Value}(hl:out.length<64)(ho:s.heap.get? a=aa (ky "list" #[] e1))(hm:(arrOf st).map (·.2)=out.toArray)(hf:failedOf st=af)
  (k:P (.done (.ret .none)) {s with heap:=s.heap.update a (mh λ_=>out.toArray)}):aw (aR prog w) A (Av a e1 st) P E s:=by
 unfold Av;rw[hm,hf];refine wb (seqEpoch_at ho rfl (wb (listUpdate_at ho rfl ?_ (b_ _) (ah (cj hl) aJ))));show aw _ _ (if(e1 !=e1)=ab then _ else _) _ _ _;rw[mX _];exact aD k
theorem Sw{P:lj→ak→Prop}{e1:Nat}(iN:vs.length<64)(ho:s.heap.get? a=aa (ky "list" #[] e1)){κ:Iw}(hk:2≤vs.length→∀Q:Iw→ak→Prop,Q κ s→aw (aR prog w) A (keyKind' vs.toArray) Q (λ_ _=>False) s)
  (hc:∀i j C,i<vs.length→j<vs.length→C (lt i j) s→kas_ask prog w A κ vs i j C s)
  (k:∀out:List Value,out=p8 lt vs .none→P (.done (.ret .none)) {s with heap:=s.heap.update a (mh λ_=>out.toArray)}):aw (aR prog w) A (EG a vs.toArray e1) P E s:=by
 unfold EG
 by_cases h2:vs.length<2
 ·rw[aP (show vs.toArray.size<2 from h2),aP (show vs.toArray.size<2 from h2)]
  refine wb (aD (wb (aD (JH iN ho ?_ rfl (k vs (aP h2).symm)))));exact Ix.mp ((ah0).trans ((ay _ Array.toList_zip).trans (List.map_snd_zip (ar _))))
 ·have g:¬vs.toArray.size<2:=h2
  rw[aK g,aK g];have g2:=pg h2;have n0:=bI wM g2;refine wb (ox (hk g2 _ ?_) (λ_ _ h=>h) λ_ _ x=>x.elim);refine wb (kat_run (Q:=λst s'=>aw (aR prog w) A (Av a e1 st) P E s') (G:=λp s'=>p=ev lt (z7 vs.length)∧s'=s) rfl g2 iN (λp st s' hp ha hf e=>?_) ((BQ n0).YV hc ⟨rfl,rfl⟩));obtain rfl:=e.2;exact JH (bd (bF ((aI _).trans hp)) iN) ho (kat_snds rfl ha) hf (k _ (e.1▸(aK h2).symm))
theorem Va{P:lj→ak→Prop}(ho:s.heap.get? a=aa (ky "list" vs.toArray n))(iN:vs.length<64)
  {κ:Iw} (hk:∀hp:cO,(∀b o,b≠a→s.heap.get? b=aa o→hp.get? b=aa o)→2≤vs.length→∀Q:Iw→ak→Prop,Q κ {s with heap:=hp}→aw (aR prog w) A (keyKind' vs.toArray) Q (λ_ _=>False) {s with heap:=hp})
  (hc:∀hp:cO,(∀b o,b≠a→s.heap.get? b=aa o→hp.get? b=aa o)→∀i j C,i<vs.length→j<vs.length→C (lt i j) {s with heap:=hp}→kas_ask prog w A κ vs i j C {s with heap:=hp})
  (k:∀hp out c,(∀b o,b≠a→s.heap.get? b=aa o→hp.get? b=aa o)→hp.get? a=aa (ky "list" out c)→out.toList=p8 lt vs .none→P (.done (.ret .none)) {s with heap:=hp}):
  aw (aR prog w) A (Builtin.«list.sort» ⟨[.ref a],[]⟩) P E s:=by
 have s1:=pt s.heap a (mh λ_=>(#[]:Array Value));have Gb:=get?_update_seq ho λ_=>#[];have r9:∀b o,b≠a→s.heap.get? b=aa o→(((s.heap.update a (mh λ_=>(#[]:Array Value))).push (ky "tuple" vs.toArray 0)).push (ky "list" #[] 0)).get? b=aa o:=λb o hb e=>
  dT _ (dT _ ((s1.2 b hb).trans e))
 have rM:=dT (ky "list" #[] 0) (dT (ky "tuple" vs.toArray 0) Gb);have hz:vs.length≤cR:=ah (cj iN) aJ;refine(Rd a).symm▸wb (listItems_at ho rfl (wb (listUpdate_at ho rfl (wb (seqEpoch_at Gb rfl (wb (wpAny_newTuple (wb (wpAny_newList (dM ?_) (b_ _))) hz)))) hz (b_ _))));show aw _ A _ P E {s with heap:=((s.heap.update a (mh λ_=>(#[]:Array Value))).push (ky "tuple" vs.toArray 0)).push (ky "list" #[] 0)};clear Gb s1;generalize ((s.heap.update a (mh λ_=>(#[]:Array Value))).push (ky "tuple" vs.toArray 0)).push (ky "list" #[] 0)=hp at r9 rM ⊢;exact Sw (s:={s with heap:=hp}) iN rM (hk hp r9) (hc hp r9) λout e=>k _ _ _ (λb o hb e=>((pt hp a (mh λ_=>out.toArray)).2 b hb).trans (r9 b o hb e)) (get?_update_seq rM λ_=>out.toArray) e
theorem abh{E:Value→ak→Prop}{prog:fD}{w:cE}{a:au}(hT:s.TypeIs (.ref a) "set"){Q:Bool→ak→Prop}(k:Q an s):aw (aR prog w) A (ail (.ref a)) Q E s:=by
 unfold ail;refine wb (qN hT PySem.F.slot_set_len.lookup ?_);show aw _ A (H8 (.ref a) (.type "set") >>=_) _ _ _;refine wb (w5 hT QD ?_);show aw _ A (uG (.ref a) >>=_) _ _ _;exact wb (uF hT (aD k))
theorem V'{acc:Array Value}{ord:List (Int×Value)}(h:ItemsOf (λi v=>∃e,ord[i]? =aa e∧v=e.2) acc ord.length):acc.toList=ord.map (·.2):=agr λj=>by
 rw[jt,dv]
 cases q:acc[j]? with
 |none=>exact(md (h.1▸Array.getElem?_eq_none_iff.mp q):ord[j]? =af)▸rfl
 |some v=>exact aj (h.2 j v q) λe h1 h2=>h1▸h2▸rfl
theorem T7{prog:fD}{w:cE}{a L:au}{es:Array (Int×Value)}{ep:Nat}{t:c9}{R':wW→ak→Prop}(hh:A.handled=af)(ho:s.heap.get? a=aa (gB es ep t))(T:f9 t (es.toList.map (·.1)))
  (fT:t.led=!(w.params.followText "set-order")) (hsz:es.size≤cR) (hL:s.heap.get? L=aa {cls:=.type "list",data:=.seq #[] 0}) (I_:L≠a)
  (k:∀(s':ak) xs c (ys:List (Int×Value)),(∀b o,b≠L→s.heap.get? b=aa o→s'.heap.get? b=aa o)→s'.gens=s.gens→s'.os=s.os→s'.heap.get? L=aa {cls:=.type "list",data:=.seq xs c}→ys.Perm es.toList→xs.toList=ys.map (·.2)→R' (.ok (.ret (.ref L))) s'):
  ki (aR prog w) A (.builtin "list.__iadd__" ⟨[.ref L,.ref a],[]⟩) R' s:=by
 refine w6 PySem.F.entry_list_iadd ?_;rw[zT aim _];show aw _ A.in1 (ain (.ref L) (.ref a) (.ref L)) _ _ s;unfold ain;have hf:al6 (.ref L) (.ref a)=an:=k9.mpr I_;refine wb (uF (⟨_,ho,rfl⟩:s.TypeIs (.ref a) "set") (dU (by rw[hf];rfl) (wb (R9 ho T fT hsz λI tp hp d ord hk hI Uq S oQ=>wb (dM (abh ⟨_,hk _ _ ho,rfl⟩ ?_))))));show aw _ A.in1 (rule "list.extend.makes-room" >>=λ_=>al7 (.ref L) >>=λ_=>again (.builtin "list.extend.loop" ⟨[.ref L,.ref I,.ref L],[]⟩)) _ _ _;refine wb (jK (wb ?_));show aw _ A.in1 (updateSeq L (·.push .none) >>=λ_=>updateSeq L (·.pop)) _ _ _;have l2:=hk _ _ hL;have l3:=lf (mh (·.push eH)) l2 rfl;have lC:∀b o,b≠L→hp.get? b=aa o→((hp.update L (mh (·.push eH))).update L (mh (·.pop))).get? b=aa o:=λb o hb e=>(zO _ _ (Ne.symm hb)).trans ((zO _ _ (Ne.symm hb)).trans e);have sz:∀{x b},s.heap.objs.size≤x→∀{o},s.heap.get? b=aa o→b≠x:=λh _ e=>du (bI (jI e) h);have lE:=oQ.length_eq;have nL:L∉[I,a,tp]:=QL (sz hI hL) (QL I_ (QL (sz Uq hL) DE));refine wb (wpAny_updateSeq l2 rfl (wpAny_updateSeq l3 rfl (aD ⟨Ir PySem.F.plain_extend_loop _,codeAny_extend_loopS (Sv (sz hI ho) hh T fT lE) hsz L nL (.ref L) es.size 0 _ _ _ rfl (b_ _) (S.move λb hb o e=>lC b o (λz=>nL (z▸hb)) e) (lf (mh (·.pop)) l3 rfl) (ItemsOf.nil _) λs' acc c M l5 Eu=>?_⟩)));exact k s' acc c ord (λb o hb e=>M.heap b o (λh=>(dE.mp h).elim hb λh=>sz hI e (bS.mp h)) (lC b o hb (hk b o e))) M.gens.symm M.os l5 oQ (V' (lE.symm▸Eu))
theorem VB{E:Value→ak→Prop}{prog:fD}{w:cE}{a:au}{es:Array (Int×Value)}{ep:Nat}{t:c9}(hh:A.handled=af)(ho:s.heap.get? a=aa (gB es ep t))(T:f9 t (es.toList.map (·.1)))
  (fT:t.led=!(w.params.followText "set-order")) (hsz:es.size≤cR) {Q:List Value→ak→Prop}
  (k:∀(s':ak) (ys:List (Int×Value)),(∀b o,s.heap.get? b=aa o→s'.heap.get? b=aa o)→s'.gens=s.gens→s'.os=s.os→ys.Perm es.toList→Q (ys.map (·.2)) s'):aw (aR prog w) A (collect (.ref a)) Q E s:=by
 unfold collect;refine wb (Qo (w6 PySem.F.entry_proto_collect ?_));rw[zT PySem.F.plain_proto_collect _];show aw _ A.in1 (newList [] >>=λl=>again (.builtin "list.__iadd__" ⟨[l,.ref a],[]⟩)) _ _ s;refine wb (sF (aD ⟨Ir aim _,T7 (s:={s with heap:=_}) hh (dT _ ho) T fT hsz (fP _ rfl) (dG (jI ho)) λs' xs c ys h1 g o h2 hp hx=>?_⟩));show aw _ A (load s.heap.objs.size >>=_) _ _ _;exact wb (wpAny_load h2 (aD (hx.symm▸k s' ys (λb o e=>h1 b o (du (jI e)) (dT _ e)) g o hp)))
theorem cq.inv{w:cE}{e:Int×Value}{l:List (Int×Value)}{C:Prop}{vs:List SV}(h:cq w P m vs (e::l))(k:∀v us,vs=v::us→e.1=bZ w v→VR P m v e.2→cq w P m us l→C):C:=by
 cases vs with
 |nil=>exact jC h
 |cons v us=>exact gK h λy r q h1 h2 h3=>k v us rfl ((lw q).1▸h1) ((lw q).1▸h2) ((lw q).2▸h3)
theorem cq.perm{w:cE}{ys es:List (Int×Value)}(hp:ys.Perm es):∀{vs:List SV},cq w P m vs es→∃a5,a5.Perm vs∧cq w P m a5 ys:=by
 induction hp with
 |nil=>exact λ{vs} H=>⟨vs,.refl _,H⟩
 |cons x _ ih=>exact λ{vs} H=>H.inv λv us e h1 h2 h3=>aj (ih h3) λa5 q1 q2=>e▸⟨v::a5,q1.cons v,_,_,rfl,h1,h2,q2⟩
 |swap x y l=>exact λ{vs} H=>H.inv λv us e h1 h2 h3=>h3.inv λu ws e' h4 h5 h6=>e▸e'▸⟨u::v::ws,.swap v u ws,_,_,rfl,h4,h5,_,_,rfl,h1,h2,h6⟩
 |trans _ _ τ ZA=>exact λ{vs} H=>aj (ZA H) λv1 p1 H1=>aj (τ H1) λv2 p2 H2=>⟨v2,p2.trans p1,H2⟩
theorem cq.vals{w:cE}{vs:List SV}:∀{es:List (Int×Value)},cq w P m vs es→aO P m vs (es.map (·.2)):=by
 induction vs with
 |nil=>exact λh=>h▸rfl
 |cons v vs ih=>exact λh=>gK h λy r e _ h2 h3=>e▸⟨_,_,rfl,h2,ih h3⟩
noncomputable def EJ:SV→SV→Bool
 |.int a,.int c=>decide (a<c)
 |.str a,.str c=>decide (a.cps.toList<c.cps.toList)
 |_,_=>an
noncomputable def lR:SV→SV→Bool
 |.tup [x,y],.tup [x',y']=>if x=x' then(if y=y' then an else EJ y y') else EJ x x'
 |_,_=>an
def AK(κ:Bool)(x:SV):Prop:=match κ with
 |true=>∃a:Int,x=.int a
 |false=>∃a:Str,x=.str a
def PK(κ:Bool)(v:SV):Prop:=∃x y,v=.tup [x,y]∧AK κ x∧AK κ y
noncomputable def Ho(κ:Bool):String:=match κ with
 |true=>"int"
 |false=>"str"
theorem AK.data{κ:Bool}{x:SV}(h:AK κ x)(n:Nat):SV.data n x=ab:=by
 cases κ with
 |true=>exact xE h λa e=>e▸by cases n<;>rfl
 |false=>exact xE h λa e=>e▸by cases n<;>rfl
theorem AK.ty{κ:Bool}{x:SV}{p:Value}(h:AK κ x)(hp:VR P m x p):uG p=pure (.type (Ho κ)):=by
 cases κ with
 |true=>exact xE h λa e=>xE (e▸hp:VR P m (.int a) p) λt q=>q▸rfl
 |false=>exact xE h λa e=>xE (e▸hp:VR P m (.str a) p) λt q=>q▸rfl
theorem pairAt(R:Rel G F b own ae A P m fr h s){x y:SV}{C:Value→Prop}(k:∀(a:au) (o:Obj) (p q:Value) (n:Nat),s.heap.get? a=aa o→o.cls=.type "tuple"→o.data=.seq #[p,q] n→VR P m x p→VR P m y q→C (.ref a)){v:Value}(hv:VR P m (.tup [x,y]) v):C v:=
 bP (R.nM hv) λa items e T hV=>xf T λo ho hc n hd=>bP hV λp r e1 hp hV=>bP hV λq r' e2 hq e3=>
  e▸k a o p q n ho hc (hd.trans (ay (Data.seq · n) (Ix.mp (e1.trans (ay (p::·) (e2.trans (ay (q::·) e3))))))) hp hq
theorem NM{κ:Bool}{E:Value→ak→Prop}{x y:SV}{p q:Value}(hx:AK κ x)(hy:AK κ y)(hp:VR P m x p)(hq:VR P m y q)(fl:Bool){Q:Bool→ak→Prop}(k:Q (EJ x y) s):
  aw (aR G.prog G.w) A' (oneLt' fl p q) Q E s:=by
 cases κ with
 |true=>
  refine xE hx λa e=>xE hy λc e'=>xE (e▸hp:VR P m (.int a) p) λt z=>xE (e'▸hq:VR P m (.int c) q) λu z'=>?_;rw[e,e'] at k;exact z▸z'▸(match fl with|true=>oneLt_int k|false=>kat_one _ _ (PySem.P.lt_int k))
 |false=>
  refine xE hx λa e=>xE hy λc e'=>xE (e▸hp:VR P m (.str a) p) λt z=>xE (e'▸hq:VR P m (.str c) q) λu z'=>?_;rw[e,e'] at k;exact z▸z'▸(match fl with|true=>oneLt_str k|false=>kat_one _ _ (PySem.P.lt_str k))
theorem aab{κ:Bool}(R:Rel G F b own ae A P m fr h s)(hu:A'.units+1<ez){v v':SV}{x x':Value}(hk:PK κ v)(dW:PK κ v')(hv:VR P m v x)(fB:VR P m v' x'){C:Bool→ak→Prop}(k:C (lR v v') s):
  aw (aR G.prog G.w) A' (keyLt' (tuples' ab) x x') C (λ_ _=>False) s:=by
 refine bP hk λx1 y1 e a1 c1=>bP dW λx2 y2 e' a2 c2=>?_;rw[e,e'] at k;have u0:=oy hu;refine pairAt R (C:=λx=>aw (aR G.prog G.w) A' (keyLt' (tuples' ab) x x') C (λ_ _=>False) s) (λa o p q n ho _ hd hp hq=>pairAt R (C:=λx=>aw (aR G.prog G.w) A' (keyLt' (tuples' ab) (.ref a) x) C (λ_ _=>False) s) (λa' o' p' q' n' Zo _ vP bX ga=>
  kat_lt ho hd Zo vP (kat_cons (Rel.vZ R 0 hp bX (a1.data 0) (a2.data 0) u0 _ _ _ _ (kat_go (λe=>kat_yes (kat_cons (Rel.vZ R 0 hq ga (c1.data 0) (c2.data 0) u0 _ _ _ _ (kat_go (λe'=>kat_yes (kat_nil ?_)) λe'=>kat_no (NM c1 c2 hq ga _ ?_))))) λe=>kat_no (NM a1 a2 hp bX _ ?_))))) (e'▸fB)) (e▸hv)
 ·show C an s
  exact((aP (fC e)).trans (aP (fC e')):lR (.tup [x1,y1]) (.tup [x2,y2])=_)▸k
 ·exact((aP (fC e)).trans (aK (sk e')):lR (.tup [x1,y1]) (.tup [x2,y2])=_)▸k
 ·exact(aK (sk e):lR (.tup [x1,y1]) (.tup [x2,y2])=_)▸k
def uC(vs:List SV):Prop:=∃κ,∀v∈vs,PK κ v
theorem aci(R:Rel G F b own ae A P m fr h s){κ:Bool}{vs:List SV}:∀{vals:List Value},aO P m vs vals→(∀v∈vs,PK κ v)→
  ∃fs,KatTups s.heap vals fs∧fs.length=vals.length∧∀f∈fs,uG f=pure (.type (Ho κ)):=by
 induction vs with
 |nil=>exact λh _=>h▸⟨[],.nil,rfl,λf hf=>cT hf⟩
 |cons v vs ih=>
  refine λh hv=>bP h λx r e h1 h2=>bG (ih h2 λu hu=>hv u (.tail _ hu)) λfs f1 f2 f3=>bP (hv v (.head _)) λx1 y1 e1 a1 _=>?_;exact e▸pairAt R (C:=λx=>∃fs,KatTups s.heap (x::r) fs∧fs.length=(x::r).length∧∀f∈fs,uG f=pure (.type (Ho κ))) (λa o p q n ho hc hd hp _=>⟨p::fs,.cons ho hc hd rfl f1,ay HF f2,λf hf=>(dE.mp hf).elim (λz=>z▸a1.ty hp) (f3 f)⟩) (e1▸h1)
theorem aO.pick{vs:List SV}{vals:List Value}(hX:aO P m vs vals){l:List Nat}(hl:∀i∈l,i<vs.length):aO P m (l.map λi=>vs.getD i .none) (l.map λi=>vals.getD i .none):=by
 induction l with
 |nil=>exact rfl
 |cons i l ih=>
  have hi:=fb (hl i (.head _));refine aj (hX.get hi) λw q1 q2=>⟨_,_,rfl,?_,ih λj hj=>hl j (.tail _ hj)⟩;show VR P m (vs.getD i .none) (vals.getD i .none);rw[pn,pn,q1,hi];exact q2
theorem QM{α:Type}(l:List α)(d:α):(bo l.length).map (λi=>l.getD i d)=l:=List.ext_getElem (by rw[aI _,dS]) λi h1 h2=>by
 rw[List.getElem_map _,List.getElem_range _,pn,fb h2];rfl
theorem TG{α:Type}(lt:Nat→Nat→Bool)(l:List α)(d:α):(p8 lt l d).Perm l:=by
 unfold p8;exact if h:l.length<2 then(aP h).symm▸.refl _ else(aK h).symm▸(((BQ (bI wM (pg h))).ev lt).map _).trans (.of_eq (QM l d))
theorem adq{lt:Nat→Nat→Bool}{key:SV→Int}{l:List SV}(hl:∀i j,i<l.length→j<l.length→lt i j=decide (key (l.getD i .none) <key (l.getD j .none)))(nd:(l.map key).Nodup):(p8 lt l .none).Pairwise (λx y=>key x<key y):=by
 unfold p8
 by_cases h2:l.length<2
 ·rw[aP h2]
  cases l with
  |nil=>exact .nil
  |cons x l=>cases l with
   |nil=>exact ko _ _
   |cons y l=>exact bc h2 (ma (lu 2 _))
 ·rw[aK h2]
  have n0:=bI wM (pg h2);have r:=BQ n0;rw[r.Sq hl];have p:=r.ev (λi j=>decide (key (l.getD i .none) <key (l.getD j .none)));have A:=XJ (key:=λi=>key (l.getD i .none)) (n:=l.length) (by have:=ay (Iq key) (QM l .none);rw[pi] at this;exact this.symm▸nd) n0;generalize ev (λi j=>decide (key (l.getD i .none) <key (l.getD j .none))) (z7 l.length)=q at p A ⊢;refine wQ.mpr (PM.mpr λi j hi hj vO=>?_);have z:∀{i} (hi:i<q.size),q.getD i 0=q[i]:=λhi=>dif_pos hi;have:=A.at sv vO (p.size▸hj);unfold KP at this;rw[z hi,z hj] at this;exact this
theorem Jg{src:Value}(R:Rel G F b own ae A P m fr h s){n:Nm}{vs:List SV}{Q' E':Value→ak→Prop}
  (Τ:∀Q:List Value→ak→Prop,(∀(s':ak) iJ vals,(∀b o,s.heap.get? b=aa o→s'.heap.get? b=aa o)→s'.gens=s.gens→s'.os=s.os→iJ.Perm vs→aO P m iJ vals→Q vals s')→aw (aR G.prog G.w) A.in1 (collect src) Q E' s)
  (pW:uC vs) (iN:vs.length<64) (hn:h n=af)
  (k:∀(s':ak) out D,Rel G F b own ae A P (m.set n (D,D)) fr (h.set n (.list out)) s'→m.le (m.set n (D,D))→out.Perm vs→(∀key:SV→Int,(∀x∈vs,∀y∈vs,lR x y=decide (key x<key y))→(vs.map key).Nodup→out.Pairwise (λx y=>key x<key y))→Q' (.ref D) s'):
  aw (aR G.prog G.w) A (pv (.builtin "sorted") [src]) Q' E' s:=by
 have hun:=R.units;refine ahu kind_sorted plain_sorted entry_sorted (args_sorted1 _) ?_;unfold Builtin.«sorted»;refine wb (m:=checkCount "sorted" 1 1 _) (aD (wb (Τ _ λaZ iJ vals hk hg ho oQ hX=>?_)));have vY:iJ.length=vals.length:=hX.length;have c7:vals.length<64:=vY▸oQ.length_eq▸iN;have a6:=R.grow hk hg ho;have KH:(aZ.heap.push (ky "list" vals.toArray 0)).get? aZ.heap.objs.size=aa (ky "list" vals.toArray 0):=fP _ rfl;refine wb (wpAny_newList (wb (dM (i5 slot_list_sort ⟨_,KH,rfl⟩ entry_list_sort ?_ (args_list_sort _)))) (ah (cj c7) aJ));have keep:∀{bX:cO},(∀b o,b≠aZ.heap.objs.size→(aZ.heap.push (ky "list" vals.toArray 0)).get? b=aa o→bX.get? b=aa o)→∀b o,aZ.heap.get? b=aa o→bX.get? b=aa o:=λdW b o e=>dW b o (du (jI e)) (dT _ e);have gD:∀{i},i<vals.length→iJ.getD i .none∈vs∧VR P m (iJ.getD i .none) (vals.getD i .none):=λ{i} hi=>by
  have e:=fb (vY.symm▸hi:i<iJ.length);refine aj (hX.get e) λx e1 e2=>?_;rw[pn,pn,e,e1];exact⟨oQ.mem_iff.mp (List.getElem_mem _),e2⟩
 refine xE pW λκ hP=>Va (s:={aZ with heap:=aZ.heap.push (ky "list" vals.toArray 0)}) (lt:=λi j=>lR (iJ.getD i .none) (iJ.getD j .none)) (κ:=tuples' ab) KH c7 (λbX dW h2 Q hQ=>?_) (λbX dW i j C hi hj hC=>?_) λbX out c dW ha Xk=>?_
 ·have R':=a6.grow (s':={aZ with heap:=bX}) (keep dW) rfl rfl
  exact bG (aci R' hX λv hv=>hP v (oQ.mem_iff.mp hv)) λfs f1 f2 f3=>kat_kind f1 (f2.symm▸bI wM h2) (λf hf=>Looks.of_pure (f3 f hf)) (by cases κ<;>rfl) (by cases κ<;>exact hQ)
 ·unfold kas_ask
  exact aab (a6.grow (s':={aZ with heap:=bX}) (keep dW) rfl rfl) (show A.units+1+1+1<ez from bd (e6 (aJ:3≤8) A.units) R.room) (hP _ (gD hi).1) (hP _ (gD hj).1) (gD hi).2 (gD hj).2 hC
 ·have hV:aO P m (p8 (λi j=>lR (iJ.getD i .none) (iJ.getD j .none)) iJ .none) out.toList:=by
   rw[Xk];unfold p8;rw[vY];exact if h2:vals.length<2 then(aP h2).symm▸(aP h2).symm▸hX else(aK h2).symm▸(aK h2).symm▸hX.pick λi hi=>vY.symm▸dR.mp (((BQ (bI wM (pg h2))).ev _).mem_iff.mp hi)
  refine xA (a6.alloc hn (so:=.list (p8 (λi j=>lR (iJ.getD i .none) (iJ.getD j .none)) iJ .none)) (ad:=(aZ.heap.objs.size,aZ.heap.objs.size)) (s':={aZ with heap:=bX}) (keep dW) rfl rfl (ar _) (ar _) ⟨rfl,out,c,ha,aO.mono aV.le.rfl.t (Aa (R.dom n hn)) _ hV⟩) λbk le=>?_;exact⟨_,rfl,aD ⟨_,rfl,k _ _ _ bk le ((TG (λi j=>lR (iJ.getD i .none) (iJ.getD j .none)) iJ .none).trans oQ) λkey FW nd=>adq (λi j hi hj=>FW _ (gD (vY▸hi)).1 _ (gD (vY▸hj)).1) ((oQ.map key).nodup_iff.mpr nd)⟩⟩
theorem Yp{u:SV}{vs:List SV}{n:Nm}{Q:QV}{X:QX}(hu:de G h u vs)(pW:uC vs)(iN:vs.length<64)(hn:h n=af)
  (hq:∀out:List SV,out.Perm vs→(∀key:SV→Int,(∀x∈vs,∀y∈vs,lR x y=decide (key x<key y))→(vs.map key).Nodup→out.Pairwise (λx y=>key x<key y))→Q (.ref n) (h.set n (.list out))):WC G F b fr h (.bi "sorted") [u] Q X:=by
 refine .mk λown ae A P m s Q' E' f' a5 R hf hv c d=>hf▸bP hv λu' r e kQ e'=>e▸e'▸bP (R.jp hu kQ) λa xs e2 hL hX=>e2▸?_;refine Jg R (λQ hQ=>?_) pW iN hn λs' out D bk le h1 h2=>c _ _ _ _ _ _ (hq out h1 h2) .rfl le ⟨_,Mu.i9,rfl⟩ bk;exact collect_list (vs:=xs.toList) (by rw[ahg];exact hL) (hQ _ vs xs.toList (λb o e=>(zO _ _ (dG (jI e))).trans (dT _ e)) rfl rfl (.refl _) hX) (ah (cj (hX.length▸iN)) aJ)
theorem Q7{Q:QV}{X:QX}(id:String){n:Nm}{vs:List SV}(hn:h n=aa (.set vs))(k:∀{own ae A P m s} {Q' E':Value→ak→Prop} {a:au} {es:Array (Int×Value)} {ep:Nat} {t:c9},Rel G F b own ae A P m fr h s→s.heap.get? a=aa (gB es ep t)→f9 t (es.toList.map (·.1))→cq G.w P m vs es.toList→t.led=!(G.w.params.followText "set-order")→
  lI G F b fr own ae A P m Q Q'→aw (aR G.prog G.w) A (pv (.builtin id) [.ref a]) Q' E' s):WC G F b fr h (.bi id) [.ref n] Q X:=by
 refine .mk λown ae A P m s Q' E' f' a5 R hf hv c d=>hf▸bP hv λu' r e kQ e'=>e▸e'▸aj kQ λad hm e2=>e2▸?_;refine aj (R.obj n _ hn) λbT q1 q=>aY (q1.symm.trans hm)▸?_;exact q.2.elim λes q=>q.elim λep q=>q.elim λt q=>k R q.1 q.2.1 q.2.2.1 q.2.2.2.2.2 c
theorem aeb{ns n:Nm}{vs:List SV}{Q:QV}{X:QX}(hF:F.q=ab)(hs:h ns=aa (.set vs))(pW:uC vs)(iN:vs.length<64)(hn:h n=af)
  (hq:∀out:List SV,out.Perm vs→Q (.ref n) (h.set n (.list out))):WC G F b fr h (.bi "sorted") [.ref ns] Q X:=
 Q7 "sorted" hs λR ho T H fT c=>Jg R (λQ hQ=>VB (by exact R.quiet hF) ho T fT (ah (cj (H.length▸iN)) aJ) λs' ys hk hg um oQ=>aj (cq.perm oQ H) λa5 p1 H'=>hQ s' a5 _ hk hg um p1 H'.vals) pW iN hn
  λs' out D bk le h1 h2=>c _ _ _ _ _ _ (hq out h1) .rfl le ⟨_,Mu.i9,rfl⟩ bk
theorem Td{n:Nm}{vs:List SV}{Q:QV}{X:QX}(hn:h n=aa (.set vs))(hz:vs.length<1000)(hq:Q (.int vs.length) h):WC G F b fr h (.bi "len") [.ref n] Q X:=by
 refine Q7 "len" hn λ{_ _ _ _ _ _ _ _ a es ep t} R ho T H fT c=>?_;have hl:vs.length=es.size:=H.length;rw[hl] at hq;exact call_len_set ho ⟨rfl,rfl,rfl⟩ rfl T.fits (ib.mpr (i4 (hl▸hz) bg)) (c _ _ _ _ _ _ hq .rfl .rfl ⟨_,rfl⟩ (R.tok _))
section
open Builtin Builtin.Str
theorem WL{prog:fD}{w:cE}{A:dZ}{E:Value→ak→Prop}{s:ak}(x:Str)(hx:x.length≤1000000)(t u:Tok){Q:Fin→ak→Prop}
  (k:∀t' tk,Q (.done (.ret (.str (x++d5 " -> <empty>") t'))) {s with toks:=tk}):
  aw (aR prog w) A (Builtin.«str.__mod__» ⟨[.str ⟨#[37,115,32,45,62,32,60,101,109,112,116,121,62]⟩ t,.str x u],[]⟩) Q E s:=by
 rw[KPc.entry_is_s];unfold Builtin.Str.percentFormat;refine wb (w5 (T:="str") (typeIs_str s x u) F.sub_str_tuple ?_);refine wb (qL (a:=aa x) rfl ?_);refine wb (KPc.wp_fills_str ?_);intro _
 kpc_if
 refine wb (aD ?_);refine wb ?_;rw[KPc.range_list _ _ _];refine KPc.start ?_;intro _ _
 kpt_turns
end
section
open Builtin Builtin.Str
theorem aO.strs{P:aV}{m:Mu}:∀{ys:List Str} {vs:List Value},aO P m (ys.map .str) vs→StrsAre vs ys
 |[],_,h=>by obtain rfl:=h;exact .nil
 |y::ys,_,h=>by obtain⟨x,r,rfl,⟨t,rfl⟩,h3⟩:=h;exact .cons y t (aO.strs h3)
theorem aO.reads{P:aV}{m:Mu}(hp:cO):∀{ys:List Str} {vs:List Value},aO P m (ys.map .str) vs→ReadsAll hp vs (ys.map .str) []
 |[],_,h=>by obtain rfl:=h;exact .nil
 |y::ys,_,h=>by obtain⟨x,r,rfl,⟨t,rfl⟩,h3⟩:=h;exact .cons (.str y t) (aO.reads hp h3)
theorem noDict:∀ys:List Str,QN (ys.map .str)=an
 |[]=>by simp only[DN,QN]
 |y::ys=>by simp only[sI,QN,aio];rw[noDict ys];rfl
theorem Je:∀ys:List Str,QO (ys.map .str)=0
 |[]=>by simp only[DN,QO]
 |y::ys=>by simp only[sI,QO,aip];rw[Je ys];rfl
theorem abv{x:Str}{ys:List Str}{Q:QV}{X:QX}(qz:(ys.map (·.length)).sum+ys.length*x.length≤16777216)(hq:Q (.str (z8 x ys)) h):WC G F b fr h (.bi "str.join") [.str x,.tup (ys.map .str)] Q X:=by
 first|refine jO ?_|refine jP ?_
 intro own ae A P m s Q' E' a5 R hv c d;refine gu hv λx' u' zA hu=>?_
 first|refine nc zA λt=>?_|refine pG zA λt=>?_
 refine bP (R.sd hu) λa xs ax hL hX=>?_;subst ax;exact join_tuple hL hX.strs qz λt' k=>c _ _ _ _ _ _ hq .rfl .rfl ⟨_,rfl⟩ (R.tok k)
theorem Xd{x:Str}{Q:QV}{X:QX}(hx:x.length≤1000)(hq:Q (.str (x++d5 " -> <empty>")) h):
  WO G F b fr h [.str (d5 "%s -> <empty>"),.str x] (bv (m7 .Mod)) Q X:=by
 refine .mk ?_;intro own ae A P m s Q' E' a5 R d6 c d;refine gu d6 λf p zA zB=>?_
 first|refine nc zA λt=>?_|refine pG zA λt=>?_
 first|refine nc zB λt1=>?_|refine pG zB λt1=>?_
 refine KPc.mod_str (T:=λz=>z++d5 " -> <empty>") (X':=⟨#[37,115,32,45,62,32,60,101,109,112,116,121,62]⟩) (by decide +kernel) (ah ‹_› aJ) (λz hz=>KPc.meets_of λprog w A s Q E hq=>WL z hz _ _ λt' tk=>hq t' tk) λt' k=>c _ _ _ _ _ _ hq .rfl .rfl ⟨_,rfl⟩ (R.tok k)
end
noncomputable def iI(e:Expr):Bool:=e.ctorIdx !=22
theorem IQ{e:Expr}(h:iI e=ab)(es:List Expr)(ae:Env):gh (e::es) ae=(an,d9 e ae)::gh es ae:=by
 refine @wU (λe=>iI e=ab→gh (e::es) ae=(an,d9 e ae)::gh es ae) e ?_ ?_ ?_ ?_ ?_ ?_ ?_ ?_ ?_ ?_ ?_ ?_ ?_ ?_ ?_ ?_ ?_ ?_ ?_ ?_ ?_ ?_ ?_ ?_ ?_ ?_ ?_ h<;>(intros;first|rfl|exact cJ ‹_›)
theorem x_:∀{args:List Expr},args.all iI=ab→∀(pos:Pos) (ae:Env),(jv pos (gh args ae)).any (·.1)=an
 |[],_,pos,ae=>rfl
 |e::es,h,pos,ae=>by
  rw[DH,bO] at h;rw[IQ h.1 _ _];show(an||(jv pos (gh es ae)).any (·.1))=an;exact x_ h.2 pos ae
theorem KO(x:Str)(p pos:Pos)(args:List Expr)(ae:Env):d9 (.Call (.Name x p) args [] pos) ae=(do wX pos (←d9 (.Name x p) ae) [] (jv pos (gh args ae)) []):=rfl
def aez(o:Expr)(name:Str)(ap pos:Pos)(args:List Expr):Prop:=∀ae:Env,∃pl,d9 (.Call (.Attribute o name ap) args [] pos) ae=(do
   let ov ←d9 o ae
   kh ap.atName
   let(f,first) ←ju [ov] (getMethod ov name pl)
   wX pos f first (jv pos (gh args ae)) [])
theorem mf{o:Expr}{name:Str}{ap pos:Pos}{args:List Expr}(hb:∀(ae:Env) w,uy o name ae w=w)(hs:args.all iI=ab)(hl:(ap.endLine==pos.line && decide (args.length<20))=ab):aez o name ap pos args:=λae=>by
 rw[bO,h_] at hl;refine⟨do return (←importBound o ae).getD ab,?_⟩;have e0:d9 (.Call (.Attribute o name ap) args [] pos) ae=(do
  let ov ←uy o name ae (d9 o ae)
  kh ap.atName
  methodCall o name ap pos ae ov (args.length+0) (jv pos (gh args ae)) (backToKw pos (keywordEach [] ae))):=rfl
 rw[e0,hb _ _];have ti:methodCallForm (args.length+0) (jv pos (gh args ae)) (backToKw pos (keywordEach [] ae))=ab:=by
  unfold methodCallForm;have h1:=x_ hs pos ae;have h2:(jv pos (gh args ae)).all (λx=>!x.1)=ab:=by
   rw[propext dc];intro x hx;rw[List.any_eq_false] at h1
   simpa using h1 x hx
  rw[h2];show(ab && ab && decide (args.length+0+0<30))=ab;simp;exact bI hl.2 aJ
 unfold methodCall calleeOf methodCallPos;simp only[ti,if_true,aih,Bool.false_or,hl.1,pure_bind];rfl
theorem ue{e:Expr}{es:List Expr}{Q:List SV→SH→Prop}(w:WE G F b fr h e (λv ag=>jY G F b fr ag es (λvs aC=>Q (v::vs) aC) X) X)(hs:autoParam (iI e=ab) bl):jY G F b fr h (e::es) Q X:=
 X8 (IQ hs es) w
theorem Lx{x:Str}{p pos:Pos}{args:List Expr}{f:SV}{Q:QV}(hg:jm G x f)(hl:F.sc.names.lookup x=aa .globalImplicit)(hc:callable G f=ab)
  (w:jY G F b fr h args (λvs aC=>WC G F b fr aC f vs Q X) X) (hd:autoParam ((x==("__debug__":Str))=an) dH) (hs:autoParam (args.all iI=ab) bl):WE G F b fr h (.Call (.Name x p) args [] pos) Q X:=
 call (KO x p pos args) (x_ hs pos) (Ew hg hl hd ⟨hc,w⟩)
theorem NV{o:Expr}{name:Str}{gJ pos:Pos}{args:List Expr}{Q:QV}
  (w:WE G F b fr h o (λu ag=>∃f,callable G f=ab∧GM G F b fr ag u name f∧jY G F b fr ag args (λvs aC=>WC G F b fr aC f (u::vs) Q X) X) X)
  (hb:∀(ae:Env) w,uy o name ae w=w:=by intro _ _;rfl) (hs:autoParam (args.all iI=ab) bl) (hl:autoParam ((gJ.endLine==pos.line && decide (args.length<20))=ab) bl):
  WE G F b fr h (.Call (.Attribute o name gJ) args [] pos) Q X:=Sd (mf hb hs hl) (x_ hs pos) w
noncomputable def cr(F:FD)(l:List Str):Bool:=l.all λx=>tf F x && qv F x && !(x==("__debug__":Str))
theorem cr.v{F:FD}{l:List Str}(V:cr F l=ab){x:Str}(hx:l.contains x=ab):tf F x=ab∧qv F x=ab∧(x==("__debug__":Str))=an:=by
 have p:=(bO _ _).mp (dc.mp V x (e9.mp hx));have q:=(bO _ _).mp p.1;exact⟨q.1,q.2,(jL _).mp p.2⟩
variable{l:List Str}
theorem nv{x:Str}{pos:Pos}{v:SV}{Q:QV}{X:QX}(V:cr F l=ab)(hx:fr.lookup x=aa v)(hq:Q v h)(hl:autoParam (l.contains x=ab) bl):WE G F b fr h (.Name x pos) Q X:=Ow hx (cr.v V hl).1 (cr.v V hl).2.2 hq
theorem oH{x:Str}{pos:Pos}{v:SV}{Q:QF}{X:dP}(V:cr F l=ab)(hq:Q (fr.put x v) h)(hl:autoParam (l.contains x=ab) bl):WA G F b fr h (.Name x pos) v Q X:=Ov (cr.v V hl).2.1 hq
noncomputable def stN:List bx→Nat→bx
 |[],_=>.Pass ⟨0,0,0,0⟩
 |s::_,0=>s
 |_::r,n+1=>stN r n
noncomputable def kS:bx→List bx×List bx×Option Expr×cb
 |.FunctionDef _ _ b _ _ _ sc _ _ _=>(b,[],af,sc)
 |.ClassDef _ _ _ b _ _ _ _ _ _ _=>(b,[],af,default)
 |.While _ b o _=>(b,o,af,default)
 |.For _ e b o _=>(b,o,aa e,default)
 |.If e b o _=>(b,o,aa e,default)
 |.Try b _ _ _ _=>(b,[],af,default)
 |.Return e _=>([],[],e,default)
 |.Assign _ e _=>([],[],aa e,default)
 |_=>([],[],af,default)
noncomputable def ML(s:bx):List bx:=(kS s).1
noncomputable def Xe(s:bx):cb:=(kS s).2.2.2
noncomputable def Xs:List (Nat×Nat×Option Nat):=[(39,4,af),(62,7,aa 2),(83,7,aa 5),(118,8,aa 0),(146,9,af),(172,11,aa 0),(201,11,aa 4),(209,11,aa 5),(258,11,aa 12),(265,11,aa 13),(273,11,aa 14),(280,11,aa 15),
 (318,15,af),(333,16,aa 0),(340,16,aa 1),(347,16,aa 2),(354,16,aa 3),(424,16,aa 13),(438,18,af),(446,20,af),(453,21,af),(458,22,af),(463,23,af),(468,24,af),(473,25,af),(478,26,af)]
noncomputable def K9(a:au):bx:=match Xs.lookup a with
 |some (i,af)=>stN PySem.Challenge.pw_te0019_03.main.body i
 |some (i,aa j)=>stN (ML (stN PySem.Challenge.pw_te0019_03.main.body i)) j
 |none=>.Pass ⟨0,0,0,0⟩
noncomputable def ba(a:au):List bx:=ML (K9 a)
noncomputable def cg(a:au):cb:=Xe (K9 a)
noncomputable def abp(x:Str):Data→Option (Option Value)
 |.dict es _=>getL x es.toList
 |_=>af
noncomputable def xO(K:Frag)(x:Str):Option (Option Value):=(K.lookup uw).bind λo=>abp x o.data
theorem Zx{x:Str}{es:List dL}{r:Option Value}(h:getL x es=aa r):(es.find? λe=>e.key.isStr x).map (·.val)=r:=by
 unfold getL at h
 cases q:es.find? (λe=>e.key.isStr x) with
 |some y=>rw[q] at h;exact aY h
 |none=>
  rw[q] at h;exact if z:es.any (·.refKey)=ab then a7 ((aP z).symm.trans h) else aY ((aK z).symm.trans h)
theorem mg_of{G:Gl}{x:Str}{r:Option Value}(hl:xO G.K x=aa r):G.mg x=r:=
 aj (Option.bind_eq_some_iff.mp hl) λo e hd=>Gk G.g λo' es ep h1 h2 h3=>by
  obtain rfl:=aY ((G.f7 uw o e).symm.trans h1);rw[h2] at hd;rw[←h3.2 x];exact(ay (ph DictEntry.val) Array.find?_toList.symm).trans (Zx hd)
noncomputable def uS:Value→Tok
 |.int _ t=>t
 |.str _ t=>t
 |_=>0
noncomputable def tokOf(o:Option (Option Value)):Tok:=uS ((o.getD af).getD .none)
noncomputable def xW:Data→Nat→Value
 |.seq xs _,i=>xs.getD i .none
 |_,_=>.none
noncomputable def Zp:Data→Nat
 |.seq _ n=>n
 |_=>0
noncomputable def Fw:List (Str×au):=[("_place",318),("_is_identifier",39),("rightmost_terminal",146),("Production",100),("LRItem",135),("Grammar",283),("LRGeneratedTable",427),("_law_NAMES",438),("_law_SYMBOLS",439),("_law_ASKED",446),("_law_next",453),("_law_rule",458),("_law_corners",463),("_law_added",468),("_law_told",473)]
noncomputable def s6:List String:=["len","all","any","sorted"]
noncomputable def t7:List String:=["tuple","list","set","range","enumerate","IndexError","KeyError"]
noncomputable def zz:List (au×List Str):=[(100,["name","prod","number","func","callable","file","line","prec","len","usyms","lr_items","lr_next","str","lr0_added","reduced"]),(135,["name","prod","number","lr_index","lookaheads","len","usyms","lr_after","lr_before","lr_next"]),
 (283,["Productions","Prodnames","Prodmap","Terminals","Nonterminals","First","Follow","Precedence","UsedPrecedence","Start"]),
 (427,["grammar","lr_method","lr_action","lr_goto","lr_productions","lr_goto_cache","lr0_cidhash","_add_count","sr_conflict","rr_conflict","conflicts","sr_conflicts","rr_conflicts"])]
noncomputable def FH:List (au×au):=[(100,62),(135,118),(283,172),(427,333)]
noncomputable def Gr:List (au×Str×au):=[(283,"add_production",201),(283,"set_start",209),(283,"_first",258),(283,"compute_first",265),(283,"compute_follow",273),(283,"build_lritems",280),(427,"lr0_closure",340),(427,"lr0_goto",347),(427,"lr0_items",354),(427,"lr_parse_table",424)]
noncomputable def M4:List au:=[39,62,83,118,146,172,201,209,258,265,273,280,318,333,340,347,354,424,438,446,453,458,463,468,473,100,135,283,427]
noncomputable def F8:List au:=[100,135,283,427]
noncomputable def wt:List Str:=["lr0_added","reduced"]
noncomputable def zt(K:Frag)(a:Str):Value:=.int 0 (tokOf (ie K (.ref 100) a))
noncomputable def VV(K:Frag)(o:Obj):Obj:={o with cls:=.type "list",data:=.seq #[.str "a" (uS (xW o.data 0)),.str "A" (uS (xW o.data 1)),.str "b" (uS (xW o.data 2)),.str "B" (uS (xW o.data 3)),.str "error" (uS (xW o.data 4))] (Zp o.data)}
structure KC(K:Frag):Prop where
 GG:xO K "_IDENTIFIER"=aa (aa (.str "abcdefghijklmnopqrstuvwxyzABCDEFGHIJKLMNOPQRSTUVWXYZ0123456789_-" (tokOf (xO K "_IDENTIFIER"))))
 sym:K.lookup 439=aa (VV K ((K.lookup 439).getD {cls:=.none,data:=.plain}))
 refs:Fw.map (λx=>xO K x.1)=Fw.map λx=>aa (aa (.ref x.2))
 boot:(s6++t7).map (λx:String=>xO K x)=(s6++t7).map λ_=>aa af
 cls:F8.map (λC=>(zM K C "",Ds K C,ie K (.ref C) "__setattr__",HM K C))=F8.map λ_=>(ab,ab,aa (aa (.builtin "object.__setattr__")),ab)
 US:zz.map (λx=>x.2.map λa=>((ie K (.ref x.1) a).isSome,noGet K ((ie K (.ref x.1) a).getD af),takerIn K x.1 a))=zz.map λx=>x.2.map λ_=>(ab,ab,aa af)
 zero:wt.map (λa=>(ie K (.ref 100) a,specialIn K (zt K a) "__get__"))=wt.map λa=>(aa (aa (zt K a)),aa af)
 Xa:FH.map (λx=>(makesIn K x.1,ie K (.ref x.1) "__init__",typeIn K (.ref x.2)))=FH.map λx=>(ab,aa (aa (.ref x.2)),aa (.type "function"))
 mth:Gr.map (λx=>(zM K x.1 x.2.1,ie K (.ref x.1) x.2.1,isFn K (.ref x.2.2)))=Gr.map λx=>(ab,aa (aa (.ref x.2.2)),ab)
 keep:(M4.all λa=>keepIn K (.ref a))=ab
 Pz:(ie K (.ref 135) "__bool__",ie K (.ref 135) "__len__")=(aa af,aa af)
 plen:(ie K (.ref 100) "__len__",isFn K (.ref 83))=(aa (aa (.ref 83)),ab)
structure KD(G:Gl):Prop where
 c:KC G.K
 ident:d0 G 39 1 ["s"] [] (ba 39) (cg 39)
 prodinit7:d0 G 62 8 ["self","number","name","prod","precedence","func","file","line"] [] (ba 62) (cg 62)
 prodinit3:d0 G 62 4 ["self","number","name","prod","precedence","func","file","line"] [.tup [.str "right",.int 0],.none,.str "",.int 0] (ba 62) (cg 62)
 plen:d0 G 83 1 ["self"] [] (ba 83) (cg 83)
 iteminit:d0 G 118 3 ["self","p","n"] [] (ba 118) (cg 118)
 rightmost:d0 G 146 2 ["symbols","terminals"] [] (ba 146) (cg 146)
 graminit:d0 G 172 2 ["self","terminals"] [] (ba 172) (cg 172)
 addprod:d0 G 201 3 ["self","prodname","syms","func","file","line"] [.none,.str "",.int 0] (ba 201) (cg 201)
 setstart:d0 G 209 1 ["self","start"] [.none] (ba 209) (cg 209)
 first:d0 G 258 2 ["self","beta"] [] (ba 258) (cg 258)
 cfirst:d0 G 265 1 ["self"] [] (ba 265) (cg 265)
 cfollow:d0 G 273 1 ["self","start"] [.none] (ba 273) (cg 273)
 blr:d0 G 280 1 ["self"] [] (ba 280) (cg 280)
 place:d0 G 318 1 ["I"] [] (ba 318) (cg 318)
 tabinit:d0 G 333 3 ["self","grammar","method","log"] [.none] (ba 333) (cg 333)
 clo:d0 G 340 2 ["self","I"] [] (ba 340) (cg 340)
 goto:d0 G 347 3 ["self","I","x"] [] (ba 347) (cg 347)
 items:d0 G 354 1 ["self"] [] (ba 354) (cg 354)
 ptable:d0 G 424 1 ["self"] [] (ba 424) (cg 424)
 NAMES:d0 G 438 0 [] [] (ba 438) (cg 438)
 ASKED:d0 G 446 0 [] [] (ba 446) (cg 446)
 next:d0 G 453 1 ["tape"] [] (ba 453) (cg 453)
 rule:d0 G 458 2 ["tape","name"] [] (ba 458) (cg 458)
 corners:d0 G 463 1 ["rules"] [] (ba 463) (cg 463)
 added:d0 G 468 3 ["rules","corners","items"] [] (ba 468) (cg 468)
 told:d0 G 473 1 ["items"] [] (ba 473) (cg 473)
theorem qW{α β:Type}{f g:α→β}{l:List α}[BEq α][LawfulBEq α](e:l.map f=l.map g){a:α}(h:l.contains a=ab):f a=g a:=DO.mp e a (e9.mp h)
theorem KD.ref(K:KD G){x:Str}{a:au}(h:Fw.contains (x,a)=ab):jm G x (.glob a):=.ref (mg_of (qW K.c.refs h))
theorem TP:s6.map (λx:String=>HI x)=s6.map λx=>aa (.builtin x):=by kernel_rfl
theorem SY:t7.map (λx:String=>HI x)=t7.map λx=>aa (.type x):=by kernel_rfl
theorem Li:((s6++t7).all λx:String=>(x:Str) !="__name__")=ab:=by kernel_rfl
theorem KD.bi(K:KD G){x:String}(h:s6.contains x=ab):jm G x (.bi x):=
 have hm:=i7 t7 (e9.mp h)
 .bi (mg_of (DO.mp K.c.boot x hm)) ((G.blt _ (bne_iff_ne.mp (dc.mp Li x hm))).trans (qW TP h))
theorem KD.ty(K:KD G){x:String}(h:t7.contains x=ab):jm G x (.ty x):=
 have hm:=kj s6 (e9.mp h)
 .ty (mg_of (DO.mp K.c.boot x hm)) ((G.blt _ (bne_iff_ne.mp (dc.mp Li x hm))).trans (qW SY h))
theorem KD.GG(K:KD G):jm G "_IDENTIFIER" (.str "abcdefghijklmnopqrstuvwxyzABCDEFGHIJKLMNOPQRSTUVWXYZ0123456789_-"):=.str (mg_of K.c.GG)
theorem KD.sym(K:KD G):BL G 439 [.str "a",.str "A",.str "b",.str "B",.str "error"]:=
 ⟨_,⟨_,G.f7 _ _ K.c.sym,rfl,_,rfl⟩,λP m _=>⟨_,_,rfl,⟨_,rfl⟩,_,_,rfl,⟨_,rfl⟩,_,_,rfl,⟨_,rfl⟩,_,_,rfl,⟨_,rfl⟩,_,_,rfl,⟨_,rfl⟩,rfl⟩⟩
noncomputable def pL(C:au)(a:Str):Bool:=F8.contains C && (zz.lookup C).any λl=>l.contains a
theorem mem_lookup{α β:Type}[BEq α][LawfulBEq α]{a:α}{o:β}{l:List (α×β)}(h:l.lookup a=aa o):(a,o)∈l:=by
 induction l with
 |nil=>exact a7 h
 |cons p r ih=>
  rw[k_] at h
  cases q:a==p.1 with
  |true=>rw[q] at h;exact aY h▸eX.mp q▸.head _
  |false=>rw[q] at h;exact .tail _ (ih h)
theorem FK{α β γ:Type}{a a':α}{b b':β}{c c':γ}(h:(a,b,c)=(a',b',c')){C:Prop}(k:a=a'→b=b'→c=c'→C):C:=k (gi h).1 (gi (gi h).2).1 (gi (gi h).2).2
theorem KD.fld(K:KD G){C:au}{a:Str}(ok:pL C a=ab){R:Prop}(k:zM G.K C ""=ab→Ds G.K C=ab→ie G.K (.ref C) "__setattr__"=aa (aa (.builtin "object.__setattr__"))→HM G.K C=ab→
  (ie G.K (.ref C) a).isSome=ab→noGet G.K ((ie G.K (.ref C) a).getD af)=ab→takerIn G.K C a=aa af→R):R:=by
 have ok:=(bO _ _).mp ok;have hl:∃l,zz.lookup C=aa l∧l.contains a=ab:=by
  cases e:zz.lookup C with
  |none=>rw[e] at ok;exact cJ ok.2
  |some l=>rw[e] at ok;exact⟨l,rfl,ok.2⟩
 refine aj hl λl e hl=>?_;have c:=qW K.c.cls ok.1;exact FK (DO.mp (DO.mp K.c.US (C,l) (mem_lookup e)) a (e9.mp hl)) (k (gi c).1 (gi (gi c).2).1 (gi (gi (gi c).2).2).1 (gi (gi (gi c).2).2).2)
theorem KD.keep(K:KD G){a:au}(h:M4.contains a=ab):callable G (.glob a)=ab:=dc.mp K.c.keep a (e9.mp h)
theorem wx{n:Nat}(h:wL n 100=ab):n≤cR:=ah (jG h) aJ
theorem lH.ne{v:SV}(hb:lH v=ab)(id:String):v≠.bi id:=λe=>cJ (show lH (.bi id)=ab from e▸hb)
theorem Eg(K:KD G){n:Nm}{C:au}{fs:SF}{a:Str}{v:SV}{Q:QV}{X:QX}(ok:pL C a=ab)(hn:h n=aa (.inst C fs))(hf:fs.lookup a=aa v)(hb:lH v=ab)(hq:Q v h):WO G F b fr h [.ref n] (mr λx=>m8 x a ab) Q X:=
 K.fld ok λh1 h2 _ _ h5 h6 _=>ab1 hn h1 h2 (Option.eq_some_iff_get_eq.mpr ⟨h5,Option.get_eq_getD _⟩) h6 hf (lH.ne hb) hq
theorem Ok(K:KD G){n:Nm}{fs:SF}{a:Str}{Q:QV}{X:QX}(ok:wt.contains a=ab)(hn:h n=aa (.inst 100 fs))(hf:fs.lookup a=af)(hq:Q (.int 0) h):WO G F b fr h [.ref n] (mr λx=>m8 x a ab) Q X:=
 have z:=qW K.c.zero ok;have hc:(wt.map λa=>copiedNames.contains a)=wt.map λ_=>an:=aW
 K.fld (C:=100) (a:="name") rfl λh1 h2 _ _ _ _ _=>XK (v:=.int 0) hn h1 h2 (gi z).1 (gi z).2 rfl (qW hc ok) hf (λ_ _=>⟨_,rfl⟩) hq
theorem Fj(K:KD G){n:Nm}{C:au}{fs:SF}{a:Str}{v:SV}{Q:QV}{X:QX}(ok:pL C a=ab)(hn:h n=aa (.inst C fs))(hz:fs.length≤1000)(hq:Q .none (h.set n (.inst C (fs.put a v)))):
  WO G F b fr h [.ref n,v] (bv λx y=>do Dq x a y;pure .none) Q X:=
 K.fld ok λ_ h2 h3 h4 _ _ h7=>Yc hn h3 h4 h7 h2 hz hq
theorem at_{e:Expr}{a:Str}{pos:Pos}{Q:QV}{X:QX}(w:WE G F b fr h e (λv ag=>WO G F b fr ag [v] (mr λx=>m8 x a ab) Q X) X)(hb:∀(ae:Env) w,uy e a ae w=w:=by intro _ _;rfl):WE G F b fr h (.Attribute e a pos) Q X:=Bi hb w
theorem CA{t e:Expr}{pos:Pos}{Q:QS}{X:dP}(w:WE G F b fr h e (λv ag=>WA G F b fr ag t v (λfr' h'=>Q .next fr' h') X) (λx h=>X x fr h))(hs:∀ae,Dr [t] e pos.line ae=pure an:=by intro _;rfl)(hw:∀ae,wV [t] e ae=pure af:=by intro _;rfl)(ha:∀ae,(qJ [t] ae).map (·.2)=[pq t ae]:=by intro _;rfl):
  WS G F b fr h (.Assign [t] e pos) Q X:=XN hs hw ha w
theorem xN{Q:Option Int→SH→Prop}{X:QX}(hq:Q af h):ym G F b fr h af Q X:=hq
theorem xJ{e:Expr}{Q:Option Int→SH→Prop}{X:QX}(w:WE G F b fr h e (λv h'=>∃i,v=.int i∧Q (aa i) h') X):ym G F b fr h (aa e) Q X:=w
theorem ZQ(vs:List SV):fk vs af af=vs:=by simp[fk]
noncomputable def Cu(K:Frag)(a:au):Option HO:=match K.lookup a with
 |some o=>(match o.data with|.func fd=>aa fd|_=>af)
 |none=>af
noncomputable def fdOf(K:Frag)(a:au):HO:=match Cu K a with|some fd=>fd|none=>default
noncomputable def D4(K:Frag)(a:au):Bool:=match Cu K a with
 |some fd=>fd.globals==uw && fd.builtins==zK && fd.closure.isEmpty && codeIn K fd.code fd.qualname && (match fd.body with|.stmts _=>ab|_=>an)
 |none=>an
noncomputable def Gn(fd:HO):List bx:=match fd.body with|.stmts b=>b|_=>[]
variable{H:Frag}
theorem wJ(hK:G.K=H){a:au}{k:Nat}{ps:List Str}{eC:List SV}(ds:List Value)(hl:D4 H a=ab)(hB:Gn (fdOf H a)=ba a)(hS:(fdOf H a).scope=cg a)(qz:CF (cg a) ps=ab)(c7:ps.length=k+eC.length)
  (hb:∀S (vals:List Value),vals.length=k→peek H S (uz (fdOf H a) ⟨vals,[]⟩)=aa (ps.zip (vals++ds)))
  (kD:∀(P:aV) (m:Mu),(∀a o,G.base.get? a=aa o→P a=aa o)→aO P m eC ds):d0 G a k ps eC (ba a) (cg a):=by
 subst hK;unfold D4 at hl;unfold fdOf at hB hS hb
 cases hf:Cu G.K a with
 |none=>rw[hf] at hl;exact cJ hl
 |some fd=>
  rw[hf] at hl hB hS hb;simp only[bO,eX,List.isEmpty_iff] at hl;obtain⟨⟨⟨⟨h1,h2⟩,h3⟩,h4⟩,h5⟩:=hl;have lM:=hf;unfold Cu at lM
  cases hl:G.K.lookup a with
  |none=>rw[hl] at lM;(first|exact a7 lM|obtain rfl:=aY lM)
  |some o=>
   rw[hl] at lM;simp only at lM
   split at lM
   ·rename_i fd' hd
    obtain rfl:=aY lM;refine⟨⟨o,fd',ds,hl,hd,hS,?_,h1,h2,h3,codeRec_of G.f7 h4,hb,kD⟩,qz,c7⟩;rw[←hB];unfold Gn
    split at h5
    ·rename_i b hb;simp only[hb]
    ·exact cJ h5
   ·exact a7 lM
theorem zp{l:List Value}(h:l.length=1):∃v,l=[v]:=List.length_eq_one_iff.mp h
theorem lB{l:List Value}{n:Nat}(h:l.length=n+1):∃v r,l=v::r∧r.length=n:=by
 cases l with
 |nil=>cases h
 |cons v r=>exact(zq v r rfl (DD h))
def uW(H:Frag)(a:au)(ps:List Str):Prop:=D4 H a=ab∧Gn (fdOf H a)=ba a∧(fdOf H a).scope=cg a∧CF (cg a) ps=ab
theorem Ny(hK:G.K=H){a:au}(A:uW H a [])(hb:∀S,peek H S (uz (fdOf H a) ⟨[],[]⟩)=aa []):d0 G a 0 [] [] (ba a) (cg a):=
 wJ hK [] A.1 A.2.1 A.2.2.1 A.2.2.2 rfl (λS vals hv=>by obtain rfl:=aiq.mp hv;exact hb S) λ_ _ _=>rfl
theorem mO(hK:G.K=H){a:au}{x:Str}{eC:List SV}(xs:List Str)(ds:List Value)(A:uW H a (x::xs))(c7:(x::xs).length=1+eC.length)
  (hb:∀S v,peek H S (uz (fdOf H a) ⟨[v],[]⟩)=aa ((x,v)::xs.zip ds)) (kD:∀(P:aV) (m:Mu),(∀a o,G.base.get? a=aa o→P a=aa o)→aO P m eC ds):
  d0 G a 1 (x::xs) eC (ba a) (cg a):=
 wJ hK ds A.1 A.2.1 A.2.2.1 A.2.2.2 c7 (λS vals hv=>by refine xE (zp hv) λv br=>?_;subst br;exact hb S v) kD
theorem zH(hK:G.K=H){a:au}{x y:Str}{eC:List SV}(xs:List Str)(ds:List Value)(A:uW H a (x::y::xs))(c7:(x::y::xs).length=2+eC.length)
  (hb:∀S v w,peek H S (uz (fdOf H a) ⟨[v,w],[]⟩)=aa ((x,v)::(y,w)::xs.zip ds)) (kD:∀(P:aV) (m:Mu),(∀a o,G.base.get? a=aa o→P a=aa o)→aO P m eC ds):
  d0 G a 2 (x::y::xs) eC (ba a) (cg a):=
 wJ hK ds A.1 A.2.1 A.2.2.1 A.2.2.2 c7 (λS vals hv=>by refine d_ (lB hv) λv r ax hr=>?_;subst ax;refine xE (zp hr) λw br=>?_;subst br;exact hb S v w) kD
theorem y7(hK:G.K=H){a:au}{x y z:Str}{eC:List SV}(xs:List Str)(ds:List Value)(A:uW H a (x::y::z::xs))(c7:(x::y::z::xs).length=3+eC.length)
  (hb:∀S v w u,peek H S (uz (fdOf H a) ⟨[v,w,u],[]⟩)=aa ((x,v)::(y,w)::(z,u)::xs.zip ds)) (kD:∀(P:aV) (m:Mu),(∀a o,G.base.get? a=aa o→P a=aa o)→aO P m eC ds):
  d0 G a 3 (x::y::z::xs) eC (ba a) (cg a):=
 wJ hK ds A.1 A.2.1 A.2.2.1 A.2.2.2 c7 (λS vals hv=>by refine d_ (lB hv) λv r ax hr=>?_;subst ax;refine d_ (lB hr) λw r' ax rg=>?_;subst ax;refine xE (zp rg) λu br=>?_;subst br;exact hb S v w u) kD
theorem XP(hK:G.K=H){a:au}{x1 x2 x3 x4 x5 x6 x7 x8:Str}(A:uW H a [x1,x2,x3,x4,x5,x6,x7,x8])
  (hb:∀S v1 v2 v3 v4 v5 v6 v7 v8,peek H S (uz (fdOf H a) ⟨[v1,v2,v3,v4,v5,v6,v7,v8],[]⟩)=aa [(x1,v1),(x2,v2),(x3,v3),(x4,v4),(x5,v5),(x6,v6),(x7,v7),(x8,v8)]):
  d0 G a 8 [x1,x2,x3,x4,x5,x6,x7,x8] [] (ba a) (cg a):=
 wJ hK [] A.1 A.2.1 A.2.2.1 A.2.2.2 rfl (λS vals hv=>by
  refine d_ (lB hv) λv1 r1 ax h1=>?_;subst ax;refine d_ (lB h1) λv2 r2 ax h2=>?_;subst ax;refine d_ (lB h2) λv3 r3 ax h3=>?_;subst ax;refine d_ (lB h3) λv4 r4 ax h4=>?_;subst ax;refine d_ (lB h4) λv5 r5 ax h5=>?_;subst ax;refine d_ (lB h5) λv6 r6 ax h6=>?_;subst ax;refine d_ (lB h6) λv7 r7 ax h7=>?_;subst ax;refine xE (zp h7) λv8 br=>?_;subst br;exact hb S v1 v2 v3 v4 v5 v6 v7 v8) λ_ _ _=>rfl
theorem fn4(hK:G.K=H){a:au}{x1 x2 x3 x4:Str}{xs:List Str}{eC:List SV}(ds:List Value)(A:uW H a (x1::x2::x3::x4::xs))(c7:xs.length=eC.length)
  (hb:∀S v1 v2 v3 v4,peek H S (uz (fdOf H a) ⟨[v1,v2,v3,v4],[]⟩)=aa ((x1,v1)::(x2,v2)::(x3,v3)::(x4,v4)::xs.zip ds))
  (kD:∀(P:aV) (m:Mu),(∀a o,G.base.get? a=aa o→P a=aa o)→aO P m eC ds):
  d0 G a 4 (x1::x2::x3::x4::xs) eC (ba a) (cg a):=
 wJ hK ds A.1 A.2.1 A.2.2.1 A.2.2.2 (by show xs.length+1+1+1+1=_;rw[c7];exact sp eC.length 4) (λS vals hv=>by
  refine d_ (lB hv) λv1 r1 ax h1=>?_;subst ax;refine d_ (lB h1) λv2 r2 ax h2=>?_;subst ax;refine d_ (lB h2) λv3 r3 ax h3=>?_;subst ax;refine xE (zp h3) λv4 br=>?_;subst br;exact hb S v1 v2 v3 v4) kD
noncomputable def JJ(H:Frag)(a:au):Obj:=match H.lookup a with|some o=>o|none=>default
theorem Vd{G:Gl}{H:Frag}(hK:G.K=H){P:aV}(hb:∀a o,G.base.get? a=aa o→P a=aa o){a:au}(e:H.lookup a=aa (JJ H a)){T:Prop}(c:P a=aa (JJ H a)→T):T:=c (hb _ _ (G.f7 a _ (hK▸e)))
theorem EC{a:au}{o:Obj}:∀{l:List (au×Obj)},l.lookup a=aa o→(a,o)∈l
 |(k,v)::r,h=>by
  rw[k_] at h
  cases q:a==k with
  |true=>rw[q] at h;(first|exact a7 h|obtain rfl:=aY h);rw[eX.mp q];exact dA
  |false=>rw[q] at h;exact eT _ (EC h)
noncomputable def pJ(base:cO)(ex:List (au×Obj)):aV:=λa=>(base.get? a).or (ex.lookup a)
theorem Rel.start{G:Gl}{F:FD}{b:Nat}{ae:Env}{A:dZ}{s:ak}{fr:SF}{L:au}{ex:List (au×Obj)}{own:List au}
  (hg:s.gens=#[]) (ho:s.os=G.os) (hb:∀a o,G.base.get? a=aa o→s.heap.get? a=aa o)
  (hex:∀p∈ex,s.heap.get? p.1=aa p.2∧p.1∉own) (ui:∀a∈own,G.base.get? a=af)
  (hA:A.frames=aa [ae]) (hL:ae.frame=aa L) (Nd:L∈own) (hk:ae.scope.kind≠.module) (Jm:∃o,s.heap.get? L=aa o∧∀vs,o.data≠.fields vs)
  (hF:FrR F own ae (pJ G.base ex) (λ_=>af) fr s.heap)
  (hd:A.depth+b<HJ) (hu:A.units+8*b+8<ez) (R8:A.guards=aa []) (hq:F.q=ab→A.handled=af):
  Rel G F b own ae A (pJ G.base ex) (λ_=>af) fr (λ_=>af) s where
 gens:=hg
 os:=ho
 bs:=hb
 basePR:=λa o e=>by unfold pJ;rw[e];rfl
 frs:=by
  refine⟨[ae],hA,?_,zq ae ([]) rfl rfl,λa ha=>?_,λa o e=>?_⟩
  ·refine aj Jm λo h1 h2=>?_;clear Jm
   exact⟨hk,⟨L,o,hL,ui L Nd,h1,h2⟩,trivial⟩
  ·rw[qP,hL] at ha
   have:a=L:=by simpa using ha
   exact .inl (this▸Nd)
  ·unfold pJ at e
   cases xT:G.base.get? a with
   |some o'=>
    rw[xT] at e;obtain rfl:o'=o:=by simpa using e
    exact(aU o'.slots (hb a o' xT) (λ_=>rfl))
   |none=>
    rw[xT] at e;refine xA (hex (a,o) (EC (by exact e))) λh1 _=>?_;exact(aU o.slots h1 (λ_=>rfl))
 obj:=λn so e=>by exact a7 e
 dom:=λ_ _=>rfl
 inj:=λ_ _ _ _ e=>by exact a7 e
 sep:=λ_ _ e=>by exact a7 e
 ownP:=λa ha=>by
  unfold pJ;rw[ui a ha]
  cases e:ex.lookup a with
  |none=>rfl
  |some o=>exact bc ha (hex (a,o) (EC e)).2
 f:=hF
 depth:=hd
 units:=hu
 guards:=R8
 quiet:=hq
noncomputable def cY(F:FD)(l:List Str):Bool:=l.all λx=>(F.sc.names.lookup x==aa .globalImplicit) && !(x==("__debug__":Str))
structure FI where
 G:Gl
 b:Nat
 K:KD G
 F:FD
 l:List Str
 gs:List Str
 V:cr F l=ab
 W:cY F gs=ab
 q:F.q=ab
def SF.sub(fr fr':SF):Prop:=∀y v,fr.lookup y=aa v→fr'.lookup y=aa v
theorem SF.sub.put{fr fr':SF}(s:fr.sub fr')(x:Str)(v:SV):(fr.put x v).sub (fr'.put x v):=λy u h=>
 have h:=(gj fr x v y).symm.trans h
 (gj fr' x v y).trans (if e:y=x then(aP e).trans ((aP e).symm.trans h) else(aK e).trans (s y u ((aK e).symm.trans h)))
theorem bq{fr:SF}:SF.sub [] fr:=λ_ _ h=>a7 h
theorem ai{y:Str}{v:SV}{r fr:SF}(t:r.sub fr)(h:autoParam (fr.lookup y=aa v) dH):SF.sub ((y,v)::r) fr:=λz u q=>
 if e:z=y then(ay (fr.lookup ·) e).trans (h.trans ((i8 (p:=(y,v)) e).symm.trans q)) else t z u ((gW (p:=(y,v)) e).symm.trans q)
theorem SF.sub.rfl{fr:SF}:fr.sub fr:=λ_ _ h=>h
theorem SF.sub.trans{a b c:SF}(x:a.sub b)(y:b.sub c):a.sub c:=λz v h=>y z v (x z v h)
variable{i:FI}{ag aC cL:SH}{e l r:Expr}{u v w:SV}
def TB(i:FI)(fr:SF)(h:SH)(e:Expr)(v:SV)(h':SH):Prop:=
 ∀fr',fr.sub fr'→∀Q X,Q v h'→WE i.G i.F i.b fr' h e Q X
abbrev EV(i:FI)(fr:SF)(h:SH)(e:Expr)(v:SV)(h':SH):Prop:=Bx (TB i fr h e v h')
def EPb(i:FI)(fr:SF)(h:SH)(e:Expr)(Q:QV):Prop:=
 ∀fr',fr.sub fr'→∀(Q':QV) X,(∀v h,Q v h→Q' v h)→WE i.G i.F i.b fr' h e Q' X
abbrev EP(i:FI)(fr:SF)(h:SH)(e:Expr)(Q:QV):Prop:=Bx (EPb i fr h e Q)
def EBb(i:FI)(fr:SF)(h:SH)(e:Expr)(t:Bool)(h':SH):Prop:=
 ∀fr',fr.sub fr'→∀Q X,Q t h'→WB i.G i.F i.b fr' h e Q X
abbrev EB(i:FI)(fr:SF)(h:SH)(e:Expr)(t:Bool)(h':SH):Prop:=Bx (EBb i fr h e t h')
def UR(i:FI)(fr:SF)(h:SH)(es:List Expr)(vs:List SV)(h':SH):Prop:=
 ∀fr',fr.sub fr'→∀Q X,Q vs h'→jY i.G i.F i.b fr' h es Q X
abbrev ES(i:FI)(fr:SF)(h:SH)(es:List Expr)(vs:List SV)(h':SH):Prop:=Bx (UR i fr h es vs h')
def Zf(i:FI)(h:SH)(vs:List SV)(t:List Value→Sem Value)(v:SV)(h':SH):Prop:=
 ∀fr' Q X,Q v h'→WO i.G i.F i.b fr' h vs t Q X
abbrev OV(i:FI)(h:SH)(vs:List SV)(t:List Value→Sem Value)(v:SV)(h':SH):Prop:=Bx (Zf i h vs t v h')
def UP(i:FI)(h:SH)(v:SV)(t:Bool):Prop:=
 ∀fr' (Q:Bool→SH→Prop) X,Q t h→WT i.G i.F i.b fr' h v Q X
abbrev TV(i:FI)(h:SH)(v:SV)(t:Bool):Prop:=Bx (UP i h v t)
def CPb(i:FI)(h:SH)(f:SV)(vs:List SV)(Q:QV):Prop:=
 ∀fr' (Q':QV) X,(∀v h,Q v h→Q' v h)→WC i.G i.F i.b fr' h f vs Q' X
abbrev CP(i:FI)(h:SH)(f:SV)(vs:List SV)(Q:QV):Prop:=Bx (CPb i h f vs Q)
def MVb(i:FI)(h:SH)(u:SV)(name:Str)(f:SV):Prop:=
 ∀fr',GM i.G i.F i.b fr' h u name f
abbrev MV(i:FI)(h:SH)(u:SV)(name:Str)(f:SV):Prop:=Bx (MVb i h u name f)
def ZE(i:FI)(h:SH)(f:SV)(vs:List SV)(Q:QV):Prop:=
 ∀(F:FD) fr',F.q=ab→∀Q':QV,(∀v h,Q v h→Q' v h)→CC i.G F i.b fr' h f vs Q'
abbrev FP(i:FI)(h:SH)(f:SV)(vs:List SV)(Q:QV):Prop:=Bx (ZE i h f vs Q)
def Xy(i:FI)(fr:SF)(h:SH)(e:Expr)(k:df)(h':SH):Prop:=
 ∀fr',fr.sub fr'→∀Q X,Q k h'→WI i.G i.F i.b fr' h e Q X
abbrev EI(i:FI)(fr:SF)(h:SH)(e:Expr)(k:df)(h':SH):Prop:=Bx (Xy i fr h e k h')
def Yk(i:FI)(fr:SF)(h:SH)(t:Expr)(v:SV)(bw:SF)(h':SH):Prop:=
 ∀fr',fr.sub fr'→∀(Q:QF) X,(∀eo,bw.sub eo→Q eo h')→WA i.G i.F i.b fr' h t v Q X
abbrev AT(i:FI)(fr:SF)(h:SH)(t:Expr)(v:SV)(bw:SF)(h':SH):Prop:=Bx (Yk i fr h t v bw h')
abbrev is(v:SV)(h:SH):QV:=λv' h'=>v'=v∧h'=h
theorem FP.cp{f:SV}{vs:List SV}{Q:QV}(w:FP i h f vs Q):CP i h f vs Q:=⟨λfr' Q' X hq=>aby (w.run i.F fr' i.q Q' hq)⟩
theorem EV.ep(w:EV i fr h e v h'):EP i fr h e (is v h'):=⟨λfr' s Q' X hq=>w.run fr' s Q' X (hq _ _ ⟨rfl,rfl⟩)⟩
theorem EP.ev(w:EP i fr h e (is v h')):EV i fr h e v h':=⟨λfr' s Q' X hq=>w.run fr' s Q' X λv h q=>by refine xA q λcP br=>?_;clear q;subst cP;subst br;exact hq⟩
theorem EP.imp{Q Q':QV}(w:EP i fr h e Q)(hq:∀v h,Q v h→Q' v h):EP i fr h e Q':=⟨λfr' s pT X h2=>w.run fr' s pT X λv h q=>h2 v h (hq v h q)⟩
theorem cY.get{F:FD}{l:List Str}(V:cY F l=ab){x:Str}(hx:l.contains x=ab):F.sc.names.lookup x=aa .globalImplicit∧(x==("__debug__":Str))=an:=
 have q:=(bO _ _).mp (dc.mp V x (e9.mp hx));⟨eq_of_beq q.1,(jL _).mp q.2⟩
theorem n_{x:Str}{pos:Pos}(hx:autoParam (fr.lookup x=aa v) dH)(hl:autoParam (i.l.contains x=ab) bl):EV i fr h (.Name x pos) v h:=
 ⟨λfr' s Q X hq=>nv i.V (s _ _ hx) hq hl⟩
theorem g_{x:Str}{pos:Pos}(hg:jm i.G x v)(hl:autoParam (i.gs.contains x=ab) bl):EV i fr h (.Name x pos) v h:=
 ⟨λfr' s Q X hq=>Ew hg (cY.get i.W hl).1 (cY.get i.W hl).2 hq⟩
theorem bD{n:Int}{k:Nat}{pos:Pos}:EV i fr h (.Constant (.int n) k pos) (.int n) h:=⟨λfr' s Q X hq=>const_int hq⟩
theorem cx{n:Str}{k:Nat}{pos:Pos}:EV i fr h (.Constant (.str n) k pos) (.str n) h:=⟨λfr' s Q X hq=>I8 hq⟩
theorem jE{n:Bool}{k:Nat}{pos:Pos}:EV i fr h (.Constant (.bool n) k pos) (.bool n) h:=⟨λfr' s Q X hq=>ab5 hq⟩
theorem kK{k:Nat}{pos:Pos}:EV i fr h (.Constant .none k pos) .none h:=⟨λfr' s Q X hq=>const_none hq⟩
def zg(e:Expr):Prop:=∀(a:Str) (ae:Env) (w:Sem Value),uy e a ae w=w
def qa(e:Expr):Prop:=∀o j:Value,subscripted e an o j=operate [o,j] (i6 o j)
theorem a_{n:Nm}{C:au}{fs:SF}{a:Str}{pos:Pos}(w:EV i fr h e (.ref n) ag)(hn:ag n=aa (.inst C fs))(hf:autoParam (fs.lookup a=aa v) dH)(ok:autoParam ((pL C a && lH v)=ab) bl)(qk:autoParam (zg e) xy):EV i fr h (.Attribute e a pos) v ag:=by
 have p:=(bO _ _).mp ok;exact⟨λfr' s Q X hq=>at_ (w.run fr' s _ _ (Eg i.K p.1 hn hf p.2 hq)) (qk _)⟩
theorem a0_{n:Nm}{fs:SF}{a:Str}{pos:Pos}(w:EV i fr h e (.ref n) ag)(hn:ag n=aa (.inst 100 fs))(hf:fs.lookup a=af)(ok:autoParam (wt.contains a=ab) bl)(qk:autoParam (zg e) xy):EV i fr h (.Attribute e a pos) (.int 0) ag:=
 ⟨λfr' s Q X hq=>at_ (w.run fr' s _ _ (Ok i.K ok hn hf hq)) (qk _)⟩
theorem yW{k:Expr}{pos:Pos}(a:EV i fr h e u ag)(b:EV i fr ag k w aC)(g:GI i.G aC u)(o:OV i aC [u,w] (bv i6) v cL)(ok:autoParam (qa k) jg):EV i fr h (.Subscript e k pos) v cL:=
 ⟨λfr' s Q X hq=>BE (ok) (a.run fr' s _ _ (b.run fr' s _ _ ⟨g,o.run fr' _ _ hq⟩))⟩
theorem gV{n:Nm}{es:List (SV×SV)}{k:Expr}{pos:Pos}(a:EV i fr h e (.ref n) ag)(b:EV i fr ag k w aC)(hn:aC n=aa (.dict es))(hl:es.lookup w=aa v)(ok:autoParam (SV.key 6 w=ab) bl)(Gz:autoParam (qa k) jg):EV i fr h (.Subscript e k pos) v aC:=
 yW a b (.dict hn) ⟨λfr' Q X hq=>adr hn ok hl hq⟩ Gz
theorem mJ{vs:List SV}{k:Expr}{pos:Pos}{j:Nat}(a:EV i fr h e u ag)(b:EV i fr ag k (.int j) aC)(hl:de i.G aC u vs)(hj:j<2^62)(hv:vs[j]? =aa v)(ok:autoParam (qa k) jg):EV i fr h (.Subscript e k pos) v aC:=yW a b (.lst hl) ⟨λfr' Q X hq=>YT hl (DB aW (jq j)) (air (ib.mpr hj) aW) (Hh ((cV.mp hv).1)) hv hq⟩ ok
theorem mI{vs:List SV}{k:Expr}{pos:Pos}{j:Nat}(a:EV i fr h e (.tup vs) ag)(b:EV i fr ag k (.int j) aC)(hj:j<2^62)(hv:vs[j]? =aa v)(ok:autoParam (qa k) jg):EV i fr h (.Subscript e k pos) v aC:=yW a b .tup ⟨λfr' Q X hq=>Mf (DB aW (jq j)) (air (ib.mpr hj) aW) (Hh ((cV.mp hv).1)) hv hq⟩ ok
theorem c_{op:CmpOp}{pos:Pos}(a:EV i fr h l u ag)(b:EV i fr ag r w aC)(o:OV i aC [u,w] (bv (c5 op)) v cL)(ok:autoParam (Dp op r=an) dH):EV i fr h (.Compare l [op] [r] pos) v cL:=
 ⟨λfr' s Q X hq=>CZ ok (a.run fr' s _ _ (b.run fr' s _ _ (o.run fr' _ _ hq)))⟩
theorem bt{op:CmpOp}{pos:Pos}{t:Bool}(a:EV i fr h l u ag)(b:EV i fr ag r w aC)(o:OV i aC [u,w] (bv (c5 op)) (.bool t) cL)(ok:autoParam (Dp op r=an) dH):EB i fr h (.Compare l [op] [r] pos) t cL:=
 ⟨λfr' s Q X hq=>Nk ok (a.run fr' s _ _ (b.run fr' s _ _ (o.run fr' _ _ (AG hq))))⟩
theorem fK{op:wS}{pos:Pos}(a:EV i fr h l u ag)(b:EV i fr ag r w aC)(o:OV i aC [u,w] (bv (m7 op)) v cL):EV i fr h (.BinOp l op r pos) v cL:=
 ⟨λfr' s Q X hq=>Mx (a.run fr' s _ _ (b.run fr' s _ _ (o.run fr' _ _ hq)))⟩
theorem Ao{n:Int}{pos:Pos}(a:EV i fr h e (.int n) ag):EV i fr h (.UnaryOp .USub e pos) (.int (-n)) ag:=⟨λfr' s Q X hq=>Xq (a.run fr' s _ _ (W8 hq))⟩
theorem LG{t:Expr}{pos:Pos}(a:EB i fr h t ab ag)(b:EV i fr ag l v aC):EV i fr h (.IfExp t l r pos) v aC:=⟨λfr' s Q X hq=>Jh (a.run fr' s _ _ (b.run fr' s _ _ hq))⟩
theorem My{t:Expr}{pos:Pos}(a:EB i fr h t an ag)(b:EV i fr ag r v aC):EV i fr h (.IfExp t l r pos) v aC:=⟨λfr' s Q X hq=>Jh (a.run fr' s _ _ (b.run fr' s _ _ hq))⟩
theorem p_{t:Bool}(a:EV i fr h e v ag)(o:TV i ag v t)(ok:autoParam (Bv e=ab) bl):EB i fr h e t ag:=⟨λfr' s Q X hq=>aa2 ok (a.run fr' s _ _ (o.run fr' _ _ hq))⟩
theorem fw{t:Bool}{pos:Pos}(a:EB i fr h e t ag):EB i fr h (.UnaryOp .Not e pos) (!t) ag:=⟨λfr' s Q X hq=>Up (a.run fr' s _ _ hq)⟩
theorem lY{es:List Expr}{t:Bool}{pos:Pos}(a:EB i fr h e ab ag)(b:EB i fr ag (.BoolOp .And es pos) t aC):EB i fr h (.BoolOp .And (e::es) pos) t aC:=⟨λfr' s Q X hq=>L5 (a.run fr' s _ _ (by rw[aP rfl];exact b.run fr' s _ _ hq))⟩
theorem oJ{es:List Expr}{pos:Pos}(a:EB i fr h e an ag):EB i fr h (.BoolOp .And (e::es) pos) an ag:=⟨λfr' s Q X hq=>L5 (a.run fr' s _ _ (by rw[aK iD];exact hq))⟩
theorem Au{pos:Pos}:EB i fr h (.BoolOp .And [] pos) ab h:=⟨λfr' s Q X hq=>Tv hq⟩
theorem pN{es:List Expr}{t:Bool}{pos:Pos}(a:EB i fr h e an ag)(b:EB i fr ag (.BoolOp .Or es pos) t aC):EB i fr h (.BoolOp .Or (e::es) pos) t aC:=⟨λfr' s Q X hq=>Gm (a.run fr' s _ _ (by rw[aK iD];exact b.run fr' s _ _ hq))⟩
theorem xx{es:List Expr}{pos:Pos}(a:EB i fr h e ab ag):EB i fr h (.BoolOp .Or (e::es) pos) ab ag:=⟨λfr' s Q X hq=>Gm (a.run fr' s _ _ (by rw[aP rfl];exact hq))⟩
theorem Bm{pos:Pos}:EB i fr h (.BoolOp .Or [] pos) an h:=⟨λfr' s Q X hq=>ZH hq⟩
theorem jf{t:Bool}:TV i h (.bool t) t:=⟨λfr' Q X hq=>AG hq⟩
theorem nN:TV i h .none an:=⟨λfr' Q X hq=>aei hq⟩
theorem NE{n:Int}:TV i h (.int n) (n !=0):=⟨λfr' Q X hq=>Wg hq⟩
theorem lT{vs:List SV}(hl:de i.G h u vs)(hz:vs.length<2^62):TV i h u (!vs.isEmpty):=⟨λfr' Q X hq=>RI hl hz hq⟩
theorem CG{vs:List SV}(hz:vs.length<2^62):TV i h (.tup vs) (!vs.isEmpty):=⟨λfr' Q X hq=>YI hz hq⟩
theorem zb{n:Nm}{es:List (SV×SV)}(hn:h n=aa (.dict es))(hz:es.length<2^62):TV i h (.ref n) (!es.isEmpty):=⟨λfr' Q X hq=>Zn hn hz hq⟩
theorem zk(ok:autoParam ((SV.data 6 u && SV.data 6 w)=ab) bl):OV i h [u,w] (bv (c5 .Eq)) (.bool (decide (u=w))) h:=by rw[bO] at ok;exact⟨λfr' Q X hq=>SP ok.1 ok.2 hq⟩
theorem nu(hu:u=w)(ok:autoParam ((SV.data 6 u && SV.data 6 w)=ab) bl):OV i h [u,w] (bv (c5 .Eq)) (.bool ab) h:=eQ hu▸zk ok
theorem lX(hu:u≠w)(ok:autoParam ((SV.data 6 u && SV.data 6 w)=ab) bl):OV i h [u,w] (bv (c5 .Eq)) (.bool an) h:=i0 hu▸zk ok
theorem IL(ok:autoParam ((SV.data 6 u && SV.data 6 w)=ab) bl):OV i h [u,w] (bv (c5 .NotEq)) (.bool (!decide (u=w))) h:=by rw[bO] at ok;exact⟨λfr' Q X hq=>V4 ok.1 ok.2 hq⟩
theorem yQ{x y:Int}:OV i h [.int x,.int y] (bv (c5 .Lt)) (.bool (decide (x<y))) h:=⟨λfr' Q X hq=>YB hq⟩
theorem Jn{x y:Int}:OV i h [.int x,.int y] (bv (c5 .Gt)) (.bool (decide (x > y))) h:=⟨λfr' Q X hq=>RY hq⟩
theorem FT{x y:Int}:OV i h [.int x,.int y] (bv (c5 .GtE)) (.bool (decide (x≥y))) h:=⟨λfr' Q X hq=>ab6 hq⟩
theorem nZ{x y:Int}:OV i h [.int x,.int y] (bv (m7 .Add)) (.int (x+y)) h:=⟨λfr' Q X hq=>Rq hq⟩
theorem CE{x y:Int}:OV i h [.int x,.int y] (bv (m7 .Sub)) (.int (x-y)) h:=⟨λfr' Q X hq=>Wq hq⟩
theorem wA{x y:Int}:OV i h [.int x,.int y] (bv (sC .Add)) (.int (x+y)) h:=⟨λfr' Q X hq=>YW hq⟩
theorem K3{x y:Int}:OV i h [.int x,.int y] (bv (sC .Sub)) (.int (x-y)) h:=⟨λfr' Q X hq=>VW hq⟩
theorem tZ{x y:Int}(hy:0<y):OV i h [.int x,.int y] (bv (m7 .Mod)) (.int (x % y)) h:=⟨λfr' Q X hq=>WZ hy hq⟩
theorem pZ{n:Nm}{es:List (SV×SV)}(hn:h n=aa (.dict es))(ok:autoParam (SV.key 6 u=ab) bl):OV i h [u,.ref n] (bv (c5 .In)) (.bool (es.lookup u).isSome) h:=⟨λfr' Q X hq=>Rj hn ok hq⟩
theorem Ol{n:Nm}{es:List (SV×SV)}(hn:h n=aa (.dict es))(ok:autoParam (SV.key 6 u=ab) bl):OV i h [u,.ref n] (bv (c5 .NotIn)) (.bool (!(es.lookup u).isSome)) h:=⟨λfr' Q X hq=>Wc hn ok hq⟩
theorem Gu{vs:List SV}(hl:de i.G h w vs)(hd:eK 6 vs=ab)(ok:autoParam (SV.data 6 u=ab) bl):OV i h [u,w] (bv (c5 .In)) (.bool (decide (u∈vs))) h:=⟨λfr' Q X hq=>Xx hl hd ok hq⟩
theorem A5{vs:List SV}(hl:de i.G h w vs)(hd:eK 6 vs=ab)(ok:autoParam (SV.data 6 u=ab) bl):OV i h [u,w] (bv (c5 .NotIn)) (.bool (!decide (u∈vs))) h:=⟨λfr' Q X hq=>Wt hl hd ok hq⟩
theorem MZ{x y:Str}:OV i h [.str y,.str x] (bv (c5 .In)) (.bool (AD y x)) h:=⟨λfr' Q X hq=>aff hq⟩
theorem vT(ok:autoParam (lH u=ab) bl):OV i h [u,.none] (bv (c5 .IsNot)) (.bool (!isNone u)) h:=⟨λfr' Q X hq=>Sj ok hq⟩
theorem aL:ES i fr h [] [] h:=⟨λfr' s Q X hq=>tC hq⟩
theorem aB{es:List Expr}{vs:List SV}(a:EV i fr h e v ag)(b:ES i fr ag es vs aC)(ok:autoParam (iI e=ab) bl):ES i fr h (e::es) (v::vs) aC:=⟨λfr' s Q X hq=>ue (a.run fr' s _ _ (b.run fr' s _ _ hq)) ok⟩
theorem eY{es:List Expr}{vs:List SV}{k:Nat}{pos:Pos}(a:ES i fr h es vs ag)(hl:autoParam (vs.length=es.length) dH)(hz:autoParam (wL es.length 100=ab) bl):EV i fr h (.Tuple es k pos) (.tup vs) ag:=⟨λfr' s Q X hq=>tuple (wx hz) (a.run fr' s _ _ ⟨hl,hq⟩)⟩
theorem eD{es:List Expr}{vs:List SV}{pos:Pos}{n:Nm}(a:ES i fr h es vs ag)(hn:ag n=af)(hl:autoParam (vs.length=es.length) dH)(hz:autoParam (wL es.length 100=ab) bl):EV i fr h (.List es pos) (.ref n) (ag.set n (.list vs)):=⟨λfr' s Q X hq=>list (wx hz) (a.run fr' s _ _ (rO hl n hn hq))⟩
theorem g7{pos:Pos}{n:Nm}(hn:h n=af):EV i fr h (.Dict [] [] pos) (.ref n) (h.set n (.dict [])):=⟨λfr' s Q X hq=>SJ hn hq⟩
theorem nV{x:Str}{q pos:Pos}{args:List Expr}{f:SV}{vs:List SV}{Q:QV}(hg:jm i.G x f)(hc:callable i.G f=ab)(a:ES i fr h args vs ag)(b:CP i ag f vs Q)(ok:autoParam ((i.gs.contains x && args.all iI)=ab) bl):EP i fr h (.Call (.Name x q) args [] pos) Q:=by
 rw[bO] at ok;exact⟨λfr' s Q' X hq=>Lx hg (cY.get i.W ok.1).1 hc (a.run fr' s _ _ (b.run fr' _ _ hq)) (cY.get i.W ok.1).2 ok.2⟩
theorem di{o:Expr}{name:Str}{gJ pos:Pos}{args:List Expr}{f:SV}{vs:List SV}{Q:QV}(a:EV i fr h o u ag)(m:MV i ag u name f)(hc:callable i.G f=ab)(b:ES i fr ag args vs aC)(d:CP i aC f (u::vs) Q)(ok:autoParam ((args.all iI && (gJ.endLine==pos.line && decide (args.length<20)))=ab) bl)(qk:autoParam (zg o) xy):
  EP i fr h (.Call (.Attribute o name gJ) args [] pos) Q:=by
 have p:=(bO _ _).mp ok;exact⟨λfr' s Q' X hq=>NV (a.run fr' s _ _ (cK f hc (m.run fr') (b.run fr' s _ _ (d.run fr' _ _ hq)))) (qk _) p.1 p.2⟩
theorem b8{x:Str}{q pos:Pos}{args:List Expr}{f:SV}{vs:List SV}(hg:jm i.G x f)(hc:callable i.G f=ab)(a:ES i fr h args vs ag)(b:CP i ag f vs (is v aC))(ok:autoParam ((i.gs.contains x && args.all iI)=ab) bl):EV i fr h (.Call (.Name x q) args [] pos) v aC:=EP.ev (nV hg hc a b ok)
theorem gU{o:Expr}{name:Str}{gJ pos:Pos}{args:List Expr}{f:SV}{vs:List SV}(a:EV i fr h o u ag)(m:MV i ag u name f)(hc:callable i.G f=ab)(b:ES i fr ag args vs aC)(d:CP i aC f (u::vs) (is v cL))(ok:autoParam ((args.all iI && (gJ.endLine==pos.line && decide (args.length<20)))=ab) bl)(qk:autoParam (zg o) xy):
  EV i fr h (.Call (.Attribute o name gJ) args [] pos) v cL:=EP.ev (di a m hc b d ok qk)
theorem fS{n:Nm}{vs:List SV}(hn:h n=aa (.list vs)):MV i h (.ref n) "append" (.bi "list.append"):=⟨λfr'=>HA hn PySem.F.slot_list_append PySem.F.type_list_append⟩
theorem jo{n:Nm}{es:List (SV×SV)}(hn:h n=aa (.dict es)):MV i h (.ref n) "get" (.bi "dict.get"):=⟨λfr'=>Sc hn Ic PySem.F.type_dict_get⟩
theorem fX{n:Nm}{vs:List SV}(hn:h n=aa (.list vs))(hz:vs.length≤cR):CP i h (.bi "list.append") [.ref n,v] (is .none (h.set n (.list (vs++[v])))):=⟨λfr' Q X hq=>Yr hn hz (hq _ _ ⟨rfl,rfl⟩)⟩
theorem y6{n:Nm}{es:List (SV×SV)}(hn:h n=aa (.dict es))(ok:autoParam (SV.key 6 v=ab) bl):CP i h (.bi "dict.get") [.ref n,v,w] (is ((es.lookup v).getD w) h):=⟨λfr' Q X hq=>X_ hn ok (hq _ _ ⟨rfl,rfl⟩)⟩
theorem oI{vs:List SV}(hl:de i.G h u vs)(hz:vs.length<2^62):CP i h (.bi "len") [u] (is (.int vs.length) h):=⟨λfr' Q X hq=>Z6 hl hz (hq _ _ ⟨rfl,rfl⟩)⟩
theorem AN{vs:List SV}(hz:vs.length<2^62):CP i h (.bi "len") [.tup vs] (is (.int vs.length) h):=⟨λfr' Q X hq=>VK hz (hq _ _ ⟨rfl,rfl⟩)⟩
variable{o:Expr}{rest:List bx}{k:List (List bx)}{Q:QS}
noncomputable def up(Q:QS):QS:=λf fr h=>∃ej,ej.sub fr∧Q f ej h
noncomputable def kb(i:FI)(Q:QS):List (List bx)→QS
 |[]=>Q
 |b::k=>λf fr h=>match f with
  |.next=>j6 i.G i.F i.b fr h b (kb i Q k) nX
  |f=>Q f fr h
def RT(i:FI)(fr:SF)(h:SH)(k:List (List bx))(Q:QS):Prop:=
 ∀fr',fr.sub fr'→kb i (up Q) k .next fr' h
abbrev SS(i:FI)(fr:SF)(h:SH)(k:List (List bx))(Q:QS):Prop:=Bx (RT i fr h k Q)
def VP(i:FI)(fr:SF)(h:SH)(st:bx)(k:List (List bx))(Q:QS):Prop:=
 ∀fr',fr.sub fr'→∀Q':QS,(∀bw ag f,kb i (up Q) k f bw ag→Q' f bw ag)→WS i.G i.F i.b fr' h st Q' nX
abbrev ST(i:FI)(fr:SF)(h:SH)(st:bx)(k:List (List bx))(Q:QS):Prop:=Bx (VP i fr h st k Q)
theorem IG{k:List (List bx)}{f:tM}(hf:f≠.next){fr:SF}{h:SH}:kb i Q k f fr h=Q f fr h:=by
 cases k with
 |nil=>rfl
 |cons b k=>cases f<;>first|exact bc rfl hf|rfl
theorem SS.sub{ej:SF}(w:SS i ej h k Q)(s:ej.sub fr):SS i fr h k Q:=⟨λfr' s'=>w.run fr' (s.trans s')⟩
theorem bK(hq:Q .next fr h):SS i fr h [] Q:=⟨λfr' s=>⟨fr,s,hq⟩⟩
theorem aH(w:SS i fr h k Q):SS i fr h ([]::k) Q:=⟨λfr' s=>vU (w.run fr' s)⟩
theorem fH{st:bx}(w:ST i fr h st (rest::k) Q):SS i fr h ((st::rest)::k) Q:=⟨λfr' s=>xY (w.run fr' s _ λbw ag f q=>by
 cases f with
 |next=>exact q
 |brk=>exact(IG (by simp)).mpr q
 |cont=>exact(IG (by simp)).mpr q
 |ret v=>exact(IG (by simp)).mpr q)⟩
noncomputable def iq(e:Expr):Bool:=!([8,9,10,25].contains e.ctorIdx)
noncomputable def uU(e:Expr):Bool:=[20,21,23,25].contains e.ctorIdx
theorem IH{t:Option Expr}(ok:iq e=ab){n:Nat}{ae:Env}:Dt e t n ae=pure an:=by
 refine @wU (λe=>iq e=ab→Dt e t n ae=pure an) e ?_ ?_ ?_ ?_ ?_ ?_ ?_ ?_ ?_ ?_ ?_ ?_ ?_ ?_ ?_ ?_ ?_ ?_ ?_ ?_ ?_ ?_ ?_ ?_ ?_ ?_ ?_ ok<;>intros<;>first|rfl|exact cJ ‹_›
theorem Q8{t:Expr}(ok:iq e=ab){n:Nat}{ae:Env}:Dr [t] e n ae=pure an:=IH ok
theorem Q9{t:Expr}(ok:iq e=ab)(ot:uU t=ab){ae:Env}:wV [t] e ae=pure af:=by
 refine @wU (λt=>uU t=ab→wV [t] e ae=pure af) t ?_ ?_ ?_ ?_ ?_ ?_ ?_ ?_ ?_ ?_ ?_ ?_ ?_ ?_ ?_ ?_ ?_ ?_ ?_ ?_ ?_ ?_ ?_ ?_ ?_ ?_ ?_ ot<;>first|(intros;first|rfl|(exact cJ ‹_›;done))|(intros;refine @wU (λe=>iq e=ab→wV _ e ae=pure af) e ?_ ?_ ?_ ?_ ?_ ?_ ?_ ?_ ?_ ?_ ?_ ?_ ?_ ?_ ?_ ?_ ?_ ?_ ?_ ?_ ?_ ?_ ?_ ?_ ?_ ?_ ?_ ok<;>(intros;first|rfl|exact cJ ‹_›))
theorem Q_{t:Expr}(ok:uU t=ab){ae:Env}:(qJ [t] ae).map (·.2)=[pq t ae]:=by
 refine @wU (λt=>uU t=ab→(qJ [t] ae).map (·.2)=[pq t ae]) t ?_ ?_ ?_ ?_ ?_ ?_ ?_ ?_ ?_ ?_ ?_ ?_ ?_ ?_ ?_ ?_ ?_ ?_ ?_ ?_ ?_ ?_ ?_ ?_ ?_ ?_ ?_ ok<;>(intros;first|rfl|exact cJ ‹_›)
theorem sZ{t:Expr}{pos:Pos}(P:QV)(a:EP i fr h e P)(b:∀v ag,P v ag→∀fr',fr.sub fr'→∀Q':QF,(∀bw aC,kb i (up Q) k .next bw aC→Q' bw aC)→WA i.G i.F i.b fr' ag t v Q' nX)(ok:autoParam ((iq e && uU t)=ab) bl):ST i fr h (.Assign [t] e pos) k Q:=by
 rw[bO] at ok;exact⟨λfr' s Q' hq=>CA (a.run fr' s _ _ λv ag hp=>b v ag hp fr' s _ λbw aC q=>hq _ _ _ q) (λae=>Q8 ok.1) (λae=>Q9 ok.1 ok.2) λae=>Q_ ok.2⟩
theorem bM{x:Str}{q pos:Pos}(a:EV i fr h e v ag)(b:SS i (fr.put x v) ag (rest::k) Q)(ok:autoParam ((i.l.contains x && iq e)=ab) bl):SS i fr h ((.Assign [.Name x q] e pos::rest)::k) Q:=by
 rw[bO] at ok;exact fH (sZ _ a.ep (λv' aC e fr' s Q' hq=>by refine xA e λcP br=>?_;clear e;subst cP;subst br;exact oH i.V (hq _ _ (b.run _ (s.put _ _))) ok.1) (by rw[ok.2];rfl))
theorem kH{x:Str}{q pos:Pos}{P:QV}(a:EP i fr h e P)(b:∀v ag,P v ag→SS i (fr.put x v) ag (rest::k) Q)(ok:autoParam ((i.l.contains x && iq e)=ab) bl):SS i fr h ((.Assign [.Name x q] e pos::rest)::k) Q:=by
 rw[bO] at ok;exact fH (sZ _ a (λv' aC e fr' s Q' hq=>oH i.V (hq _ _ ((b v' aC e).run _ (s.put _ _))) ok.1) (by rw[ok.2];rfl))
theorem jA{n:Nm}{C:au}{fs:SF}{a:Str}{q pos:Pos}(x:EV i fr h e v ag)(y:EV i fr ag o (.ref n) aC)(hn:aC n=aa (.inst C fs))(hz:fs.length≤1000)(b:SS i fr (aC.set n (.inst C (fs.put a v))) (rest::k) Q)(ok:autoParam ((pL C a && iq e)=ab) bl):
  SS i fr h ((.Assign [.Attribute o a q] e pos::rest)::k) Q:=by
 rw[bO] at ok;exact fH (sZ _ x.ep (λv' aC e fr' s Q' hq=>by refine xA e λcP br=>?_;clear e;subst cP;subst br;exact JX (y.run fr' s _ _ (Fj i.K ok.1 hn hz (hq _ _ (b.run _ s))))) (by rw[ok.2];rfl))
theorem ef{n:Nm}{es:List (SV×SV)}{kx:Expr}{q pos:Pos}(x:EV i fr h e v ag)(y:EV i fr ag o (.ref n) aC)(z:EV i fr aC kx w cL)(hn:cL n=aa (.dict es))(hz:es.length≤cR)(b:SS i fr (cL.set n (.dict (bh es w v))) (rest::k) Q)(ok:autoParam ((SV.key 6 w && iq e)=ab) bl):
  SS i fr h ((.Assign [.Subscript o kx q] e pos::rest)::k) Q:=by
 rw[bO] at ok;exact fH (sZ _ x.ep (λv' aC e fr' s Q' hq=>by refine xA e λcP br=>?_;clear e;subst cP;subst br;exact FL (y.run fr' s _ _ (z.run fr' s _ _ (NB hn ok.1 hz (hq _ _ (b.run _ s)))))) (by rw[ok.2];rfl))
theorem y0{x:Str}{q pos:Pos}{op:wS}(hx:fr.lookup x=aa v)(a:EV i fr h e u ag)(d:OV i ag [v,u] (bv (sC op)) w aC)(b:SS i (fr.put x w) aC (rest::k) Q)(ok:autoParam (i.l.contains x=ab) bl):SS i fr h ((.AugAssign (.Name x q) op e pos::rest)::k) Q:=
 fH ⟨λfr' s Q' hq=>afb (s _ _ hx) (cr.v i.V ok).1 (cr.v i.V ok).2.1 (cr.v i.V ok).2.2 (a.run fr' s _ _ (d.run fr' _ _ (hq _ _ .next (b.run _ (s.put _ _)))))⟩
theorem Fi{n:Nm}{C:au}{fs:SF}{a:Str}{q pos:Pos}{op:wS}(x:EV i fr h o (.ref n) ag)(hn:ag n=aa (.inst C fs))(hf:OV i ag [.ref n] (mr λx=>m8 x a ab) v ag)(y:EV i fr ag e u aC)(d:OV i aC [v,u] (bv (sC op)) w cL)(yR:cL n=aa (.inst C fs))(hz:fs.length≤1000)
  (b:SS i fr (cL.set n (.inst C (fs.put a w))) (rest::k) Q) (ok:autoParam (pL C a=ab) bl):SS i fr h ((.AugAssign (.Attribute o a q) op e pos::rest)::k) Q:=
 fH ⟨λfr' s Q' hq=>YE (x.run fr' s _ _ (hf.run fr' _ _ (y.run fr' s _ _ (d.run fr' _ _ (Fj i.K ok yR hz (hq _ _ .next (b.run _ s)))))))⟩
theorem Of{n:Nm}{C:au}{fs:SF}{a:Str}(hn:h n=aa (.inst C fs))(hf:autoParam (fs.lookup a=aa v) dH)(ok:autoParam ((pL C a && lH v)=ab) bl):OV i h [.ref n] (mr λx=>m8 x a ab) v h:=by
 rw[bO] at ok;exact⟨λfr' Q X hq=>Eg i.K ok.1 hn hf ok.2 hq⟩
theorem rn{P:QV}{pos:Pos}(a:EP i fr h e P)(b:∀v ag,P v ag→SS i fr ag (rest::k) Q)(ok:autoParam (iq e=ab) bl):SS i fr h ((.Expr e pos::rest)::k) Q:=
 fH ⟨λfr' s Q' hq=>JI (λae=>IH ok) (a.run fr' s _ _ λv ag hp=>hq _ _ .next ((b v ag hp).run _ s))⟩
theorem fG{pos:Pos}(a:EP i fr h e (is v ag))(b:SS i fr ag (rest::k) Q)(ok:autoParam (iq e=ab) bl):SS i fr h ((.Expr e pos::rest)::k) Q:=
 rn a (λ_ _ q=>by refine xA q λcP br=>?_;clear q;subst cP;subst br;exact b) ok
theorem VS{pos:Pos}(b:SS i fr h (rest::k) Q):SS i fr h ((.Pass pos::rest)::k) Q:=fH ⟨λfr' s Q' hq=>Vk (hq _ _ .next (b.run _ s))⟩
theorem AO{pos:Pos}(b:Q .brk fr h):SS i fr h ((.Break pos::rest)::k) Q:=fH ⟨λfr' s Q' hq=>brk (hq _ _ .brk ⟨fr,s,b⟩)⟩
theorem GC{pos:Pos}(b:Q .cont fr h):SS i fr h ((.Continue pos::rest)::k) Q:=fH ⟨λfr' s Q' hq=>cont (hq _ _ .cont ⟨fr,s,b⟩)⟩
theorem gA{pos:Pos}(a:EV i fr h e v ag)(b:Q (.ret v) fr ag):SS i fr h ((.Return (aa e) pos::rest)::k) Q:=fH ⟨λfr' s Q' hq=>ret (a.run fr' s _ _ (hq _ _ (.ret v) ⟨fr,s,b⟩))⟩
theorem Yz{P:QV}{pos:Pos}(a:EP i fr h e P)(b:∀v ag,P v ag→Q (.ret v) fr ag):SS i fr h ((.Return (aa e) pos::rest)::k) Q:=fH ⟨λfr' s Q' hq=>ret (a.run fr' s _ _ λv ag hp=>hq _ _ (.ret v) ⟨fr,s,b v ag hp⟩)⟩
theorem cS{t:Expr}{body eZ:List bx}{pos:Pos}(a:EB i fr h t ab ag)(b:SS i fr ag (body::rest::k) Q):SS i fr h ((.If t body eZ pos::rest)::k) Q:=
 fH ⟨λfr' s Q' hq=>Ek (a.run fr' s _ _ (by rw[aP rfl];exact iY.imp (b.run _ s) (λf bw ag q=>hq _ _ f q) λ_ _ _ q=>q))⟩
theorem cf{t:Expr}{body eZ:List bx}{pos:Pos}(a:EB i fr h t an ag)(b:SS i fr ag (eZ::rest::k) Q):SS i fr h ((.If t body eZ pos::rest)::k) Q:=
 fH ⟨λfr' s Q' hq=>Ek (a.run fr' s _ _ (by rw[aK iD];exact iY.imp (b.run _ s) (λf bw ag q=>hq _ _ f q) λ_ _ _ q=>q))⟩
theorem EU{t:Expr}{body eZ:List bx}{pos:Pos}{c:Bool}(a:EB i fr h t c ag)(b:c=ab→SS i fr ag (body::rest::k) Q)(d:c=an→SS i fr ag (eZ::rest::k) Q):SS i fr h ((.If t body eZ pos::rest)::k) Q:=by
 cases c with
 |true=>exact cS a (b rfl)
 |false=>exact cf a (d rfl)
noncomputable def LQ(i:FI){σ:Type}(fi:σ→SF)(hi:σ→SH)(J:σ→Prop)(k:List (List bx))(Q:QS):QS:=λf fr h=>match f with
 |.next=>∃s,J s∧(fi s).sub fr∧hi s=h
 |.cont=>∃s,J s∧(fi s).sub fr∧hi s=h
 |.brk=>SS i fr h k Q
 |.ret v=>Q (.ret v) fr h
variable{σ:Type}{fi:σ→SF}{hi:σ→SH}{J:σ→Prop}
theorem LQ.next(s:σ)(hJ:J s)(sb:(fi s).sub fr)(eh:autoParam (hi s=h) dH):LQ i fi hi J k Q .next fr h:=⟨s,hJ,sb,eh⟩
theorem LQ.cont(s:σ)(hJ:J s)(sb:(fi s).sub fr)(eh:autoParam (hi s=h) dH):LQ i fi hi J k Q .cont fr h:=⟨s,hJ,sb,eh⟩
theorem LQ.out{i:FI}{σ:Type}{fi:σ→SF}{hi:σ→SH}{J:σ→Prop}{rest:List bx}{k:List (List bx)}{Q Q':QS}{K:SF→SH→Prop}(hK:∀s fr h,J s→(fi s).sub fr→hi s=h→K fr h)
  (hq:∀f bw ag,kb i (up Q) (rest::k) f bw ag→Q' f bw ag) {f:tM} {fr:SF} {h:SH} (q:up (LQ i fi hi J (rest::k) Q) f fr h):
  match (generalizing:=false) f with
   |.next=>K fr h
   |.cont=>K fr h
   |.brk=>Q' .next fr h
   |.ret v=>Q' (.ret v) fr h:=by
 refine aj q λej s q=>?_
 cases f with
 |next=>refine bG q λt a b c=>?_;clear q;exact hK t fr h a (b.trans s) c
 |cont=>refine bG q λt a b c=>?_;clear q;exact hK t fr h a (b.trans s) c
 |brk=>exact hq _ _ _ (q.run _ s)
 |ret v=>exact hq _ _ _ ⟨ej,s,q⟩
theorem ry{σ:Type}(fi:σ→SF)(hi:σ→SH)(J:σ→Nat→Prop)(dI:σ)(xD:Nat){t:Expr}{body eZ:List bx}{pos:Pos}(h0:J dI xD)(sb:(fi dI).sub fr)
  (turn:∀s m,J s m→∃c h',EB i (fi s) (hi s) t c h'∧(c=an→SS i (fi s) h' (eZ::rest::k) Q)∧(c=ab→SS i (fi s) h' [body] (LQ i fi hi (λs'=>∃m',m'<m∧J s' m') (rest::k) Q))) (eh:autoParam (hi dI=h) dH):
  SS i fr h ((.While t body eZ pos::rest)::k) Q:=
 fH ⟨λfr' s Q' hq=>ace (λm fr h=>∃t,J t m∧(fi t).sub fr∧hi t=h) xD ⟨dI,h0,sb.trans s,eh⟩ λm bw ag q=>bG q λt a b c=>by
  subst c;refine bP (turn t m a) λc h' x y z=>?_;refine x.run bw b _ _ ?_
  cases c with
  |false=>exact iY.imp ((y rfl).run bw b) (λf eo aC q=>hq _ _ f q) λ_ _ _ q=>q
  |true=>exact iY.imp ((z rfl).run bw b) (λf eo aC q=>LQ.out (K:=λfr h=>∃k,k<m∧∃t,J t k∧(fi t).sub fr∧hi t=h) (λs fr h q c d=>aj q λm' a b=>⟨m',a,s,b,c,d⟩) (λf fr h q=>hq fr h f q) q) λ_ _ _ q=>q⟩
def TR(i:FI)(fr:SF)(h:SH)(t:Expr)(v:SV)(body:List bx)(Q:QS):Prop:=∃bw,AT i fr h t v bw h∧SS i bw h [body] Q
theorem lF{x:Str}{q:Pos}(ok:autoParam (i.l.contains x=ab) bl):AT i fr h (.Name x q) v (fr.put x v) h:=⟨λfr' s Q X hq=>oH i.V (hq _ (s.put _ _)) ok⟩
theorem at2{x y:Str}{q q' xd:Pos}{n:Nat}(ok:autoParam ((i.l.contains x && i.l.contains y)=ab) bl):AT i fr h (.Tuple [.Name x q,.Name y q'] n xd) (.tup [v,w]) ((fr.put x v).put y w) h:=by
 rw[bO] at ok;exact⟨λfr' s Q X hq=>EE i.q (λ_=>rfl) rfl (oH i.V (oH i.V (hq _ ((s.put _ _).put _ _)) ok.2) ok.1)⟩
theorem dX{x:Str}{q:Pos}{body:List bx}(b:SS i (fr.put x v) h [body] Q)(ok:autoParam (i.l.contains x=ab) bl):TR i fr h (.Name x q) v body Q:=⟨_,lF ok,b⟩
theorem GU{x y:Str}{q q' xd:Pos}{n:Nat}{body:List bx}(b:SS i ((fr.put x v).put y w) h [body] Q)(ok:autoParam ((i.l.contains x && i.l.contains y)=ab) bl):TR i fr h (.Tuple [.Name x q,.Name y q'] n xd) (.tup [v,w]) body Q:=⟨_,at2 ok,b⟩
def rN(e:Expr):Prop:=∀(ae:Env) (x:Value),w0 e ae x=pure x
theorem S_{j m n:Nat}(y:j+m=n)(hj:j<n):m-1<m∧j+1+(m-1)=n:=have h:0<m:=oh λz=>du hj (z▸y:j+0=n);⟨sn h pf,(af3 ..).trans ((ay (j+·) ((sp ..).trans (qT h))).trans y)⟩
theorem BK{σ:Type}(fi:σ→SF)(hi:σ→SH)(J:σ→Nat→Nat→Prop)(dI:σ)(xD:Nat){t iter:Expr}{body eZ:List bx}{pos:Pos}{kk:df}(a:EI i fr h iter kk ag)(h0:J dI 0 xD)(sb:(fi dI).sub fr)
  (turn:∀s j m,J s j m→∃o,ji kk j (hi s)=aa o∧(o=af→SS i (fi s) (hi s) (eZ::rest::k) Q)∧∀v,o=aa v→TR i (fi s) (hi s) t v body (LQ i fi hi (λs'=>∃m',m'<m∧J s' (j+1) m') (rest::k) Q))
  (ok:autoParam (rN iter) jg) (qi:mD kk t:=by first|exact .tup|exact .name rfl) (eh:autoParam (hi dI=ag) dH):SS i fr h ((.For t iter body eZ pos::rest)::k) Q:=by
 exact fH ⟨λfr' s Q' hq=>Uf i.q ok (a.run fr' s _ _ ⟨qi,λm j fr h=>∃t,J t j m∧(fi t).sub fr∧hi t=h,⟨xD,dI,h0,sb.trans s,eh⟩,λm j bw ag q=>bG q λt a b c=>by
  subst c;refine bG (turn t j m a) λo e y z=>?_;rw[e]
  cases o with
  |none=>exact iY.imp ((y rfl).run bw b) (λf eo aC q=>hq _ _ f q) λ_ _ _ q=>q
  |some v=>
   refine aj (z v rfl) λeo x z=>?_;exact x.run bw b _ _ λjU ey=>iY.imp (z.run jU ey) (λf eo aC q=>LQ.out (K:=λfr h=>∃k,k<m∧∃t,J t (j+1) k∧(fi t).sub fr∧hi t=h) (λs fr h q c d=>aj q λm' a b=>⟨m',a,s,b,c,d⟩) (λf fr h q=>hq fr h f q) q) λ_ _ _ q=>q⟩)⟩
theorem et{σ:Type}(fi:σ→SF)(hi:σ→SH)(J:σ→Nat→Prop)(dI:σ)(items:List SV){t iter:Expr}{body eZ:List bx}{pos:Pos}{kk:df}(a:EI i fr h iter kk ag)(h0:J dI 0)(sb:(fi dI).sub fr)(hit:∀s j,J s j→ji kk j (hi s)=aa items[j]?)
  (turn:∀s j v,J s j→items[j]? =aa v→TR i (fi s) (hi s) t v body (LQ i fi hi (λs'=>J s' (j+1)) (rest::k) Q))
  (fin:∀s,J s items.length→SS i (fi s) (hi s) (eZ::rest::k) Q)
  (ok:autoParam (rN iter) jg) (qi:mD kk t:=by first|exact .tup|exact .name rfl) (eh:autoParam (hi dI=ag) dH):SS i fr h ((.For t iter body eZ pos::rest)::k) Q:=by
 refine BK fi hi (λs j m=>J s j∧j+m=items.length) dI items.length a ⟨h0,mZ _⟩ sb (λs j m q=>⟨_,hit s j q.1,λe=>fin s ((qQ (q.2▸b6 _ _) (km.mp e):j=items.length)▸q.1),λv e=>aj (turn s j v q.1 e) λbw b c=>⟨bw,b,⟨λfr' s=>?_⟩⟩⟩) ok qi eh;have f:=S_ q.2 (cV.mp e).1;refine iY.imp (c.run fr' s) (λf' eo aC q=>aj q λej bz q=>⟨ej,bz,?_⟩) λ_ _ _ q=>q
 cases f' with
 |next=>exact aj q λs a b=>⟨s,⟨m-1,f.1,a,f.2⟩,b⟩
 |cont=>exact aj q λs a b=>⟨s,⟨m-1,f.1,a,f.2⟩,b⟩
 |brk=>exact q
 |ret v=>exact q
theorem ei{kk:df}(a:EV i fr h e v ag)(b:rC ag v kk):EI i fr h e kk ag:=⟨λfr' s Q X hq=>Zc (a.run fr' s _ _ (aU kk b hq))⟩
theorem d7{n:Nm}{vs:List SV}(a:EV i fr h e (.ref n) ag)(hn:ag n=aa (.list vs)):EI i fr h e (.list n) ag:=ei a (.lst hn)
theorem Lh{vs:List SV}(a:EV i fr h e (.tup vs) ag):EI i fr h e (.tup vs) ag:=ei a .tup
theorem wd{n:Nm}{es:List (SV×SV)}(a:EV i fr h e (.ref n) ag)(hn:ag n=aa (.dict es))(ok:oG es=ab):EI i fr h e (.keys n es.length) ag:=ei a (.dct hn ok)
theorem tP{n:Nat}(a:EV i fr h e (.range 0 n) ag)(hn:n<2^40):EI i fr h e (.range 0 n) ag:=ei a (.rng hn)
theorem O_{x:Expr}{q pos:Pos}{kk:df}(hg:jm i.G "enumerate" (.ty "enumerate"))(a:EV i fr h x v ag)(b:Aj i.G ag [v] kk)(ok:autoParam ((i.gs.contains "enumerate" && iI x)=ab) bl):EI i fr h (.Call (.Name "enumerate" q) [x] [] pos) kk ag:=by
 rw[bO] at ok;exact⟨λfr' s Q X hq=>Uw (KO _ _ _ _) (x_ (by rw[DH,ok.2];rfl) _) ((g_ (h:=h) hg ok.1).run fr' s _ _ ⟨rfl,ue (a.run fr' s _ _ (tC (aU kk b hq))) ok.2⟩)⟩
theorem d8{n:Nm}{vs:List SV}{j:Nat}(hn:h n=aa (.list vs)):ji (.list n) j h=aa vs[j]? :=ay (zr · λvs=>vs[j]?) hn
theorem wf{n:Nm}{es:List (SV×SV)}{j:Nat}(hn:h n=aa (.dict es))(ok:oG es=ab):ji (.keys n es.length) j h=aa ((es.map (·.1))[j]?):=(ay (ET · λes'=>if es'.length=es.length∧oG es'=ab then aa (es'[j]?.map (@m6 SV SV)) else af) hn).trans ((aP ⟨rfl,ok⟩).trans (ay aa dv.symm))
noncomputable def bC(a:au):FD:=⟨cg a,iL (cg a),ab⟩
noncomputable def FI.fn(i:FI)(b:Nat)(a:au)(l gs:List Str)(V:cr (bC a) l=ab)(W:cY (bC a) gs=ab):FI:=⟨i.G,b,i.K,bC a,l,gs,V,W,rfl⟩
theorem enter{a:au}{n b:Nat}{ps l gs:List Str}{eC vs:List SV}{P:QV}(H:d0 i.G a n ps eC (ba a) (cg a))(V:cr (bC a) l=ab)(W:cY (bC a) gs=ab)(hb:i.b=b+1)(hk:vs.length=n)
  (w:SS (i.fn b a l gs V W) (ps.zip (vs++eC)) h [ba a] (λf _ h'=>P f.val h')):FP i h (.glob a) vs P:=⟨λF fr' hF Q' hq=>by
 rw[hb];refine afo H hk ?_;rw[hF];exact iY.imp (w.run _ .rfl) (λf bw ag q=>by refine aj q λej s q=>?_;exact hq _ _ q) λ_ _ _ q=>q⟩
noncomputable def FI.dn(i:FI)(b:Nat):FI:={i with b:=b}
theorem cls{C fI:au}{n:Nm}{b:Nat}{vs:List SV}{P:QV}(ok:FH.contains (C,fI)=ab)(hb:i.b=b+1)(hn:h n=af)(w:FP (i.dn b) (h.set n (.inst C [])) (.glob fI) (.ref n::vs) (λv h'=>v=.none∧P (.ref n) h')):FP i h (.glob C) vs P:=⟨λF fr' hF Q' hq=>by
 rw[hb];exact FK (qW i.K.c.Xa ok) λh1 h2 h3=>call_cls (fI:=fI) h1 h2 h3 hn (w.run F fr' hF _ λv h q=>⟨q.1,hq _ _ q.2⟩)⟩
theorem iX{n:Nm}{C f:au}{fs:SF}{name:Str}(hn:h n=aa (.inst C fs))(ok:Gr.contains (C,name,f)=ab)(hl:autoParam (fs.lookup name=af) dH):MV i h (.ref n) name (.glob f):=⟨λfr'=>FK (qW i.K.c.mth ok) λh1 h2 h3=>UT hn h1 h2 h3 hl⟩
theorem Ee{n:Nm}{fs:SF}(hn:h n=aa (.inst 135 fs)):TV i h (.ref n) ab:=⟨λfr' Q X hq=>ab8 hn (gi i.K.c.Pz).1 (gi i.K.c.Pz).2 hq⟩
theorem Zi{n:Nm}{fs:SF}{b k:Nat}(hb:i.b=b+1)(hn:h n=aa (.inst 100 fs))(hk:k<2^62)(w:FP (i.dn b) h (.glob 83) [.ref n] (is (.int k) h)):CP i h (.bi "len") [.ref n] (is (.int k) h):=⟨λfr' Q' X hq=>by
 rw[hb];exact TK hn (gi i.K.c.plen).1 (gi i.K.c.plen).2 (w.run i.F fr' i.q _ λv h' q=>xA q λe e'=>e▸e'▸⟨k,rfl,hk,hq _ _ ⟨rfl,rfl⟩⟩)⟩
theorem Ox{n m:Nm}{vs:List SV}{p pos:Pos}(a:EV i fr h e (.ref n) ag)(hn:ag n=aa (.list vs))(hz:vs.length≤cR)(hm:ag m=af):EV i fr h (.Subscript e (.Slice af af af p) pos) (.ref m) (ag.set m (.list vs)):=
 ⟨λfr' s Q X hq=>yl (a.run fr' s _ _ (xN (xN (.inr (nz vs (.own hn) hz m hm (by rw[ZQ _];exact hq))))))⟩
theorem δ{n m:Nm}{vs:List SV}{lo:Expr}{j:Int}{p pos:Pos}(a:EV i fr h e (.ref n) ag)(b:EV i fr ag lo (.int j) aC)(hn:aC n=aa (.list vs))(hz:vs.length≤cR)(hm:aC m=af):EV i fr h (.Subscript e (.Slice (aa lo) af af p) pos) (.ref m) (aC.set m (.list (fk vs (aa j) af))):=
 ⟨λfr' s Q X hq=>yl (a.run fr' s _ _ (xJ (b.run fr' s _ _ (aU j rfl (xN (.inr (nz vs (.own hn) hz m hm hq)))))))⟩
theorem XC{vs:List SV}{lo:Expr}{j:Int}{p pos:Pos}(a:EV i fr h e (.tup vs) ag)(b:EV i fr ag lo (.int j) aC)(hz:vs.length≤cR):EV i fr h (.Subscript e (.Slice (aa lo) af af p) pos) (.tup (fk vs (aa j) af)) aC:=
 ⟨λfr' s Q X hq=>yl (a.run fr' s _ _ (xJ (b.run fr' s _ _ (aU j rfl (xN (.inl (cK vs rfl hz hq)))))))⟩
theorem Rx{vs:List SV}{lo hi:Expr}{j k:Int}{p pos:Pos}(a:EV i fr h e (.tup vs) ag)(b:EV i fr ag lo (.int j) aC)(c:EV i fr aC hi (.int k) cL)(hz:vs.length≤cR):EV i fr h (.Subscript e (.Slice (aa lo) (aa hi) af p) pos) (.tup (fk vs (aa j) (aa k))) cL:=
 ⟨λfr' s Q X hq=>yl (a.run fr' s _ _ (xJ (b.run fr' s _ _ (aU j rfl (xJ (c.run fr' s _ _ (aU k rfl (.inl (cK vs rfl hz hq)))))))))⟩
theorem Nc{n m:Nm}{vs:List SV}{hi:Expr}{j:Int}{p pos:Pos}(hl:de i.G aC u vs)(a:EV i fr h e u ag)(b:EV i fr ag hi (.int j) aC)(hz:vs.length≤cR)(hm:aC m=af):EV i fr h (.Subscript e (.Slice af (aa hi) af p) pos) (.ref m) (aC.set m (.list (fk vs af (aa j)))):=
 ⟨λfr' s Q X hq=>yl (a.run fr' s _ _ (xN (xJ (b.run fr' s _ _ (aU j rfl (.inr (nz vs hl hz m hm hq)))))))⟩
noncomputable def FI.comp(i:FI)(sc:cb)(l gs:List Str)(V:cr (db sc i.F) l=ab)(W:cY (db sc i.F) gs=ab):FI:=⟨i.G,i.b,i.K,db sc i.F,l,gs,V,W,i.q⟩
theorem RQ{sc:cb}{fr:SF}{y:Str}{v:SV}(h1:sc.names.lookup y=aa .free)(h2:fr.lookup y=aa v):(gZ sc fr).lookup y=aa v:=by
 induction fr with
 |nil=>exact a7 h2
 |cons p r ih=>
  rw[show gZ sc (p::r)=if(sc.names.lookup p.1==aa .free)=ab then p::gZ sc r else gZ sc r from HX];exact if e:y=p.1 then nK (P:=λl:SF=>l.lookup y=aa v) (eX.mpr ((ay (sc.names.lookup ·) e).symm.trans h1)) ((i8 e).trans ((i8 e).symm.trans h2))
   else have q:=ih ((gW e).symm.trans h2);B3 (P:=λl:SF=>l.lookup y=aa v) (λ_=>(gW e).trans q) λ_=>q
theorem Lf{sc:cb}{fr fr':SF}(s:fr.sub fr'):(gZ sc fr).sub (gZ sc fr'):=λy v h=>have q:=EK h;RQ q.1 (s y v q.2)
def Rt(i:FI)(fr:SF)(h:SH)(ifs:List Expr)(t:Bool)(h':SH):Prop:=
 ∀fr',fr.sub fr'→∀Q:Bool→SH→Prop,Q t h'→E0 i.G i.F i.b fr' h ifs Q
abbrev Bo(i:FI)(fr:SF)(h:SH)(ifs:List Expr)(t:Bool)(h':SH):Prop:=Bx (Rt i fr h ifs t h')
theorem Np:Bo i fr h [] ab h:=⟨λ_ _ Q q=>q⟩
theorem Bp{t:Bool}(a:EB i fr h e t h'):Bo i fr h [e] t h':=⟨λfr' s Q q=>a.run fr' s _ _ q⟩
def EF(i:FI)(fr:SF)(h:SH)(ifs:List Expr)(t:Bool):Prop:=Bo i fr h ifs t h
theorem ze:EF i fr h [] ab:=Np
theorem Er{t:Bool}(a:EB i fr h e t h):EF i fr h [e] t:=Bp a
def RS(i:FI)(fr:SF)(h:SH)(elt:Expr)(gens:List dC)(sc:cb)(pos:Pos)(acc:Nm)(d:Nat)(kk:df)(Q:SH→Prop):Prop:=
 ∀fr',fr.sub fr'→∀Q':QF,(∀bw h,fr.sub bw→Q h→Q' bw h)→Af i.G i.F i.b fr' h elt gens sc pos acc d kk 0 Q'
abbrev CL(i:FI)(fr:SF)(h:SH)(elt:Expr)(gens:List dC)(sc:cb)(pos:Pos)(acc:Nm)(d:Nat)(kk:df)(Q:SH→Prop):Prop:=Bx (RS i fr h elt gens sc pos acc d kk Q)
def YQ(i:FI)(fr:SF)(h:SH)(elt:Expr)(gens:List dC)(sc:cb)(pos:Pos)(acc:Nm)(d:Nat)(Q:SH→Prop):Prop:=
 ∀fr',fr.sub fr'→∀Q':QF,(∀bw h,fr.sub bw→Q h→Q' bw h)→x9 i.G i.F i.b fr' h elt gens sc pos acc d Q'
abbrev CB(i:FI)(fr:SF)(h:SH)(elt:Expr)(gens:List dC)(sc:cb)(pos:Pos)(acc:Nm)(d:Nat)(Q:SH→Prop):Prop:=Bx (YQ i fr h elt gens sc pos acc d Q)
theorem xg{elt:Expr}{g:dC}{gs:List dC}{sc:cb}{pos:Pos}{kk:df}{acc:Nm}{l ls:List Str}{P:SH→Prop}(V:cr (db sc i.F) l=ab)(W:cY (db sc i.F) ls=ab)(ok:(qu sc i.F && lA (g::gs))=ab)(a:EI i fr h g.iter kk ag)(ha:ag acc=af)
  (b:CL (i.comp sc l ls V W) (gZ sc fr) (ag.set acc (.list [])) elt (g::gs) sc pos acc 0 kk P) (on:autoParam (rN g.iter) jg):EP i fr h (.ListComp elt (g::gs) sc pos) (λv h'=>v=.ref acc∧P h'):=
 have q:=(bO _ _).mp ok
 ⟨λfr' s Q X hq=>KZ q.2 q.1 on (a.run fr' s _ _ (aU acc ha (b.run _ (Lf s) _ λbw aC _ p=>hq _ _ ⟨rfl,p⟩)))⟩
theorem vt{x:Str}{q gJ:Pos}{elt:Expr}{g:dC}{gs:List dC}{sc:cb}{pos:Pos}{kk:df}{acc:Nm}{l ls:List Str}{P:SH→Prop}(V:cr (db sc i.F) l=ab)(W:cY (db sc i.F) ls=ab)(ok:(qu sc i.F && lA (g::gs))=ab)(a:EI i fr h g.iter kk ag)(ha:ag acc=af)
  (b:CL (i.comp sc l ls V W) (gZ sc fr) (ag.set acc (.list [])) elt (g::gs) sc pos acc 0 kk P) (c:∀aC,P aC→SS i (fr.put x (.ref acc)) aC (rest::k) Q) (RV:autoParam (i.l.contains x=ab) bl) (on:autoParam (rN g.iter) jg):SS i fr h ((.Assign [.Name x q] (.ListComp elt (g::gs) sc pos) gJ::rest)::k) Q:=
 have q:=(bO _ _).mp ok
 fH ⟨λfr' s Q' hq=>ae5 q.2 q.1 on (cr.v i.V RV).2.1 (a.run fr' s _ _ (aU acc ha (b.run _ (Lf s) _ λbw aC _ p=>hq _ _ .next ((c aC p).run _ (s.put _ _)))))⟩
theorem p9{elt:Expr}{gens:List dC}{sc:cb}{pos:Pos}{acc:Nm}{d:Nat}{P:QV}{P':SH→Prop}(a:EP i fr h elt P)(b:∀v ag,P v ag→∃vs,ag acc=aa (.list vs)∧vs.length≤cR∧P' (ag.set acc (.list (vs++[v]))))(hd:autoParam (gens[d+1]? =af) dH):CB i fr h elt gens sc pos acc d P':=
 ⟨λfr' s Q hq=>TF hd (a.run fr' s _ _ λv ag p=>by refine bG (b v ag p) λvs x y z=>?_;exact(cK vs x y (hq _ _ s z)))⟩
theorem NO{elt:Expr}{g:dC}{gens:List dC}{sc:cb}{pos:Pos}{acc:Nm}{d:Nat}{P':SH→Prop}{kk:df}(a:EI i fr h g.iter kk ag)(b:CL i fr ag elt gens sc pos acc (d+1) kk P')(hd:autoParam (gens[d+1]? =aa g) dH)(ok:autoParam (lA gens=ab) bl)(on:autoParam (rN g.iter) jg):CB i fr h elt gens sc pos acc d P':=
 ⟨λfr' s Q hq=>Wk hd ok on (a.run fr' s _ _ (b.run fr' s _ hq))⟩
theorem Ax{σ:Type}{elt:Expr}{g:dC}{gens:List dC}{sc:cb}{pos:Pos}{acc:Nm}{d:Nat}{kk:df}{P:SH→Prop}(hi:σ→SH)(J:σ→Nat→Prop)(dI:σ)(n:Nat)(h0:J dI 0)
  (turn:∀s j,J s j→∃o,ji kk j (hi s)=aa o∧(o=af→P (hi s))∧∀v,o=aa v→j<n∧∃bw t h',AT i fr (hi s) g.target v bw (hi s)∧fr.sub bw∧Bo i bw (hi s) g.ifs t h'∧(t=an→∃s',J s' (j+1)∧hi s'=h')∧(t=ab→CB i bw h' elt gens sc pos acc d (λh'=>∃s',J s' (j+1)∧hi s'=h')))
  (hd:autoParam (gens[d]? =aa g) dH) (ok:autoParam (lA gens=ab) bl) (eh:autoParam (hi dI=h) dH) (qi:mD kk g.target:=by first|exact .tup|exact .name rfl):CL i fr h elt gens sc pos acc d kk P:=by
 refine⟨λfr' s Q hq=>Z4 hd ok i.q qi (λm j bw h=>m=n-j∧fr.sub bw∧∃t,J t j∧hi t=h) n ⟨rfl,s,dI,h0,eh⟩ λm j bw ag q=>aej q λzm aZ t a zh=>?_⟩;subst zm;subst zh;refine bG (turn t j a) λo e x y=>?_;rw[e]
 cases o with
 |none=>exact hq _ _ aZ (x rfl)
 |some v=>
  have z:=y v rfl;have lt:=ais z.1 (dq j);refine z.2.elim λeo z=>z.elim λc z=>z.elim λh' z=>z.1.run bw aZ _ _ λjU ey=>z.2.2.1.run jU ey _ ?_
  cases c with
  |false=>exact⟨n- (j+1),lt,rfl,z.2.1.trans ey,z.2.2.2.1 rfl⟩
  |true=>exact(z.2.2.2.2 rfl).run jU ey _ λxz j4 nj q=>⟨n- (j+1),lt,rfl,z.2.1.trans nj,q⟩
theorem rI{σ:Type}{elt:Expr}{g:dC}{gens:List dC}{sc:cb}{pos:Pos}{acc:Nm}{d:Nat}{kk:df}{P:SH→Prop}(hi:σ→SH)(J:σ→Nat→Prop)(dI:σ)(n:Nat)(h0:J dI 0)(hJ:∀s j,J s j→j≤n)
  (turn:∀s j,J s j→∃o,ji kk j (hi s)=aa o∧(o=af→P (hi s))∧∀v,o=aa v→j<n∧∃bw t,AT i fr (hi s) g.target v bw (hi s)∧fr.sub bw∧EF i bw (hi s) g.ifs t∧(t=an→∃s',J s' (j+1)∧hi s'=hi s)∧(t=ab→CB i bw (hi s) elt gens sc pos acc d (λh'=>∃s',J s' (j+1)∧hi s'=h')))
  (hd:autoParam (gens[d]? =aa g) dH) (ok:autoParam (lA gens=ab) bl) (eh:autoParam (hi dI=h) dH) (qi:mD kk g.target:=by first|exact .tup|exact .name rfl):CL i fr h elt gens sc pos acc d kk P:=
 Ax hi J dI n h0 (λs j a=>bG (turn s j a) λo e x y=>⟨o,e,x,λv w=>have z:=y v w;⟨z.1,z.2.elim λbw z=>z.elim λt z=>⟨bw,t,_,z⟩⟩⟩) hd ok eh qi
theorem gF{x:Str}{v:SV}(hx:fr.lookup x=af):fr.sub (fr.put x v):=λy u e=>(gj fr x v y).trans ((aK λz=>a7 (hx.symm.trans (z▸e))).trans e)
theorem GD{elt iter t:Expr}{sc:cb}{pos:Pos}{kk:df}{acc:Nm}{vs us:List SV}(qi:mD kk t)(hit:∀(ws:List SV) (j:Nat),ji kk j (ag.set acc (.list ws))=aa vs[j]?)(hl:us.length=vs.length)(hz:vs.length≤cR)
  (b:∀(ws:List SV) (j:Nat) (v u:SV),vs[j]? =aa v→us[j]? =aa u→∃bw,AT i fr (ag.set acc (.list ws)) t v bw (ag.set acc (.list ws))∧fr.sub bw∧EV i bw (ag.set acc (.list ws)) elt u (ag.set acc (.list ws))):
  CL i fr (ag.set acc (.list [])) elt [⟨t,iter,[],0⟩] sc pos acc 0 kk (λh'=>h'=ag.set acc (.list us)):=
 rI (λj=>ag.set acc (.list (us.take j))) (λs j=>s=j∧j≤vs.length) 0 vs.length ⟨rfl,b_ _⟩ (λ_ _ e=>e.2) (λs j e=>xA e λz hj=>by
  subst z;exact⟨_,hit _ _,λe=>ay (λl=>ag.set acc (.list l)) (na (ah (bF hl) (km.mp e))),λv e=>
   have hlt:=(cV.mp e).1;have hu:us[s]? =aa (us[s]'(hl.symm▸hlt)):=fb _
   bG (b _ s v _ e hu) λbw at' sb ev=>⟨hlt,bw,ab,at',sb,ze,λe=>iV e,λ_=>p9 ev.ep λv' h' q=>q.1.symm▸q.2.symm▸⟨_,aS,ah (ah (bF jH) (pD _ _)) (ah (bF hl) hz),s+1,⟨rfl,hlt⟩,
    (ay (λl=>ag.set acc (.list l)) (jN.trans (ay (λo:Option SV=>us.take s++o.toList) hu))).trans iF.symm⟩⟩⟩) rfl rfl rfl qi
structure Ok1(c o e:Bool):Prop where
 c:c=ab
 o:o=ab
 e:e=ab
theorem FC{c o e:Bool}(ok:(c && o && e)=ab):Ok1 c o e:=have q:=(bO _ _).mp ok;have p:=(bO _ _).mp q.1;⟨p.1,p.2,q.2⟩
theorem vG{c:Bool}(hc:c=ab):(c && ab)=ab:=(bO _ _).mpr ⟨hc,rfl⟩
theorem CK{elt iter:Expr}{x:Str}{q:Pos}{sc:cb}{pos:Pos}{kk:df}{acc:Nm}{l ls:List Str}{vs us:List SV}(V:cr (db sc i.F) l=ab)(W:cY (db sc i.F) ls=ab)(ok:(qu sc i.F && l.contains x && !GQ kk)=ab)(a:EI i fr h iter kk ag)(ha:ag acc=af)
  (hit:∀(ws:List SV) (j:Nat),ji kk j (ag.set acc (.list ws))=aa vs[j]?) (hl:us.length=vs.length) (hz:vs.length≤cR) (hx:(gZ sc fr).lookup x=af)
  (b:∀(ws:List SV) (j:Nat) (v u:SV),vs[j]? =aa v→us[j]? =aa u→EV (i.comp sc l ls V W) ((gZ sc fr).put x v) (ag.set acc (.list ws)) elt u (ag.set acc (.list ws))) (on:autoParam (rN iter) jg):EV i fr h (.ListComp elt [⟨.Name x q,iter,[],0⟩] sc pos) (.ref acc) (ag.set acc (.list us)):=
 have o:=FC ok
 EP.ev (xg V W (vG o.c) a ha (GD (.name ((jL _).mp o.e)) hit hl hz λws j v u e hu=>⟨_,lF o.o,gF hx,b ws j v u e hu⟩) on)
theorem AI{vs:List SV}(hl:de i.G h u vs)(hz:vs.length≤cR):CP i h (.ty "tuple") [u] (is (.tup vs) h):=⟨λfr' Q X hq=>aec hl hz (hq _ _ ⟨rfl,rfl⟩)⟩
abbrev bn:=List (Str×List Str)
abbrev aF:=Nat×Nat
noncomputable def aG(R:bn)(i:Nat):List Str:=(R[i]?.map (·.2)).getD []
noncomputable def bE(R:bn)(i:Nat):Str:=(R[i]?.map (·.1)).getD ""
noncomputable def dQ(R:bn)(q:aF):List Nat:=match (aG R q.1)[q.2]? with
 |none=>[]
 |some s=>(bo R.length).filter λj=>decide (j≠0) && decide (bE R j=s)
noncomputable def kM(J:List aF)(ad:List Nat):List Nat→List aF×List Nat
 |[]=>(J,ad)
 |x::xs=>if x∈ad then kM J ad xs else kM (J++[(x,0)]) (ad++[x]) xs
inductive eW(R:bn):Nat→List aF→List Nat→List aF→List Nat→Prop
 |done {k:Nat} {J:List aF} {ad:List Nat} (h:J.length≤k):eW R k J ad J ad
 |step {k:Nat} {J J':List aF} {ad bT:List Nat} {q:aF} (h:J[k]? =aa q) (w:eW R (k+1) (kM J ad (dQ R q)).1 (kM J ad (dQ R q)).2 J' bT):eW R k J ad J' bT
theorem eW.det{R:bn}{k:Nat}{J K_ KS:List aF}{ad Oa Ch:List Nat}(h:eW R k J ad K_ Oa):eW R k J ad KS Ch→K_=KS∧Oa=Ch:=by
 induction h with
 |done h=>
  intro g
  cases g with
  |done=>exact⟨rfl,rfl⟩
  |step e _=>rw[md h] at e;exact a7 e
 |step e _ ih=>
  intro g
  cases g with
  |done h=>rw[md h] at e;exact a7 e
  |step e' w=>rw[e] at e';obtain rfl:=aY e';exact ih w
theorem AJ:∀(l:List Nat) (J:List aF) (ad:List Nat),∃x,kM J ad l=(J++x.map (·,0),ad++x)∧(ad.Nodup→(ad++x).Nodup)∧(∀y∈x,y∈l)∧(∀y∈l,y∈ad++x)
 |[],J,ad=>(ik ([]) (by rw[DN,gP,gP];rfl) (by rw[gP];exact id) (λ_ h=>cT h) (λ_ h=>cT h))
 |y::l,J,ad=>by
  show ∃x,(if y∈ad then kM J ad l else kM (J++[(y,0)]) (ad++[y]) l)=_∧_
  by_cases h:y∈ad
  ·rw[aP h]
   refine hG (AJ l J ad) λx e h1 h2 h3=>?_;exact(ik x e h1 (λz hz=>eT _ (h2 z hz)) (λz hz=>by
    rcases dE.mp hz with rfl|hz
    ·exact i7 _ h
    ·exact h3 z hz))
  ·rw[aK h]
   refine hG (AJ l (J++[(y,0)]) (ad++[y])) λx e h1 h2 h3=>?_;refine(ik (y::x) (by rw[e];simp) (λhn=>?_) (λz hz=>?_) (λz hz=>?_))
   ·have:=h1 (by rw[propext lq];exact(cG hn (by simp) (λa ha b hb=>by simp at hb;subst hb;exact λe=>h (e▸ha))))
    simpa using this
   ·rcases dE.mp hz with rfl|hz
    ·exact dA
    ·exact eT _ (h2 z hz)
   ·rcases dE.mp hz with rfl|hz
    ·simp
    ·have:=h3 z hz;simpa using this
theorem aaa{l:List Nat}{J:List aF}{ad:List Nat}(h:∀y∈l,y∈ad):kM J ad l=(J,ad):=by
 induction l with
 |nil=>rfl
 |cons y l ih=>show(if y∈ad then _ else _)=_;rw[aP (h y dA)];exact ih λz hz=>h z (eT _ hz)
structure adg(R:bn)(J:List aF)(ad:List Nat)(J':List aF)(bT:List Nat):Prop where
 ext:∃x,J'=J++x.map (·,0)∧bT=ad++x
 nd:ad.Nodup→bT.Nodup
 src:∀y∈bT,y∈ad∨∃q∈J',y∈dQ R q
theorem eW.prop{R:bn}{k:Nat}{J J':List aF}{ad bT:List Nat}(h:eW R k J ad J' bT):adg R J ad J' bT∧∀i q,k≤i→J'[i]? =aa q→∀y∈dQ R q,y∈bT:=by
 induction h with
 |done h=>exact⟨⟨(aU ([]) (by simp) (by simp)),id,λy hy=>.inl hy⟩,λi q hi e=>by rw[md (ah ‹_› ‹_›)] at e;exact a7 e⟩
 |@step k J J' ad bT q e w ih=>
  refine hG (AJ (dQ R q) J ad) λx ex h1 h2 h3=>?_;rw[ex] at ih;obtain⟨⟨⟨z,e1,e2⟩,hn,hs⟩,hc⟩:=ih;have hk:J'[k]? =aa q:=by
   have hlt:=(cV.mp e).1;dsimp only at e1;rw[e1,wR _ _ _,Di hlt];exact e
  refine⟨⟨(aU (x++z) (by simpa using e1) (by simpa using e2)),λhd=>hn (h1 hd),λy hy=>?_⟩,λi q' hi ga y hy=>?_⟩
  ·rcases hs y hy with hy'|hy'
   ·rcases dw.mp hy' with h'|h'
    ·exact .inl h'
    ·exact .inr (aU q (bN hk) (h2 y h'))
   ·exact .inr hy'
  ·rcases wP hi with rfl|hlt
   ·rw[hk] at ga;obtain rfl:=aY ga
    rw[e2];exact i7 _ (h3 y hy)
   ·exact hc i q' hlt ga y hy
theorem eW.same{R:bn}:∀{k:Nat} {J:List aF} {ad:List Nat},(∀i q,k≤i→J[i]? =aa q→∀y∈dQ R q,y∈ad)→eW R k J ad J ad:=by
 intro k J ad;generalize hn:J.length-k=n
 induction n generalizing k with
 |zero=>exact λ_=>.done (Nat.le_of_sub_eq_zero hn)
 |succ n ih=>
  intro h;have hlt:k<J.length:=Nat.lt_of_sub_eq_succ hn;refine .step (fb hlt) ?_;rw[aaa (h k _ (ar _) (fb hlt))];exact ih (by rw[Nat.sub_add_eq _ _ _,hn];rfl) λi q hi=>h i q (cj ‹_›)
noncomputable def gN(k:Nat):Nm:=.mk 99 [k]
noncomputable def yD(N:Nat):Nm→Bool
 |.mk t l=>t==99 && l.head?==aa N
noncomputable def SH.bV(h:SH)(N:Nat)(g:SH):SH:=λx=>if yD N x=ab then g x else h x
def bp(h:SH)(N:Nat):Prop:=∀k l,N≤k→h (.mk 99 (k::l))=af
theorem bp.at{h:SH}{N:Nat}(B:bp h N){l:List Nat}:h (.mk 99 (N::l))=af:=B N l (ar _)
theorem bp.same{h h':SH}{N:Nat}(B:bp h N)(e:∀k l,N≤k→h' (.mk 99 (k::l))=h (.mk 99 (k::l))):bp h' N:=λk l hk=>(e k l hk).trans (B k l hk)
theorem mv{M N:Nat}{l l':List Nat}(h:Nm.mk 99 (M::l)=.mk 99 (N::l')):M=N:=by injection h with _ h;injection h
theorem bp.new{h:SH}{N:Nat}(B:bp h N)(l:List Nat)(o:cw):bp (h.set (.mk 99 (N::l)) o) (N+1):=λk l' hk=>by
 rw[aq (λe=>mi hk (bF (mv e)))];exact B k l' (cj ‹_›)
theorem xQ{N:Nat}{x:Nm}:yD N x=ab↔∃l,x=.mk 99 (N::l):=by
 obtain⟨t,l⟩:=x
 cases l with
 |nil=>simp[yD]
 |cons a l=>simp[yD]
theorem Ma{h g:SH}{N M:Nat}{l:List Nat}(e:M≠N):(h.bV N g) (.mk 99 (M::l))=h (.mk 99 (M::l)):=aK λq=>by obtain⟨l',q⟩:=xQ.mp q;exact e (mv q)
theorem bp.bV{h g:SH}{N:Nat}(B:bp h N):bp (h.bV N g) (N+1):=λk l hk=>(Ma (dG ‹_›)).trans (B k l (cj ‹_›))
theorem K7{h:SH}{N:Nat}:h.bV N h=h:=funext λx=>ite_self _
theorem RU{h g:SH}{N:Nat}{l:List Nat}{o:cw}:(h.bV N g).set (.mk 99 (N::l)) o=h.bV N (g.set (.mk 99 (N::l)) o):=funext λx=>by
 unfold SH.set SH.bV
 by_cases e:x=.mk 99 (N::l)
 ·rw[aP e,aP (xQ.mpr ⟨l,e⟩)];exact(aP e).symm
 ·rw[aK e];exact ay (λz=>if yD N x=ab then z else h x) (aK e).symm
theorem Z_{h:SH}{N:Nat}{l:List Nat}{o:cw}:h.set (.mk 99 (N::l)) o=h.bV N (h.set (.mk 99 (N::l)) o):=by rw[←RU,K7]
noncomputable def bj(q:aF):Nm:=.mk 20 [q.1,q.2]
noncomputable def bf(j:Nat):Nm:=.mk 10 [j]
noncomputable def dp:Nm:=.mk 30 []
noncomputable def a9(q:aF):SV:=.ref (bj q)
noncomputable def bA(j:Nat):SV:=.ref (bf j)
noncomputable def sym(s:Str):Nat:=(["S","A","B","a","b","error","$end","<empty>","c"]:List Str).idxOf s
noncomputable def qj(s:Str):Bool:=(["S","A","B"]:List Str).contains s
noncomputable def we(R:bn)(q:aF):List Nat:=match (aG R q.1)[q.2]? with
 |some s=>if qj s then [sym s] else [q.1,q.2]
 |none=>[q.1,q.2]
noncomputable def gL(R:bn)(q:aF):Nm:=.mk 40 (we R q)
noncomputable def iK(R:bn)(q:aF):List Str:=(aG R q.1).take q.2++d5 "."::(aG R q.1).drop q.2
noncomputable def wa(R:bn)(q:aF):Str:=if q.2=0 then(iK R q).getLastD "" else((aG R q.1)[q.2-1]?).getD ""
noncomputable def rt(R:bn)(q:aF):SV:=if q.2< (aG R q.1).length then a9 (q.1,q.2+1) else .none
noncomputable def dY(R:bn)(q:aF):SF:=[("name",.str (bE R q.1)),("prod",.tup ((iK R q).map .str)),("number",.int q.1),("lr_index",.int q.2),("lookaheads",.ref (.mk 60 [q.1,q.2])),("len",.int ((aG R q.1).length+1:Nat)),("usyms",.ref (.mk 42 [q.1])),
 ("lr_after",.ref (gL R q)),("lr_before",.str (wa R q)),("lr_next",rt R q)]
def cX(R:bn)(q:aF):Prop:=q.1<R.length∧q.2≤(aG R q.1).length
noncomputable def qc(R:bn)(j:Nat):List Str:=(aG R j).foldl (λu s=>if s∈u then u else u++[s]) []
def u8(R:bn)(h:SH):Prop:=∀q,cX R q→h (bj q)=aa (.inst 135 (dY R q))∧h (gL R q)=aa (.list ((dQ R q).map bA))∧h (.mk 42 [q.1])=aa (.list ((qc R q.1).map .str))
noncomputable def wz:SV:=.tup [.str "right",.int 0]
noncomputable def YU(R:bn)(j:Nat):Str:=if aG R j=[] then bE R j++d5 " -> <empty>" else bE R j++d5 " -> "++z8 (d5 " ") (aG R j)
noncomputable def gd(R:bn)(j:Nat):SF:=[("name",.str (bE R j)),("prod",.tup ((aG R j).map .str)),("number",.int j),("func",.none),("callable",.none),("file",.str ""),("line",.int 0),("prec",wz),("len",.int (aG R j).length),("usyms",.ref (.mk 42 [j])),
 ("lr_items",.ref (.mk 43 [j])),("lr_next",a9 (j,0)),("str",.str (YU R j))]
structure h9(c:Int)(x:SF):Prop where
 len:x.length≤(if(x.lookup ("lr0_added":Str)).isSome then 1 else 0)+(if(x.lookup ("reduced":Str)).isSome then 1 else 0)
 add:x.lookup ("lr0_added":Str)=af∨∃k,k≤c∧x.lookup ("lr0_added":Str)=aa (.int k)
 red:x.lookup ("reduced":Str)=af∨∃k,x.lookup ("reduced":Str)=aa (.int k)
def XQ(R:bn)(c:Int)(h:SH):Prop:=∀j,j<R.length→∃x,h (bf j)=aa (.inst 100 (gd R j++x))∧h9 c x
noncomputable def aX:Nm:=.mk 34 []
noncomputable def nC(c:Int):SF:=[("grammar",.ref aX),("lr_method",.str "SLR"),("lr_action",.ref (.mk 51 [])),("lr_goto",.ref (.mk 52 [])),("lr_productions",.ref (.mk 35 [])),("lr_goto_cache",.ref (.mk 32 [])),("lr0_cidhash",.ref (.mk 33 [])),("_add_count",.int c),("sr_conflict",.int 0),("rr_conflict",.int 0),
 ("conflicts",.ref (.mk 53 [])),("sr_conflicts",.ref (.mk 54 [])),("rr_conflicts",.ref (.mk 55 []))]
structure gY(R:bn)(c:Int)(N:Nat)(h:SH):Prop where
 free:bp h N
 it:u8 R h
 pr:XQ R c h
 tb:h dp=aa (.inst 427 (nC c))
 hc:0≤c
 hR:R.length≤20
 hr:∀j,(aG R j).length≤10
theorem Oq{α:Type}{f:α→Nat}{k:Nat}:∀{l:List α},(∀y∈l,f y≤k)→(l.map f).sum≤l.length*k
 |[],_=>b_ _
 |a::r,h=>by
  have:=Oq (l:=r) λy hy=>h y (eT _ hy);have:=h a dA;rw[sI,List.sum_cons,iE,QP _ _,sp _ _];exact fp ‹_› ‹_›
theorem Fn(x:Str)(v:SV):∀fs:SF,(fs.put x v).length=fs.length+if(fs.lookup x).isSome then 0 else 1
 |[]=>rfl
 |(y,u)::r=>by
  show(if x=y then(y,v)::r else(y,u)::SF.put r x v:SF).length=_;rw[k_]
  by_cases e:x=y
  ·subst e
   rw[aP rfl,qF _];rfl
  ·rw[aK e,k9.mpr e,iE,iE,Fn x v r,uA _ _ _]
theorem h9.small{c:Int}{x:SF}(L:h9 c x):x.length≤2:=ah L.len (by split<;>split<;>exact aJ)
theorem h9.le{c:Int}{x:SF}(L:h9 c x){R:bn}{j:Nat}:(gd R j++x).length≤1000:=by
 rw[cU];exact ah (e6 L.small 13) aJ
theorem h9.up{c d:Int}{x:SF}(L:h9 c x)(h:c≤d):h9 d x:=⟨L.len,L.add.imp id λ⟨k,a,b⟩=>⟨k,DB a h,b⟩,L.red⟩
theorem h9.mark{c:Int}{x:SF}(L:h9 c x):h9 (c+1) (x.put "lr0_added" (.int (c+1))):=by
 have e1:(x.put "lr0_added" (.int (c+1))).lookup ("lr0_added":Str)=aa (.int (c+1)):=by rw[gj,aP rfl]
 have e2:(x.put "lr0_added" (.int (c+1))).lookup ("reduced":Str)=x.lookup ("reduced":Str):=by rw[gj,aK aW]
 refine⟨?_,.inr (aU _ (QQ _) e1),by rw[e2];exact L.red⟩;have:=L.len;rw[Fn _ _ _,e1,e2];revert this
 cases(x.lookup ("lr0_added":Str)).isSome<;>simp<;>lia
section
theorem TZ{J:List aF}{ad:List Nat}{x:Nat}{xs:List Nat}(h:x∈ad):kM J ad (x::xs)=kM J ad xs:=aP h
theorem Z'{J:List aF}{ad:List Nat}{x:Nat}{xs:List Nat}(h:x∉ad):kM J ad (x::xs)=kM (J++[(x,0)]) (ad++[x]) xs:=aK h
theorem yu{R:bn}{q:aF}{j:Nat}(h:j∈dQ R q):j<R.length:=by
 unfold dQ at h
 split at h
 ·exact cT h
 ·exact dR.mp (m9.mp h).1
structure CS where
 J:List aF
 ad:List Nat
 fl:Bool
 h:SH
section
variable(R:bn)(c:Int)(N:Nat)(aA:SH)(I:List aF)
def W7(ad:List Nat)(j:Nat)(x:SF):Prop:=(j∈ad→h9 (c+1) x∧x.lookup ("lr0_added":Str)=aa (.int (c+1)))∧(j∉ad→h9 c x)
structure j1(s:CS):Prop where
 list:s.h (gN N)=aa (.list (s.J.map a9))
 pr:∀j,j<R.length→∃x,s.h (bf j)=aa (.inst 100 (gd R j++x))∧W7 c s.ad j x
 same:∀k l,k≠10→.mk k l≠gN N→s.h (.mk k l)=aA (.mk k l)
 ok:∀q∈s.J,cX R q
 nd:s.ad.Nodup
 src:∀y∈s.ad,y<R.length
 len:s.J.length≤30+s.ad.length
structure C0:Prop where
 tb:aA dp=aa (.inst 427 (nC (c+1)))
 it:u8 R aA
 hR:R.length≤20
 hc:0≤c
 hr:∀j,(aG R j).length≤10
noncomputable def GP(s:CS):SF:=[("self",.ref dp),("J",.ref (gN N)),("didadd",.bool s.fl)]
def Ng(s:CS)(m:Nat):Prop:=j1 R c N aA s∧((s.fl=ab∧s.J=I∧s.ad=[]∧m=2)∨(eW R 0 I [] s.J s.ad∧m=if s.fl then 1 else 0))
def rh(t:CS)(s:CS)(i m:Nat):Prop:=m=60-i∧j1 R c N aA s∧(∀J' a',eW R i s.J s.ad J' a'→eW R 0 t.J t.ad J' a')∧t.ad.length≤s.ad.length∧(s.fl=ab→t.ad.length<s.ad.length)∧i≤s.J.length
def se(L:Nat)(t:CS)(q:aF)(s:CS)(i:Nat):Prop:=j1 R c N aA s∧kM s.J s.ad ((dQ R q).drop i)=kM t.J t.ad (dQ R q)∧L≤s.ad.length∧(s.fl=ab→L<s.ad.length)∧t.J.length≤s.J.length
end
variable{R:bn}{c:Int}{N:Nat}{aA:SH}{I:List aF}{s t:CS}
theorem mH{k:Nat}{l:List Nat}(hk:k≠99):Nm.mk k l≠gN N:=λe=>hk (Nm.mk.inj e).1
theorem j1.items(X:j1 R c N aA s)(O:C0 R c aA):u8 R s.h:=λq hq=>
 have A:=O.it q hq
 (cG ((X.same _ _ bH (mH bH)).trans A.1) ((X.same _ _ bH (mH bH)).trans A.2.1) ((X.same _ _ bH (mH bH)).trans A.2.2))
theorem j1.table(X:j1 R c N aA s)(O:C0 R c aA):s.h dp=aa (.inst 427 (nC (c+1))):=(X.same 30 [] bH (mH bH)).trans O.tb
theorem j1.bu(X:j1 R c N aA s)(O:C0 R c aA):s.J.length≤50:=by
 have:=fO X.nd (λy hy=>dR.mpr (X.src y hy));rw[dS] at this;exact ah X.len (e6 (ah this O.hR) 30)
theorem j1.done(X:j1 R c N aA s)(O:C0 R c aA)(B:bp aA (N+1)):gY R (c+1) (N+1) s.h:=
 ⟨B.same λk l hk=>X.same _ _ bH λe=>by have:=mv e;exact dG ‹_› ‹_›,X.items O,λj hj=>by
  refine bG (X.pr j hj) λx a b1 b2=>?_
  by_cases e:j∈s.ad
  ·exact(aU x a ((b1 e).1))
  ·exact(aU x a ((b2 e).up (ait (QQ c)))),X.table O,ait O.hc,O.hR,O.hr⟩
theorem j1.add(X:j1 R c N aA s){j:Nat}{x:SF}(hj:j<R.length)(UD:j∉s.ad)(hx:h9 c x):
  j1 R c N aA ⟨s.J++[(j,0)],s.ad++[j],ab,(s.h.set (gN N) (.list (s.J.map a9++[a9 (j,0)]))).set (bf j) (.inst 100 (gd R j++x.put "lr0_added" (.int (c+1))))⟩:=by
 have ng:∀i,bf i≠gN N:=λi e=>by injection e with e;cases e
 refine⟨?_,λi hi=>?_,λk l hk Ke=>?_,λq hq=>?_,?_,λy hy=>?_,?_⟩
 ·show((s.h.set (gN N) (.list (s.J.map a9++[a9 (j,0)]))).set (bf j) (.inst 100 (gd R j++x.put "lr0_added" (.int (c+1))))) (gN N)=_
  rw[aq (ng j).symm,aS,dN];rfl
 ·by_cases e:i=j
  ·subst e
   exact⟨_,aS,λ_=>⟨hx.mark,by rw[gj,aP rfl]⟩,λz=>bc (kj _ (bS.mpr rfl)) z⟩
  ·refine aj (X.pr i hi) λx' h1 h2=>?_
   refine⟨x',(aq (λq=>by injection q with _ q;injection q with q;exact e q)).trans ((aq (ng i)).trans h1),λz=>h2.1 ((dw.mp z).resolve_right λz=>e (bS.mp z)),λz=>h2.2 λy=>z (i7 _ y)⟩
 ·exact(aq (λq=>by injection q with q;exact hk q)).trans ((aq Ke).trans (X.same k l hk Ke))
 ·rcases dw.mp hq with q'|q'
  ·exact X.ok q q'
  ·rw[bS.mp q'];exact⟨hj,b_ _⟩
 ·exact lq.mpr (cG X.nd (ko _ _) (λa ha b hb e=>UD (bS.mp hb▸e▸ha)))
 ·rcases dw.mp hy with q'|q'
  ·exact X.src y q'
  ·rw[bS.mp q'];exact hj
 ·have:=X.len
  simp only[cU,zU];exact eG ‹_›
theorem rh.stop{m i:Nat}{n:Nat}(hm:(t.J=I∧t.ad=[]∧n=2)∨(eW R 0 I [] t.J t.ad∧n=1))(X:rh R c N aA t s i m)(tF:s.J.length≤i):∃k,k<n∧Ng R c N aA I s k:=by
 refine FO X λ_ X eO _ iu _=>?_;have C1:=eO _ _ (eW.done tF);rcases hm with⟨e1,e2,rfl⟩|⟨hC,rfl⟩
 ·rw[e1,e2] at C1
  exact⟨if s.fl then 1 else 0,by split<;>exact bg,X,.inr ⟨C1,rfl⟩⟩
 ·refine xA ((eW.same λi q qh e=>hC.prop.2 i q (b_ _) e:eW R 0 t.J t.ad t.J t.ad).det C1) λe1 e2=>?_
  have:s.fl=an:=by
   cases e:s.fl with
   |false=>rfl
   |true=>have:=iu e;rw[e2] at this;exact bc this (fo _)
  exact⟨0,pf,X,.inr ⟨by rw[←e1,←e2];exact hC,by rw[this];rfl⟩⟩
theorem se.old{L:Nat}{q:aF}{i j:Nat}(X:se R c N aA L t q s i)(hj:(dQ R q)[i]? =aa j)(CV:j∈s.ad):se R c N aA L t q s (i+1):=by
 obtain⟨hi,hj⟩:=cV.mp hj;refine⟨X.1,?_,X.2.2⟩;rw[←X.2.1,Iy hi,hj,TZ CV]
theorem se.new{L:Nat}{q:aF}{i j:Nat}{x:SF}(X:se R c N aA L t q s i)(hj:(dQ R q)[i]? =aa j)(CV:j∉s.ad)(hx:h9 c x):se R c N aA L t q ⟨s.J++[(j,0)],s.ad++[j],ab,(s.h.set (gN N) (.list (s.J.map a9++[a9 (j,0)]))).set (bf j) (.inst 100 (gd R j++x.put "lr0_added" (.int (c+1))))⟩ (i+1):=by
 refine⟨X.1.add (yu (bN hj)) CV hx,?_,?_,λ_=>?_,?_⟩
 ·obtain⟨hi,hj⟩:=cV.mp hj
  rw[←X.2.1,Iy hi,hj,Z' CV]
 ·exact ah X.2.2.1 (cU▸b6 _ _)
 ·exact bd X.2.2.1 (cU▸dq _)
 ·exact ah X.2.2.2.2 (cU▸b6 _ _)
theorem rh.next{q:aF}{s':CS}{i m:Nat}(X:rh R c N aA t s i m)(O:C0 R c aA)(hq:s.J[i]? =aa q)(Y:se R c N aA t.ad.length s q s' (dQ R q).length):∃k,k<m∧rh R c N aA t s' (i+1) k:=by
 obtain⟨rfl,X,eO,_,_,_⟩:=X;obtain⟨Y,e,d,d',g⟩:=Y;have hi:=(cV.mp hq).1;rw[List.drop_length] at e;exact⟨60- (i+1),ais (bI hi (ah (X.bu O) aJ)) (dq _),rfl,Y,λJ' a' w=>eO J' a' (.step hq (by rw[←e];exact w)),d,d',ah hi g⟩
theorem dJ{α β:Type}{l:List α}{f:α→β}{i:Nat}{v:β}(e:(l.map f)[i]? =aa v):∃q,l[i]? =aa q∧v=f q:=by
 rw[dv] at e;refine aj (Dl.mp e) λq a b=>?_;exact(aU q a b.symm)
end
variable{R:bn}{c:Int}{N:Nat}{I:List aF}
noncomputable def aav:List Str:=["self","I","J","didadd","j","x"]
theorem Rh:cr (bC 340) aav=ab:=by kernel_rfl
theorem w_none{a:au}:cY (bC a) []=ab:=rfl
theorem iB{G:Gl}:callable G (.bi "list.append")=ab:=rfl
structure zo(R:bn)(c:Int)(N:Nat)(h:SH)(I:List aF)(v:SV)(h':SH)(J:List aF)(ad:List Nat):Prop where
 v:v=.ref (gN N)
 clo:eW R 0 I [] J ad
 list:h' (gN N)=aa (.list (J.map a9))
 ok:∀q∈J,cX R q
 tb:gY R (c+1) (N+1) h'
 same:∀k l,k≠10→k≠30→.mk k l≠gN N→h' (.mk k l)=h (.mk k l)
theorem BZ{n:Nm}(hb:i.b=b+1)(T:gY R c N h)(hn:h n=aa (.list (I.map a9)))(hI:∀q∈I,cX R q)(hl:I.length≤30):FP i h (.glob 340) [.ref dp,.ref n] (λv h'=>∃J ad,zo R c N h I v h' J ad):=by
 refine enter i.K.clo Rh w_none hb rfl ?_;refine Fi n_ T.tb (Of T.tb) bD wA T.tb (jG rfl) ?_;refine bM (Ox (m:=gN N) n_ ((aq λe=>by rw[e,T.tb] at hn;cases hn).trans hn) (by rw[aI _];refine(?_:_≤2^24);exact ah ‹_› aJ) T.free.at) ?_;refine bM jE ?_;have O:C0 R c ((h.set dp (.inst 427 ((nC c).put "_add_count" (.int (c+1))))).set (gN N) (.list (I.map a9))):=⟨rfl,T.it,T.hR,T.hc,T.hr⟩;have X:j1 R c N ((h.set dp (.inst 427 ((nC c).put "_add_count" (.int (c+1))))).set (gN N) (.list (I.map a9))) ⟨I,[],ab,(h.set dp (.inst 427 ((nC c).put "_add_count" (.int (c+1))))).set (gN N) (.list (I.map a9))⟩:=
  ⟨aS,λj hj=>by refine aj (T.pr j hj) λx a b=>?_;exact⟨x,a,λz=>(cT z),λ_=>b⟩,λ_ _ _ _=>rfl,hI,.nil,λ_ z=>(cT z),by exact hl⟩
 generalize hh:(h.set dp (.inst 427 ((nC c).put "_add_count" (.int (c+1))))).set (gN N) (.list (I.map a9))=aA at O X ⊢;refine ry (GP N) CS.h (Ng R c N aA I) ⟨I,[],ab,aA⟩ 2 ⟨X,.inl (o_ rfl rfl rfl rfl)⟩ (ai (ai (ai bq))) ?_;clear X;rintro s m ⟨X,kX⟩;refine(mC s.fl s.h (p_ n_ jf) (λe=>?_) (λe=>?_))
 ·refine aH (gA n_ ?_)
  rcases kX with⟨e',_⟩|⟨C,_⟩
  ·rw[e] at e';exact cJ e'
  ·exact⟨s.J,s.ad,rfl,C,X.list,X.ok,X.done O (hh▸bp.new (T.free.same (h':=h.set dp (.inst 427 ((nC c).put "_add_count" (.int (c+1))))) λ_ _ _=>rfl) _ _),λk l h1 h2 h3=>(X.same k l h1 h3).trans (hh▸(aq h3).trans (aq λe=>h2 (Nm.mk.inj e).1))⟩
 ·have hm:(s.J=I∧s.ad=[]∧m=2)∨(eW R 0 I [] s.J s.ad∧m=1):=kX.imp (λq=>q.2) λq=>⟨q.1,by rw[q.2,e];rfl⟩
  clear kX;refine bM jE ?_;refine BK (GP N) CS.h (rh R c N aA s) ⟨s.J,s.ad,an,s.h⟩ 60 (d7 n_ X.list) ⟨rfl,⟨X.list,X.pr,X.same,X.ok,X.nd,X.src,X.len⟩,λ_ _ x=>x,ar _,λe=>(cJ e),b_ _⟩ (ai (ai (ai bq))) ?_;intro s1 j m1 Y;refine(cK _ (d8 Y.2.1.list) (λe1=>?_) (λv e1=>?_))
  ·refine aj (rh.stop hm Y (by have:=km.mp e1;rwa [aI] at this)) λk hk W=>?_
   exact aH (aH (bK (LQ.next s1 (aU k hk W) .rfl)))
  ·refine aj (dJ e1) λq hq ax=>?_;subst ax
   have hit:=Y.2.1.items O q (Y.2.1.ok q (bN hq));refine dX (et (GP N) CS.h (se R c N aA s.ad.length s1 q) s1 ((dQ R q).map bA) (d7 (a_ n_ hit.1) hit.2.1) ⟨Y.2.1,rfl,Y.2.2.2.1,Y.2.2.2.2.1,ar _⟩ (ai (ai (ai bq))) (λs2 j2 Z=>d8 (Z.1.items O q (Y.2.1.ok q (bN hq))).2.1) (λs2 j2 v2 Z e2=>?_) λs2 Z=>?_)
   ·refine aj (dJ e2) λy hy ax=>?_;subst ax
    refine bG (Z.1.pr y (yu (bN hy))) λx hx yU ZT=>?_;refine dX ?_
    by_cases Cv:y∈s2.ad
    ·refine cS (bt (a_ n_ hx (yU Cv).2) (a_ n_ (Z.1.table O)) (nu rfl)) (GC ?_)
     exact LQ.cont s2 (Z.old hy Cv) (ai (ai (ai bq)))
    ·have hL:=ZT Cv
     refine cf (ag:=s2.h) ?_ ?_
     ·rcases hL.add with e3|⟨k,hk,e3⟩
      ·exact bt (a0_ n_ hx e3) (a_ n_ (Z.1.table O)) (lX λe=>by injection e with e;exact QR (aiu O.hc) e)
      ·exact bt (a_ n_ hx e3) (a_ n_ (Z.1.table O)) (lX λe=>by injection e with e;exact QR (aiu hk) e)
     ·refine aH (fG (di n_ (fS Z.1.list) iB (aB (a_ n_ hx) aL) (fX Z.1.list ?_)) ?_)
      ·rw[aI _];have:=Z.1.bu O;refine(?_:_≤2^24);exact ah ‹_› aJ
      refine jA (n:=bf y) (a_ (n:=dp) n_ (Z.1.table O)) n_ hx hL.le ?_;refine bM jE ?_;exact aH (bK (LQ.next _ (Z.new hy Cv hL) (ai (ai (ai bq)))))
   ·refine aj (rh.next Y O hq (by rw[aI] at Z;exact Z)) λk hk W=>?_
    exact aH (aH (bK (LQ.next s2 (aU k hk W) .rfl)))
noncomputable def aM(q:aF):SV:=.tup [.int q.1,.int q.2]
noncomputable def dm(I:List aF):SV:=.tup (I.map aM)
theorem acp:cr (bC 318) ["I"]=ab:=by kernel_rfl
theorem Uc:cY (bC 318) ["tuple"]=ab:=by kernel_rfl
def Told(h:SH)(v:SV)(I:List aF):Prop:=(v=.none∧I=[])∨∃n,v=.ref n∧h n=aa (.list (I.map a9))
noncomputable def eP(N:Nat)(I:List aF)(h:SH):SH:=if I=[] then h else h.set (gN N) (.list (I.map aM))
theorem t6{v:SV}(hb:i.b=b+1)(hv:Told h v I)(hI:∀q∈I,cX R q)(it:u8 R h)(B:bp h N)(hz:I.length≤1000):FP i h (.glob 318) [v] (is (dm I) (h.bV N (eP N I h))):=by
 refine enter i.K.place acp Uc hb rfl ?_
 by_cases rd:I=[]
 ·subst rd
  refine cS (ag:=h) (fw (t:=an) (p_ n_ ?_)) (gA (eY aL) ⟨rfl,K7.symm⟩);rcases hv with⟨rfl,_⟩|⟨n,rfl,hn⟩
  ·exact nN
  ·exact lT (.own hn) bg
 ·refine aj (hv.resolve_left λe=>rd e.2) λn br hn=>?_;subst br
  have hz':(I.map a9).length≤1000:=by rw[aI _];exact hz
  have ng:n≠gN N:=λe=>by rw[e,gN,B.at] at hn;exact a7 hn
  refine cf (fw (t:=ab) (p_ n_ ((by cases I with|nil=>exact bc rfl rd|cons _ _=>rfl:(!(I.map a9).isEmpty)=ab)▸lT (.own hn) (bd ‹_› bg)))) (aH (gA (b8 (i.K.ty rfl) rfl (aB (CK (l:=["p"]) (ls:=[]) (us:=I.map aM) ?_ rfl ?_ (d7 n_ hn) (B.at (l:=[])) (λws j=>d8 ((aq ng).trans hn)) (by rw[aI _,aI _]) (by refine(?_:_≤2^24);exact ah ‹_› aJ) rfl ?_) aL) (AI (.own aS) ?_)) ⟨rfl,Z_.trans (ay _ (aK rd).symm)⟩))
  ·kernel_rfl
  ·kernel_rfl
  ·intro ws j v u e1 e2
   refine aj (dJ e1) λq hq ax=>?_;subst ax;rw[dv,hq] at e2
   (first|exact a7 e2|obtain rfl:=aY e2)
   have A:=(it q (hI q (bN hq))).1;exact eY (aB (a_ (n:=bj q) n_ A) (aB (a_ (n:=bj q) n_ A) aL))
  ·rw[aI _];refine(?_:_≤2^24);exact ah ‹_› aJ
noncomputable def jB(R:bn)(x:Str)(q:aF):Option aF:=if(aG R q.1)[q.2]? =aa x then aa (q.1,q.2+1) else af
noncomputable def cF(R:bn)(I:List aF)(x:Str):List aF:=I.filterMap (jB R x)
def dF(R:bn)(ps L:List aF):Prop:=(ps=[]∧L=[])∨(ps≠[]∧∃ad,eW R 0 ps [] L ad)
theorem dF.det{ps L L':List aF}(a:dF R ps L)(b:dF R ps L'):L=L':=
 a.elim (λa=>b.elim (λb=>a.2.trans b.2.symm) λb=>bc a.1 b.1) λa=>b.elim (λb=>bc b.1 a.1) λb=>a.2.elim λ_ c=>b.2.elim λ_ c'=>(c.det c').1
theorem dF.nil{ps L:List aF}(a:dF R ps L):L=[]↔ps=[]:=
 a.elim (λa=>⟨λ_=>a.1,λ_=>a.2⟩) λa=>⟨λe2=>a.2.elim λad c=>aj c.prop.1.ext λx e1 _=>(aiv.mp (e1.symm.trans e2)).1,λz=>bc z a.1⟩
noncomputable def Sy:List Str:=["S","A","B","a","b","error","c"]
theorem TO{x y:Str}(hx:x∈Sy)(hy:y∈Sy)(e:sym x=sym y):x=y:=by
 have:∀x∈Sy,∀y∈Sy,sym x=sym y→x=y:=by decide +kernel
 exact this x hx y hy e
noncomputable def Gi(ps:List aF):List Nat:=ps.flatMap λq=>[q.1,q.2]
theorem ac0{ps:List aF}:∀{qs:List aF},Gi ps=Gi qs→ps=qs:=by
 induction ps with
 |nil=>exact λ{qs} e=>by cases qs with
  |nil=>rfl
  |cons q r=>exact wk e
 |cons p r ih=>exact λ{qs} e=>by cases qs with
  |nil=>exact jC e
  |cons q t=>exact have z:=lw e;have y:=lw z.2;congr (ay DI (jw z.1 y.1)) (ih y.2)
noncomputable def cI(x:Str)(ps:List aF):Nm:=.mk 31 (sym x::Gi ps)
theorem K2{x y:Str}{ps qs:List aF}(hx:x∈Sy)(hy:y∈Sy)(e:cI x ps=cI y qs):x=y∧ps=qs:=by
 have z:=lw (Nm.mk.inj e).2;exact⟨TO hx hy z.1,ac0 z.2⟩
noncomputable def jc:Nm:=.mk 32 []
def j5(N:Nat)(h:SH)(v:SV)(L:List aF):Prop:=(v=.none∧L=[])∨∃k,k<N∧v=.ref (gN k)∧h (gN k)=aa (.list (L.map a9))
theorem j5.told{v:SV}{L:List aF}(t:j5 N h v L):Told h v L:=t.imp id λz=>bG z λk _ e a=>⟨_,e,a⟩
def fz(N:Nat)(h h':SH):Prop:=∀k l,k<N→h' (.mk 99 (k::l))=h (.mk 99 (k::l))
theorem fz.rfl{N:Nat}{h:SH}:fz N h h:=λ_ _ _=>Eq.refl _
theorem j5.mono{v:SV}{L:List aF}{M:Nat}(t:j5 N h v L)(s:fz N h h')(hM:N≤M):j5 M h' v L:=t.imp id λz=>bG z λk a b c=>⟨k,bI a hM,b,(s k [] a).trans c⟩
abbrev b7:=List (SV×SV)
abbrev dB:=Str→List aF→Option b7
noncomputable def tL:SV:=.str "$end"
def sY(R:bn)(N:Nat)(h:SH)(T:dB)(x:Str)(ps:List aF)(k v:SV):Prop:=(k=tL∧∃L,dF R ps L∧j5 N h v L)∨∃q,cX R q∧k=aM q∧v=.ref (cI x (ps++[q]))∧(T x (ps++[q])).isSome=ab
def vi(R:bn)(U:List (List aF))(N:Nat)(h:SH)(T:dB)(k v:SV):Prop:=(∃x∈Sy,k=.str x∧v=.ref (cI x [])∧(T x []).isSome=ab)∨∃I∈U,∃x∈Sy,k=.tup [dm I,.str x]∧∃L,dF R (cF R I x) L∧j5 N h v L
structure eE(R:bn)(U:List (List aF))(N:Nat)(h:SH)(W:Str→List aF→Prop)(T:dB)(es:b7):Prop where
 ca:h jc=aa (.dict es)
 nd:(es.map (·.1)).Nodup
 ent:∀k v,es.lookup k=aa v→vi R U N h T k v
 heap:∀x∈Sy,∀ps,h (cI x ps)=(T x ps).map .dict
 node:∀x∈Sy,∀ps ds,T x ps=aa ds→(ds≠[]∨W x ps)∧(ds.map (·.1)).Nodup∧∀k v,ds.lookup k=aa v→sY R N h T x ps k v
 root:∀x∈Sy,(T x []).isSome=ab→es.lookup (.str x)=aa (.ref (cI x []))
 up:∀x∈Sy,∀ps q,(T x (ps++[q])).isSome=ab→∃ds,T x ps=aa ds∧ds.lookup (aM q)=aa (.ref (cI x (ps++[q])))
variable{U:List (List aF)}{W W':Str→List aF→Prop}{T:dB}{es:b7}{x:Str}{ps:List aF}{M:Nat}
theorem sY.mono{k v:SV}(e:sY R N h T x ps k v)(s:fz N h h')(hM:N≤M){T':dB}(hT:∀x ps,(T x ps).isSome=ab→(T' x ps).isSome=ab):sY R M h' T' x ps k v:=
 e.imp (λz=>⟨z.1,aj z.2 λL b c=>⟨L,b,c.mono s hM⟩⟩) λz=>hG z λq a b c d=>⟨q,a,b,c,hT _ _ d⟩
theorem vi.mono{k v:SV}(e:vi R U N h T k v)(s:fz N h h')(hM:N≤M){T':dB}(hT:∀x ps,(T x ps).isSome=ab→(T' x ps).isSome=ab):vi R U M h' T' k v:=
 e.imp (λz=>hG z λx hx a b c=>⟨x,hx,a,b,hT _ _ c⟩) λz=>z.elim λI z=>z.2.elim λx w=>w.2.2.elim λL y=>⟨I,z.1,x,w.1,w.2.1,L,y.1,y.2.mono s hM⟩
theorem eE.mono(C:eE R U N h W T es)(s:fz N h h')(hM:N≤M)(e1:∀l,h' (.mk 31 l)=h (.mk 31 l))(e2:h' jc=h jc):eE R U M h' W T es:=
 ⟨e2.trans C.ca,C.nd,λk v e=>(C.ent k v e).mono s hM λ_ _=>id,λx hx ps=>(e1 _).trans (C.heap x hx ps),λx hx ps ds e=>(cG ((C.node x hx ps ds e).1) ((C.node x hx ps ds e).2.1) (λk v q=>((C.node x hx ps ds e).2.2 k v q).mono s hM λ_ _=>id)),C.root,C.up⟩
theorem Ht{q:aF}:ps++[q]≠ps:=λe=>ahv _ (cU.symm.trans (ay oq e))
theorem LH{q:aF}:ps++[q]≠[]:=λe=>jC (aiv.mp e).2
noncomputable def dB.put(T:dB)(x:Str)(ps:List aF)(ds:b7):dB:=λy qs=>if y=x∧qs=ps then aa ds else T y qs
theorem DT{ds:b7}:T.put x ps ds x ps=aa ds:=aP ⟨rfl,rfl⟩
theorem xb{ds:b7}{y:Str}{qs:List aF}(e:y=x∧qs=ps):T.put x ps ds y qs=aa ds:=aP e
theorem oA{ds:b7}{y:Str}{qs:List aF}(e:¬(y=x∧qs=ps)):T.put x ps ds y qs=T y qs:=aK e
theorem DU{ds:b7}(y:Str)(qs:List aF)(e:(T y qs).isSome=ab):(T.put x ps ds y qs).isSome=ab:=B3 (P:=λo:Option b7=>o.isSome=ab) (λ_=>rfl) λ_=>e
theorem Hm(C:∀x∈Sy,∀ps,h (cI x ps)=(T x ps).map cw.dict)(hx:x∈Sy)(ds:b7):∀y∈Sy,∀qs,(h.set (cI x ps) (.dict ds)) (cI y qs)=(T.put x ps ds y qs).map .dict:=λy hy qs=>
 if e:y=x∧qs=ps then(aP (congr (ay cI e.1) e.2)).trans (ay (ph cw.dict) (xb e)).symm
 else(aq λz=>e (K2 hy hx z)).trans ((C y hy qs).trans (ay (ph cw.dict) (oA e)).symm)
theorem Aw:cI x ps≠jc:=λe=>nomatch (Nm.mk.inj e).1
theorem tO{o:cw}:fz N h (h.set (cI x ps) o):=λk l _=>aq λe=>nomatch (Nm.mk.inj e).1
theorem BX{o:cw}:fz N h (h.set jc o):=λk l _=>aq λe=>nomatch (Nm.mk.inj e).1
theorem yC{p q:aF}(e:aM p=aM q):p=q:=have z:=lw (SV.tup.inj e);jw (w7 (SV.int.inj z.1)) (w7 (SV.int.inj (lw z.2).1))
theorem Fs{I J:List aF}(e:dm I=dm J):I=J:=by
 replace e:=SV.tup.inj e
 induction I generalizing J with
 |nil=>cases J with
  |nil=>rfl
  |cons _ _=>exact wk e
 |cons a r ih=>cases J with
  |nil=>exact jC e
  |cons c t=>exact have z:=lw e;congr (ay DI (yC z.1)) (ih z.2)
theorem ads{es:b7}{k v:SV}:bh es k v≠[]:=λe=>a7 ((ay (w4 k) e).symm.trans ((fy k).trans (aP rfl)))
theorem D0{es:b7}{k v k' v':SV}{C:SV→SV→Prop}(w:(bh es k v).lookup k'=aa v')(h1:C k v)(h2:es.lookup k'=aa v'→C k' v'):C k' v':=
 have w:=(fy k').symm.trans w
 if q:k'=k then aY ((aP q).symm.trans w)▸q▸h1 else h2 ((aK q).symm.trans w)
theorem eE.Ζ(C:eE R U N h (λ_ _=>False) T es)(hx:x∈Sy)(hT:T x []=af):
  eE R U N ((h.set (cI x []) (.dict [])).set jc (.dict (bh es (.str x) (.ref (cI x []))))) (λy qs=>y=x∧qs=[]) (T.put x [] []) (bh es (.str x) (.ref (cI x []))):=by
 have st:fz N h ((h.set (cI x []) (.dict [])).set jc (.dict (bh es (.str x) (.ref (cI x []))))):=λk l hk=>(BX k l hk).trans (tO k l hk);refine⟨aS,oN C.nd,λk v e=>D0 (C:=vi R U N _ _) e (.inl ⟨x,hx,rfl,rfl,ay uL DT⟩) λe=>(C.ent k v e).mono st (ar _) DU,λy hy qs=>(aq Aw).trans (Hm C.heap hx [] y hy qs),λy hy qs ds e=>?_,λy hy e=>?_,λy hy qs q e=>?_⟩
 ·exact if z:y=x∧qs=[] then have e:([]:b7)=ds:=aY ((xb z).symm.trans e);e▸⟨.inr z,.nil,λ_ _ q=>a7 q⟩
   else have n:=C.node y hy qs ds ((oA z).symm.trans e);⟨.inl (n.1.resolve_right id),n.2.1,λk v q=>(n.2.2 k v q).mono st (ar _) DU⟩
 ·exact(fy _).trans (if z:y=x then(aP (ay SV.str z)).trans (z▸rfl) else(aK λw=>z (SV.str.inj w)).trans (C.root y hy ((ay uL (oA λq=>z q.1)).symm.trans e)))
 ·exact aj (C.up y hy qs q ((ay uL (oA λz=>LH z.2)).symm.trans e)) λds a b=>⟨ds,(oA λz=>a7 (((congr (ay T z.1) z.2).trans hT).symm.trans a)).trans a,b⟩
theorem eE.grow{ds:b7}{k:SV}{tx:dB}{ag:SH}(C:eE R U N h W T es)(hx:x∈Sy)(hT:T x ps=aa ds)(sm:∀y qs,(T y qs).isSome=ab→tx y qs=T y qs)
  (nw:∀y qs oR,tx y qs=aa oR→T y qs=aa oR∨oR=[]∧W' y qs∧∃q,(y=x∧qs=ps++[q])∧aM q=k) (he:sY R N h tx x ps k v)
  (hp:∀y∈Sy,∀qs,ag (cI y qs)=(tx y qs).map .dict) (st:fz N h ag) (ca:ag jc=h jc) (hW:∀y qs,W y qs→(y=x∧qs=ps)∨W' y qs):
  eE R U N (ag.set (cI x ps) (.dict (bh ds k v))) W' (tx.put x ps (bh ds k v)) es:=by
 have st:fz N h (ag.set (cI x ps) (.dict (bh ds k v))):=λk l hk=>(tO k l hk).trans (st k l hk);have sT:∀{y qs d},T y qs=aa d→(T y qs).isSome=ab:=λe=>ay uL e;have FA:∀y qs,(T y qs).isSome=ab→(tx.put x ps (bh ds k v) y qs).isSome=ab:=λy qs e=>DU y qs ((ay uL (sm y qs e)).trans e);have lk:∀q,ds.lookup (aM q)=aa (.ref (cI x (ps++[q])))∨aM q=k→(bh ds k v).lookup (aM q)=aa (.ref (cI x (ps++[q]))):=λq h=>(fy _).trans (if w:aM q=k then(aP w).trans (ay aa ((λq w=>he.elim (λe=>nomatch w.trans e.1) λe=>e.elim λq' e=>yC (w.trans e.2.1)▸e.2.2.1:∀q,aM q=k→v=.ref (cI x (ps++[q]))) q w)) else(aK w).trans (h.resolve_right w));have cur:∀{y qs},y=x∧qs=ps→T y qs=aa ds:=λz=>(congr (ay T z.1) z.2).trans hT;have back:∀y qs,(tx.put x ps (bh ds k v) y qs).isSome=ab→(T y qs).isSome=ab∨∃q,(y=x∧qs=ps++[q])∧aM q=k:=λy qs e=>
  if z:y=x∧qs=ps then .inl (sT (cur z)) else(zP.mp ((ay uL (oA z)).symm.trans e)).elim λoR e=>(nw y qs oR e).imp sT λn=>n.2.2
 refine⟨(aq (Ne.symm Aw)).trans (ca.trans C.ca),C.nd,λk v e=>(C.ent k v e).mono st (ar _) FA,Hm hp hx _,λy hy qs oR e=>?_,λy hy e=>C.root y hy ((back y [] e).resolve_right λq=>q.elim λq n=>LH n.1.2.symm),λy hy qs q e=>(back y (qs++[q]) e).elim (λe=>aj (C.up y hy qs q e) λd a b=>?_) λn=>n.elim λq' n=>?_⟩
 ·exact if z:y=x∧qs=ps then have n:=C.node y hy qs ds (cur z);have e:=aY ((xb z).symm.trans e)
    e▸⟨.inl ads,oN n.2.1,λk' v' w=>D0 (C:=sY R N _ _ y qs) w (z.1.symm▸z.2.symm▸he.mono st (ar _) DU) λw=>(n.2.2 k' v' w).mono st (ar _) FA⟩
   else(nw y qs oR ((oA z).symm.trans e)).elim (λe=>have n:=C.node y hy qs oR e;⟨n.1.imp id λw=>(hW y qs w).resolve_left z,n.2.1,λk v q=>(n.2.2 k v q).mono st (ar _) FA⟩) λn=>n.1.symm▸⟨.inr n.2.1,.nil,λ_ _ q=>a7 q⟩
 ·exact if z:y=x∧qs=ps then⟨_,xb z,z.1.symm▸z.2.symm▸lk q (.inl (z.1▸z.2▸aY (a.symm.trans (cur z))▸b))⟩ else⟨d,(oA z).trans ((sm y qs (sT a)).trans a),b⟩
 ·exact have z:=List.append_inj' n.1.2 rfl;⟨_,xb ⟨n.1.1,z.1⟩,(lw z.2).1.symm▸z.1.symm▸n.1.1.symm▸lk q' (.inr n.2)⟩
theorem eE.Gp{ds:b7}{k:SV}(C:eE R U N h W T es)(hx:x∈Sy)(hT:T x ps=aa ds)(he:sY R N h T x ps k v)(hW:∀y qs,W y qs→(y=x∧qs=ps)∨W' y qs):
  eE R U N (h.set (cI x ps) (.dict (bh ds k v))) W' (T.put x ps (bh ds k v)) es:=C.grow hx hT (λ_ _ _=>rfl) (λ_ _ _=>.inl) he C.heap .rfl rfl hW
theorem eE.addChild{ds:b7}{q:aF}(C:eE R U N h W T es)(hx:x∈Sy)(hT:T x ps=aa ds)(hq:cX R q)(hn:ds.lookup (aM q)=af)(hW:∀y qs,W y qs→y=x∧qs=ps):
  eE R U N ((h.set (cI x (ps++[q])) (.dict [])).set (cI x ps) (.dict (bh ds (aM q) (.ref (cI x (ps++[q])))))) (λy qs=>y=x∧qs=ps++[q]) ((T.put x (ps++[q]) []).put x ps (bh ds (aM q) (.ref (cI x (ps++[q]))))) es:=
 C.grow hx hT (λy qs e=>oA λz=>(zP.mp e).elim λd e=>aj (C.up x hx ps q (ay uL ((congr (ay T z.1) z.2).symm.trans e))) λoR a b=>a7 (hn.symm.trans (aY (hT.symm.trans a)▸b)))
  (λy qs oR e=>if z:y=x∧qs=ps++[q] then .inr ⟨(aY ((xb z).symm.trans e)).symm,z,q,z,rfl⟩ else .inl ((oA z).symm.trans e))
  (.inr ⟨q,hq,rfl,rfl,ay uL DT⟩) (Hm C.heap hx []) tO (aq (Ne.symm Aw)) λy qs w=>.inl (hW y qs w)
theorem eE.VM{L:List aF}(C:eE R U N h W T es)(hx:x∈Sy)(hI:I∈U)(hr:dF R (cF R I x) L)(hv:j5 N h v L):eE R U N (h.set jc (.dict (bh es (.tup [dm I,.str x]) v))) W T (bh es (.tup [dm I,.str x]) v):=by
 have st:fz N h (h.set jc (.dict (bh es (.tup [dm I,.str x]) v))):=BX;exact⟨aS,oN C.nd,λk w e=>D0 (C:=vi R U N _ _) e (.inr ⟨I,hI,x,hx,rfl,L,hr,hv.mono st (ar _)⟩) λe=>(C.ent k w e).mono st (ar _) λ_ _=>id,λy hy qs=>(aq Aw).trans (C.heap y hy qs),
  λy hy qs ds e=>have n:=C.node y hy qs ds e;⟨n.1,n.2.1,λk v q=>(n.2.2 k v q).mono st (ar _) λ_ _=>id⟩,λy hy e=>(fy _).trans ((aK λz=>nomatch z).trans (C.root y hy e)),C.up⟩
theorem eE.bu(C:eE R U N h W T es):es.length≤7+7*U.length:=by
 have:(es.map (·.1)).length≤(Sy.map SV.str++U.flatMap λI=>Sy.map λx=>SV.tup [dm I,.str x]).length:=fO C.nd λk hk=>by
  cases e:es.lookup k with
  |none=>exact bc hk (lU.mp e)
  |some v=>
   exact dw.mpr ((C.ent k v e).imp (λz=>aj z λx hx a=>bB.mpr ⟨x,hx,a.1.symm⟩) λz=>z.elim λI z=>z.2.elim λx w=>sK.mpr ⟨I,z.1,bB.mpr ⟨x,w.1,w.2.1.symm⟩⟩)
 rw[aI,cU,aI,QT] at this;rw[(aiw▸aix λ_ _=>aI _:(U.map λI=>(Sy.map λx=>SV.tup [dm I,.str x]).length)=uH U.length 7),aiy] at this;exact Nat.mul_comm 7 _▸this
theorem eE.move(C:eE R U N h W T es)(hW:∀y qs,W y qs→(∀ds,T y qs=aa ds→ds≠[])∨W' y qs):eE R U N h W' T es:=
 ⟨C.ca,C.nd,C.ent,C.heap,λy hy qs ds e=>⟨(C.node y hy qs ds e).1.elim .inl λw=>(hW y qs w).imp (λz=>z ds e) id,(C.node y hy qs ds e).2⟩,C.root,C.up⟩
variable{L:List aF}{k:Nat}
theorem gY.Az{l:List Nat}{o:cw}(T:gY R c N h):gY R c N (h.set (.mk 31 l) o):=⟨T.free.same λ_ _ _=>rfl,T.it,T.pr,T.tb,T.hc,T.hR,T.hr⟩
theorem gY.J6{l:List Nat}{o:cw}(T:gY R c N h):gY R c N (h.set (.mk 32 l) o):=⟨T.free.same λ_ _ _=>rfl,T.it,T.pr,T.tb,T.hc,T.hR,T.hr⟩
theorem gY.g{l:List Nat}{o:cw}(T:gY R c N h):gY R c (N+1) (h.set (.mk 99 (N::l)) o):=⟨T.free.new _ _,T.it,T.pr,T.tb,T.hc,T.hR,T.hr⟩
theorem gY.bV{g:SH}(T:gY R c N h):gY R c (N+1) (h.bV N g):=⟨T.free.bV,T.it,T.pr,T.tb,T.hc,T.hR,T.hr⟩
theorem nQ{l:List Nat}{o:cw}(hM:N≤M):fz N h (h.set (.mk 99 (M::l)) o):=λk l' hk=>aq λe=>by have:=mv e;exact mi hk (ah hM (bF this.symm))
theorem lQ{g:SH}(hM:N≤M):fz N h (h.bV M g):=λk l' hk=>Ma (du (bI hk hM))
theorem fz.trans{mx:SH}(a:fz N h h')(b:fz M h' mx)(hM:N≤M):fz N h mx:=λk l hk=>(b k l (bI hk hM)).trans (a k l hk)
theorem rp{n:Nat}:SV.key (n+2) (dm I)=ab:=by
 show SV.keys (n+1) (I.map aM)=ab
 induction I with
 |nil=>rfl
 |cons a r ih=>exact ih
structure cZ(R:bn)(U:List (List aF))(c:Int)(N:Nat)(h:SH):Prop where
 tb:gY R c N h
 ca:∃T es,eE R U N h (λ_ _=>False) T es
 hU:U.length≤2000000
def Kp(N:Nat)(h h':SH):Prop:=(∀k l,k≠10→k≠30→k≠31→k≠32→k≠99→h' (.mk k l)=h (.mk k l))∧fz N h h'
theorem Kp.trans{mx:SH}(a:Kp N h h')(b:Kp M h' mx)(hM:N≤M):Kp N h mx:=⟨λk l h1 h2 h3 h4 h5=>(b.1 k l h1 h2 h3 h4 h5).trans (a.1 k l h1 h2 h3 h4 h5),a.2.trans b.2 hM⟩
structure UX(R:bn)(U:List (List aF))(N:Nat)(h:SH)(ps:List aF)(v:SV)(h':SH)(L:List aF)(c:Int)(M:Nat):Prop where
 res:dF R ps L
 told:j5 M h' v L
 w:cZ R U c M h'
 le:N≤M
 kp:Kp N h h'
noncomputable def oW(R:bn)(U:List (List aF))(N:Nat)(h:SH)(ps:List aF):QV:=λv h'=>∃L c M,UX R U N h ps v h' L c M
noncomputable def OC:List Str:=["self","I","x","g","s","gs","p","n","s1"]
theorem L4:cr (bC 347) OC=ab:=by kernel_rfl
theorem w_go:cY (bC 347) ["_place"]=ab:=by kernel_rfl
theorem vB(t:j5 N h v L)(hz:L.length≤1000):TV i h v (!L.isEmpty):=by
 rcases t with⟨rfl,rfl⟩|⟨k,_,rfl,e⟩
 ·exact nN
 ·have:=lT (i:=i) (.own e) (by rw[aI _];exact bd ‹_› bg)
  rwa [List.isEmpty_map] at this
theorem ww:(cF R I x).length≤I.length:=uM _ _
theorem Cg(hI:∀q∈I,cX R q):∀q∈cF R I x,cX R q:=λq hq=>by
 refine aj (gQ.mp hq) λp hp e=>?_;unfold jB at e
 split at e
 ·next z=>obtain rfl:=aY e;exact⟨(hI p hp).1,(cV.mp z).1⟩
 ·exact a7 e
theorem dF.len(r:dF R ps L)(hp:ps.length≤30)(hR:R.length≤20):L.length≤50:=by
 rcases r with⟨rfl,rfl⟩|⟨_,ad,C⟩
 ·exact b_ _
 ·refine aj C.prop.1.ext λx e e2=>?_
  have:=C.prop.1.nd .nil;have:=fO this (l₂:=bo R.length) λy hy=>dR.mpr (by
   rcases C.prop.1.src y hy with z|⟨q,_,z⟩
   ·exact cT z
   ·exact yu z)
  rw[e,cU,aI _];rw[e2,dS,af9] at this;exact ah (fp hp this) (ah (e6 hR _) aJ)
theorem dF.ok(r:dF R ps L)(hp:∀q∈ps,cX R q):∀q∈L,cX R q:=by
 rcases r with⟨rfl,rfl⟩|⟨_,ad,C⟩
 ·exact hp
 ·refine aj C.prop.1.ext λx e e2=>?_
  intro q hq;rw[e] at hq;rcases dw.mp hq with z|z
  ·exact hp q z
  ·refine aj (bB.mp z) λy hy ax=>?_;subst ax
   rcases C.prop.1.src y (e2▸kj _ hy) with z|⟨q,_,z⟩
   ·exact cT z
   ·exact⟨yu z,b_ _⟩
noncomputable def oU(i:FI)(b:Nat):FI:=i.fn (b+1) 347 OC ["_place"] L4 w_go
structure kU(R:bn)(U:List (List aF))(x:Str)(I:List aF):Prop where
 ok:∀q∈I,cX R q
 len:I.length≤30
 hU:I∈U
 hx:x∈Sy
theorem AU{aA:SH}{aN:Nat}(A:kU R U x I)(w:gY R c M h)(C:eE R U M h (λ_ _=>False) T es)(hU:U.length≤2000000)(res:dF R (cF R I x) L)(told:j5 M h v L)(le:aN≤M)(kp:Kp aN aA h)(hk:k<M)(hn:h (gN k)=aa (.list (I.map a9)))(nb:lH v=ab)
  (f1:fr.lookup ("self":Str)=aa (.ref dp)) (f2:fr.lookup ("I":Str)=aa (.ref (gN k))) (f3:fr.lookup ("x":Str)=aa (.str x)) (f4:fr.lookup ("g":Str)=aa v):
  SS (oU i b) fr h [(ba 347).drop 8] (λf _ h'=>oW R U aN aA (cF R I x) f.val h'):=by
 refine ef (n:=jc) (es:=es) (n_ f4) (a_ (n_ f1) w.tb) (eY (aB (b8 (i.K.ref rfl) (i.K.keep rfl) (aB (n_ f2) aL) (t6 (b:=b) rfl (.inr (aU _ rfl hn)) A.ok w.it w.free (by have:=A.len;exact ah ‹_› aJ)).cp) (aB (n_ f3) aL))) C.ca (by refine(?_:_≤2^24);exact ah C.bu (ah (e6 (pB _ hU) _) aJ)) ?_ (by rw[show SV.key 6 (.tup [dm I,.str x])=ab from by show(SV.key 5 (dm I) && (SV.key 5 (.str x) && ab))=ab;rw[rp];rfl];rfl);refine gA (n_ f4) ⟨L,c,M+1,res,?_,⟨(w.bV).J6,(tz T _ ((C.mono (lQ (ar _)) (bR _) (λ_=>rfl) rfl).VM A.hx A.hU res (told.mono (lQ (ar _)) (bR _)))),hU⟩,c8 le,kp.trans ⟨λk l h1 h2 h3 h4 h5=>?_,(lQ (ar _)).trans BX (ar _)⟩ le⟩
 ·exact told.mono ((lQ (ar _)).trans BX (ar _)) (bR _)
 ·refine(aq λe=>by injection e with e;exact h4 e).trans (aK λz=>?_)
  obtain⟨l,z⟩:=xQ.mp z;injection z with z;exact h5 z
theorem vJ{n:Nm}{es:b7}{w:SV}(hn:h n=aa (.dict es))(hl:es.lookup v=aa w)(ok:autoParam (SV.key 6 v=ab) bl):CP i h (.bi "dict.get") [.ref n,v] (is w h):=⟨λfr' Q X hq=>JL hn ok (by rw[hl];exact hq _ _ ⟨rfl,rfl⟩)⟩
theorem uT{n:Nm}{es:b7}(hn:h n=aa (.dict es))(hl:es.lookup v=af)(ok:autoParam (SV.key 6 v=ab) bl):CP i h (.bi "dict.get") [.ref n,v] (is .none h):=⟨λfr' Q X hq=>JL hn ok (by rw[hl];exact hq _ _ ⟨rfl,rfl⟩)⟩
structure GS where
 ps:List aF
 T:dB
 ds:b7
 h:SH
structure GJ(R:bn)(U:List (List aF))(c:Int)(N:Nat)(I:List aF)(x:Str)(es:b7)(aA:SH)(aN:Nat)(s:GS)(j:Nat):Prop where
 ps:s.ps=cF R (I.take j) x
 tb:gY R c (N+1) s.h
 ca:eE R U N s.h (λy qs=>y=x∧qs=s.ps) s.T es
 cur:s.T x s.ps=aa s.ds
 gs:s.h (gN N)=aa (.list (s.ps.map a9))
 kp:Kp aN aA s.h
 st:fz N aA s.h
noncomputable def Ct(x:Str)(k N:Nat)(s:GS):SF:=[("self",.ref dp),("I",.ref (gN k)),("x",.str x),("s",.ref (cI x s.ps)),("gs",.ref (gN N))]
theorem GJ.node{es:b7}{aA:SH}{aN:Nat}{s:GS}{j:Nat}(J:GJ R U c N I x es aA aN s j)(hx:x∈Sy):s.h (cI x s.ps)=aa (.dict s.ds):=by rw[J.ca.heap x hx s.ps,J.cur];rfl
theorem GJ.nd{es:b7}{aA:SH}{aN:Nat}{s:GS}{j:Nat}(J:GJ R U c N I x es aA aN s j)(hx:x∈Sy):s.ds.length≤1000:=by
 have A:=(J.ca.node x hx s.ps s.ds J.cur);have:(s.ds.map (·.1)).length≤(tL::(bo R.length).flatMap λj=>(bo ((aG R j).length+1)).map λd=>aM (j,d)).length:=fO A.2.1 λk hk=>by
  cases e:s.ds.lookup k with
  |none=>exact bc hk (lU.mp e)
  |some v=>
   rcases A.2.2 k v e with⟨rfl,_⟩|⟨q,hq,rfl,_⟩
   ·exact dA
   ·exact eT _ (sK.mpr (aU q.1 (dR.mpr hq.1) (bB.mpr (aU q.2 (dR.mpr (lb hq.2)) rfl))))
 rw[aI,iE,QT] at this;have:=ah this (eG (Oq (k:=11) λj _=>by
  rw[aI _,dS];exact eG (J.tb.hr j)))
 rw[dS] at this;exact ah ‹_› (ah (eG (qR _ J.tb.hR)) aJ)
theorem XG{q:aF}{s:Str}(e:(aG R q.1)[q.2]? =aa s):rt R q=a9 (q.1,q.2+1):=aP (cV.mp e).1
theorem UJ{q:aF}(e:(aG R q.1)[q.2]? =af):rt R q=.none:=aK (js.mpr (km.mp e))
theorem Wo{q:aF}{s:Str}(e:(aG R q.1)[q.2]? =aa s):wa R (q.1,q.2+1)=s:=by
 unfold wa;rw[aK (z0 _),Qu _ _,e];rfl
theorem KI{j:Nat}{q:aF}(e:I[j]? =aa q)(hs:(aG R q.1)[q.2]? =aa x):cF R (I.take (j+1)) x=cF R (I.take j) x++[(q.1,q.2+1)]:=by
 unfold cF;rw[jN,e,sD];exact ay _ (by show uK (jB R x) [q]=_;rw[qP,jB,aP hs];rfl)
theorem Xt{j:Nat}{q:aF}(e:I[j]? =aa q)(hs:(aG R q.1)[q.2]? ≠aa x):cF R (I.take (j+1)) x=cF R (I.take j) x:=by
 unfold cF;rw[jN,e,sD];show _++uK (jB R x) [q]=_;rw[qP,jB,aK hs];exact gP _
theorem GJ.skip{es:b7}{aA:SH}{aN:Nat}{s:GS}{j:Nat}{q:aF}(J:GJ R U c N I x es aA aN s j)(e:I[j]? =aa q)(hs:(aG R q.1)[q.2]? ≠aa x):GJ R U c N I x es aA aN s (j+1):=
 ⟨J.ps.trans (Xt e hs).symm,J.tb,J.ca,J.cur,J.gs,J.kp,J.st⟩
theorem GJ.old{es:b7}{aA:SH}{aN:Nat}{s:GS}{j:Nat}{q:aF}{w:SV}(A:kU R U x I)(J:GJ R U c N I x es aA aN s j)(e:I[j]? =aa q)(hs:(aG R q.1)[q.2]? =aa x)(hw:s.ds.lookup (aM (q.1,q.2+1))=aa w)(le:aN≤N):
  w=.ref (cI x (s.ps++[(q.1,q.2+1)]))∧∃d,s.h (cI x (s.ps++[(q.1,q.2+1)]))=aa (.dict d)∧(!d.isEmpty)=ab∧d.length≤1000∧
   GJ R U c N I x es aA aN ⟨s.ps++[(q.1,q.2+1)],s.T,d,s.h.set (gN N) (.list (s.ps.map a9++[a9 (q.1,q.2+1)]))⟩ (j+1):=by
 rcases(J.ca.node x A.hx s.ps s.ds J.cur).2.2 _ _ hw with⟨z,_⟩|⟨q',ga,z,rfl,hT⟩
 ·cases z
 ·cases yC z
  refine xE (zP.mp hT) λd hd=>?_;have dg:d≠[]:=(J.ca.node x A.hx _ d hd).1.resolve_right λz=>Ht z.2;have J':GJ R U c N I x es aA aN ⟨s.ps++[(q.1,q.2+1)],s.T,d,s.h.set (gN N) (.list (s.ps.map a9++[a9 (q.1,q.2+1)]))⟩ (j+1):=
   ⟨by rw[J.ps,KI e hs],⟨J.tb.free.same λk l hk=>aq λe=>(by have:=mv e;exact dG ‹_› ‹_›),J.tb.it,J.tb.pr,J.tb.tb,J.tb.hc,J.tb.hR,J.tb.hr⟩,
    (J.ca.mono (nQ (ar _)) (ar _) (λ_=>rfl) rfl).move (λy qs z=>by
     refine xA z λcP br=>?_;clear z;subst cP;subst br;exact .inl λds z=>by rw[J.cur] at z;obtain rfl:=aY z;exact λz=>by rw[z] at hw;(first|exact a7 hw|obtain rfl:=aY hw)),hd,by rw[dN];exact aS,⟨λk l h1 h2 h3 h4 h5=>(aq λe=>by injection e with e;exact h5 e).trans (J.kp.1 k l h1 h2 h3 h4 h5),λk l hk=>(J.st.trans (nQ (ar _)) (ar _)) k l (bI hk le)⟩,J.st.trans (nQ (ar _)) (ar _)⟩
  exact⟨rfl,d,(J.ca.heap x A.hx _).trans (by rw[hd];rfl),by cases d with|nil=>exact bc rfl dg|cons _ _=>rfl,J'.nd A.hx,J'⟩
theorem GJ.new{es:b7}{aA:SH}{aN:Nat}{s:GS}{j:Nat}{q:aF}(A:kU R U x I)(J:GJ R U c N I x es aA aN s j)(e:I[j]? =aa q)(hs:(aG R q.1)[q.2]? =aa x)(hw:s.ds.lookup (aM (q.1,q.2+1))=af)(le:aN≤N):
  GJ R U c N I x es aA aN ⟨s.ps++[(q.1,q.2+1)],(s.T.put x (s.ps++[(q.1,q.2+1)]) []).put x s.ps (bh s.ds (aM (q.1,q.2+1)) (.ref (cI x (s.ps++[(q.1,q.2+1)])))),[],
   ((s.h.set (cI x (s.ps++[(q.1,q.2+1)])) (.dict [])).set (cI x s.ps) (.dict (bh s.ds (aM (q.1,q.2+1)) (.ref (cI x (s.ps++[(q.1,q.2+1)])))))).set (gN N) (.list (s.ps.map a9++[a9 (q.1,q.2+1)]))⟩ (j+1):=by
 have Op:=J.st.trans (((tO (x:=x) (ps:=s.ps++[(q.1,q.2+1)]) (o:=.dict [])).trans (tO (x:=x) (ps:=s.ps) (o:=.dict (bh s.ds (aM (q.1,q.2+1)) (.ref (cI x (s.ps++[(q.1,q.2+1)])))))) (ar N)).trans (nQ (l:=[]) (o:=.list (s.ps.map a9++[a9 (q.1,q.2+1)])) (ar N)) (ar N):fz N s.h _) (ar N);refine⟨by rw[J.ps,KI e hs],⟨J.tb.free.same λk l hk=>aq λe=>(by have:=mv e;exact dG ‹_› ‹_›),J.tb.it,J.tb.pr,J.tb.tb,J.tb.hc,J.tb.hR,J.tb.hr⟩,(J.ca.addChild A.hx J.cur (⟨(A.ok q (bN e)).1,(cV.mp hs).1⟩:cX R (q.1,q.2+1)) hw λ_ _=>id).mono (nQ (ar _)) (ar _) (λ_=>rfl) rfl,(oA λz=>Ht z.2).trans DT,by rw[dN];exact aS,
  ⟨λk l h1 h2 h3 h4 h5=>(aq λe=>h5 (Nm.mk.inj e).1).trans ((aq λe=>h3 (Nm.mk.inj e).1).trans ((aq λe=>h3 (Nm.mk.inj e).1).trans (J.kp.1 k l h1 h2 h3 h4 h5))),λk l hk=>Op k l (bI hk le)⟩,Op⟩
theorem GJ.fresh{es:b7}{aA:SH}{aN:Nat}{s:GS}{j:Nat}{q:aF}(A:kU R U x I)(J:GJ R U c N I x es aA aN s j)(hw:s.ds.lookup (aM q)=af):s.h (cI x (s.ps++[q]))=af:=by
 rw[J.ca.heap x A.hx _]
 cases z:s.T x (s.ps++[q]) with
 |none=>rfl
 |some d=>
  refine aj (J.ca.up x A.hx s.ps q (by rw[z];rfl)) λds a b=>?_;rw[J.cur] at a;obtain rfl:=aY a;rw[hw] at b;exact a7 b
theorem Ua{aA:SH}{aN:Nat}{dI:GS}{rest:List bx}{Q:QS}(A:kU R U x I)(OL:GJ R U c N I x es aA aN dI 0)(le:aN≤N)(hk:k<aN)(hn:aA (gN k)=aa (.list (I.map a9)))(sb:(Ct x k N dI).sub fr)
  (fin:∀s,GJ R U c N I x es aA aN s I.length→SS (oU i b) (Ct x k N s) s.h [(ba 347).drop 6] Q):SS (oU i b) fr dI.h [(ba 347).drop 5] Q:=by
 have hI:∀s j,GJ R U c N I x es aA aN s j→s.h (gN k)=aa (.list (I.map a9)):=λs j J=>(J.kp.2 k [] hk).trans hn;refine et (Ct x k N) GS.h (GJ R U c N I x es aA aN) dI (I.map a9) (d7 (n_ (sb _ _ rfl)) (hI dI 0 OL)) OL sb (λs j J=>d8 (hI s j J)) (λs j v J e=>?_) λs J=>aH (fin s (by rw[aI] at J;exact J));refine aj (dJ e) λq hq ax=>?_;subst ax;have hit:=(J.tb.it q (A.ok q (bN hq))).1;refine dX ?_
 cases hs:(aG R q.1)[q.2]? with
 |none=>
  refine bM (v:=.none) (a_ (n:=bj q) n_ hit (ay aa (UJ hs))) ?_;exact cf (oJ (p_ n_ nN)) (aH (aH (bK (LQ.next s (J.skip hq (by rw[hs];exact λz=>by exact a7 z)) (ai (ai (ai (ai (ai bq)))))))))
 |some y=>
  have fU:=(J.tb.it (q.1,q.2+1) ⟨(A.ok q (bN hq)).1,(cV.mp hs).1⟩).1;refine bM (v:=a9 (q.1,q.2+1)) (a_ (n:=bj q) n_ hit (ay aa (XG hs))) ?_;have be:(dY R (q.1,q.2+1)).lookup ("lr_before":Str)=aa (.str y):=ay (λz=>aa (SV.str z)) (Wo hs)
  by_cases hy:y=x
  ·subst hy
   refine cS (lY (p_ n_ (Ee fU)) (lY (bt (a_ (n:=bj (q.1,q.2+1)) n_ fU be) n_ (nu rfl)) Au)) ?_;have bu:s.ps.length≤100:=by rw[J.ps];exact ah ww (by rw[jH];have:=A.len;exact ah (pD _ _) (ah this aJ))
   cases hw:s.ds.lookup (aM (q.1,q.2+1)) with
   |some w=>
    obtain⟨rfl,d,hd,dg,xK,J'⟩:=J.old A hq hs hw le;refine bM (gU (n_ (v:=.ref (cI y s.ps))) (jo (J.node A.hx)) rfl (aB (eY (aB (a_ (n:=bj (q.1,q.2+1)) n_ fU) (aB (a_ (n:=bj (q.1,q.2+1)) n_ fU) aL))) aL) (vJ (J.node A.hx) hw)) ?_;refine cf (fw (t:=ab) (p_ n_ (dg▸zb hd (bd ‹_› bg)))) (aH ?_);refine fG (di n_ (fS J.gs) iB (aB n_ aL) (fX J.gs (by rw[aI _];refine(?_:_≤2^24);exact ah ‹_› aJ))) ?_;exact bM n_ (aH (aH (bK (LQ.next _ J' (ai (ai (ai (ai (ai bq)))))))))
   |none=>
    refine bM (gU (n_ (v:=.ref (cI y s.ps))) (jo (J.node A.hx)) rfl (aB (eY (aB (a_ (n:=bj (q.1,q.2+1)) n_ fU) (aB (a_ (n:=bj (q.1,q.2+1)) n_ fU) aL))) aL) (uT (J.node A.hx) hw)) ?_;refine cS (fw (t:=an) (p_ n_ nN)) ?_;refine bM (g7 (J.fresh A hw)) ?_;refine ef (n:=cI y s.ps) n_ n_ (eY (aB (a_ (n:=bj (q.1,q.2+1)) n_ fU) (aB (a_ (n:=bj (q.1,q.2+1)) n_ fU) aL))) ((aq λe=>Ht (K2 A.hx A.hx e).2.symm).trans (J.node A.hx)) (by have:=J.nd A.hx;refine(?_:_≤2^24);exact ah ‹_› aJ) ?_;refine aH (fG (di n_ (fS (n:=gN N) (vs:=s.ps.map a9) J.gs) iB (aB n_ aL) (fX (n:=gN N) (vs:=s.ps.map a9) J.gs (by rw[aI _];refine(?_:_≤2^24);exact ah ‹_› aJ))) ?_);exact bM n_ (aH (aH (bK (LQ.next _ (J.new A hq hs hw le) (ai (ai (ai (ai (ai bq)))))))))
  ·refine cf (lY (p_ n_ (Ee fU)) (oJ (bt (a_ (n:=bj (q.1,q.2+1)) n_ fU be) n_ (lX λz=>hy (by injection z))))) ?_
   exact aH (aH (bK (LQ.next s (J.skip hq (by rw[hs];exact λz=>hy (aY z))) (ai (ai (ai (ai (ai bq))))))))
theorem j5.nb(t:j5 N h v L):lH v=ab:=by rcases t with⟨rfl,_⟩|⟨k,_,rfl,_⟩<;>rfl
theorem Kp.Cj{l:List Nat}{o:cw}:Kp N h (h.set (.mk 31 l) o):=⟨λk l' h1 h2 h3 h4 h5=>aq λe=>by injection e with e;exact h3 e,λk l' hk=>aq λe=>by injection e with e;cases e⟩
theorem Kp.Λ{l:List Nat}{o:cw}:Kp N h (h.set (.mk 32 l) o):=⟨λk l' h1 h2 h3 h4 h5=>aq λe=>by injection e with e;exact h4 e,λk l' hk=>aq λe=>by injection e with e;cases e⟩
theorem Kp.KU{l:List Nat}{o:cw}(hM:N≤M):Kp N h (h.set (.mk 99 (M::l)) o):=⟨λk l' h1 h2 h3 h4 h5=>aq λe=>h5 (Nm.mk.inj e).1,nQ hM⟩
theorem TC{aA:SH}{aN:Nat}{s:GS}(A:kU R U x I)(J:GJ R U c N I x es aA aN s I.length)(hU:U.length≤2000000)(le:aN≤N)(hk:k<aN)(hn:aA (gN k)=aa (.list (I.map a9))):
  SS (oU i b) (Ct x k N s) s.h [(ba 347).drop 6] (λf _ h'=>oW R U aN aA (cF R I x) f.val h'):=by
 have e0:s.ps=cF R I x:=by rw[J.ps,zW]
 have hI:s.h (gN k)=aa (.list (I.map a9)):=(J.kp.2 k [] hk).trans hn;have len:s.ps.length≤30:=by rw[e0];exact ah ww A.len
 have nd:=J.node A.hx;have Vc:=J.nd A.hx;have C1:eE R U (N+1) s.h (λy qs=>y=x∧qs=s.ps) s.T es:=J.ca.mono (λ_ _ _=>rfl) (bR _) (λ_=>rfl) rfl
 cases hw:s.ds.lookup tL with
 |some v=>
  rcases(J.ca.node x A.hx s.ps s.ds J.cur).2.2 tL v hw with⟨_,L,res,told⟩|⟨q,_,z,_⟩
  ·have C0:eE R U (N+1) s.h (λ_ _=>False) s.T es:=C1.move λy qs z=>by
    refine xA z λcP br=>?_;clear z;subst cP;subst br;exact .inl λds z e=>by rw[J.cur] at z;obtain rfl:=aY z;rw[e] at hw;(first|exact a7 hw|obtain rfl:=aY hw)
   have told:=told.mono (M:=N+1) (λ_ _ _=>rfl) (bR _);have nb:=told.nb;have L50:=res.len len J.tb.hR;refine bM (gU (n_ (v:=.ref (cI x s.ps))) (jo nd) rfl (aB cx aL) (vJ nd hw)) ?_
   by_cases hL:L=[]
   ·subst hL
    have hp:s.ps=[]:=res.nil.mp rfl;refine cS (fw (t:=an) (p_ n_ (vB told (b_ _)))) (cf (p_ n_ (t:=an) ?_) ?_)
    ·have:=lT (i:=oU i b) (.own J.gs) (by rw[aI _];exact bd ‹_› bg)
     rwa [hp] at this
    ·refine ef (n:=cI x s.ps) (es:=s.ds) n_ n_ cx nd (by refine(?_:_≤2^24);exact ah ‹_› aJ) ?_
     refine aH (aH (AU A (es:=es) (T:=s.T.put x s.ps (bh s.ds tL (.ref (gN N)))) J.tb.Az ?_ hU (e0▸res) (told.mono tO (ar _)) (ah ‹_› (b6 _ _)) (J.kp.trans .Cj (ar _)) (ah ‹_› (ah ‹_› (b6 _ _)):k<N+1) ((aq λe=>by injection e with e;cases e).trans hI) nb rfl rfl rfl rfl));refine C1.Gp A.hx J.cur (.inl (rO rfl ([]) res (.inr (cK N (dq _) rfl ?_)))) λy qs z=>.inl z;rw[J.gs,hp]
   ·have ne:(!L.isEmpty)=ab:=by cases L with|nil=>exact bc rfl hL|cons _ _=>rfl
    refine cf (fw (t:=ab) (p_ n_ (ne▸vB told (ah ‹_› aJ)))) (aH ?_);exact AU A J.tb C0 hU (e0▸res) told (ah ‹_› (b6 _ _)) J.kp (ah ‹_› (ah ‹_› (b6 _ _)):k<N+1) hI nb rfl rfl rfl rfl
  ·cases z
 |none=>
  refine bM (gU (n_ (v:=.ref (cI x s.ps))) (jo nd) rfl (aB cx aL) (uT nd hw)) (cS (fw (t:=an) (p_ n_ nN)) ?_)
  by_cases hp:s.ps=[]
  ·refine cf (p_ n_ (t:=an) ?_) ?_
   ·have:=lT (i:=oU i b) (.own J.gs) (by rw[aI _];exact bd ‹_› bg)
    rwa [hp] at this
   ·refine ef (n:=cI x s.ps) (es:=s.ds) n_ n_ cx nd (by refine(?_:_≤2^24);exact ah ‹_› aJ) ?_
    refine aH (aH (AU A (es:=es) (T:=s.T.put x s.ps (bh s.ds tL (.ref (gN N)))) (L:=[]) J.tb.Az ?_ hU (.inl ⟨by rw[←e0,hp],rfl⟩) (.inl ⟨rfl,rfl⟩) (ah ‹_› (b6 _ _)) (J.kp.trans .Cj (ar _)) (ah ‹_› (ah ‹_› (b6 _ _)):k<N+1) ((aq λe=>by injection e with e;cases e).trans hI) rfl rfl rfl rfl rfl));refine C1.Gp A.hx J.cur (.inl (rO rfl ([]) (.inl ⟨hp,rfl⟩) (.inr (cK N (dq _) rfl ?_)))) λy qs z=>.inl z;rw[J.gs,hp]
  ·have ne:(!(s.ps.map a9).isEmpty)=ab:=by
    cases e:s.ps with
    |nil=>exact bc e hp
    |cons _ _=>rfl
   refine cS (p_ n_ (t:=ab) (ne▸lT (.own J.gs) (by rw[aI _];exact bd ‹_› bg))) ?_;have Uh:∀q∈s.ps,cX R q:=by rw[e0];exact Cg A.ok
   refine kH (di n_ (iX (J.tb.tb) rfl) (i.K.keep rfl) (aB n_ aL) (BZ (b:=b) rfl J.tb J.gs Uh len).cp) ?_;rintro v h2 ⟨L,ad,W⟩;have sm:fz (N+1) s.h h2:=λk' l dW=>W.same _ _ bH bH λe=>by have:=mv e;exact du ‹_› ‹_›
   have res:dF R s.ps L:=.inr (B7 hp ad W.clo);have told:j5 (N+2) h2 v L:=.inr (cK (N+1) (dq _) W.v W.list);have kp:Kp aN aA h2:=J.kp.trans (M:=N+1) ⟨λk' l h1 h2 h3 h4 h5=>W.same k' l h1 h2 λe=>h5 (Nm.mk.inj e).1,sm⟩ (ah ‹_› (b6 _ _));refine ef (n:=cI x s.ps) (es:=s.ds) n_ n_ cx ((W.same _ _ bH bH (mH bH)).trans nd:h2 (cI x s.ps)=aa (.dict s.ds)) (by refine(?_:_≤2^24);exact ah ‹_› aJ) ?_ (by rfl);exact aH (aH (AU A (es:=es) (T:=s.T.put x s.ps (bh s.ds tL v)) W.tb.Az ((C1.mono sm (bR _) (λl=>W.same _ _ bH bH (mH bH)) (W.same _ _ bH bH (mH bH)):eE R U (N+2) h2 (λy qs=>y=x∧qs=s.ps) s.T es).Gp A.hx J.cur (.inl (rO rfl L res told)) λy qs z=>.inl z) hU (e0▸res) (told.mono tO (ar _)) (c8 (c8 le)) (kp.trans .Cj (ar _)) (ah ‹_› (ah ‹_› (b6 _ _)):k<N+2) ((aq λe=>by injection e with e;cases e).trans ((kp.2 k [] hk).trans hn)) told.nb rfl rfl rfl rfl))
theorem kb.imp{Q Q':QS}(hq:∀f fr h,Q f fr h→Q' f fr h):∀{k:List (List bx)} {f:tM} {fr:SF} {h:SH},kb i Q k f fr h→kb i Q' k f fr h
 |[],_,_,_,w=>hq _ _ _ w
 |b::k,.next,_,_,w=>iY.imp w (λf fr h q=>kb.imp hq q) λ_ _ _ q=>q
 |b::k,.brk,_,_,w=>hq _ _ _ w
 |b::k,.cont,_,_,w=>hq _ _ _ w
 |b::k,.ret v,_,_,w=>hq _ _ _ w
theorem SS.imp{Q Q':QS}{k:List (List bx)}(w:SS i fr h k Q)(hq:∀f fr h,Q f fr h→Q' f fr h):SS i fr h k Q':=
 ⟨λfr' s=>kb.imp (λf fr h ⟨ej,s,q⟩=>⟨ej,s,hq _ _ _ q⟩) (w.run fr' s)⟩
theorem Oe{aA:SH}{ds:b7}(A:kU R U x I)(w:gY R c N h)(C:eE R U N h (λy qs=>y=x∧qs=[]) T es)(hT:T x []=aa ds)(hU:U.length≤2000000)(kp:Kp N aA h)(hk:k<N)(hn:aA (gN k)=aa (.list (I.map a9)))
  (f1:fr.lookup ("self":Str)=aa (.ref dp)) (f2:fr.lookup ("I":Str)=aa (.ref (gN k))) (f3:fr.lookup ("x":Str)=aa (.str x)) (f4:fr.lookup ("s":Str)=aa (.ref (cI x []))):
  SS (oU i b) fr h [(ba 347).drop 4] (λf _ h'=>oW R U N aA (cF R I x) f.val h'):=by
 refine bM (eD (n:=gN N) aL w.free.at) ?_;have st:fz N h (h.set (gN N) (.list [])):=nQ (ar _);refine Ua (rest:=[]) (N:=N) (dI:=⟨[],T,ds,h.set (gN N) (.list [])⟩) A ⟨rfl,w.g,C.mono st (ar _) (λ_=>rfl) rfl,hT,aS,kp.trans (.KU (ar _)) (ar _),kp.2.trans st (ar _)⟩ (ar _) hk hn ?_ λs J=>TC A J hU (ar _) hk hn;have g:∀y,y≠("gs":Str)→∀z,fr.lookup y=aa z→(fr.put "gs" (.ref (gN N))).lookup y=aa z:=λy hy z e=>by rw[gj,aK hy];exact e
 exact ai (ai (ai (ai (ai bq (by rw[gj,aP rfl])) (g _ aW _ f4)) (g _ aW _ f3)) (g _ aW _ f2)) (g _ aW _ f1)
theorem UY(A:kU R U x I)(w:gY R c N h)(C:eE R U N h (λ_ _=>False) T es)(hU:U.length≤2000000)(hk:k<N)(hn:h (gN k)=aa (.list (I.map a9)))
  (f1:fr.lookup ("self":Str)=aa (.ref dp)) (f2:fr.lookup ("I":Str)=aa (.ref (gN k))) (f3:fr.lookup ("x":Str)=aa (.str x)):
  SS (oU i b) fr h [(ba 347).drop 2] (λf _ h'=>oW R U N h (cF R I x) f.val h'):=by
 have bu:=C.bu;have g:∀u y,y≠("s":Str)→∀z,fr.lookup y=aa z→(fr.put "s" u).lookup y=aa z:=λu y hy z e=>by rw[gj,aK hy];exact e
 cases hw:es.lookup (.str x) with
 |some v=>
  obtain⟨y,hy,e1,e2,e3⟩|⟨_,_,_,_,z,_⟩:=C.ent _ _ hw
  ·obtain rfl:=Mine.Internal.SV.str.inj e1
   refine xE (zP.mp e3) λds hT=>?_;have nd:=C.node x hy [] ds hT;have hd:h (cI x [])=aa (.dict ds):=by rw[C.heap x hy _,hT];rfl
   have ne:(!ds.isEmpty)=ab:=by cases ds with|nil=>exact bc rfl (nd.1.resolve_right id)|cons _ _=>rfl
   refine bM (gU (a_ (n_ f1) w.tb) (jo C.ca) rfl (aB (n_ f3) aL) (vJ C.ca hw)) ?_;have Vc:ds.length≤1000:=GJ.nd (s:=⟨[],T,ds,h.set (gN N) (.list [])⟩) (j:=0) (N:=N) (aA:=h) (aN:=N) (I:=I) ⟨rfl,w.g,(C.mono (nQ (ar _)) (ar _) (λ_=>rfl) rfl).move λ_ _ z=>z.elim,hT,aS,.KU (ar _),nQ (ar _)⟩ hy;subst e2;refine cf (fw (t:=ab) (p_ (n_ (v:=.ref (cI x [])) (by rw[gj,aP rfl])) (ne▸zb hd (bd ‹_› bg)))) (aH ?_);exact Oe A w (C.move λ_ _ z=>z.elim) hT hU ⟨λ_ _ _ _ _ _ _=>rfl,.rfl⟩ hk hn (g _ _ aW _ f1) (g _ _ aW _ f2) (g _ _ aW _ f3) (by rw[gj,aP rfl])
  ·exact nomatch z
 |none=>
  have hT:T x []=af:=by
   cases e:T x [] with
   |none=>rfl
   |some ds=>have:=C.root x A.hx (by rw[e];rfl);rw[hw] at this;exact a7 this
  have hz:h (cI x [])=af:=by rw[C.heap x A.hx _,hT];rfl
  refine bM (gU (a_ (n_ f1) w.tb) (jo C.ca) rfl (aB (n_ f3) aL) (uT C.ca hw)) ?_;refine cS (fw (t:=an) (p_ (n_ (v:=.none) (by rw[gj,aP rfl])) nN)) ?_;refine bM (g7 hz) ?_;have g2:∀u y,y≠("s":Str)→∀z,fr.lookup y=aa z→((fr.put "s" .none).put "s" u).lookup y=aa z:=λu y hy z e=>by rw[gj,aK hy];exact g _ y hy z e
  refine ef (n:=jc) (es:=es) (n_ (v:=.ref (cI x [])) (by rw[gj,aP rfl])) (a_ (n_ (g2 _ _ aW _ f1)) w.tb) (n_ (g2 _ _ aW _ f3)) ((aq λe=>by injection e with e;cases e).trans C.ca) (by refine(?_:_≤2^24);exact ah bu (ah (e6 (pB _ hU) _) aJ)) (aH ?_);exact Oe A w.Az.J6 (C.Ζ A.hx hT) DT hU (Kp.trans (M:=N) .Cj .Λ (ar _)) hk hn (g2 _ _ aW _ f1) (g2 _ _ aW _ f2) (g2 _ _ aW _ f3) (by rw[gj,aP rfl])
theorem oW.up{hx:SH}(kp:Kp N h hx)(hM:N≤M)(g:oW R U M hx ps v h'):oW R U N h ps v h':=by
 refine sO g λL c M' g=>?_;exact⟨L,c,M',g.res,g.told,g.w,ah hM g.le,kp.trans g.kp hM⟩
theorem Kp.bV{g:SH}:Kp N h (h.bV N g):=⟨λk l h1 h2 h3 h4 h5=>aK λz=>by refine xE (xQ.mp z) λl z=>?_;injection z with z;exact h5 z,lQ (ar _)⟩
theorem xG(hb:i.b=b+2)(A:kU R U x I)(W:cZ R U c N h)(hk:k<N)(hn:h (gN k)=aa (.list (I.map a9))):FP i h (.glob 347) [.ref dp,.ref (gN k),.str x] (oW R U N h (cF R I x)):=by
 refine enter i.K.goto L4 w_go hb rfl ?_;obtain⟨w,⟨T,es,C⟩,hU⟩:=W;have key:SV.key 6 (.tup [dm I,.str x])=ab:=by show(SV.key 5 (dm I) && (SV.key 5 (.str x) && ab))=ab;rw[rp];rfl
 have P:FP ((oU i b).dn (b+1)) h (.glob 318) [.ref (gN k)] (is (dm I) (h.bV N (eP N I h))):=t6 (b:=b) rfl (.inr (aU _ rfl hn)) A.ok w.it w.free (by have:=A.len;exact ah ‹_› aJ);have C1:eE R U (N+1) (h.bV N (eP N I h)) (λ_ _=>False) T es:=C.mono (lQ (ar _)) (bR _) (λ_=>rfl) rfl;have Ci:(h.bV N (eP N I h)) (gN k)=aa (.list (I.map a9)):=(lQ (ar _) k [] hk).trans hn;have rest:∀v,SS (oU i b) (SF.put [("self",.ref dp),("I",.ref (gN k)),("x",.str x)] "g" v) (h.bV N (eP N I h)) [(ba 347).drop 2] (λf _ h'=>oW R U N h (cF R I x) f.val h'):=λv=>by
  exact(UY (i:=i) (b:=b) (fr:=SF.put [("self",.ref dp),("I",.ref (gN k)),("x",.str x)] "g" v) A w.bV C1 hU (ah ‹_› (b6 _ _):k<N+1) Ci rfl rfl rfl).imp λf fr h q=>q.up .bV (bR _)
 cases hw:es.lookup (.tup [dm I,.str x]) with
 |some v=>
  obtain⟨_,_,z,_⟩|⟨I',hI',y,hy,e1,L,res,told⟩:=C1.ent _ _ hw
  ·cases z
  ·injection e1 with e1;injection e1 with e1 e2;injection e2 with e2;injection e2 with e2
   cases Fs e1
   subst e2;refine bM (gU (a_ n_ w.tb) (jo C1.ca) rfl (aB (eY (aB (b8 (i.K.ref rfl) (i.K.keep rfl) (aB n_ aL) P.cp) (aB n_ aL))) aL) (vJ C1.ca hw key)) ?_;have L50:=res.len (ah ww A.len) w.hR
   by_cases hL:L=[]
   ·subst hL
    exact cf (p_ n_ (t:=an) (vB told (b_ _))) (aH (rest v))
   ·have ne:(!L.isEmpty)=ab:=by cases L with|nil=>exact bc rfl hL|cons _ _=>rfl
    exact cS (p_ n_ (t:=ab) (ne▸vB told (ah ‹_› aJ))) (gA n_ ⟨L,c,N+1,res,told,⟨w.bV,(tz T es C1),hU⟩,bR _,.bV⟩)
 |none=>
  refine bM (gU (a_ n_ w.tb) (jo C1.ca) rfl (aB (eY (aB (b8 (i.K.ref rfl) (i.K.keep rfl) (aB n_ aL) P.cp) (aB n_ aL))) aL) (uT C1.ca hw key)) ?_;exact cf (p_ n_ (t:=an) nN) (aH (rest .none))
noncomputable def wu{α:Type}[DecidableEq α]:Nat→List α→List (List α)
 |0,_=>[[]]
 |n+1,K=>[]::K.flatMap λq=>(wu n (K.erase q)).map (q::·)
theorem NH{α:Type}[DecidableEq α]:∀{n:Nat} {K ps:List α},ps.Nodup→ps ⊆ K→K.length≤n→ps∈wu n K
 |0,K,ps,_,hs,hn=>by
  have:K=[]:=aiq.mp (It.mp hn);subst this;rw[List.subset_nil.mp hs];exact bS.mpr rfl
 |n+1,K,[],_,_,_=>dA
 |n+1,K,q::r,nd,hs,hn=>by
  refine eT _ (sK.mpr (aU q (hs dA) (bB.mpr (aU r (NH (lh.mp nd).2 (λx hx=>?_) ?_) rfl))))
  ·exact(List.mem_erase_of_ne λe=>(lh.mp nd).1 (by rw[←e];exact hx)).mpr (hs (eT _ hx))
  ·rw[aiz (hs dA)];exact QG hn
noncomputable def cnt:Nat→Nat
 |0=>1
 |n+1=>1+(n+1)*cnt n
theorem Jb{α:Type}[DecidableEq α]:∀{n:Nat} {K:List α},K.length=n→(wu n K).length=cnt n
 |0,_,_=>rfl
 |n+1,K,hn=>by
  have:(K.map λq=>((wu n (K.erase q)).map (q::·)).length)=uH K.length (cnt n):=by
   rw[←aiw];exact aix λq hq=>by rw[aI _];exact Jb (by rw[aiz hq];exact Nat.sub_eq_of_eq_add hn)
  rw[wu,iE,QT,this,aiy,hn,cnt,sp _ _]
noncomputable def q9(R:bn):List aF:=(bo R.length).tail.flatMap λj=>(bo (aG R j).length).map λd=>(j,d+1)
theorem Cs{n j:Nat}:j∈(bo n).tail↔0<j∧j<n:=by
 cases n with
 |zero=>exact⟨λh=>(cT h),λh=>bc h.2 (m5 _)⟩
 |succ n=>
  rw[Qz,List.tail_cons,propext bB]
  constructor
  ·rintro⟨a,ha,rfl⟩;exact⟨dK _,pC (dR.mp ha)⟩
  ·rintro⟨h1,h2⟩;exact(aU (j-1) (dR.mpr (Nat.sub_lt_right_of_lt_add (sH h1) h2)) (by show j-1+1=j;exact qT ‹_›))
theorem yi{R:bn}{q:aF}:q∈q9 R↔0<q.1∧q.1<R.length∧0<q.2∧q.2≤(aG R q.1).length:=by
 constructor
 ·intro h
  refine aj (sK.mp h) λj hj h=>?_;refine aj (bB.mp h) λd hd ax=>?_;subst ax;exact(o_ ((Cs.mp hj).1) ((Cs.mp hj).2) (dK _) (dR.mp hd))
 ·rintro⟨h0,h1,h2,h3⟩
  exact sK.mpr (aU q.1 (Cs.mpr ⟨h0,h1⟩) (bB.mpr (aU (q.2-1) (dR.mpr (bI (sn ‹_› pf) ‹_›)) (by obtain⟨a,b⟩:=q;exact ay (a,·) (by dsimp only at h2 ⊢;exact qT ‹_›)))))
noncomputable def GL(R:bn)(ps:List aF):List aF:=open Classical in if h:∃L,dF R ps L then ag9 h else []
theorem To{R:bn}{ps L:List aF}(h:dF R ps L):GL R ps=L:=by
 unfold GL;rw[dif_pos ⟨L,h⟩];exact(Qs (⟨L,h⟩:∃L,dF R ps L)).det h
def St(R:bn)(L:List aF):Prop:=∃ps,ps≠[]∧dF R ps L∧(ps=[(0,0)]∨ps=[(0,1)]∨(ps.Nodup∧ps ⊆ q9 R))
noncomputable def gM(R:bn):List (List aF):=([(0,0)]::[(0,1)]::wu (q9 R).length (q9 R)).map (GL R)
theorem St.mem{R:bn}{L:List aF}:St R L→L∈gM R:=λ⟨ps,_,r,h⟩=>by
 refine bB.mpr (aU ps ?_ (To r));rcases h with rfl|rfl|⟨a,b⟩
 ·exact dA
 ·exact eT _ dA
 ·exact eT _ (eT _ (NH a b (ar _)))
structure GR(R:bn):Prop where
 len:R.length≤5
 pos:0<R.length
 yd:bE R 0="S'"
 qe:aG R 0=([("S":Str)]:List Str)
 q9:(q9 R).length≤8
 nm:∀j,0<j→j<R.length→bE R j="S"∨bE R j="A"∨bE R j="B"
 bu:∀j,(aG R j).length≤2
 sy:∀j s,0<j→s∈aG R j→s∈(["a","A","b","B","error"]:List Str)
 all:∀s∈(["S","A","B"]:List Str),∃j,0<j∧j<R.length∧bE R j=s
theorem Z0:∀m<9,cnt m≤109601:=by decide +kernel
theorem G8(g:GR R):(gM R).length≤109603:=by
 unfold gM;rw[aI _,iE,iE,Jb rfl];exact eG (eG (Z0 _ (lb g.q9)))
theorem St.from(h:St R L)(g:GR R):∃ps,ps≠[]∧dF R ps L∧ps.Nodup∧ps.length≤8∧(∀q∈ps,cX R q)∧(ps=[(0,0)]∨∀q∈ps,0<q.2):=by
 obtain⟨ps,h1,h2,rfl|rfl|⟨h3,h4⟩⟩:=h
 ·exact(yK _ h1 h2 (ko _ _) aJ (λq hq=>by rw[bS.mp hq];exact⟨g.pos,b_ _⟩) (.inl rfl))
 ·exact(yK _ h1 h2 (ko _ _) aJ (λq hq=>by rw[bS.mp hq];exact⟨g.pos,by show 1≤(aG R 0).length;rw[g.qe];exact ar _⟩) (.inr λq hq=>by rw[bS.mp hq];exact pf))
 ·exact(yK ps h1 h2 h3 (ah (fO h3 h4) g.q9) (λq hq=>⟨(yi.mp (h4 hq)).2.1,(yi.mp (h4 hq)).2.2.2⟩) (.inr λq hq=>(yi.mp (h4 hq)).2.2.1))
theorem St.ok(h:St R L)(g:GR R):∀q∈L,cX R q:=by
 refine MX (h.from g) λps _ r _ _ ok _=>?_;exact r.ok ok
theorem dF.add(r:dF R ps L):∃x:List Nat,L=ps++x.map (·,0)∧x.Nodup∧∀y∈x,y<R.length∧∃q∈L,y∈dQ R q:=by
 rcases r with⟨rfl,rfl⟩|⟨_,ad,C⟩
 ·exact(cK ([]) rfl .nil (λ_ h=>by exact cT h))
 ·refine aj C.prop.1.ext λx e e2=>?_
  have e2:ad=x:=by rw[e2];rfl
  subst e2;exact(cK ad e (C.prop.1.nd .nil) (λy hy=>by
   rcases C.prop.1.src y hy with z|⟨q,hq,z⟩
   ·exact cT z
   ·exact(rO (yu z) q hq z)))
theorem St.len(h:St R L)(g:GR R):L.length≤14:=by
 refine jy (h.from g) λps _ r _ l _=>?_;obtain⟨x,e,nd,s⟩:=r.add;have:=fO nd (l₂:=bo R.length) λy hy=>dR.mpr (s y hy).1;rw[dS] at this;rw[e,cU,aI _];exact fp l (ah ‹_› (c8 g.len))
theorem ZX{q:aF}{y:Nat}(h:y∈dQ R q):0<y:=by
 unfold dQ at h
 split at h
 ·exact cT h
 ·have:=(m9.mp h).2
  rw[bO,h_] at this;exact oh this.1
theorem St.nd(h:St R L)(g:GR R):L.Nodup:=by
 refine MX (h.from g) λps _ r nd _ _ hk=>?_;obtain⟨x,e,nx,s⟩:=r.add;rw[e,propext lq];refine(cG nd (Iz _ (λa b z e=>z (ay m6 e)) nx) (λa ha b hb e=>?_));subst e;refine aj (bB.mp hb) λy hy ax=>?_;subst ax;rcases hk with rfl|hk
 ·have:=bS.mp ha
  injection this with this;refine aj ((s y hy).2) λq _ z=>?_;have:=ZX z;exact dG ‹_› ‹_›
 ·exact bc (hk _ ha) (fo _)
theorem YP{q q' p:aF}(h:jB R x q=aa p)(h':jB R x q'=aa p):q=q':=by
 unfold jB at h h';obtain⟨a,c⟩:=q;obtain⟨a',c'⟩:=q'
 split at h<;>cases h
 split at h'<;>cases h'
 rfl
theorem Ec{I:List aF}(h:I.Nodup):(cF R I x).Nodup:=by
 unfold cF
 induction I with
 |nil=>exact .nil
 |cons q r ih=>
  refine xA (lh.mp h) λh1 h2=>?_;rw[qP]
  split
  ·exact ih h2
  ·next p e=>
   refine lh.mpr ⟨λz=>?_,ih h2⟩;refine aj (gQ.mp z) λq' hq e'=>?_;exact h1 (YP e e'▸hq)
theorem EZ{I:List aF}{p:aF}(h:∀q∈I,cX R q)(hp:p∈cF R I x):p.1<R.length∧0<p.2∧p.2≤(aG R p.1).length∧(aG R p.1)[p.2-1]? =aa x:=by
 refine aj (gQ.mp hp) λq hq e=>?_;unfold jB at e
 split at e
 ·next z=>obtain rfl:=aY e;exact(o_ ((h q hq).1) (dK _) ((cV.mp z).1) z)
 ·exact a7 e
theorem St.next{L':List aF}(h:St R L)(g:GR R)(r:dF R (cF R L x) L')(hL:L'≠[]):St R L':=by
 have ne:cF R L x≠[]:=λe=>hL (r.nil.mpr e);refine⟨_,ne,r,?_⟩
 by_cases hx:x="S"
 ·refine .inr (.inl ?_)
  have all:∀p∈cF R L x,p=(0,1):=λp hp=>by
   refine mz (EZ (h.ok g) hp) λa c d e=>?_;rcases sJ p.1 with z|z
   ·rw[z,g.qe] at d
    have:p.2=1:=qQ d c;obtain⟨u,w⟩:=p;exact jw z this
   ·have:=g.sy p.1 x z (bN e)
    rw[hx] at this;exact bc this aW
  have nd:=Ec (R:=R) (x:=x) (h.nd g)
  cases hm:cF R L x with
  |nil=>exact bc hm ne
  |cons p t=>
   rw[hm] at all nd
   cases t with
   |nil=>rw[all p dA]
   |cons p' t'=>
    exact bc dA ((all p' (eT _ dA))▸(all p dA)▸(lh.mp nd).1)
 ·refine .inr (.inr ⟨Ec (h.nd g),λp hp=>?_⟩)
  refine mz (EZ (h.ok g) hp) λa c d e=>?_;refine yi.mpr (o_ (oh λz=>hx ?_) a c d);have:=bN e;rw[z,g.qe] at this;exact bS.mp this
theorem St.first{L' L0:List aF}(h:St R L)(g:GR R)(r:dF R (cF R L x) L')(hL:L'≠[])(h0:dF R [(0,0)] L0):L'≠L0:=λe=>by
 obtain⟨a,e1,_⟩:=r.add;obtain⟨c,e2,_⟩:=h0.add
 cases hm:cF R L x with
 |nil=>exact(λz=>hL (r.nil.mpr z):cF R L x≠[]) hm
 |cons p t=>
  rw[e1,e2,hm] at e;injection e with e _;have:=(EZ (R:=R) (x:=x) (h.ok g) (p:=p) (by rw[hm];exact dA)).2.1;rw[e] at this
  cases this
theorem St.one(h:St R L)(g:GR R)(hm:(0,1)∈L):L=[(0,1)]:=by
 refine bG h λps _ r hk=>?_;clear h;obtain⟨a,e,_,hs⟩:=r.add;have eu:(0,1)∈ps:=by
  rw[e] at hm;refine(dw.mp hm).resolve_right λz=>?_;refine aj (bB.mp z) λy _ z=>?_;injection z with _ z
  cases z
 rcases hk with rfl|rfl|⟨_,hk⟩
 ·have:=bS.mp eu;cases this
 ·refine dF.det r (.inr ⟨by exact IA _ _,[],eW.same λi q _ hq y hy=>?_⟩)
  rw[bS.mp (bN hq)] at hy;have:dQ R (0,1)=[]:=by unfold dQ;rw[show(aG R (0,1).1)[(0,1).2]? =af from by rw[show aG R (0,1).1=aG R 0 from rfl,g.qe];rfl]
  rw[this] at hy;exact cT hy
 ·exact bc (yi.mp (hk eu)).1 (fo _)
noncomputable def ew(s:bx):List bx:=(kS s).1
noncomputable def xc(s:bx):List bx:=(kS s).2.1
noncomputable def iP:Nm:=.mk 33 []
noncomputable def fN:Nat→List (List aF)→b7
 |_,[]=>[]
 |n,L::r=>(dm L,.int n)::fN (n+1) r
theorem Fk:∀{S:List (List aF)} {n:Nat} {k:SV},k∈(fN n S).map (·.1)↔∃L∈S,k=dm L
 |[],n,k=>⟨λh=>(cT h),λ⟨_,h,_⟩=>(cT h)⟩
 |L::r,n,k=>by
  rw[fN,sI,propext dE,propext Fk]
  constructor
  ·rintro(h|⟨L',h,e⟩)
   ·exact(aU L dA h)
   ·exact(aU L' (eT _ h) e)
  ·rintro⟨L',h,e⟩
   rcases dE.mp h with rfl|h
   ·exact .inl e
   ·exact .inr (aU L' h e)
theorem Lk:∀{S:List (List aF)} {n:Nat} {L:List aF},fN n (S++[L])=fN n S++[(dm L,.int (n+S.length:Nat))]
 |[],n,L=>rfl
 |M::r,n,L=>by
  rw[ai0,fN,fN,Lk,ai0,iE,show n+1+r.length=n+(r.length+1) from uA n 1 r.length]
theorem Jj:∀{S:List (List aF)} {n:Nat},(fN n S).length=S.length
 |[],_=>rfl
 |_::r,n=>ay (· +1) Jj
theorem CI:∀{S:List (List aF)} {n:Nat} {L:List aF} {v:SV},(fN n S).lookup (dm L)=aa v→∃j,S[j]? =aa L∧v=.int (n+j:Nat)
 |[],n,L,v,h=>by(first|exact a7 h|obtain rfl:=aY h)
 |M::r,n,L,v,h=>by
  rw[fN,k_] at h
  cases e:dm L==dm M with
  |true=>
   rw[e] at h;(first|exact a7 h|obtain rfl:=aY h);have:=Fs (eq_of_beq e);exact(aU 0 (by rw[this];rfl) rfl)
  |false=>
   rw[e] at h;refine aj (CI h) λj a b=>?_;exact(aU (j+1) a (by rw[b,show n+1+j=n+(j+1) from uA n 1 j]))
structure tV(R:bn)(U:List (List aF))(c:Int)(N:Nat)(h:SH)(P:List (Nat×List aF)):Prop where
 w:cZ R U c N h
 jV:h iP=aa (.dict (fN 0 (P.map (·.2))))
 nd:(P.map (·.2)).Nodup
 each:∀p∈P,p.1<N∧h (gN p.1)=aa (.list (p.2.map a9))∧St R p.2
 hU:gM R ⊆ U
def Kq(B:List Nat)(N:Nat)(h h':SH):Prop:=(∀k l,(99::B).contains k=an→h' (.mk k l)=h (.mk k l))∧fz N h h'
variable{c':Int}{P:List (Nat×List aF)}
variable{B:List Nat}
theorem iy{a k:Nat}{B:List Nat}(h:B.contains k=an)(ha:B.contains a=ab):k≠a:=λe=>by rw[e,ha] at h;exact iV h
theorem tK{L L':List Nat}{k:Nat}(hk:L'.contains k=an)(h:autoParam (L.all L'.contains=ab) bl):L.contains k=an:=DC.mpr λz=>iy hk (dc.mp h k (e9.mp z)) (Eq.refl _)
theorem XV{L L':List Nat}{k:Nat}(hk:k∈L)(h:autoParam (L.all L'.contains=ab) bl):k∈L':=e9.mp (dc.mp h k hk)
theorem mU{L L':List Nat}{k:Nat}(hk:k∈L)(h:autoParam ((L.all λk=>!L'.contains k)=ab) bl):L'.contains k=an:=(jL _).mp (dc.mp h k hk)
theorem ut{L l l':List Nat}{a:Nat}{o:cw}(hk:L.contains k=an)(ha:autoParam (L.contains a=ab) bl):(h.set (.mk a l') o) (.mk k l)=h (.mk k l):=aq λe=>iy hk ha (Nm.mk.inj e).1
theorem Kp.q(a:Kp N h h')(hB:autoParam (([10,30,31,32,99]:List Nat).all (99::B).contains=ab) bl):Kq B N h h':=⟨λk l hk=>
 have f:=λx hx=>iy hk (dc.mp hB x hx)
 a.1 k l (f _ (.head _)) (f _ (.tail _ (.head _))) (f _ (.tail _ (.tail _ (.head _)))) (f _ (.tail _ (.tail _ (.tail _ (.head _))))) (f _ (.tail _ (.tail _ (.tail _ (.tail _ (.head _)))))),a.2⟩
theorem Kq.trans{mx:SH}(a:Kq B N h h')(b:Kq B M h' mx)(hM:N≤M):Kq B N h mx:=⟨λk l hk=>(b.1 k l hk).trans (a.1 k l hk),a.2.trans b.2 hM⟩
theorem Kq.same:Kq B N h h:=⟨λ_ _ _=>Eq.refl _,.rfl⟩
theorem Kq.set{k:Nat}{l:List Nat}{o:cw}(hk:autoParam ((B.contains k && k !=99)=ab) bl):Kq B N h (h.set (.mk k l) o):=by
 rw[bO,bne_iff_ne] at hk;exact⟨λk' l' h1=>aq λe=>by injection e with e;subst e;exact iy h1 (by rw[w8,hk.1,HW _]) rfl,λk' l' _=>aq λe=>by injection e with e;exact hk.2 e.symm⟩
theorem Kq.new{o:cw}{l:List Nat}(hM:N≤M):Kq B N h (h.set (.mk 99 (M::l)) o):=⟨λk l' hk=>aq λe=>by injection e with e;exact iy hk (by subst e;rfl) rfl,nQ hM⟩
theorem Kq.bV{g:SH}(hM:N≤M):Kq B N h (h.bV M g):=⟨λk l hk=>aK λz=>by refine xE (xQ.mp z) λl z=>?_;injection z with z;exact iy hk (by subst z;rfl) rfl,lQ hM⟩
theorem Kq.mono{B':List Nat}(a:Kq B N h h')(hB:autoParam (B.all (99::B').contains=ab) bl):Kq B' N h h':=⟨λk l hk=>a.1 k l (tK hk ((bO _ _).mpr ⟨Eq.refl _,hB⟩)),a.2⟩
noncomputable def yB:List Nat:=[10,20,30,31,32,40,42]
theorem cZ.set{o:cw}{l:List Nat}(w:cZ R U c N h)(hk:autoParam (((99::yB).contains k)=an) dH):cZ R U c N (h.set (.mk k l) o):=by
 have ne:∀{a:Nat} {l':List Nat},(99::yB).contains a=ab→(h.set (.mk k l) o) (.mk a l')=h (.mk a l'):=λha=>aq λe=>iy hk ha (Nm.mk.inj e).1.symm;exact⟨⟨w.tb.free.same λ_ _ _=>ne rfl,λq hq=>(cG ((ne rfl).trans (w.tb.it q hq).1) ((ne rfl).trans (w.tb.it q hq).2.1) ((ne rfl).trans (w.tb.it q hq).2.2)),λj hj=>by refine aj (w.tb.pr j hj) λx e l=>?_;exact(aU x ((ne rfl).trans e) l),(ne rfl).trans w.tb.tb,w.tb.hc,w.tb.hR,w.tb.hr⟩,
  w.ca.imp λT ⟨es,C⟩=>⟨es,C.mono (λ_ _ _=>ne rfl) (ar _) (λ_=>ne rfl) (ne rfl)⟩,w.hU⟩
theorem cZ.bV{g:SH}(w:cZ R U c N h):cZ R U c (N+1) (h.bV N g):=
 ⟨w.tb.bV,w.ca.imp λT ⟨es,C⟩=>⟨es,C.mono (lQ (ar _)) (bR _) (λ_=>rfl) rfl⟩,w.hU⟩
theorem cZ.new{o:cw}(w:cZ R U c N h):cZ R U c (N+1) (h.set (gN N) o):=
 ⟨w.tb.g,w.ca.imp λT ⟨es,C⟩=>⟨es,C.mono (nQ (ar _)) (bR _) (λ_=>rfl) rfl⟩,w.hU⟩
noncomputable def o0(p:Nat×List aF):SV:=.ref (gN p.1)
noncomputable def gR:Nm:=.mk 56 []
noncomputable def ii(n:Nat):Nm:=.mk 57 [n]
noncomputable def rX:List Nat:=[10,30,31,32,33,56,57]
structure IS where
 P:List (Nat×List aF)
 n:Nat
 c:Int
 N:Nat
 h:SH
structure lz(R:bn)(U:List (List aF))(aN:Nat)(aA:SH)(s:IS):Prop where
 it:tV R U s.c s.N s.h s.P
 C:s.h gR=aa (.list (s.P.map o0))
 A:∀j,s.n≤j→s.h (ii j)=af
 kq:Kq rX aN aA s.h
 le:aN≤s.N
 first:∃k L0 r,s.P=(k,L0)::r∧dF R [(0,0)] L0
noncomputable def ZC(s:IS):SF:=[("self",.ref dp),("C",.ref gR),("i",.int s.n)]
noncomputable def oK(n:Nat)(k:Nat):SF:=[("self",.ref dp),("C",.ref gR),("i",.int ((n+1:Nat):Int)),("I",.ref (gN k)),("asyms",.ref (ii n))]
noncomputable def NF:List Str:=["self","C","i","I","asyms","ii","s","x","g"]
theorem OU:cr (bC 354) NF=ab:=by kernel_rfl
theorem w_it:cY (bC 354) ["_place","len"]=ab:=by kernel_rfl
noncomputable def vw(i:FI)(b:Nat):FI:=i.fn (b+2) 354 NF ["_place","len"] OU w_it
theorem tV.bu(w:tV R U c N h P)(hU:U.length≤2000000):P.length≤U.length:=by
 have:=fO w.nd (l₂:=U) λL hL=>by refine aj (bB.mp hL) λp hp ax=>?_;subst ax;exact w.hU (w.each p hp).2.2.mem
 rwa [aI] at this
theorem St.go(s:St R I)(g:GR R)(hU:gM R ⊆ U)(hx:x∈Sy):kU R U x I:=⟨s.ok g,ah (s.len g) aJ,hU s.mem,hx⟩
theorem tV.step(w:tV R U c N h P)(W:cZ R U c' M h')(kp:Kq rX N h h')(e:h' iP=h iP)(le:N≤M):tV R U c' M h' P:=
 ⟨W,e.trans w.jV,w.nd,λp hp=>(cG (bI (w.each p hp).1 le) ((kp.2 p.1 [] (w.each p hp).1).trans (w.each p hp).2.1) ((w.each p hp).2.2)),w.hU⟩
theorem ad4{u:List Str}:∀{l:List Str} {s:Str},s∈l.foldl (λu s=>if s∈u then u else u++[s]) u→s∈u∨s∈l:=by
 intro l
 induction l generalizing u with
 |nil=>exact λh=>.inl h
 |cons a r ih=>
  intro s h;rcases ih h with h|h
  ·dsimp only at h
   split at h
   ·exact .inl h
   ·rcases dw.mp h with h|h
    ·exact .inl h
    ·exact .inr (by rw[bS.mp h];exact dA)
  ·exact .inr (eT _ h)
theorem GR.qc(g:GR R){j:Nat}{s:Str}(h:s∈qc R j):s∈Sy:=by
 have h:=(ad4 h).resolve_left (λh=>by exact cT h);rcases sJ j with rfl|hj
 ·rw[g.qe,bS] at h;subst h;exact aW
 ·have:∀s∈(["a","A","b","B","error"]:List Str),s∈Sy:=aW
  exact this s (g.sy j s hj h)
def iA(es:b7):Prop:=(es.map (·.1)).Nodup∧∀k∈es.map (·.1),∃x∈Sy,k=.str x
theorem iA.put{es:b7}{s:Str}(a:iA es)(hs:s∈Sy):iA (bh es (.str s) .none):=⟨oN a.1,λk hk=>by
 rcases(uQ k).mp hk with rfl|hk
 ·exact(aU s hs rfl)
 ·exact a.2 k hk⟩
theorem iA.str{es:b7}(a:iA es):oG es=ab:=dc.mpr λp hp=>by
 refine aj (a.2 p.1 (bB.mpr (aU p hp rfl))) λx _ e=>?_;rw[e]
theorem iA.len{es:b7}(a:iA es):es.length≤7:=by
 have:=fO a.1 (l₂:=Sy.map SV.str) λk hk=>by refine aj (a.2 k hk) λx hx e=>?_;exact bB.mpr (aU x hx e.symm)
 rwa [aI] at this
theorem lz.go{aA:SH}{aN:Nat}{s:IS}(J:lz R U aN aA s){B:List Nat}(W:cZ R U c' M h')(kp:Kq B s.N s.h h')(le:s.N≤M)(hB:autoParam ((B.all (99::rX).contains && !B.contains 33 && !B.contains 56 && !B.contains 57)=ab) bl):lz R U aN aA ⟨s.P,s.n,c',M,h'⟩:=by
 simp only[bO,jL] at hB;obtain⟨⟨⟨h1,h2⟩,h3⟩,h4⟩:=hB;have k2:Kq rX s.N s.h h':=kp.mono h1;have f:∀{k l},B.contains k=an→k≠99→h' (.mk k l)=s.h (.mk k l):=λ{k l} e n=>kp.1 k l (by rw[w8,e,Bool.or_false _];exact k9.mpr n);exact⟨J.it.step W k2 (f h2 bH) le,(f h3 bH).trans J.C,λj hj=>(f h4 bH).trans (J.A j hj),J.kq.trans k2 J.le,ah J.le le,J.first⟩
theorem lz.add{aA:SH}{aN n:Nat}(J:lz R U aN aA ⟨P,n,c,N,h⟩)(jd:L∉P.map (·.2))(hk:k<N)(hv:h (gN k)=aa (.list (L.map a9)))(S:St R L):
  lz R U aN aA ⟨P++[(k,L)],n,c,N,(h.set iP (.dict (bh (fN 0 (P.map (·.2))) (dm L) (.int ((P.map o0).length:Nat))))).set gR (.list (P.map o0++[.ref (gN k)]))⟩:=by
 have Gs:bh (fN 0 (P.map (·.2))) (dm L) (.int ((P.map o0).length:Nat))=fN 0 ((P++[(k,L)]).map (·.2)):=by
  rw[PC (λz=>by refine aj (Fk.mp z) λL' CQ e=>?_;exact jd (Fs e▸CQ)),dN];refine Eq.trans ?_ Lk.symm;rw[aI _,aI _,mZ _]
 have g:∀m,((h.set iP (.dict (bh (fN 0 (P.map (·.2))) (dm L) (.int ((P.map o0).length:Nat))))).set gR (.list (P.map o0++[.ref (gN k)]))) (gN m)=h (gN m):=λm=>rfl;refine⟨⟨(J.it.w.set (k:=33) (l:=[])).set,ay (λz=>aa (cw.dict z)) Gs,?_,λp' bX=>?_,J.it.hU⟩,?_,λj hj=>J.A j hj,(J.kq.trans (M:=N) Kq.set J.le).trans (M:=N) Kq.set J.le,J.le,?_⟩
 ·rw[dN]
  exact lq.mpr (cG J.it.nd (ko _ _) (λa ha b hb e=>jd (by have:=bS.mp hb;rw[e,this] at ha;exact ha)))
 ·rcases dw.mp bX with q|q
  ·exact J.it.each p' q
  ·rw[bS.mp q]
   exact(cG hk hv S)
 ·show aa (cw.list (P.map o0++[.ref (gN k)]))=_
  rw[dN];rfl
 ·obtain⟨k0,L0,r,e,z⟩:=J.first
  exact⟨k0,L0,(r++[(k,L)]),(by rw[show P=(k0,L0)::r from e];rfl),z⟩
theorem abx{aA:SH}{aN:Nat}{n:Nat}{p:Nat×List aF}{es:b7}{Q:QS}(g:GR R)(hU:U.length≤2000000)(J:lz R U aN aA ⟨P,n+1,c,N,h⟩)(hp:p∈P)(hx:x∈Sy)(as:h (ii n)=aa (.dict es))
  (fin:∀P' c' N' h' fr,lz R U aN aA ⟨P',n+1,c',N',h'⟩→P.length≤P'.length→p∈P'→h' (ii n)=aa (.dict es)→(oK n p.1).sub fr→Q .next fr h'∧Q .cont fr h'):
  SS (vw i b) ((oK n p.1).put "x" (.str x)) h [ew (stN (ew (stN (ba 354) 4)) 4)] Q:=by
 have E:=J.it.each p hp;refine kH (di n_ (iX J.it.w.tb.tb rfl) (i.K.keep rfl) (aB n_ (aB n_ aL)) (xG (b:=b) rfl (E.2.2.go g J.it.hU hx:kU R U x p.2) J.it.w E.1 E.2.1).cp) ?_;rintro v h2 ⟨L,c',M,G⟩;have kp:Kq [10,30,31,32] N h h2:=G.kp.q;have J2:=J.go G.w kp G.le;have Hy:∀{fr:SF},(oK n p.1).sub (((oK n p.1).put "x" (.str x)).put "g" v):=ai (ai (ai (ai (ai bq))));have Cc:h2 (ii n)=aa (.dict es):=(kp.1 _ _ rfl).trans as
 by_cases hL:L=[]
 ·subst hL
  refine cS (xx (fw (t:=an) (p_ n_ (vB G.told (b_ _))))) (GC (fin P c' M h2 _ J2 (ar _) hp Cc (Hy (fr:=[]))).2)
 ·have S2:St R L:=E.2.2.next g G.res hL
  have ne:(!L.isEmpty)=ab:=by cases L with|nil=>exact bc rfl hL|cons _ _=>rfl
  have ND:=S2.len g;have tv:=vB (i:=vw i b) G.told (ah ‹_› aJ);have pl:FP ((vw i b).dn (b+2)) h2 (.glob 318) [v] (is (dm L) (h2.bV M (eP M L h2))):=t6 (b:=b+1) rfl (G.told.told:Told h2 v L) (S2.ok g) G.w.tb.it G.w.tb.free (ah ‹_› aJ);have J3:=J2.go (B:=[]) (c':=c') (M:=M+1) (h':=h2.bV M (eP M L h2)) G.w.bV (.bV (ar _)) (bR _)
  by_cases jd:L∈P.map (·.2)
  ·have:((fN 0 (P.map (·.2))).lookup (dm L)).isSome=ab:=by
    cases e:(fN 0 (P.map (·.2))).lookup (dm L) with
    |some _=>rfl
    |none=>exact bc (Fk.mpr (aU L jd rfl)) (lU.mp e)
   refine cS (pN (fw (t:=ab) (p_ n_ (ne▸tv))) (xx (bt (b8 (i.K.ref rfl) (i.K.keep rfl) (aB n_ aL) pl.cp) (a_ n_ J3.it.w.tb.tb) (this▸pZ J3.it.jV rp)))) (GC (fin P c' (M+1) _ _ J3 (ar _) hp Cc (Hy (fr:=[]))).2)
  ·have:((fN 0 (P.map (·.2))).lookup (dm L)).isSome=an:=by
    cases e:(fN 0 (P.map (·.2))).lookup (dm L) with
    |none=>rfl
    |some v=>
     refine aj (CI e) λj e _=>?_;exact bc (bN e) jd
   refine cf (pN (fw (t:=ab) (p_ n_ (ne▸tv))) (pN (bt (b8 (i.K.ref rfl) (i.K.keep rfl) (aB n_ aL) pl.cp) (a_ n_ J3.it.w.tb.tb) (this▸pZ J3.it.jV rp)) Bm)) (aH ?_);have bu:P.length≤cR:=ah (J3.it.bu hU) (ah hU (by refine(?_:_≤2^24);exact aJ));have Ln:FP ((vw i b).dn (b+2)) (h2.bV M (eP M L h2)) (.glob 318) [v] (is (dm L) ((h2.bV M (eP M L h2)).bV (M+1) (eP (M+1) L (h2.bV M (eP M L h2))))):=t6 (b:=b+1) rfl (G.told.mono (lQ (ar _)) (bR _):j5 (M+1) (h2.bV M (eP M L h2)) v L).told (S2.ok g) J3.it.w.tb.it J3.it.w.tb.free (ah ‹_› aJ);have J4:=J3.go (B:=[]) (c':=c') (M:=M+2) (h':=(h2.bV M (eP M L h2)).bV (M+1) (eP (M+1) L (h2.bV M (eP M L h2)))) J3.it.w.bV (.bV (ar _)) (bR _);generalize Nh:(h2.bV M (eP M L h2)).bV (M+1) (eP (M+1) L (h2.bV M (eP M L h2)))=h4 at Ln J4;refine bG (G.told.resolve_left λz=>hL z.2) λk hk ax hv=>?_;subst ax;refine ef (n:=iP) (b8 (i.K.bi rfl) rfl (aB n_ aL) (oI (.own J3.C) (by rw[aI _];exact bd bu (by exact bg)))) (a_ n_ J3.it.w.tb.tb) (b8 (i.K.ref rfl) (i.K.keep rfl) (aB n_ aL) Ln.cp) J4.it.jV (by rw[Jj,aI _];exact bu) ?_ (by rw[rp];rfl);refine fG (di n_ (fS (n:=gR) ((aq aW).trans J4.C)) iB (aB n_ aL) (fX (n:=gR) ((aq aW).trans J4.C) (by rw[aI _];exact bu))) ?_;refine aH (bK (fin (P++[(k,L)]) c' (M+2) _ _ (J4.add jd (pE (pE hk)) (Nh▸(lQ (ar _) k [] (pE hk)).trans ((lQ (ar _) k [] hk).trans hv):h4 (gN k)=aa (.list (L.map a9))) S2) (by rw[cU];exact bR _) (i7 _ hp) (by rw[←Nh];exact Cc) (Hy (fr:=[]))).1)
variable{kk:List (List bx)}
theorem Tl{pos:Pos}{n:Nm}{P:QV}(a:EP i fr h e P)(hn:∀v ag,P v ag→ag n=af)(ok:autoParam (iI e=ab) bl):EP i fr h (.List [e] pos) (λv h'=>∃u ag,P u ag∧v=.ref n∧h'=ag.set n (.list [u])):=
 ⟨λfr' s Q X hq=>list (wx rfl) (ue (a.run fr' s _ _ λv ag hp=>tC (rO rfl n (hn v ag hp) (hq _ _ (mC v ag hp rfl rfl)))) ok)⟩
theorem cZ.clo{J:List aF}{ad:List Nat}(W:cZ R U c N h)(C:zo R c N h I v h' J ad):cZ R U (c+1) (N+1) h':=
 ⟨C.tb,W.ca.imp λT ⟨es,X⟩=>⟨es,X.mono (λk l hk=>C.same _ _ bH bH λe=>by have:=mv e;exact du ‹_› ‹_›) (bR _) (λl=>C.same _ _ bH bH (mH bH)) (C.same _ _ bH bH (mH bH))⟩,W.hU⟩
theorem zo.kq{J:List aF}{ad:List Nat}(C:zo R c N h I v h' J ad):Kq [10,30] N h h':=
 ⟨λk l hk=>C.same k l (iy hk rfl) (iy hk rfl) λe=>iy hk (a:=99) rfl (Nm.mk.inj e).1,λk l hk=>C.same _ _ bH bH λe=>by have:=mv e;exact du ‹_› ‹_›⟩
theorem adi{n:Nat}(g:GR R)(it:u8 R h)(ok:∀q∈L,cX R q)(hL:h (gN k)=aa (.list (L.map a9)))(h0:h (ii n)=af)
  (fin:∀es,iA es→SS (vw i b) (oK n k) (h.set (ii n) (.dict es)) ((ew (stN (ba 354) 4)).drop 4::kk) Q):
  SS (vw i b) (oK n k) (h.set (ii n) (.dict [])) ((ew (stN (ba 354) 4)).drop 3::kk) Q:=by
 have zE:∀(es:b7) q,cX R q→(h.set (ii n) (.dict es)) (bj q)=aa (.inst 135 (dY R q))∧(h.set (ii n) (.dict es)) (.mk 42 [q.1])=aa (.list ((qc R q.1).map .str)):=λes q hq=>⟨(it q hq).1,(it q hq).2.2⟩;refine et (σ:=b7) (λ_=>oK n k) (λes=>h.set (ii n) (.dict es)) (λes _=>iA es) [] (L.map a9) (d7 (n:=gN k) n_ hL) ⟨.nil,λ_ h=>by exact cT h⟩ .rfl (λes j _=>d8 (n:=gN k) hL) (λes j v A e=>?_) λes A=>aH (fin es A);refine aj (dJ e) λq hq ax=>?_;subst ax;have Q1:=zE es q (ok q (bN hq));refine dX (et (σ:=b7) (λ_=>oK n k) (λes=>h.set (ii n) (.dict es)) (λes _=>iA es) es ((qc R q.1).map .str) (d7 (a_ (n:=bj q) n_ Q1.1) Q1.2) A (ai (ai (ai (ai (ai bq))))) (λes' j _=>d8 (zE es' q (ok q (bN hq))).2) (λes' j' v' A' e'=>?_) λes' A'=>aH (aH (bK (LQ.next es' A' .rfl))));refine aj (dJ e') λs hs ax=>?_;subst ax;refine dX (ef (n:=ii n) kK n_ n_ aS (by have:=A'.len;refine(?_:_≤2^24);exact ah ‹_› aJ) ?_);exact aH (bK (LQ.next (bh es' (.str s) .none) (A'.put (g.qc (bN hs))) (ai (ai (ai (ai (ai bq))))) (iF.symm)))
theorem RZ{gf:SF}(hb:i.b=b+3)(g:GR R)(CM:gM R ⊆ U)(W:cZ R U c N h)(Gs:h iP=aa (.dict []))(nI:h aX=aa (.inst 283 gf))(hP:gf.lookup ("Productions":Str)=aa (.ref (.mk 35 [])))
  (hl:h (.mk 35 [])=aa (.list ((bo R.length).map bA))) (hC:h gR=af) (hA:∀j,h (ii j)=af):FP i h (.glob 354) [.ref dp] (λv h'=>v=.ref gR∧∃P n c' N',lz R U N h ⟨P,n,c',N',h'⟩):=by
 refine enter i.K.items OU w_it hb rfl ?_;have hU:=W.hU;refine aj (W.tb.pr 0 g.pos) λx px Ah=>?_;have p0:((bo R.length).map bA)[0]? =aa (bA 0):=by
  rw[dv,w9 g.pos];rfl
 refine kH (Tl (n:=gR) (di n_ (iX W.tb.tb rfl) (i.K.keep rfl) (aB (eD (n:=gN N) (aB (a_ (n:=bf 0) (mJ (j:=0) (a_ (n:=aX) (a_ n_ W.tb.tb) nI hP) bD (.own hl) bg p0) px) aL) W.tb.free.at) aL) (BZ (I:=[(0,0)]) (b:=b+1) rfl W.tb.g aS (λq hq=>by rw[bS.mp hq];exact⟨g.pos,b_ _⟩) aJ).cp) ?_) ?_
 ·rintro v h1 ⟨J,ad,C⟩
  exact(C.same 56 [] bH bH (mH bH)).trans hC
 rintro v h2 ⟨u,h1,⟨J,ad,C⟩,rfl,rfl⟩;have K1:Kq rX N h h1:=(Kq.new (ar _)).trans (C.kq.mono) (bR _);have S0:St R J:=⟨[(0,0)],by exact IA _ _,.inr ⟨by exact IA _ _,ad,C.clo⟩,.inl rfl⟩;have l0:=S0.len g;obtain rfl:=C.v;have W2:cZ R U (c+1) (N+2) (h1.set gR (.list [.ref (gN (N+1))])):=(W.new.clo C:cZ R U (c+1) (N+2) h1).set;have FX:(h1.set gR (.list [.ref (gN (N+1))])) (gN (N+1))=aa (.list (J.map a9)):=C.list;generalize si:h1.set gR (.list [.ref (gN (N+1))])=h2 at W2 FX ⊢;have BU:h2 gR=aa (.list [.ref (gN (N+1))]):=si▸aS;refine bM bD ?_;refine et (σ:=Nat) (λs=>[("self",.ref dp),("C",.ref gR),("i",.int s)]) (λs=>if s=0 then h2 else(h2.bV (N+2) (eP (N+2) J h2)).set iP (.dict [(dm J,.int 0)])) (λs j=>s=j) 0 [.ref (gN (N+1))] (d7 n_ BU) rfl (ai (ai (ai bq))) (λs j e=>?_) (λs j v e ev=>?_) (λs e=>?_)
 ·refine d8 (n:=gR) ?_
  split
  ·exact BU
  ·exact BU
 ·subst e
  match s,ev with
  |0,ev=>
   (first|exact a7 ev|obtain rfl:=aY ev)
   refine dX (ef (n:=iP) (es:=[]) n_ (a_ n_ W2.tb.tb) (b8 (i.K.ref rfl) (i.K.keep rfl) (aB n_ aL) (t6 (b:=b+1) rfl (.inr (aU _ rfl FX)) (S0.ok g) W2.tb.it W2.tb.free (ah ‹_› aJ)).cp) (si▸(aq aW).trans ((K1.1 33 []|> λ_=>(C.same 33 [] bH bH (mH bH))).trans Gs):h2 iP=aa (.dict [])) (b_ _) ?_ (by rw[rp];rfl));exact y0 rfl bD wA (aH (bK (LQ.next 1 rfl (ai (ai (ai bq))))))
 ·obtain rfl:s=1:=e
  refine aH (bM bD ?_);have J0:lz R U N h ⟨[(N+1,J)],0,c+1,N+3,(h2.bV (N+2) (eP (N+2) J h2)).set iP (.dict [(dm J,.int 0)])⟩:=by
   refine⟨⟨W2.bV.set,(show((h2.bV (N+2) (eP (N+2) J h2)).set iP (.dict [(dm J,.int 0)])) iP=aa (.dict [(dm J,.int 0)]) from aS),ko _ _,λp hp=>?_,CM⟩,BU,λj _=>?_,(((si▸K1.trans (M:=N+2) Kq.set (b6 _ _):Kq rX N h h2).trans (M:=N+2) (.bV (ar _)) (b6 _ _)).trans (M:=N+3) Kq.set (b6 _ _)),(b6 _ _:N≤N+3),⟨N+1,J,[],rfl,(.inr (B7 (IA _ _) ad C.clo))⟩⟩
   ·rw[bS.mp hp]
    exact(cG (by show N+1<N+3;exact bR _) ((lQ (ar _) (N+1) [] (dq _)).trans FX) S0)
   ·show h2 (ii j)=af
    rw[←si];exact(C.same 57 [j] bH bH (mH bH)).trans (hA j)
  generalize (h2.bV (N+2) (eP (N+2) J h2)).set iP (.dict [(dm J,.int 0)])=h3 at J0;refine ry (σ:=IS) ZC IS.h (λs m=>m+s.n=U.length+1∧s.n≤s.P.length∧lz R U N h s) ⟨[(N+1,J)],0,c+1,N+3,h3⟩ (U.length+1) (cG rfl (b_ _) J0) (ai (ai (ai bq))) ?_;rintro s m ⟨hm,hn,Js⟩;have bu:=Js.it.bu hU;refine(mC _ s.h (bt n_ (b8 (i.K.bi rfl) rfl (aB n_ aL) (oI (.own Js.C) (by rw[aI _];exact bd bu (bd hU bg)))) yQ) (λe=>?_) (λe=>?_))
  ·exact aH (gA n_ ⟨rfl,s.P,s.n,s.c,s.N,Js⟩)
  ·have e:s.n<s.P.length:=by
    have:=fC e;rw[aI] at this;exact ib.mp this
   obtain⟨p,hp⟩:∃p,s.P[s.n]? =aa p:=⟨_,fb e⟩;have L3:=bN hp;have E:=Js.it.each p L3;refine bM (v:=o0 p) (mJ (j:=s.n) n_ n_ (.own Js.C) (bI e (ah bu (ah hU aJ))) (by rw[dv,hp];rfl)) ?_;refine y0 rfl bD wA ?_;refine bM (g7 (Js.A s.n (ar _))) ?_;refine SS.sub (ej:=oK s.n p.1) ?_ (ai (ai (ai (ai (ai bq)))));refine adi (b:=b) g Js.it.w.tb.it (E.2.2.ok g) E.2.1 (Js.A s.n (ar _)) λes A=>?_;have k7:=A.str;have h7:=A.len;have J1:lz R U N h ⟨s.P,s.n+1,s.c,s.N,s.h.set (ii s.n) (.dict es)⟩:=
    ⟨⟨Js.it.w.set,Js.it.jV,Js.it.nd,λp hp=>(cG ((Js.it.each p hp).1) ((Js.it.each p hp).2.1) ((Js.it.each p hp).2.2)),CM⟩,Js.C,λj hj=>(aq λe=>by injection e with _ e;injection e with e;have:s.n+1≤j:=hj;exact dG ‹_› ‹_›).trans (Js.A j (ah (bR _) hj)),Js.kq.trans (M:=s.N) Kq.set Js.le,Js.le,Js.first⟩
   refine BK (σ:=IS) (λ_=>oK s.n p.1) IS.h (λt j m=>j+m=es.length∧lz R U N h ⟨t.P,s.n+1,t.c,t.N,t.h⟩∧p∈t.P∧t.h (ii s.n)=aa (.dict es)∧s.n<t.P.length) ⟨s.P,0,s.c,s.N,s.h.set (ii s.n) (.dict es)⟩ es.length (wd n_ aS k7) (uo (mZ _) J1 L3 aS e) .rfl ?_;rintro t j m2 ⟨hj,Jt,U9,ht,hlt⟩;refine(cK _ (wf ht k7) (λ_=>?_) (λv ev=>?_))
   ·exact aH (aH (bK (LQ.next ⟨t.P,s.n+1,t.c,t.N,t.h⟩ (ik (m-1) (JY hm (bI e (c8 bu))) (OA hm (bI e (c8 bu))) hlt Jt) (ai (ai (ai bq))))))
   ·have ig:=(cV.mp ev).1
    rw[aI] at ig;refine aj (A.2 v (bN ev)) λx hx ax=>?_;subst ax;refine dX (abx (b:=b) g hU Jt U9 hx ht λP' c' N' h' fr J' Al bX kf sb=>?_);have lt':s.n<P'.length:=bI hlt Al;exact⟨LQ.next ⟨P',0,c',N',h'⟩ (yK (m2-1) (Cf hj ig) (Bz hj ig) J' bX kf lt') sb,LQ.cont ⟨P',0,c',N',h'⟩ (yK (m2-1) (Cf hj ig) (Bz hj ig) J' bX kf lt') sb⟩
theorem Xm{x y:Str}{p q tp pos:Pos}{k:Nat}{e:Expr}{Q:QS}{X:dP}(hq:F.q=ab)(hx:qv F x=ab)(hy:qv F y=ab)
  (hs:∀ae:Env,ae.scope=F.sc→Dr [.Tuple [.Name x p,.Name y q] k tp] e pos.line ae=pure an) (hw:∀ae:Env,ae.scope=F.sc→wV [.Tuple [.Name x p,.Name y q] k tp] e ae=pure (aa [x,y]))
  (w:WE G F b fr h e (λv ag=>∃u u',v=.tup [u,u']∧Q .next ((fr.put y u').put x u) ag) (λx h=>X x fr h)):WS G F b fr h (.Assign [.Tuple [.Name x p,.Name y q] k tp] e pos) Q X:=by
 refine .mk ?_;intro own ae A P m s Q' E' R c d;refine Assign_Tuple_swapped (names:=[x,y]) (w.run own ae A P m s _ _ R (λv ag v' aZ bW bU Mt hP hm hv a6=>?_) d.ka) (hs ae R.f.sc) (hw ae R.f.sc);refine d_ Mt λu u' ax hQ=>?_;clear Mt;subst ax;obtain⟨a,o,items,n,rfl,hp,h1,h2,h3⟩:=hv;refine bG (a6.rP hp) λo' e1 e2 e3=>?_;obtain⟨v1,r1,e4,EM,v2,r2,rfl,EH,rfl⟩:=h3;have hz:[x,y].length=items.size:=by rw[←fQ,e4];rfl
 rw[hz];refine unpackItems_tuple (a6.quiet hq) ⟨o',e1,by rw[e2,h1],n,by rw[e3,h2]⟩ λhh he=>?_;rw[e4];refine PY (bindName_ (Bq (a6.grow (s':={aZ with heap:=hh}) (λa o e=>he a o (du (jI e)) e) rfl rfl) EH hy λey cW=>?_));refine PY (bindName_ (Bq cW EM hx λnj f8=>?_));exact agc (c _ _ _ _ _ _ _ hQ hP hm rfl f8)
variable{k:List (List bx)}
theorem Ca{x y:Str}{p q tp pos:Pos}{n:Nat}(a:EV i fr h e (.tup [u,w]) ag)(b:SS i ((fr.put x u).put y w) ag (rest::k) Q)(ok:autoParam ((i.l.contains x && i.l.contains y && iq e)=ab) bl):SS i fr h ((.Assign [.Tuple [.Name x p,.Name y q] n tp] e pos::rest)::k) Q:=by
 simp only[bO] at ok;exact fH (sZ _ a.ep (λv' aC e fr' s Q' hq=>by refine xA e λcP br=>?_;clear e;subst cP;subst br;exact EE i.q (λ_=>rfl) rfl (oH i.V (oH i.V (hq _ _ (b.run _ ((s.put _ _).put _ _))) ok.1.2) ok.1.1)) (by rw[ok.2];rfl))
theorem Vz{x y:Str}{p q tp pos:Pos}{n:Nat}(a:EV i fr h e (.tup [u,w]) ag)(b:SS i ((fr.put y w).put x u) ag (rest::k) Q)(hs:∀ae:Env,ae.scope=i.F.sc→Dr [.Tuple [.Name x p,.Name y q] n tp] e pos.line ae=pure an)
  (hw:∀ae:Env,ae.scope=i.F.sc→wV [.Tuple [.Name x p,.Name y q] n tp] e ae=pure (aa [x,y])) (ok:autoParam ((i.l.contains x && i.l.contains y)=ab) bl):SS i fr h ((.Assign [.Tuple [.Name x p,.Name y q] n tp] e pos::rest)::k) Q:=by
 rw[bO] at ok;exact fH ⟨λfr' s Q' hq=>Xm i.q (cr.v i.V ok.1).2.1 (cr.v i.V ok.2).2.1 hs hw (a.run fr' s _ _ (zq u w rfl (hq _ _ .next (b.run _ ((s.put _ _).put _ _)))))⟩
theorem SF.sub.b9{ej fr:SF}(s:ej.sub fr){x:Str}{v:SV}(hx:autoParam (ej.lookup x=af) dH):ej.sub (fr.put x v):=λy u e=>by
 rw[gj,aK (λz=>by subst z;rw[hx] at e;exact a7 e)];exact s y u e
theorem JP{n:Nm}{fs:SF}(hn:h n=aa (.inst 100 fs))(hf:fs.lookup ("reduced":Str)=af∨∃k,fs.lookup ("reduced":Str)=aa (.int k)):∃k,OV i h [.ref n] (mr λx=>m8 x "reduced" ab) (.int k) h:=by
 rcases hf with hf|⟨k,hf⟩
 ·exact⟨0,⟨λfr' Q X hq=>Ok i.K rfl hn hf hq⟩⟩
 ·exact⟨k,Of hn hf⟩
theorem DY(hu:u=w)(ok:autoParam ((SV.data 6 u && SV.data 6 w)=ab) bl):OV i h [u,w] (bv (c5 .NotEq)) (.bool an) h:=by
 have:=IL (i:=i) (h:=h) ok
 rwa [eQ hu] at this
theorem J9(hu:u≠w)(ok:autoParam ((SV.data 6 u && SV.data 6 w)=ab) bl):OV i h [u,w] (bv (c5 .NotEq)) (.bool ab) h:=by
 have:=IL (i:=i) (h:=h) ok
 rwa [i0 hu] at this
theorem η{n m:Int}{pos:Pos}(a:EV i fr h e (.int n) ag)(hm:m=-n):EV i fr h (.UnaryOp .USub e pos) (.int m) ag:=hm▸Ao a
variable{a:Int}
theorem CH(z:a > c):OV i h [.int a,.int c] (bv (c5 .Gt)) (.bool ab) h:=eQ z▸Jn
theorem yr(z:¬a > c):OV i h [.int a,.int c] (bv (c5 .Gt)) (.bool an) h:=i0 z▸Jn
theorem Ks(z:a<c):OV i h [.int a,.int c] (bv (c5 .Lt)) (.bool ab) h:=eQ z▸yQ
theorem T5(z:¬a<c):OV i h [.int a,.int c] (bv (c5 .Lt)) (.bool an) h:=i0 z▸yQ
theorem Oj(z:a≥c):OV i h [.int a,.int c] (bv (c5 .GtE)) (.bool ab) h:=eQ z▸FT
theorem Lu(z:¬a≥c):OV i h [.int a,.int c] (bv (c5 .GtE)) (.bool an) h:=i0 z▸FT
theorem tD{es:b7}{k v:SV}:(bh es k v).length≤es.length+1:=by
 induction es with
 |nil=>exact ar _
 |cons p r ih=>
  obtain⟨a,c⟩:=p;show(if _ then _ else _:b7).length≤_
  split
  ·exact bR _
  ·exact eG ih
variable{s:Str}{k m:Nat}{ft fL:b7}
noncomputable def pS:SF:=[("Productions",.ref (.mk 35 [])),("Prodnames",.ref (.mk 36 [])),("Prodmap",.ref (.mk 37 [])),("Terminals",.ref (.mk 38 [])),("Nonterminals",.ref (.mk 39 [])),("First",.ref (.mk 45 [])),("Follow",.ref (.mk 46 [])),("Precedence",.ref (.mk 49 [])),("UsedPrecedence",.ref (.mk 50 [])),("Start",.str "S")]
noncomputable def dV:List Str:=["a","b","error"]
noncomputable def j3:List Str:=["a","b","error","$end"]
structure iZ(R:bn)(h:SH):Prop where
 gr:h aX=aa (.inst 283 pS)
 fg:h (.mk 35 [])=aa (.list ((bo R.length).map bA))
 term:∃es,h (.mk 38 [])=aa (.dict es)∧∀s,(es.lookup (.str s)).isSome=dV.contains s
 iC:∃es,h (.mk 39 [])=aa (.dict es)∧∀s,(es.lookup (.str s)).isSome=qj s
 nE:∃es,h (.mk 46 [])=aa (.dict es)∧∀s,qj s=ab→es.lookup (.str s)=aa (.ref (.mk 48 [sym s]))∧∃fs:List Str,h (.mk 48 [sym s])=aa (.list (fs.map .str))∧fs.Nodup∧∀f∈fs,f∈j3
 prec:h (.mk 49 [])=aa (.dict [])
noncomputable def qV:List Nat:=[34,35,38,39,46,48,49]
theorem iZ.same(g:iZ R h)(e:∀k l,qV.contains k=ab→h' (.mk k l)=h (.mk k l)):iZ R h':=
 ⟨(e _ _ rfl).trans g.gr,(e _ _ rfl).trans g.fg,aj g.term λes a b=>⟨es,(e _ _ rfl).trans a,b⟩,aj g.iC λes a b=>⟨es,(e _ _ rfl).trans a,b⟩,
  aj g.nE λes a b=>⟨es,(e _ _ rfl).trans a,λs hs=>mN (b s hs) λp fs q r=>⟨p,fs,(e _ _ rfl).trans q,r⟩⟩,(e _ _ rfl).trans g.prec⟩
theorem iZ.kq{B:List Nat}(g:iZ R h)(kq:Kq B N h h')(hB:autoParam ((qV.all λk=>!(99::B).contains k)=ab) bl):iZ R h':=
 g.same λk l hk=>kq.1 k l (mU (e9.mp hk) hB)
theorem iZ.set{l:List Nat}{o:cw}(g:iZ R h)(hk:autoParam (qV.contains k=an) dH):iZ R (h.set (.mk k l) o):=
 g.same λk' l' dW=>aq λe=>by injection e with e;subst e;rw[hk] at dW;exact cJ dW
noncomputable def uX:List Nat:=[10,30,31,32,33,51,52,54,55,56,57,61,62,63,64,65]
structure ck(R:bn)(U:List (List aF))(P:List (Nat×List aF))(aN:Nat)(aA:SH)(st m:Nat)(c:Int)(N:Nat)(h:SH):Prop where
 it:tV R U c N h P
 C:h gR=aa (.list (P.map o0))
 gr:iZ R h
 kq:Kq uX aN aA h
 le:aN≤N
 ap:∃es,h (.mk 65 [])=aa (.dict es)∧es.length≤st
 ac:∃es,h (.mk 51 [])=aa (.dict es)∧es.length≤st
 go:∃es,h (.mk 52 [])=aa (.dict es)∧es.length≤st
 sr:∃vs,h (.mk 54 [])=aa (.list vs)∧vs.length≤m
 rr:∃vs,h (.mk 55 [])=aa (.list vs)∧vs.length≤m
 first:∃k L0 r,P=(k,L0)::r∧dF R [(0,0)] L0
 fresh:∀k∈([61,62,63,64]:List Nat),∀j,st<j→h (.mk k [j])=af
variable{aN st:Nat}{aA:SH}
theorem kC{k a:Nat}{l l':List Nat}{B:List Nat}(hk:k∈B)(ha:autoParam (B.contains a=an) dH):Nm.mk k l≠Nm.mk a l':=λe=>by
 injection e with e;subst e;rw[e9.mpr hk] at ha;exact iV ha
theorem ck.yL{B:List Nat}(p:ck R U P aN aA st m c N h)(W:cZ R U c' M h')(kq:Kq B N h h')(le:N≤M)(hB:(B.all (99::uX).contains && ((33::51::52::54::55::56::65::qV).all λk=>!(99::B).contains k))=ab)
  (hf:∀k∈([61,62,63,64]:List Nat),∀j,st<j→h' (.mk k [j])=af):ck R U P aN aA st m c' M h':=by
 rw[bO] at hB;have f:∀{k l},(33::51::52::54::55::56::65::qV).contains k=ab→h' (.mk k l)=h (.mk k l):=λ{k l} hk=>kq.1 k l (mU (e9.mp hk) hB.2);have e:=p.it;exact⟨⟨W,(f (k:=33) rfl).trans e.jV,e.nd,λq hq=>(cG (bI (e.each q hq).1 le) ((kq.2 q.1 [] (e.each q hq).1).trans (e.each q hq).2.1) ((e.each q hq).2.2)),e.hU⟩,(f (k:=56) rfl).trans p.C,p.gr.same λk l hk=>f (by simp only[w8,hk,HW]),p.kq.trans (kq.mono hB.1) p.le,ah p.le le,
  p.ap.imp λes q=>⟨(f rfl).trans q.1,q.2⟩,p.ac.imp λes q=>⟨(f rfl).trans q.1,q.2⟩,p.go.imp λes q=>⟨(f rfl).trans q.1,q.2⟩,p.sr.imp λes q=>⟨(f rfl).trans q.1,q.2⟩,p.rr.imp λes q=>⟨(f rfl).trans q.1,q.2⟩,p.first,hf⟩
theorem ck.move{B:List Nat}(p:ck R U P aN aA st m c N h)(W:cZ R U c' M h')(kq:Kq B N h h')(le:N≤M)(hB:autoParam ((B.all (99::uX).contains && ((33::51::52::54::55::56::65::qV).all λk=>!(99::B).contains k))=ab) bl)
  (hF:autoParam ((([61,62,63,64]:List Nat).all λk=>!(99::B).contains k)=ab) bl):ck R U P aN aA st m c' M h':=
 p.yL W kq le hB λk hk j hj=>(kq.1 k [j] (mU hk hF)).trans (p.fresh k hk j hj)
theorem ck.iQ{o:cw}(p:ck R U P aN aA st m c N h)(hk:autoParam (([61,62,63,64]:List Nat).contains k=ab) bl):ck R U P aN aA st m c N (h.set (.mk k [st]) o):=by
 have hf:∀k'∈([61,62,63,64]:List Nat),∀j,st<j→(h.set (.mk k [st]) o) (.mk k' [j])=af:=λk' dW j hj=>(aq λe=>by injection e with _ e;injection e with e;exact dG ‹_› ‹_›).trans (p.fresh k' dW j hj);have:k=61∨k=62∨k=63∨k=64:=by simpa using hk
 rcases this with rfl|rfl|rfl|rfl
 ·exact p.yL (B:=[61]) p.it.w.set .set (ar _) rfl hf
 ·exact p.yL (B:=[62]) p.it.w.set .set (ar _) rfl hf
 ·exact p.yL (B:=[63]) p.it.w.set .set (ar _) rfl hf
 ·exact p.yL (B:=[64]) p.it.w.set .set (ar _) rfl hf
theorem ck.up{m':Nat}(p:ck R U P aN aA st m c N h)(hm:m≤m'):ck R U P aN aA st m' c N h:=
 {p with sr:=p.sr.imp λ_ q=>⟨q.1,ah q.2 hm⟩,rr:=p.rr.imp λ_ q=>⟨q.1,ah q.2 hm⟩}
theorem ck.Lr{vs:List SV}(p:ck R U P aN aA st m c N h)(hv:h (.mk 54 [])=aa (.list vs)):ck R U P aN aA st (m+1) c N (h.set (.mk 54 []) (.list (vs++[v]))):=by
 obtain⟨a5,e,hl⟩:=p.sr;rw[hv] at e;cases e;exact⟨⟨(p.it.w.set:cZ R U c N (h.set (.mk 54 []) (.list (vs++[v])))),p.it.jV,p.it.nd,p.it.each,p.it.hU⟩,p.C,p.gr.set,p.kq.trans (M:=N) .set p.le,p.le,p.ap,p.ac,p.go,(aU _ aS (by rw[cU];exact eG hl)),p.rr.imp λ_ q=>⟨q.1,c8 q.2⟩,p.first,λk hk j hj=>(aq (kC hk)).trans (p.fresh k hk j hj)⟩
theorem ck.Θ{vs:List SV}(p:ck R U P aN aA st m c N h)(hv:h (.mk 55 [])=aa (.list vs)):ck R U P aN aA st (m+1) c N (h.set (.mk 55 []) (.list (vs++[v]))):=by
 obtain⟨a5,e,hl⟩:=p.rr;rw[hv] at e;cases e;exact⟨⟨(p.it.w.set:cZ R U c N (h.set (.mk 55 []) (.list (vs++[v])))),p.it.jV,p.it.nd,p.it.each,p.it.hU⟩,p.C,p.gr.set,p.kq.trans (M:=N) .set p.le,p.le,p.ap,p.ac,p.go,p.sr.imp λ_ q=>⟨q.1,c8 q.2⟩,(aU _ aS (by rw[cU];exact eG hl)),p.first,λk hk j hj=>(aq (kC hk)).trans (p.fresh k hk j hj)⟩
theorem h9.tA{x:SF}(L:h9 c x)(k:Int):h9 c (x.put "reduced" (.int k)):=by
 have e1:(x.put "reduced" (.int k)).lookup ("reduced":Str)=aa (.int k):=by rw[gj,aP rfl]
 have e2:(x.put "reduced" (.int k)).lookup ("lr0_added":Str)=x.lookup ("lr0_added":Str):=by rw[gj,aK aW]
 refine⟨?_,by rw[e2];exact L.add,.inr ⟨k,e1⟩⟩;have:=L.len;rw[Fn _ _ _,e1,e2];revert this
 cases(x.lookup ("reduced":Str)).isSome
 ·exact λq=>eG q
 ·exact λq=>q
theorem cZ.tA{j:Nat}{x:SF}(W:cZ R U c N h)(L:h9 c x):cZ R U c N (h.set (bf j) (.inst 100 (gd R j++x))):=
 ⟨⟨W.tb.free.same λ_ _ _=>rfl,W.tb.it,λj' fh=>by
  by_cases e:j'=j
  ·subst e;exact(aU x aS L)
  ·refine aj (W.tb.pr j' fh) λx' a l=>?_
   exact(aU x' ((aq λz=>by injection z with _ z;injection z with z;exact e z).trans a) l),W.tb.tb,W.tb.hc,W.tb.hR,W.tb.hr⟩,W.ca.imp λT ⟨es,C⟩=>⟨es,C.mono (λ_ _ _=>rfl) (ar _) (λ_=>rfl) rfl⟩,W.hU⟩
theorem ck.tA{j:Nat}{x:SF}(p:ck R U P aN aA st m c N h)(L:h9 c x):ck R U P aN aA st m c N (h.set (bf j) (.inst 100 (gd R j++x))):=
 p.move (B:=[10]) (p.it.w.tA L) .set (ar _)
def En(R:bn)(S:List (List aF))(L:List aF)(s:Str)(v:SV):Prop:=
 (∃n:Nat,0<n∧n<R.length∧v=.int (-(n:Int)))∨∃(j:Nat) (L':List aF),0<j∧v=.int j∧dF R (cF R L s) L'∧(fN 0 S).lookup (dm L')=aa (.int j)
structure kL(R:bn)(S:List (List aF))(L:List aF)(ft fL:b7):Prop where
 nd:(ft.map (·.1)).Nodup
 yv:(fL.map (·.1)).Nodup
 key:∀k v,ft.lookup k=aa v→∃s∈j3,k=.str s∧(L=[(0,1)]∨En R S L s v)
 pk:∀k v,ft.lookup k=aa v→L=[(0,1)]∨∃q,cX R q∧fL.lookup k=aa (a9 q)
 yS:∀k∈fL.map (·.1),∃s∈j3,k=.str s
variable{S:List (List aF)}
theorem zC{es:b7}(nd:(es.map (·.1)).Nodup)(h:∀k∈es.map (·.1),∃s∈j3,k=.str s):es.length≤4:=by
 have:=fO nd (l₂:=j3.map SV.str) λk hk=>by refine aj (h k hk) λx hx e=>?_;exact bB.mpr (aU x hx e.symm)
 rwa [aI] at this
theorem kL.bu(a:kL R S L ft fL):ft.length≤4:=zC a.nd λk hk=>by
 cases e:ft.lookup k with
 |none=>exact bc hk (lU.mp e)
 |some v=>refine bG (a.key k v e) λs h1 h2 _=>?_;exact(aU s h1 h2)
theorem kL.put{q:aF}(a:kL R S L ft fL)(hs:s∈j3)(hv:L=[(0,1)]∨En R S L s v)(hq:cX R q):kL R S L (bh ft (.str s) v) (bh fL (.str s) (a9 q)):=by
 refine⟨oN a.nd,oN a.yv,λk w e=>?_,λk w e=>?_,λk hk=>?_⟩
 ·rw[fy] at e
  split at e
  ·next z=>obtain rfl:=aY e;exact(cK s hs z hv)
  ·exact a.key k w e
 ·rw[fy] at e
  split at e
  ·next z=>obtain rfl:=aY e;exact .inr (aU q hq (by rw[fy _,aP z]))
  ·next z=>exact(a.pk k w e).imp id λ⟨q,hq,z'⟩=>⟨q,hq,by rw[fy _,aK z];exact z'⟩
 ·rcases(uQ k).mp hk with rfl|hk
  ·exact(aU s hs rfl)
  ·exact a.yS k hk
theorem kL.nil:kL R S L [] []:=⟨.nil,.nil,λ_ _ e=>(by(first|exact a7 e|obtain rfl:=aY e)),λ_ _ e=>(by(first|exact a7 e|obtain rfl:=aY e)),λ_ e=>(cT e)⟩
variable{q:aF}
noncomputable def Pm:List Str:=["self","Productions","Precedence","goto","action","actionp","C","st","I","st_action","st_actionp","st_goto","p","laheads","a","r","sprec","slevel","rprec","rlevel","oldp","pp","chosenp","rejectp","i","g","j","nkeys","ii","s","n"]
theorem LD:cr (bC 424) Pm=ab:=by kernel_rfl
theorem w_pt:cY (bC 424) ["_place"]=ab:=by kernel_rfl
noncomputable def mA(i:FI)(b:Nat):FI:=i.fn (b+3) 424 Pm ["_place"] LD w_pt
noncomputable def wG:List bx:=ew (stN (ba 424) 8)
noncomputable def PJ:bx:=stN (ew (stN wG 3)) 0
noncomputable def YD:List bx:=xc (stN (ew PJ) 0)
noncomputable def JU:List bx:=ew (stN YD 1)
noncomputable def Z1:List bx:=xc PJ
noncomputable def ff(st:Nat):Nm:=.mk 61 [st]
noncomputable def fA(st:Nat):Nm:=.mk 62 [st]
noncomputable def ja(st:Nat):Nm:=.mk 63 [st]
noncomputable def uV(st k:Nat):SF:=[("self",.ref dp),("Productions",.ref (.mk 35 [])),("Precedence",.ref (.mk 49 [])),("goto",.ref (.mk 52 [])),("action",.ref (.mk 51 [])),("actionp",.ref (.mk 65 [])),("C",.ref gR),("st",.int st),("I",.ref (gN k)),("st_action",.ref (ff st)),("st_actionp",.ref (fA st)),("st_goto",.ref (ja st))]
noncomputable def uf(st k:Nat)(q:aF):SF:=(uV st k).put "p" (a9 q)
theorem az{k k':Nat}{l l':List Nat}(h:autoParam ((k==k')=an) dH):Nm.mk k l≠Nm.mk k' l':=λe=>k9.mp h (Nm.mk.inj e).1
theorem CJ{j:Nat}(hj:j<R.length):((bo R.length).map bA)[j]? =aa (bA j):=by rw[dv,w9 hj];rfl
theorem ac9(g:GR R)(p:ck R U P aN aA st m c N h)(a:kL R (P.map (·.2)) L ft fL)(h1:h (ff st)=aa (.dict ft))(h2:h (fA st)=aa (.dict fL))(hq:cX R q)(hn:0<q.1)(hs:s∈j3){v0:SV}
  (fin:∀rF qX h' fr,ck R U P aN aA st (m+1) c N h'→kL R (P.map (·.2)) L rF qX→h' (ff st)=aa (.dict rF)→h' (fA st)=aa (.dict qX)→Kq [10,54,55,61,62] N h h'→(uf st k q).sub fr→Q .next fr h'):
  SS (mA i b) (((uf st k q).put "a" (.str s)).put "r" v0) h [xc (stN JU 1),[]] Q:=by
 refine ef (v:=.int (-(q.1:Int))) (n:=ff st) (Ao (a_ (n:=bj q) n_ ((p.it.w.tb.it q hq).1))) n_ n_ h1 (by have:=a.bu;refine(?_:_≤2^24);exact ah ‹_› aJ) ?_;refine ef (v:=a9 q) (n:=fA st) (es:=fL) n_ n_ n_ h2 (by have:=zC a.yv a.yS;refine(?_:_≤2^24);exact ah ‹_› aJ) ?_;have p2:ck R U P aN aA st m c N ((h.set (ff st) (.dict (bh ft (.str s) (.int (-(q.1:Int)))))).set (fA st) (.dict (bh fL (.str s) (a9 q)))):=ck.iQ (k:=62) (ck.iQ (k:=61) p);refine aj (p2.it.w.tb.pr q.1 hq.1) λx hx Ah=>?_;refine xE (JP (i:=mA i b) hx (Ah.red.imp (λe=>e) (λ⟨k,e⟩=>⟨k,e⟩))) λkr hr=>?_;refine Fi (n:=bf q.1) (mJ (j:=q.1) n_ (a_ (n:=bj q) n_ (p2.it.w.tb.it q hq).1) (.own p2.gr.fg) (by have:=g.len;have:=hq.1;exact i4 (bI ‹_› ‹_›) bg) (CJ hq.1)) hx hr bD wA hx Ah.le ?_;exact aH (aH (bK (fin _ _ _ _ ((p2.tA (Ah.tA _)).up (bR _)) (a.put hs (.inr (.inl (cK q.1 hn hq.1 rfl))) hq) ((aq az).trans ((aq az).trans aS)) ((aq az).trans aS) (((Kq.set (k:=61)).trans (Kq.set (k:=62)) (ar _)).trans (Kq.set (k:=10)) (ar _)) ((SF.sub.rfl.b9).b9))))
theorem kY{j:Nat}{e:Expr}{pos:Pos}{k:Expr}{h1:SH}(a:EV i fr h e (.ref (.mk 35 [])) h1)(w:EV i fr h1 k (.int j) h1)(pr:h1 (.mk 35 [])=aa (.list ((bo R.length).map bA)))(hR:R.length≤5)(hj:j<R.length)(ok:autoParam (qa k) jg):EV i fr h (.Subscript e k pos) (bA j) h1:=
 mJ (j:=j) a w (.own pr) (i4 (bI ‹_› ‹_›) bg) (CJ hj) ok
theorem Tn(g:GR R)(p:ck R U P aN aA st m c N h)(hm:m≤10000000)(a:kL R (P.map (·.2)) L ft fL)(h1:h (ff st)=aa (.dict ft))(h2:h (fA st)=aa (.dict fL))(hq:cX R q)(hn:0<q.1)(hL:L≠[(0,1)])(hs:s∈j3)
  (fin:∀rF qX h' fr,ck R U P aN aA st (m+1) c N h'→kL R (P.map (·.2)) L rF qX→h' (ff st)=aa (.dict rF)→h' (fA st)=aa (.dict qX)→Kq [10,54,55,61,62] N h h'→(uf st k q).sub fr→Q .next fr h'):
  SS (mA i b) ((uf st k q).put "a" (.str s)) h [JU] Q:=by
 have it:=(p.it.w.tb.it q hq).1
 cases e:ft.lookup (.str s) with
 |none=>
  refine bM (gU n_ (jo h1) rfl (aB n_ aL) (uT h1 e)) ?_;exact cf (bt (u:=.none) n_ kK vT) (ac9 g p a h1 h2 hq hn hs fin)
 |some v=>
  refine bG (a.key _ _ e) λs' g6 z av=>?_;obtain rfl:=Mine.Internal.SV.str.inj z;have av:=av.resolve_left hL;refine bM (gU n_ (jo h1) rfl (aB n_ aL) (vJ h1 e)) ?_;refine aj (p.it.w.tb.pr q.1 hq.1) λxq t_ BN=>?_;rcases av with⟨n,n0,nR,rfl⟩|⟨j,L',j0,rfl,res,hj⟩
  ·refine aj (p.it.w.tb.pr n nR) λxn hxn aj4=>?_
   refine cS (bt (u:=.int (-(n:Int))) n_ kK vT) ?_;refine cf (bt n_ bD (yr Nj)) (cS (bt n_ bD (Ks (Lj n0))) ?_);refine bM (v:=bA n) (kY n_ (η n_ (Int.neg_neg _).symm) p.gr.fg g.len nR) ?_;refine bM (v:=bA q.1) (kY n_ (a_ (n:=bj q) n_ it) p.gr.fg g.len hq.1) ?_;refine cf (bt (a_ (n:=bf n) n_ hxn) (a_ (n:=bf q.1) n_ t_) (yr aW)) ?_;refine Vz (u:=bA n) (w:=bA q.1) (eY (aB n_ (aB n_ aL))) ?_ ?_ ?_
   ·obtain⟨vs,hv,hl⟩:=p.rr
    refine aH (fG (di (u:=.ref (.mk 55 [])) (a_ n_ p.it.w.tb.tb) (fS hv) iB (aB (eY (aB n_ (aB n_ (aB n_ aL)))) aL) (fX hv (by refine(?_:_≤2^24);exact ah (ah ‹_› ‹_›) aJ))) ?_)
    repeat refine aH ?_
    refine(bK (fin _ _ _ _ (p.Θ hv) a ((aq az).trans h1) ((aq az).trans h2) .set ?_));exact(((((SF.sub.rfl.b9).b9).b9).b9).b9).b9
   ·exact λae he=>rfl
   ·intro ae he;cases ae;subst he;kernel_rfl
  ·refine cS (bt (u:=.int j) n_ kK vT) (cS (bt n_ bD (CH (ib.mpr j0))) ?_)
   refine Ca (u:=.str "right") (w:=.int 0) (gU n_ (jo p.gr.prec) rfl (aB n_ (aB (eY (aB cx (aB bD aL))) aL)) (y6 p.gr.prec)) ?_;refine Ca (u:=.str "right") (w:=.int 0) (a_ (n:=bf q.1) (kY n_ (a_ (n:=bj q) n_ it) p.gr.fg g.len hq.1) t_) ?_;refine cf (pN (bt n_ n_ (T5 aW)) (pN (lY (bt n_ n_ (nu rfl)) (oJ (bt n_ cx (lX aW)))) Bm)) ?_;refine cf (lY (bt n_ n_ (nu rfl)) (oJ (bt n_ cx (lX aW)))) ?_;refine cS (fw (t:=an) (p_ n_ NE)) ?_;obtain⟨vs,hv,hl⟩:=p.sr;refine fG (di (u:=.ref (.mk 54 [])) (a_ n_ p.it.w.tb.tb) (fS hv) iB (aB (eY (aB n_ (aB n_ (aB cx aL)))) aL) (fX hv (by refine(?_:_≤2^24);exact ah (ah ‹_› ‹_›) aJ))) ?_
   repeat refine aH ?_
   refine(bK (fin _ _ _ _ (p.Lr hv) a ((aq az).trans h1) ((aq az).trans h2) .set ?_));exact(((((SF.sub.rfl.b9).b9).b9).b9).b9).b9
theorem EY(hx:(aG R q.1)[q.2]? =aa x):((iK R q).map SV.str)[q.2+1]? =aa (.str x):=by
 have e:((aG R q.1).take q.2).length=q.2:=jH.trans (sA (cj ((cV.mp hx).1)));unfold iK;rw[dv,QU (ah (bF e) (bR _)),e,(show q.2.succ-q.2=1 from Df q.2 1),ai1,PN,Nat.add_zero _,hx];rfl
noncomputable def Oi:List Nat:=[10,30,31,32,54,61,62]
theorem abz(g:GR R)(p:ck R U P aN aA st m c N h)(hm:m≤10000000)(a:kL R (P.map (·.2)) L ft fL)(h1:h (ff st)=aa (.dict ft))(h2:h (fA st)=aa (.dict fL))(hP:(k,L)∈P)(oB:q∈L)(hx:(aG R q.1)[q.2]? =aa x)
  (fin:∀rF qX c' N' h' fr,ck R U P aN aA st (m+1) c' N' h'→kL R (P.map (·.2)) L rF qX→h' (ff st)=aa (.dict rF)→h' (fA st)=aa (.dict qX)→Kq Oi N h h'→N≤N'→(uV st k).sub fr→Q .next fr h'):
  SS (mA i b) (uf st k q) h [Z1] Q:=by
 refine jz (p.it.each _ hP) λkN hk S=>?_;have hq:=S.ok g q oB;have it:=(p.it.w.tb.it q hq).1;have hL:L≠[(0,1)]:=λe=>by
  rw[e] at oB;rw[bS.mp oB] at hx;rw[show aG R (0,1).1=aG R 0 from rfl,g.qe] at hx
  (first|exact a7 hx|obtain rfl:=aY hx)
 refine bM (a_ (n:=bj q) n_ it) ?_;refine bM (v:=.str x) (mI (j:=q.2+1) (a_ (n:=bj q) n_ it) (fK n_ bD nZ) (pC (bI ((cV.mp hx).1) (ah (g.bu q.1) aJ))) (EY hx)) ?_;obtain⟨IZ,ht,lO⟩:=p.gr.term
 cases jd:dV.contains x with
 |false=>
  refine cf (bt n_ (a_ (n:=aX) (a_ n_ p.it.w.tb.tb) p.gr.gr) ((lO x).trans jd▸pZ ht)) (aH (aH (bK (fin ft fL c N h _ (p.up (bR _)) a h1 h2 .same (ar _) (((SF.sub.rfl.b9).b9).b9)))))
 |true=>
  refine cS (bt n_ (a_ (n:=aX) (a_ n_ p.it.w.tb.tb) p.gr.gr) ((lO x).trans jd▸pZ ht)) ?_;have PA:x∈dV:=e9.mp jd;have JD:x∈j3:=(aW:∀x∈dV,x∈j3) x PA;have V0:x∈Sy:=(aW:∀x∈dV,x∈Sy) x PA;refine kH (di n_ (iX p.it.w.tb.tb rfl) (i.K.keep rfl) (aB n_ (aB n_ aL)) (xG (b:=b+1) rfl (S.go g p.it.hU V0) p.it.w kN hk).cp) ?_;rintro v gG ⟨L',c',M,G⟩;have dg:cF R L x≠[]:=λe=>by
   have:(q.1,q.2+1)∈cF R L x:=gQ.mpr (aU q oB (aP hx));rw[e] at this;exact cT this
  have CQ:L'≠[]:=λe=>dg (G.res.nil.mp e);have S':=S.next g G.res CQ;have ND:=S'.len g;have nb:=G.told.nb;have j_:Kq [10,30,31,32] N h gG:=G.kp.q;have p2:=p.move G.w j_ G.le;have p3:ck R U P aN aA st m c' (M+1) (gG.bV M (eP M L' gG)):=p2.move (B:=[]) G.w.bV (.bV (ar _)) (bR _);have g8:Kq [10,30,31,32] N h (gG.bV M (eP M L' gG)):=j_.trans (.bV (ar _)) G.le;have pl:FP ((mA i b).dn (b+3)) gG (.glob 318) [v] (is (dm L') (gG.bV M (eP M L' gG))):=t6 (b:=b+2) rfl G.told.told (S'.ok g) G.w.tb.it G.w.tb.free (ah ‹_› aJ);generalize gG.bV M (eP M L' gG)=my at p3 g8 pl;have rB:my (ff st)=aa (.dict ft):=(g8.1 _ _ rfl).trans h1;have vH:my (fA st)=aa (.dict fL):=(g8.1 _ _ rfl).trans h2;refine bM (v:=((fN 0 (P.map (·.2))).lookup (dm L')).getD (.int (-1))) (gU (a_ n_ p2.it.w.tb.tb) (jo p2.it.jV) rfl (aB (b8 (i.K.ref rfl) (i.K.keep rfl) (aB n_ aL) pl.cp) (aB (Ao bD) aL)) (y6 p3.it.jV rp)) ?_
  cases hj:(fN 0 (P.map (·.2))).lookup (dm L') with
  |none=>
   refine cf (bt (u:=.int (-1)) n_ bD (Lu aW)) ?_
   repeat refine aH ?_
   refine bK (fin ft fL c' (M+1) my _ (p3.up (bR _)) a rB vH (g8.mono) (c8 G.le) ?_);exact(((((SF.sub.rfl.b9).b9).b9).b9).b9)
  |some w=>
   refine aj (CI hj) λj EL ax=>?_;subst ax;rw[mZ] at hj ⊢;have j0:0<j:=oh λz=>by
    obtain⟨k0,L0,r,e,afn⟩:=p.first;subst z;rw[e] at EL;exact S.first g G.res CQ afn (aY EL).symm
   have AV:En R (P.map (·.2)) L x (.int j):=.inr ⟨j,L',j0,rfl,G.res,hj⟩;refine cS (bt (u:=.int j) n_ bD (Oj (jq _))) ?_
   cases e:ft.lookup (.str x) with
   |none=>
    refine bM (gU n_ (jo rB) rfl (aB n_ aL) (uT rB e)) (cf (bt (u:=.none) n_ kK vT) ?_);refine ef (v:=.int j) (n:=ff st) n_ n_ n_ rB (by have:=a.bu;refine(?_:_≤2^24);exact ah ‹_› aJ) ?_;refine ef (v:=a9 q) (n:=fA st) (es:=fL) n_ n_ n_ ((aq az).trans vH) (by have:=zC a.yv a.yS;refine(?_:_≤2^24);exact ah ‹_› aJ) ?_;have p4:=ck.iQ (k:=62) (o:=.dict (bh fL (.str x) (a9 q))) (ck.iQ (k:=61) (o:=.dict (bh ft (.str x) (.int j))) p3)
    repeat refine aH ?_
    refine bK (fin _ _ c' (M+1) _ _ (p4.up (bR _)) (a.put JD (.inr AV) hq) ((aq az).trans aS) aS ((g8.mono.trans (M:=M+1) (.set (k:=61)) (c8 G.le)).trans (M:=M+1) (.set (k:=62)) (c8 G.le)) (c8 G.le) ((((((SF.sub.rfl.b9).b9).b9).b9).b9).b9))
   |some w=>
    refine bG (a.key _ _ e) λs' g6 z av=>?_;obtain rfl:=Mine.Internal.SV.str.inj z;have av:=av.resolve_left hL;refine bM (gU n_ (jo rB) rfl (aB n_ aL) (vJ rB e)) ?_;rcases av with⟨n,n0,nR,rfl⟩|⟨j',L2,Zd,rfl,aa3,rv⟩
    ·refine cS (bt (u:=.int (-(n:Int))) n_ kK vT) (cf (bt n_ bD (yr Nj)) (cS (bt n_ bD (Ks (Lj n0))) ?_))
     refine aj ((a.pk _ _ e).resolve_left hL) λq' ga bX=>?_;refine aj (p3.it.w.tb.pr q'.1 ga.1) λxq t_ BN=>?_;have yP:=(p3.it.w.tb.it q' ga).1;refine Ca (u:=.str "right") (w:=.int 0) (gU n_ (jo p3.gr.prec) rfl (aB n_ (aB (eY (aB cx (aB bD aL))) aL)) (y6 p3.gr.prec)) ?_;refine Ca (u:=.str "right") (w:=.int 0) (a_ (n:=bf q'.1) (kY n_ (a_ (n:=bj q') (gV n_ n_ vH bX) yP) p3.gr.fg g.len ga.1) t_) ?_;refine cS (pN (bt n_ n_ (yr aW)) (xx (lY (bt n_ n_ (nu rfl)) (lY (bt n_ cx (nu rfl)) Au)))) ?_;refine xE (JP (i:=mA i b) t_ (BN.red.imp (λe=>e) (λ⟨k,e⟩=>⟨k,e⟩))) λkr hr=>?_;refine Fi (n:=bf q'.1) (kY n_ (a_ (n:=bj q') (gV n_ n_ vH bX) yP) p3.gr.fg g.len ga.1) t_ hr bD K3 t_ BN.le ?_;have p4:ck R U P aN aA st m c' (M+1) (my.set (bf q'.1) (.inst 100 ((gd R q'.1++xq).put "reduced" (.int (kr-1))))):=p3.tA (BN.tA _);have MT:Kq Oi N h (my.set (bf q'.1) (.inst 100 ((gd R q'.1++xq).put "reduced" (.int (kr-1))))):=g8.mono.trans (M:=M+1) .set (c8 G.le);have K5:(my.set (bf q'.1) (.inst 100 ((gd R q'.1++xq).put "reduced" (.int (kr-1))))) (ff st)=aa (.dict ft):=rB;have Ou:(my.set (bf q'.1) (.inst 100 ((gd R q'.1++xq).put "reduced" (.int (kr-1))))) (fA st)=aa (.dict fL):=vH;generalize my.set (bf q'.1) (.inst 100 ((gd R q'.1++xq).put "reduced" (.int (kr-1))))=h4 at p4 MT K5 Ou ⊢;refine ef (v:=.int j) (n:=ff st) n_ n_ n_ K5 (by have:=a.bu;refine(?_:_≤2^24);exact ah ‹_› aJ) ?_;refine ef (v:=a9 q) (n:=fA st) (es:=fL) n_ n_ n_ ((aq az).trans Ou) (by have:=zC a.yv a.yS;refine(?_:_≤2^24);exact ah ‹_› aJ) ?_;have p5:=ck.iQ (k:=62) (o:=.dict (bh fL (.str x) (a9 q))) (ck.iQ (k:=61) (o:=.dict (bh ft (.str x) (.int j))) p4);refine cS (fw (t:=an) (p_ n_ NE)) ?_;obtain⟨vs,hv,hl⟩:=p5.sr;refine fG (di (u:=.ref (.mk 54 [])) (a_ n_ p5.it.w.tb.tb) (fS hv) iB (aB (eY (aB n_ (aB n_ (aB cx aL)))) aL) (fX hv (by refine(?_:_≤2^24);exact ah (ah ‹_› ‹_›) aJ))) ?_
     repeat refine aH ?_
     refine bK (fin _ _ c' (M+1) _ _ (p5.Lr hv) (a.put JD (.inr AV) hq) ((aq az).trans ((aq az).trans aS)) ((aq az).trans aS) (((MT.trans (M:=M+1) (.set (k:=61)) (c8 G.le)).trans (M:=M+1) (.set (k:=62)) (c8 G.le)).trans (M:=M+1) (.set (k:=54)) (c8 G.le)) (c8 G.le) ?_);exact(((((((((SF.sub.rfl.b9).b9).b9).b9).b9).b9).b9).b9).b9).b9
    ·obtain rfl:=aa3.det G.res
     rw[hj] at rv
     cases rv
     refine cS (bt (u:=.int j) n_ kK vT) (cS (bt n_ bD (CH (ib.mpr Zd))) (cf (bt n_ n_ (DY rfl)) ?_))
     repeat refine aH ?_
     refine bK (fin ft fL c' (M+1) my _ (p3.up (bR _)) a rB vH (g8.mono) (c8 G.le) ?_);exact(((((SF.sub.rfl.b9).b9).b9).b9).b9).b9
structure TS where
 ea:b7
 ep:b7
 c:Int
 N:Nat
 h:SH
noncomputable def Sh:List Nat:=[10,30,31,32,54,55,61,62]
structure TJ(R:bn)(U:List (List aF))(P:List (Nat×List aF))(L:List aF)(aN:Nat)(aA:SH)(vj:Nat)(ag:SH)(st m:Nat)(s:TS):Prop where
 p:ck R U P aN aA st m s.c s.N s.h
 a:kL R (P.map (·.2)) L s.ea s.ep
 ta:s.h (ff st)=aa (.dict s.ea)
 tp:s.h (fA st)=aa (.dict s.ep)
 kq:Kq Sh vj ag s.h
 le:vj≤s.N
variable{vj:Nat}
theorem Od{a c:cw}:((h.set (ff st) a).set (fA st) c) (ff st)=aa a:=(aq az).trans aS
theorem Wl{t:TS}(g:GR R)(J:TJ R U P L aN aA vj ag st m t)(hm:m≤9999990)(hP:(k,L)∈P)(oB:q∈L)
  (fin:∀ea ep c N h fr,TJ R U P L aN aA vj ag st (m+4) ⟨ea,ep,c,N,h⟩→(uV st k).sub fr→Q .next fr h):
  SS (mA i b) (uf st k q) t.h [ew (stN wG 3)] Q:=by
 refine jz (J.p.it.each _ hP) λkN hk S=>?_;have hq:=S.ok g q oB;have it:=(J.p.it.w.tb.it q hq).1;have h3:=g.bu q.1
 by_cases hc:q.2=(aG R q.1).length
 ·refine cS (bt (a_ (n:=bj q) n_ it) (fK (a_ (n:=bj q) n_ it) bD nZ) (nu (by rw[hc];rfl))) ?_
  rcases sJ q.1 with z|hn
  ·have hL:L=[(0,1)]:=by
    rw[z,g.qe] at hc;obtain⟨u,w⟩:=q;subst z;subst hc;exact S.one g oB
   refine cS (bt (a_ (n:=bj q) n_ it) cx (nu (by rw[z,g.yd]))) ?_;refine ef (v:=.int 0) (n:=ff st) bD n_ cx J.ta (by have:=J.a.bu;refine(?_:_≤2^24);exact ah ‹_› aJ) ?_;refine ef (v:=a9 q) (n:=fA st) (es:=t.ep) n_ n_ cx ((aq az).trans J.tp) (by have:=zC J.a.yv J.a.yS;refine(?_:_≤2^24);exact ah ‹_› aJ) ?_
   repeat refine aH ?_
   exact bK (fin (bh t.ea (.str "$end") (.int 0)) (bh t.ep (.str "$end") (a9 q)) t.c t.N _ _ ⟨(ck.iQ (k:=62) (o:=.dict (bh t.ep (.str "$end") (a9 q))) (ck.iQ (k:=61) (o:=.dict (bh t.ea (.str "$end") (.int 0))) J.p)).up (b6 _ _),J.a.put aW (.inl hL) hq,Od (c:=.dict (bh t.ep (.str "$end") (a9 q))),aS,(J.kq.trans (M:=t.N) (.set (k:=61)) J.le).trans (M:=t.N) (.set (k:=62)) J.le,J.le⟩ (SF.sub.rfl.b9))
  ·have xu:qj (bE R q.1)=ab:=by rcases g.nm q.1 hn hq.1 with e|e|e<;>rw[e]<;>rfl
   have lG:bE R q.1≠"S'":=λe=>by rw[e] at xu;revert xu;exact aW
   have hL:L≠[(0,1)]:=λe=>by
    rw[e] at oB;rw[bS.mp oB] at hn;exact bc hn (fo _)
   refine cf (bt (a_ (n:=bj q) n_ it) cx (lX λe=>lG (by injection e))) ?_;refine cf (bt (a_ n_ J.p.it.w.tb.tb) cx (lX aW)) ?_;obtain⟨D5,hf,FZ⟩:=J.p.gr.nE;refine yb (FZ _ xu) λe1 fs e2 nd iu=>?_;have l4:fs.length≤4:=fO nd (l₂:=j3) iu;refine bM (gV (a_ (n:=aX) (a_ n_ J.p.it.w.tb.tb) J.p.gr.gr) (a_ (n:=bj q) n_ it) hf e1) ?_;refine aH ?_;refine et (σ:=TS) (λ_=>uf st k q) TS.h (λt' j=>TJ R U P L aN aA vj ag st (m+j) t'∧t'.h (.mk 48 [sym (bE R q.1)])=aa (.list (fs.map .str))) t (fs.map .str) (d7 n_ e2) ⟨J,e2⟩ (SF.sub.rfl.b9) (λt' j Z=>d8 Z.2) (λt' j v Z e=>?_) λt' Z=>?_
   ·refine aj (dJ e) λs hs ax=>?_;subst ax
    refine dX (Tn g Z.1.p (ah (fp hm (cj (bI ((cV.mp hs).1) l4))) aJ) Z.1.a Z.1.ta Z.1.tp hq hn hL (iu s (bN hs)) λea ep h' fr p' a' ha hp kq sb=>LQ.next ⟨ea,ep,t'.c,t'.N,h'⟩ ⟨⟨p',a',ha,hp,Z.1.kq.trans (M:=t'.N) kq.mono Z.1.le,Z.1.le⟩,(kq.1 _ _ rfl).trans Z.2⟩ sb)
   ·repeat refine aH ?_
    rw[aI] at Z;exact bK (fin t'.ea t'.ep t'.c t'.N t'.h _ ⟨Z.1.p.up (e6 l4 _),Z.1.a,Z.1.ta,Z.1.tp,Z.1.kq,Z.1.le⟩ (SF.sub.rfl.b9))
 ·have hlt:q.2< (aG R q.1).length:=wO hq.2 hc
  refine cf (bt (a_ (n:=bj q) n_ it) (fK (a_ (n:=bj q) n_ it) bD nZ) (lX λe=>by injection e with e;exact dG (pC hlt) (w7 e))) ?_;have:=abz (i:=i) (b:=b) (Q:=Q) g J.p (ah ‹_› aJ) J.a J.ta J.tp hP oB (fb hlt) λea ep c' N' h' fr p' a' ha hp kq le sb=>fin ea ep c' N' h' fr ⟨p'.up (e6 aJ _),a',ha,hp,J.kq.trans (M:=t.N) kq.mono J.le,ah J.le le⟩ sb;exact⟨λfr' s=>iY.imp (this.run fr' s) (λf fr h q=>by
   cases f with
   |next=>exact vU q
   |_=>exact q) λ_ _ _ q=>q⟩
noncomputable def ij(st:Nat):Nm:=.mk 64 [st]
noncomputable def rk(st k:Nat):SF:=(uV st k).put "nkeys" (.ref (ij st))
theorem Xz(g:GR R)(p:ck R U P aN aA st m c N h)(ok:∀q∈L,cX R q)(hL:h (gN k)=aa (.list (L.map a9)))
  (fin:∀es,iA es→SS (mA i b) (rk st k) (h.set (ij st) (.dict es)) (wG.drop 6::kk) Q):
  SS (mA i b) (rk st k) (h.set (ij st) (.dict [])) (wG.drop 5::kk) Q:=by
 have it:=p.it.w.tb.it;have zE:∀(es:b7) q,cX R q→(h.set (ij st) (.dict es)) (bj q)=aa (.inst 135 (dY R q))∧(h.set (ij st) (.dict es)) (.mk 42 [q.1])=aa (.list ((qc R q.1).map .str)):=λes q hq=>⟨(it q hq).1,(it q hq).2.2⟩;refine et (σ:=b7) (λ_=>rk st k) (λes=>h.set (ij st) (.dict es)) (λes _=>iA es) [] (L.map a9) (d7 (n:=gN k) n_ hL) ⟨.nil,λ_ h=>by exact cT h⟩ .rfl (λes j _=>d8 (n:=gN k) hL) (λes j v A e=>?_) λes A=>aH (fin es A);refine aj (dJ e) λq hq ax=>?_;subst ax;have Q1:=zE es q (ok q (bN hq));refine dX (et (σ:=b7) (λ_=>rk st k) (λes=>h.set (ij st) (.dict es)) (λes _=>iA es) es ((qc R q.1).map .str) (d7 (a_ (n:=bj q) n_ Q1.1) Q1.2) A (SF.sub.rfl.b9) (λes' j _=>d8 (zE es' q (ok q (bN hq))).2) (λes' j' v' A' e'=>?_) λes' A'=>aH (aH (bK (LQ.next es' A' .rfl))));refine aj (dJ e') λs hs ax=>?_;subst ax;obtain⟨jX,hn,vD⟩:=p.gr.iC
 cases jd:qj s with
 |false=>
  exact dX (cf (bt n_ (a_ (n:=aX) (a_ (n:=dp) n_ p.it.w.tb.tb) p.gr.gr) ((vD s).trans jd▸pZ (h:=h.set (ij st) (.dict es')) (n:=.mk 39 []) hn)) (aH (aH (bK (LQ.next es' A' (SF.sub.rfl.b9))))))
 |true=>
  refine dX (cS (bt n_ (a_ (n:=aX) (a_ (n:=dp) n_ p.it.w.tb.tb) p.gr.gr) ((vD s).trans jd▸pZ (h:=h.set (ij st) (.dict es')) (n:=.mk 39 []) hn)) ?_);refine ef (n:=ij st) kK n_ n_ aS (by have:=A'.len;refine(?_:_≤2^24);exact ah ‹_› aJ) ?_;exact aH (aH (bK (LQ.next (bh es' (.str s) .none) (A'.put (g.qc (bN hs))) (SF.sub.rfl.b9) (iF.symm))))
theorem iA.aaw{es:b7}(a:iA es)(hs:s∈Sy):iA (bh es (.str s) v):=⟨oN a.1,λk hk=>by
 rcases(uQ k).mp hk with rfl|hk
 ·exact(aU s hs rfl)
 ·exact a.2 k hk⟩
theorem X7{eg:b7}(g:GR R)(p:ck R U P aN aA st m c N h)(hP:(k,L)∈P)(hx:x∈Sy)(hg:h (ja st)=aa (.dict eg))(A:iA eg)
  (fin:∀N7 c' N' h' fr,ck R U P aN aA st m c' N' h'→h' (ja st)=aa (.dict N7)→iA N7→Kq [10,30,31,32,63] N h h'→N≤N'→(rk st k).sub fr→Q .next fr h'):
  SS (mA i b) ((rk st k).put "n" (.str x)) h [ew (stN wG 6)] Q:=by
 refine jz (p.it.each _ hP) λkN hk S=>?_;refine kH (di n_ (iX p.it.w.tb.tb rfl) (i.K.keep rfl) (aB n_ (aB n_ aL)) (xG (b:=b+1) rfl (S.go g p.it.hU hx) p.it.w kN hk).cp) ?_;rintro v gG ⟨L',c',M,G⟩;have ND:L'.length≤50:=G.res.len (ah ww (ah (S.len g) aJ)) p.it.w.tb.hR;have nb:=G.told.nb;have j_:Kq [10,30,31,32] N h gG:=G.kp.q;have p2:=p.move G.w j_ G.le;have p3:ck R U P aN aA st m c' (M+1) (gG.bV M (eP M L' gG)):=p2.move (B:=[]) G.w.bV (.bV (ar _)) (bR _);have g8:Kq [10,30,31,32] N h (gG.bV M (eP M L' gG)):=j_.trans (.bV (ar _)) G.le;have pl:FP ((mA i b).dn (b+3)) gG (.glob 318) [v] (is (dm L') (gG.bV M (eP M L' gG))):=t6 (b:=b+2) rfl G.told.told (G.res.ok (Cg (S.ok g))) G.w.tb.it G.w.tb.free (ah ‹_› aJ);generalize gG.bV M (eP M L' gG)=my at p3 g8 pl;have Lg:my (ja st)=aa (.dict eg):=(g8.1 _ _ rfl).trans hg;refine bM (v:=((fN 0 (P.map (·.2))).lookup (dm L')).getD (.int (-1))) (gU (a_ n_ p2.it.w.tb.tb) (jo p2.it.jV) rfl (aB (b8 (i.K.ref rfl) (i.K.keep rfl) (aB n_ aL) pl.cp) (aB (Ao bD) aL)) (y6 p3.it.jV rp)) ?_
 cases hj:(fN 0 (P.map (·.2))).lookup (dm L') with
 |none=>
  refine cf (bt (u:=.int (-1)) n_ bD (Lu aW)) ?_
  repeat refine aH ?_
  exact bK (fin eg c' (M+1) my _ p3 Lg A g8.mono (c8 G.le) (((SF.sub.rfl.b9).b9).b9))
 |some w=>
  refine aj (CI hj) λj EL ax=>?_;subst ax;refine cS (bt (u:=.int (0+j:Nat)) n_ bD (Oj (jq _))) ?_;refine ef (v:=.int (0+j:Nat)) (n:=ja st) n_ n_ n_ Lg (by have:=A.len;refine(?_:_≤2^24);exact ah ‹_› aJ) ?_
  repeat refine aH ?_
  exact bK (fin (bh eg (.str x) (.int (0+j:Nat))) c' (M+1) _ _ (ck.iQ (k:=63) (o:=.dict (bh eg (.str x) (.int (0+j:Nat)))) p3) aS (A.aaw hx) (g8.mono.trans (M:=M+1) (.set (k:=63)) (c8 G.le)) (c8 G.le) (((SF.sub.rfl.b9).b9).b9))
structure OS where
 st:Nat
 c:Int
 N:Nat
 h:SH
def Fo(h:SH)(st:Nat):Prop:=∀k∈([61,62,63,64]:List Nat),∀j,st≤j→h (.mk k [j])=af
structure OJ(R:bn)(U:List (List aF))(P:List (Nat×List aF))(aN:Nat)(aA:SH)(s:OS)(j:Nat):Prop where
 st:s.st=j
 p:ck R U P aN aA j (56*j) s.c s.N s.h
 fr:Fo s.h j
noncomputable def G7(s:OS):SF:=[("self",.ref dp),("Productions",.ref (.mk 35 [])),("Precedence",.ref (.mk 49 [])),("goto",.ref (.mk 52 [])),("action",.ref (.mk 51 [])),("actionp",.ref (.mk 65 [])),("C",.ref gR),("st",.int s.st)]
theorem ajk{v1 v2 v3:SV}{e1 e2 e3:b7}(p:ck R U P aN aA st m c N h)(h1:h (.mk 51 [])=aa (.dict e1))(h2:h (.mk 65 [])=aa (.dict e2))(h3:h (.mk 52 [])=aa (.dict e3)):
  ck R U P aN aA (st+1) m c N (((h.set (.mk 51 []) (.dict (bh e1 (.int st) v1))).set (.mk 65 []) (.dict (bh e2 (.int st) v2))).set (.mk 52 []) (.dict (bh e3 (.int st) v3))):=by
 obtain⟨a1,b1,c1⟩:=p.ac;obtain⟨a2,b2,c2⟩:=p.ap;obtain⟨a3,b3,c3⟩:=p.go;rw[h1] at b1;cases b1;rw[h2] at b2;cases b2;rw[h3] at b3;cases b3;have w1:cZ R U c N (h.set (.mk 51 []) (.dict (bh e1 (.int st) v1))):=p.it.w.set;have w2:cZ R U c N ((h.set (.mk 51 []) (.dict (bh e1 (.int st) v1))).set (.mk 65 []) (.dict (bh e2 (.int st) v2))):=w1.set;exact⟨⟨(w2.set:cZ R U c N (((h.set (.mk 51 []) (.dict (bh e1 (.int st) v1))).set (.mk 65 []) (.dict (bh e2 (.int st) v2))).set (.mk 52 []) (.dict (bh e3 (.int st) v3)))),p.it.jV,p.it.nd,p.it.each,p.it.hU⟩,p.C,p.gr.same λk l hk=>(aq λe=>by injection e with e;subst e;exact cJ hk).trans ((aq λe=>by injection e with e;subst e;exact cJ hk).trans (aq λe=>by injection e with e;subst e;exact cJ hk)),((p.kq.trans (M:=N) (.set (k:=51)) p.le).trans (M:=N) (.set (k:=65)) p.le).trans (M:=N) (.set (k:=52)) p.le,p.le,
  (aU _ ((aq az).trans aS) (ah tD (eG c2))),(aU _ ((aq az).trans ((aq az).trans aS)) (ah tD (eG c1))),(aU _ aS (ah tD (eG c3))),p.sr,p.rr,p.first,λk hk j hj=>(aq (kC hk)).trans ((aq (kC hk)).trans ((aq (kC hk)).trans (p.fresh k hk j (oy hj))))⟩
theorem aan{s:OS}{j:Nat}(g:GR R)(J:OJ R U P aN aA s j)(hj:j<109603)(hP:(k,L)∈P)
  (fin:∀c' N' h' fr,OJ R U P aN aA ⟨j+1,c',N',h'⟩ (j+1)→(G7 ⟨j+1,c',N',h'⟩).sub fr→Q .next fr h'):
  SS (mA i b) ((G7 s).put "I" (.ref (gN k))) s.h [wG] Q:=by
 obtain⟨rfl,p,p7⟩:=J;refine jz (p.it.each _ hP) λkN hk S=>?_;have Oy:L.length≤14:=S.len g;refine bM (g7 (n:=ff s.st) (p7 61 bQ _ (ar _))) ?_;refine bM (g7 (n:=fA s.st) ((aq az).trans (p7 62 bQ _ (ar _)))) ?_;refine bM (g7 (n:=ja s.st) ((aq az).trans ((aq az).trans (p7 63 bQ _ (ar _))))) ?_;have p1:ck R U P aN aA s.st (56*s.st) s.c s.N (((s.h.set (ff s.st) (.dict [])).set (fA s.st) (.dict [])).set (ja s.st) (.dict [])):=ck.iQ (k:=63) (o:=.dict []) (ck.iQ (k:=62) (o:=.dict []) (ck.iQ (k:=61) (o:=.dict []) p));have j_:Kq [61,62,63] s.N s.h (((s.h.set (ff s.st) (.dict [])).set (fA s.st) (.dict [])).set (ja s.st) (.dict [])):=((Kq.set (k:=61)).trans (Kq.set (k:=62)) (ar _)).trans (Kq.set (k:=63)) (ar _);have O8:(((s.h.set (ff s.st) (.dict [])).set (fA s.st) (.dict [])).set (ja s.st) (.dict [])) (ff s.st)=aa (.dict []):=(aq az).trans Od;have Mj:(((s.h.set (ff s.st) (.dict [])).set (fA s.st) (.dict [])).set (ja s.st) (.dict [])) (fA s.st)=aa (.dict []):=(aq az).trans aS;have Lc:(((s.h.set (ff s.st) (.dict [])).set (fA s.st) (.dict [])).set (ja s.st) (.dict [])) (ja s.st)=aa (.dict []):=aS;generalize ((s.h.set (ff s.st) (.dict [])).set (fA s.st) (.dict [])).set (ja s.st) (.dict [])=h1 at p1 j_ O8 Mj Lc ⊢;refine SS.sub (ej:=uV s.st k) ?_ (ai (ai (ai (ai (ai (ai (ai (ai (ai (ai (ai (ai bq))))))))))));have r9:h1 (gN k)=aa (.list (L.map a9)):=(j_.2 k [] kN).trans hk;refine et (σ:=TS) (λ_=>uV s.st k) TS.h (λt j=>TJ R U P L aN aA s.N h1 s.st (56*s.st+4*j) t) ⟨[],[],s.c,s.N,h1⟩ (L.map a9) (d7 n_ r9) ⟨p1,.nil,O8,Mj,.same,ar _⟩ .rfl (λt j J=>d8 ((J.kq.2 k [] kN).trans r9)) (λt j v J e=>?_) λt J=>?_
 ·refine aj (dJ e) λq hq ax=>?_;subst ax
  exact dX (Wl g J (ah (fp (pB 56 (eS hj)) (pB 4 (ah (cj ((cV.mp hq).1)) Oy))) aJ) hP (bN hq) λea ep c N h fr J' sb=>LQ.next ⟨ea,ep,c,N,h⟩ ⟨J'.p.up (ar _),J'.a,J'.ta,J'.tp,J'.kq,J'.le⟩ sb)
 ·rw[aI] at J
  refine aH ?_;refine bM (g7 (n:=ij s.st) ((J.kq.1 _ _ rfl).trans ((j_.1 _ _ rfl).trans (p7 64 bQ _ (ar _))):t.h (ij s.st)=af)) ?_;refine SS.sub (ej:=rk s.st k) (Xz g J.p (S.ok g) ((J.kq.2 k [] kN).trans r9:t.h (gN k)=aa (.list (L.map a9))) λes A=>?_) .rfl;have k7:=A.str;have p2:ck R U P aN aA s.st (56*s.st+4*L.length) t.c t.N (t.h.set (ij s.st) (.dict es)):=ck.iQ (k:=64) (o:=.dict es) J.p;have g8:Kq [10,30,31,32,54,55,61,62,63,64] s.N s.h (t.h.set (ij s.st) (.dict es)):=(j_.mono.trans J.kq.mono (ar _)).trans (M:=t.N) (.set (k:=64)) J.le;have Le:(t.h.set (ij s.st) (.dict es)) (ja s.st)=aa (.dict []):=(aq az).trans ((J.kq.1 _ _ rfl).trans Lc:t.h (ja s.st)=aa (.dict []));have EN:(t.h.set (ij s.st) (.dict es)) (ij s.st)=aa (.dict es):=aS;generalize t.h.set (ij s.st) (.dict es)=h2 at p2 g8 Le EN ⊢;refine et (σ:=TS) (λ_=>rk s.st k) TS.h (λu j=>ck R U P aN aA s.st (56*s.st+4*L.length) u.c u.N u.h∧u.h (ja s.st)=aa (.dict u.ea)∧iA u.ea∧u.h (ij s.st)=aa (.dict es)∧Kq [10,30,31,32,54,55,61,62,63,64] s.N s.h u.h∧s.N≤u.N) ⟨[],[],t.c,t.N,h2⟩ (es.map (·.1)) (wd n_ EN k7) ⟨p2,Le,⟨.nil,λ_ h=>by exact cT h⟩,EN,g8,J.le⟩ .rfl (λu j J=>wf J.2.2.2.1 k7) (λu j v Z e=>?_) λu Z=>?_
  ·refine aj (A.2 v (bN e)) λx hx ax=>?_;subst ax
   refine FO Z λz1 z2 z3 z4 z5 z6=>?_;clear Z;exact dX (X7 g z1 hP hx z2 z3 λeg c N h fr p' hg A' kq le sb=>LQ.next ⟨eg,[],c,N,h⟩ ⟨p',hg,A',(kq.1 _ _ rfl).trans z4,(z5.trans (M:=u.N) kq.mono z6),ah z6 le⟩ sb)
  ·refine FO Z λz1 z2 z3 z4 z5 z6=>?_;clear Z
   refine aH ?_;obtain⟨e1,q1,l1⟩:=z1.ac;obtain⟨e2,q2,l2⟩:=z1.ap;obtain⟨e3,q3,l3⟩:=z1.go;refine ef (n:=.mk 51 []) n_ n_ n_ q1 (by refine(?_:_≤2^24);exact cj (bd l1 (bI hj aJ))) ?_;refine ef (n:=.mk 65 []) n_ n_ n_ ((aq az).trans q2) (by refine(?_:_≤2^24);exact cj (bd l2 (bI hj aJ))) ?_;refine ef (n:=.mk 52 []) n_ n_ n_ ((aq az).trans ((aq az).trans q3)) (by refine(?_:_≤2^24);exact cj (bd l3 (bI hj aJ))) ?_;refine y0 rfl bD wA (aH (bK (fin u.c u.N _ _ ⟨rfl,((ajk (v1:=.ref (ff s.st)) (v2:=.ref (fA s.st)) (v3:=.ref (ja s.st)) z1 q1 q2 q3).up (m':=56*(s.st+1)) (e6 (ah (pB _ Oy) aJ) _)),λk hk j hj=>(aq (kC hk)).trans ((aq (kC hk)).trans ((aq (kC hk)).trans (z1.fresh k hk j hj)))⟩ ?_)));exact ai (ai (ai (ai (ai (ai (ai (ai bq)))))))
structure OT(R:bn)(h:SH):Prop where
 gr:iZ R h
 jV:h iP=aa (.dict [])
 cl:h gR=af
 as:∀j,h (ii j)=af
 ac:h (.mk 51 [])=aa (.dict [])
 go:h (.mk 52 [])=aa (.dict [])
 sr:h (.mk 54 [])=aa (.list [])
 rr:h (.mk 55 [])=aa (.list [])
 ap:h (.mk 65 [])=af
 fresh:Fo h 0
theorem aap(hb:i.b=b+4)(g:GR R)(CM:gM R ⊆ U)(W:cZ R U c N h)(eO:OT R h):FP i h (.glob 424) [.ref dp] (λv h'=>v=.none∧∃c' N',cZ R U c' N' h'∧iZ R h'∧Kq uX N h h'∧N≤N'):=by
 refine enter i.K.ptable LD w_pt hb rfl ?_;refine bM (a_ (n:=aX) (a_ n_ W.tb.tb) eO.gr.gr) ?_;refine bM (a_ (n:=aX) (a_ n_ W.tb.tb) eO.gr.gr) ?_;refine bM (a_ n_ W.tb.tb) ?_;refine bM (a_ n_ W.tb.tb) ?_;refine bM (g7 (n:=.mk 65 []) eO.ap) ?_;have W1:cZ R U c N (h.set (.mk 65 []) (.dict [])):=W.set;have j_:Kq uX N h (h.set (.mk 65 []) (.dict [])):=.set;have Vt:(h.set (.mk 65 []) (.dict [])) (.mk 65 [])=aa (.dict []):=aS;have F4:iZ R (h.set (.mk 65 []) (.dict [])):=eO.gr.set;refine kH (di n_ (iX W1.tb.tb rfl) (i.K.keep rfl) aL (RZ (b:=b) rfl g CM W1 ((aq az).trans eO.jV) F4.gr rfl F4.fg ((aq az).trans eO.cl) (λj=>(aq az).trans (eO.as j))).cp) ?_;rintro v h2 ⟨rfl,P,n,c2,N2,J⟩;have g8:Kq uX N h h2:=j_.trans (M:=N) J.kq.mono (ar _);have e2:∀{k l},(99::rX).contains k=an→(65==k)=an→h2 (.mk k l)=h (.mk k l):=λ{k l} h1 h2=>(J.kq.1 k l h1).trans (aq λe=>bc (Nm.mk.inj e).1.symm (k9.mp h2));refine cf (bt (a_ n_ J.it.w.tb.tb) cx (lX aW)) (aH (bM bD ?_));have Ju:Fo h2 0:=λk hk j hj=>by
  exact(e2 ((aW:∀k∈([61,62,63,64]:List Nat),(99::rX).contains k=an) k hk) ((aW:∀k∈([61,62,63,64]:List Nat),(65==k)=an) k hk)).trans (eO.fresh k hk j hj)
 have bu:P.length≤109603:=by
  have:=fO J.it.nd (l₂:=gM R) λL hL=>by refine aj (bB.mp hL) λp hp ax=>?_;subst ax;exact(J.it.each p hp).2.2.mem
  rw[aI] at this;exact ah this (G8 g)
 refine et (σ:=OS) G7 OS.h (OJ R U P N h) ⟨0,c2,N2,h2⟩ (P.map o0) (d7 n_ J.C) ⟨rfl,(⟨J.it,J.C,F4.kq J.kq,g8,J.le,(aU ([]) ((J.kq.1 65 [] rfl).trans Vt) (b_ _)),(aU ([]) ((e2 rfl rfl).trans eO.ac) (b_ _)),(aU ([]) ((e2 rfl rfl).trans eO.go) (b_ _)),(aU ([]) ((e2 rfl rfl).trans eO.sr) (b_ _)),(aU ([]) ((e2 rfl rfl).trans eO.rr) (b_ _)),J.first,λk hk j hj=>Ju k hk j (b_ _)⟩:ck R U P N h 0 0 c2 N2 h2),Ju⟩ (ai (ai (ai (ai (ai (ai (ai (ai bq)))))))) (λs j Z=>d8 Z.p.C) (λs j v Z e=>?_) λs Z=>?_
 ·refine aj (dJ e) λp hp ax=>?_;subst ax
  have ig:=(cV.mp hp).1;exact dX (aan (k:=p.1) (L:=p.2) g Z (ah ‹_› ‹_›) (bN hp) λc' N' h' fr J' sb=>LQ.next ⟨j+1,c',N',h'⟩ J' sb)
 ·exact aH (aH (bK ⟨rfl,s.c,s.N,Z.p.it.w,Z.p.gr,Z.p.kq,Z.p.le⟩))
section
open Builtin Builtin.Str
theorem NC{e:Expr}{pos:Pos}{Q:QV}{X:QX}(w:WE G F b fr h e (λv ag=>∃y:Str,y.length≤1000∧(v=.str y∨∃ys:List Str,de G ag v (ys.map .str)∧y=(IB (ys.map .str)).shown)∧Q (.str y) ag) X):WE G F b fr h (.FormattedValue e 115 af pos) Q X:=by
 refine .mk ?_;intro own ae A P m s Q' E' R c d;show aw (aR G.prog G.w) A (do let v ←d9 e ae;kh pos;formatted pos (←ju [v] (converted 115 v)) af) Q' E' s;refine wb (w.run own ae A P m s _ _ R (λv ag v' aZ bW bU hq hP hm hv a6=>?_) d);refine bG hq λy hy hu hQ=>?_;clear hq;have hsz:1000≤cR:=aJ;refine wb (jJ ?_);have fin:∀(bz:ak) (t:Tok),(∀a o,aZ.heap.get? a=aa o→bz.heap.get? a=aa o)→bz.gens=aZ.gens→bz.os=aZ.os→aw (aR G.prog G.w) A (QW (.str y t) z9) Q' E' bz:=λbz t hk hg ho=>
  formatField_str (λt' tk=>c _ _ _ _ _ _ hQ hP hm ⟨_,rfl⟩ ((a6.grow hk hg ho).tok tk)) (ah ‹_› aJ)
 rcases hu with rfl|⟨ys,hl,rfl⟩
 ·refine xE hv λt2 br=>?_;clear hv;subst br
  show aw _ _ (do let v' ←ju [.str y t2] (habitSame "fstring-hands-on-the-str" (.str y t2));QW v' z9) Q' E' aZ;exact wb (dM (habitSame_str (λt' tk=>fin {aZ with toks:=tk} t' (λ_ _ e=>e) rfl rfl) (ah ‹_› aJ)))
 ·obtain⟨a2,zs,rfl,⟨o2,rM,rH,n2,xK⟩,hZ⟩:=a6.jp hl hv
  show aw _ _ (do let v' ←ju [.ref a2] (pyStrObj (.ref a2));QW v' z9) Q' E' aZ;refine wb (dM (pyStrObj_of_reads (d:=.list (ys.map .str)) (Reads.list rM rH xK (hZ.reads aZ.heap)) (by simp only[PyData.showable];exact PyData.showableAll_strs ys)
   (λe=>by simp only[aio] at e;rw[noDict] at e;exact cJ e) a6.guards (by rw[show(IB (ys.map .str)).depth=1 by simp only[aip];rw[Je]];exact bd (fp (b6 _ _) (lu _ _)) a6.units) (λ_ _ e=>e) (λh' u tk dW=>fin {aZ with heap:=h',toks:=tk} u dW rfl rfl) (ah ‹_› aJ)))
def WJ(G:Gl)(F:FD)(b:Nat)(fr:SF):List Expr→Str→SH→QV→QX→Prop
 |[],acc,h,Q,_=>Q (.str acc) h
 |e::r,acc,h,Q,X=>WE G F b fr h e (λv ag=>∃y,v=.str y∧(acc++y).length≤cR∧WJ G F b fr r (acc++y) ag Q X) X
theorem Mk{own:List au}{ae:Env}{A:dZ}{Q:QV}{X:QX}{Q':Value→ak→Prop}{E':Value→ak→Prop}:∀{es:List Expr} {acc:Str} {h:SH} {P:aV} {m:Mu} {s:ak},acc.length≤cR→WJ G F b fr es acc h Q X→Rel G F b own ae A P m fr h s→
  (∀v h' v' s' P' m',Q v h'→P.le P'→m.le m'→VR P' m' v v'→Rel G F b own ae A P' m' fr h' s'→Q' v' s')→gT G F b own ae A P m fr X E'→
  aw (aR G.prog G.w) A (joinParts acc (evalEach es ae)) Q' E' s
 |[],acc,h,P,m,s,ha,w,R,c,d=>joinParts_nil (c _ _ _ _ _ _ w .rfl .rfl ⟨_,rfl⟩ (R.tok _)) ha
 |e::r,acc,h,P,m,s,ha,w,R,c,d=>by
  show aw _ _ (joinParts acc (d9 e ae::evalEach r ae)) _ _ _;refine joinParts_cons (w.run own ae A P m s _ _ R (λv ag v' aZ bW bU hq hP hm hv a6=>?_) d);refine bG hq λy br hz w'=>?_;clear hq;subst br;refine xE hv λt br=>?_;clear hv;subst br;exact⟨hz,Mk hz w' a6 (λv h' v' s' P' m' q a b=>c v h' v' s' P' m' q (hP.trans a) (hm.trans b)) (d.mono hP hm)⟩
theorem RX{e e':Expr}{es:List Expr}{pos:Pos}{Q:QV}{X:QX}(w:WJ G F b fr (e::e'::es) z9 h Q X):WE G F b fr h (.JoinedStr (e::e'::es) pos) Q X:=by
 refine .mk ?_;intro own ae A P m s Q' E' R c d;exact JoinedStr_many (Mk aJ w R c d)
end
variable{k:List (List bx)}
theorem aE{k k':Nat}{l l':List Nat}{o:cw}{x:Option cw}(e:h (.mk k' l')=x)(hk:autoParam ((k'==k)=an) dH):(h.set (.mk k l) o) (.mk k' l')=x:=(aq (az hk)).trans e
theorem td{k k':Nat}{l l':List Nat}{o:cw}(hk:autoParam ((k'==k)=an) dH):(h.set (.mk k l) o) (.mk k' l')=h (.mk k' l'):=aq (az hk)
theorem tR{k k' M8:Nat}{l l' l₂:List Nat}{o ae4:cw}(hk:autoParam ((k'==k)=an) dH)(C3:autoParam ((k'==M8)=an) dH):((h.set (.mk k l) o).set (.mk M8 l₂) ae4) (.mk k' l')=h (.mk k' l'):=(aq (az C3)).trans (aq (az hk))
theorem Ab{n m:Nm}{a c:cw}(e:n≠m):(h.set n a).set m c=(h.set m c).set n a:=funext λx=>by
 unfold SH.set
 by_cases h1:x=m
 ·rw[aP h1,aK (by rw[h1];exact e.symm),aP h1]
 ·rw[aK h1]
  by_cases h2:x=n
  ·rw[aP h2,aP h2]
  ·rw[aK h2,aK h2,aK h1]
theorem Ra{n m:Nm}{a a' c:cw}(e:n≠m):((h.set m a).set n c).set m a'=(h.set m a').set n c:=by rw[Ab e,iF]
theorem Gc{vs:List SV}{k:Nat}(hk:vs.length=k)(hz:vs.length<2^62):CP i h (.bi "len") [.tup vs] (is (.int k) h):=hk▸AN hz
theorem KE{vs:List SV}{k:Nat}(hl:de i.G h u vs)(hk:vs.length=k)(hz:vs.length<2^62):CP i h (.bi "len") [u] (is (.int k) h):=hk▸oI hl hz
variable{n:Nm}{vs:List SV}
theorem CW(hn:h n=aa (.dict es))(hl:es.lookup u=af)(ok:autoParam (SV.key 6 u=ab) bl):OV i h [u,.ref n] (bv (c5 .In)) (.bool an) h:=by have:=pZ (i:=i) hn ok;rwa [hl] at this
theorem Mm(hn:h n=aa (.dict es))(hl:es.lookup u=aa v)(ok:autoParam (SV.key 6 u=ab) bl):OV i h [u,.ref n] (bv (c5 .In)) (.bool ab) h:=by have:=pZ (i:=i) hn ok;rwa [hl] at this
theorem ON(hn:h n=aa (.dict es))(hl:es.lookup u=af)(ok:autoParam (SV.key 6 u=ab) bl):OV i h [u,.ref n] (bv (c5 .NotIn)) (.bool ab) h:=by have:=Ol (i:=i) hn ok;rwa [hl] at this
theorem Ft(hn:h n=aa (.dict es))(hl:es.lookup u=aa v)(ok:autoParam (SV.key 6 u=ab) bl):OV i h [u,.ref n] (bv (c5 .NotIn)) (.bool an) h:=by have:=Ol (i:=i) hn ok;rwa [hl] at this
theorem XY(hl:de i.G h w vs)(hm:u∉vs)(hd:eK 6 vs=ab)(ok:autoParam (SV.data 6 u=ab) bl):OV i h [u,w] (bv (c5 .In)) (.bool an) h:=by have:=Gu (i:=i) hl hd ok;rwa [i0 hm] at this
theorem yT(hl:de i.G h w vs)(hm:u∉vs)(hd:eK 6 vs=ab)(ok:autoParam (SV.data 6 u=ab) bl):OV i h [u,w] (bv (c5 .NotIn)) (.bool ab) h:=by have:=A5 (i:=i) hl hd ok;rwa [i0 hm] at this
theorem vA(hl:de i.G h w vs)(hm:u∈vs)(hd:eK 6 vs=ab)(ok:autoParam (SV.data 6 u=ab) bl):OV i h [u,w] (bv (c5 .NotIn)) (.bool an) h:=by have:=A5 (i:=i) hl hd ok;rwa [eQ hm] at this
theorem fJ{n:Nm}{C:au}{fs iW:SF}{a:Str}{q pos:Pos}(x:EV i fr (h.set n (.inst C fs)) e v (h.set n (.inst C fs)))(y:EV i fr (h.set n (.inst C fs)) o (.ref n) (h.set n (.inst C fs)))(b:SS i fr (h.set n (.inst C iW)) (rest::k) Q)
  (hp:autoParam (fs.put a v=iW) dH) (hz:autoParam (wL fs.length 100=ab) bl) (ok:autoParam ((pL C a && iq e)=ab) bl):SS i fr (h.set n (.inst C fs)) ((.Assign [.Attribute o a q] e pos::rest)::k) Q:=by
 refine jA x y aS (ah (jG hz) aJ) ?_ ok;rw[iF,hp];exact b
theorem j9{n m:Nm}{C:au}{fs iW:SF}{a:Str}{q pos:Pos}{ob:cw}(x:EV i fr (h.set n (.inst C fs)) e v ((h.set n (.inst C fs)).set m ob))(nm:n≠m)(y:EV i fr ((h.set m ob).set n (.inst C fs)) o (.ref n) ((h.set m ob).set n (.inst C fs)))(b:SS i fr ((h.set m ob).set n (.inst C iW)) (rest::k) Q)
  (hp:autoParam (fs.put a v=iW) dH) (hz:autoParam (wL fs.length 100=ab) bl) (ok:autoParam ((pL C a && iq e)=ab) bl):SS i fr (h.set n (.inst C fs)) ((.Assign [.Attribute o a q] e pos::rest)::k) Q:=by
 rw[Ab nm] at x;refine jA x y aS (ah (jG hz) aJ) ?_ ok;rw[iF,hp];exact b
noncomputable def yO(nm:Str)(aT:List Str):Str:=if aT=[] then nm++d5 " -> <empty>" else nm++d5 " -> "++z8 (d5 " ") aT
noncomputable def iS(nm:Str)(aT:List Str)(j:Nat)(li:Nm)(nx:SV):SF:=[("name",.str nm),("prod",.tup (aT.map .str)),("number",.int j),("func",.none),("callable",.none),("file",.str ""),("line",.int 0),("prec",wz),("len",.int aT.length),("usyms",.ref (.mk 42 [j])),("lr_items",.ref li),("lr_next",nx),("str",.str (yO nm aT))]
noncomputable def gX(u:List Str)(l:List Str):List Str:=l.foldl (λu s=>if s∈u then u else u++[s]) u
noncomputable def Nb:List Str:=["self","number","name","prod","precedence","func","file","line","s"]
theorem Gy:cr (bC 62) Nb=ab:=by kernel_rfl
theorem w_pi:cY (bC 62) ["tuple","len"]=ab:=by kernel_rfl
noncomputable def Eo(i:FI)(b:Nat):FI:=i.fn b 62 Nb ["tuple","len"] Gy w_pi
theorem mR:∀{l:List Str},eK 6 (l.map .str)=ab
 |[]=>rfl
 |_::r=>mR (l:=r)
theorem jT{l:List Str}{s:Str}:(SV.str s∈l.map SV.str)↔s∈l:=⟨λh=>by refine aj (bB.mp h) λx hx e=>?_;injection e with e;exact e▸hx,λh=>bB.mpr (aU s h rfl)⟩
theorem TQ{x:Str}:MV i h (.str x) "join" (.bi "str.join"):=⟨λfr'=>YH PySem.F.slot_str_join PySem.F.type_str_join⟩
theorem acx{x:Str}{ys:List Str}(qz:(ys.map (·.length)).sum+ys.length*x.length≤16777216):CP i h (.bi "str.join") [.str x,.tup (ys.map .str)] (is (.str (z8 x ys)) h):=⟨λfr' Q' X hq=>abv qz (hq _ _ ⟨rfl,rfl⟩)⟩
theorem JA{ea eb:Expr}{x m y z:Str}{k:Nat}{p1 p2 p3 pos:Pos}(a:EV i fr h ea (.str x) ag)(c:EV i fr ag eb u aC)(hu:u=.str y∨∃ys:List Str,de i.G aC u (ys.map .str)∧y=(IB (ys.map .str)).shown)(hx:x.length≤1000)(hm:m.length≤1000)(hy:y.length≤1000)(he:x++m++y=z):
  EV i fr h (.JoinedStr [.FormattedValue ea 115 af p1,.Constant (.str m) k p2,.FormattedValue eb 115 af p3] pos) (.str z) aC:=by
 have e0:∀t:Str,z9++t=t:=λt=>by rw[Str.empty_append _]
 have l2:(x++m).length≤cR:=by rw[QY _ _];refine(?_:_≤2^24);exact ah (fp ‹_› ‹_›) aJ
 have l3:(x++m++y).length≤cR:=by rw[QY _ _,QY _ _];refine(?_:_≤2^24);exact ah (fp (fp hx hm) hy) aJ
 refine⟨λfr' s Q X hq=>RX (NC (a.run fr' s _ _ ⟨x,hx,.inl rfl,x,rfl,by rw[e0 _];refine(?_:_≤2^24);exact ah ‹_› aJ,I8 (cK m rfl (by rw[e0 _];exact l2) (NC (c.run fr' s _ _ ⟨y,hy,hu,y,rfl,by rw[e0 _];exact l3,?_⟩)))⟩))⟩;show Q (.str (z9++x++m++y)) aC;rw[e0 _,he];exact hq
theorem Rc{x:Str}(hx:x.length≤1000):OV i h [.str (d5 "%s -> <empty>"),.str x] (bv (m7 .Mod)) (.str (x++d5 " -> <empty>")) h:=⟨λfr' Q X hq=>Xd hx hq⟩
theorem YM{nm:Str}{aT:List Str}(h:aT=[]):yO nm aT=nm++d5 " -> <empty>":=aP h
theorem YY{nm:Str}{aT:List Str}(h:aT≠[]):yO nm aT=nm++d5 " -> "++z8 (d5 " ") aT:=aK h
noncomputable def lK:List Str:=["a","A","b","B","error","S"]
noncomputable def gn:List (List Str):=[]::(lK.map ([·])++lK.flatMap λx=>lK.map λy=>[x,y])
noncomputable def u7:List Str:=["S'","S","A","B"]
theorem afd{aT:List Str}(hl:aT.length≤2)(hs:∀s∈aT,s∈lK):aT∈gn:=by
 cases aT with
 |nil=>exact dA
 |cons x r=>cases r with
  |nil=>exact eT _ (i7 _ (bB.mpr (aU x (hs x dA) rfl)))
  |cons y r=>cases r with
   |nil=>exact eT _ (kj _ (sK.mpr (aU x (hs x dA) (bB.mpr (aU y (hs y (eT _ dA)) rfl)))))
   |cons z r=>exact bc (H9 (H9 hl)) (agw _)
noncomputable def u5(aT:List Str):Bool:=decide ((z8 (d5 " ") aT).length≤1000) && decide ((aT.map (·.length)).sum+aT.length*(d5 " ").length≤16777216) && decide (aT.length≤2) && aT.all λs=>decide (s∈lK)
theorem zD:gn.all u5=ab:=by decide +kernel
theorem aey:u7.all (λs=>decide (s.length≤1000))=ab:=by decide +kernel
theorem abj{j:Nat}{nm:Str}{aT:List Str}{fs:SF}(hl:fr.lookup ("self":Str)=aa (.ref (bf j)))(FZ:fs=(iS nm aT j (.mk 66 [j]) .none).take 10)(hn:nm∈u7)(hs:aT∈gn)(ud:h (.mk 66 [j])=af)
  (bb:SS (Eo i b) fr ((h.set (.mk 66 [j]) (.list [])).set (bf j) (.inst 100 (iS nm aT j (.mk 66 [j]) .none))) [[]] Q):
  SS (Eo i b) fr (h.set (bf j) (.inst 100 fs)) [(ba 62).drop 11] Q:=by
 subst FZ;have hj:=dc.mp zD _ hs;simp only[u5,bO,h_] at hj;obtain⟨⟨⟨Y6,rv⟩,hj3⟩,_⟩:=hj;have hn:=dc.mp aey _ hn;rw[h_] at hn;refine j9 (m:=.mk 66 [j]) (eD aL ((aq az).trans ud)) az (n_ hl) ?_;refine fJ kK (n_ hl) ?_;have H:=aS (h:=h.set (.mk 66 [j]) (.list [])) (n:=bf j) (o:=.inst 100 ((iS nm aT j (.mk 66 [j]) .none).take 12))
 by_cases vd:aT=[]
 ·refine cf (p_ (a_ (n:=bf j) (n_ hl) H) (by rw[vd];exact CG bg)) ?_
  exact fJ (v:=.str (yO nm aT)) (fK cx (a_ (n:=bf j) (n_ hl) H) (YM vd▸Rc ‹_›)) (n_ hl) (aH bb)
 ·refine cS (p_ (a_ (n:=bf j) (n_ hl) H) ((by cases aT with|nil=>exact bc rfl vd|cons _ _=>rfl:(!(aT.map SV.str).isEmpty)=ab)▸CG (by rw[aI _];exact bd ‹_› bg))) ?_
  exact fJ (v:=.str (yO nm aT)) (JA (a_ (n:=bf j) (n_ hl) H) (gU cx TQ rfl (aB (a_ (n:=bf j) (n_ hl) H) aL) (acx rv)) (.inl rfl) ‹_› (by decide +kernel) Y6 (YY vd).symm) (n_ hl) (aH bb)
variable{j:Nat}{nm:Str}{aT:List Str}{l:Nm}
noncomputable def tI(h:SH)(nm:Str)(aT:List Str)(j:Nat):SH:=((h.set (.mk 42 [j]) (.list ((gX [] aT).map .str))).set (.mk 66 [j]) (.list [])).set (bf j) (.inst 100 (iS nm aT j (.mk 66 [j]) .none))
noncomputable def X3(j:Nat)(nm:Str)(l:Nm):SF:=[("self",.ref (bf j)),("number",.int j),("name",.str nm),("prod",.ref l),("precedence",wz),("func",.none),("file",.str ""),("line",.int 0)]
theorem aeh{u l:List Str}{s:Str}:gX u (l++[s])=if s∈gX u l then gX u l else gX u l++[s]:=by unfold gX;rw[ai2];rfl
theorem MH(hn:nm∈u7)(hs:aT∈gn)(hl:h l=aa (.list (aT.map .str)))(hp:h (bf j)=af)(rS:h (.mk 42 [j])=af)(ud:h (.mk 66 [j])=af):
  SS (Eo i b) (X3 j nm l) (h.set (bf j) (.inst 100 [])) [ba 62] (λf _ h'=>f.val=.none∧h'=tI h nm aT j):=by
 have lp:l≠bf j:=λe=>by rw[e,hp] at hl;exact a7 hl
 have l42:l≠.mk 42 [j]:=λe=>by rw[e,rS] at hl;exact a7 hl
 have hj:=dc.mp zD _ hs;simp only[u5,bO,h_] at hj;have hz:=hj.1.2;have zl:(aT.map SV.str).length≤2:=by rw[aI _];exact hz
 refine fJ n_ n_ ?_;refine fJ (v:=.tup (aT.map .str)) (b8 (i.K.ty rfl) rfl (aB n_ aL) (AI (.own ((aq lp).trans hl)) (by refine(?_:_≤2^24);exact ah ‹_› aJ))) n_ ?_;refine fJ n_ n_ ?_;refine fJ n_ n_ ?_;refine fJ kK n_ ?_;refine fJ n_ n_ ?_;refine fJ n_ n_ ?_;refine fJ n_ n_ ?_;refine fJ (v:=.int aT.length) (b8 (i.K.bi rfl) rfl (aB (a_ (n:=bf j) n_ aS) aL) (Gc (aI _) (bd ‹_› bg))) n_ ?_;refine j9 (m:=.mk 42 [j]) (eD aL ((aq az).trans rS)) az n_ ?_;have I:∀u:List Str,((h.set (.mk 42 [j]) (.list (u.map .str))).set (bf j) (.inst 100 ((iS nm aT j (.mk 66 [j]) .none).take 10))) (bf j)=aa (.inst 100 ((iS nm aT j (.mk 66 [j]) .none).take 10)):=λ_=>aS;have I2:∀u:List Str,((h.set (.mk 42 [j]) (.list (u.map .str))).set (bf j) (.inst 100 ((iS nm aT j (.mk 66 [j]) .none).take 10))) (.mk 42 [j])=aa (.list (u.map .str)):=λ_=>(aq az).trans aS;refine et (σ:=List Str) (λ_=>[("self",.ref (bf j))]) (λu=>(h.set (.mk 42 [j]) (.list (u.map .str))).set (bf j) (.inst 100 ((iS nm aT j (.mk 66 [j]) .none).take 10))) (λu t=>u=gX [] (aT.take t)∧u.length≤t) [] (aT.map .str) (Lh (a_ (n:=bf j) n_ aS)) ⟨rfl,ar _⟩ (ai bq) (λ_ _ _=>rfl) (λu t v U e=>?_) (λu U=>?_)
 ·refine aj (dJ e) λs g6 ax=>?_;subst ax
  refine xA U λcP hu=>?_;clear U;subst cP;have tl:=(cV.mp g6).1;have st:gX [] (aT.take (t+1))=if s∈gX [] (aT.take t) then gX [] (aT.take t) else gX [] (aT.take t)++[s]:=by
   rw[jN,g6];exact aeh
  refine dX ?_
  by_cases hm:s∈gX [] (aT.take t)
  ·refine cf (bt n_ (a_ (n:=bf j) n_ (I _)) (vA (.own (I2 _)) (jT.mpr hm) mR)) (aH (aH (bK (LQ.next (gX [] (aT.take t)) ⟨by rw[st,aP hm],by exact ah ‹_› (b6 _ _)⟩ (ai bq)))))
  ·refine cS (bt n_ (a_ (n:=bf j) n_ (I _)) (yT (.own (I2 _)) (λz=>hm (jT.mp z)) mR)) ?_
   refine fG (di (a_ (n:=bf j) n_ (I _)) (fS (I2 _)) iB (aB n_ aL) (fX (I2 _) (by rw[aI _];refine(?_:_≤2^24);exact cj (bd hu (bI tl (ah hz aJ)))))) ?_;refine aH (aH (bK (LQ.next (gX [] (aT.take t)++[s]) ⟨by rw[st,aK hm],by rw[cU];exact eG hu⟩ (ai bq) ?_)));rw[Ra az,dN];rfl
 ·rw[aI,zW] at U
  refine xA U λcP _=>?_;clear U;subst cP;refine aH (abj (fr:=[("self",.ref (bf j))]) rfl rfl hn hs ((aq az).trans ud) (aH (bK ⟨rfl,rfl⟩)))
theorem Y0{n:Nm}{z:SV}{Q:QV}{X:QX}(hn:h n=aa (.dict []))(hq:Q z h):WC G F b fr h (.bi "dict.get") [.ref n,.none,z] Q X:=by
 first|refine jO ?_|refine jP ?_
 intro own ae A P m s Q' E' a5 R hv c d;refine ID hv λu kv zv zA jh Ti=>?_;refine pH zA R hn λad xs D=>?_;obtain rfl:=jh;have h3:=D.o;have hx:xs=#[]:=Ix.mp D.ent;subst hx;refine i5 Ic (⟨_,h3,rfl⟩:s.TypeIs (.ref ad.1) "dict") Qn ?_ (ag3 _ _ _);show aw _ _ (sG ad.1 .none >>=_) _ _ s;have hr:A.units+1+7<ez:=R.room;unfold sG;refine wb ?_
 try with_reducible refine dM ?_
 refine wb (pyHash_laid .none .none _ s _ rfl .none (by show A.units+1+WData.none.depth<ez;exact bd (b6 _ _) hr) λtk=>wb ?_);unfold dictFind
 try with_reducible refine dM ?_
 refine wb (H_ (s:={s with toks:=tk}) h3 rfl ?_);refine aD (aD ?_);show aw _ _ (Ia ad.1 .none >>=_) _ _ _;exact wb (Ib D.sys (aD (aU zv rfl (c.here hq Ti (R.tok tk)))))
variable{e':Expr}
theorem Uy{pos:Pos}(a:EV i fr h e u ag)(t:TV i ag u ab)(c:EV i fr ag e' v aC):EV i fr h (.BoolOp .And [e,e'] pos) v aC:=
 ⟨λfr' s Q X hq=>aau (a.run fr' s _ _ (t.run fr' _ _ (by rw[aP rfl];exact Lq (c.run fr' s _ _ hq))))⟩
noncomputable def Vr:Str:="abcdefghijklmnopqrstuvwxyzABCDEFGHIJKLMNOPQRSTUVWXYZ0123456789_-"
noncomputable def rV(s:Str):List SV:=s.cps.toList.map λc=>.str ⟨#[c]⟩
noncomputable def Jv(s:Str):Bool:=s.cps.all (· <128) && (s.cps.toList.all λc=>AD ⟨#[c]⟩ Vr) && decide (0<s.length) && decide (s.length≤1000) && decide (s.cps.toList.length≤1000)
theorem Sx:lK.all Jv=ab:=by decide +kernel
noncomputable def oT(h:SH)(N:Nat)(s:Str):SH:=h.set (gN N) (.list ((rV s).map λ_=>.bool ab))
theorem MC:cr (bC 39) ["s"]=ab:=by kernel_rfl
theorem w_id:cY (bC 39) ["len","all"]=ab:=by kernel_rfl
noncomputable def Oh(i:FI)(b:Nat):FI:=i.fn b 39 ["s"] ["len","all"] MC w_id
theorem JR{s:Str}(hb:i.b=b+1)(hs:s∈lK)(B:bp h N):FP i h (.glob 39) [.str s] (is (.bool ab) (oT h N s)):=by
 have ok:=dc.mp Sx _ hs;simp only[Jv,bO,h_] at ok;obtain⟨⟨⟨⟨o1,o2⟩,o3⟩,o4⟩,o5⟩:=ok;have o6:(rV s).length≤1000:=by unfold rV;rw[aI _];exact o5
 refine enter i.K.ident MC w_id hb rfl ?_;refine gA (Uy (c_ (b8 (i.K.bi rfl) rfl (aB n_ aL) (⟨λfr' Q X hq=>RD (bd ‹_› bg) (hq _ _ ⟨rfl,rfl⟩)⟩:CP (Oh i b) h (.bi "len") [.str s] (is (.int s.length) h))) bD (CH (ib.mpr o3))) jf (b8 (i.K.bi rfl) rfl (aB (CK (acc:=gN N) (l:=["c"]) (ls:=["_IDENTIFIER"]) (vs:=rV s) (us:=(rV s).map λ_=>.bool ab) ?_ ?_ ?_ (ei (v:=.str s) (kk:=.str s) n_ (.str o1)) B.at ?_ (aI _) (by refine(?_:_≤2^24);exact ah ‹_› aJ) rfl ?_) aL) (⟨λfr' Q X hq=>YS (ts:=(rV s).map λ_=>ab) rfl (.own aS) (by rw[pi,pi];rfl) (hq _ _ ⟨by congr 1;rw[ahs];exact dc.mpr λ_ _=>rfl,rfl⟩)⟩:CP (Oh i b) (oT h N s) (.bi "all") [.ref (gN N)] (is (.bool ab) (oT h N s))))) ⟨rfl,rfl⟩
 ·kernel_rfl
 ·kernel_rfl
 ·rfl
 ·intro ws j
  show aa (s.cps[j]?.map λc=>SV.str ⟨#[c]⟩)=aa (rV s)[j]?;unfold rV;rw[dv,jt]
 ·intro ws j v u e1 e2
  rw[dv,e1] at e2
  (first|exact a7 e2|obtain rfl:=aY e2)
  refine aj (dJ e1) λc hc ax=>?_;subst ax;have:=dc.mp o2 c (bN hc);exact c_ n_ (g_ i.K.GG) (this▸MZ)
theorem IY:cr (bC 146) ["symbols","terminals","i"]=ab:=by kernel_rfl
theorem w_rm:cY (bC 146) ["len"]=ab:=by kernel_rfl
noncomputable def υ(i:FI)(b:Nat):FI:=i.fn b 146 ["symbols","terminals","i"] ["len"] IY w_rm
theorem abd{IZ:b7}(hb:i.b=b+1)(hl:h l=aa (.list (aT.map .str)))(hz:aT.length≤1000)(ht:h (.mk 38 [])=aa (.dict IZ)):FP i h (.glob 146) [.ref l,.ref (.mk 38 [])] (λv h'=>h'=h∧(v=.none∨∃s,v=.str s)):=by
 refine enter i.K.rightmost IY w_rm hb rfl ?_;refine bM (v:=.int ((aT.length:Int) - 1)) (fK (b8 (i.K.bi rfl) rfl (aB n_ aL) (KE (.own hl) (aI _) (by rw[aI _];exact bd ‹_› bg))) bD CE) ?_;refine ry (σ:=Nat) (λn=>[("symbols",.ref l),("terminals",.ref (.mk 38 [])),("i",.int ((n:Int) - 1))]) (λ_=>h) (λn m=>n=m∧n≤aT.length) aT.length aT.length ⟨rfl,ar _⟩ (ai (ai (ai bq))) ?_;rintro n m ⟨rfl,hn⟩;refine(mC _ h (bt n_ bD FT) (λ_=>aH (gA kK ⟨rfl,.inl rfl⟩)) (λe=>?_));have n1:1≤n:=wZ.mp (Int.le_of_sub_nonneg (fC e));obtain⟨s,hs⟩:∃s,aT[n-1]? =aa s:=⟨_,fb (bI (sn n1 pf) hn)⟩;have sg:∀{p q r:Pos},EV (υ i b) [("symbols",.ref l),("terminals",.ref (.mk 38 [])),("i",.int ((n:Int) - 1))] h (.Subscript (.Name "symbols" p) (.Name "i" q) r) (.str s) h:=λ{p q r}=>by
  rw[show(n:Int) - 1=((n-1:Nat):Int) from(ai3 n1).symm];exact mJ (j:=n-1) n_ n_ (.own hl) (QZ (bd hn (bd hz bg))) (by rw[dv,hs];rfl)
 refine EU (bt sg n_ (pZ ht)) (λ_=>?_) (λ_=>?_)
 ·exact gA sg ⟨rfl,.inr ⟨s,rfl⟩⟩
 ·refine aH (y0 rfl bD K3 (aH (bK (LQ.next (n-1) (cK (n-1) (sn n1 pf) rfl (ah (ku _ _) ‹_›)) ?_))))
  refine ai (ai (ai bq ?_));show aa (SV.int ((n:Int) - 1-1))=aa (.int (((n-1:Nat):Int) - 1));rw[show((n-1:Nat):Int)=(n:Int) - 1 from ai3 n1]
theorem aer{n:Nm}{Q:QV}{X:QX}(hn:h n=af)(hq:Q (.ref n) (h.set n (.set []))):WC G F b fr h (.ty "set") [] Q X:=by
 first|refine jO ?_|refine jP ?_
 intro own ae A P m s Q' E' a5 R hv c d;obtain rfl:=hv;refine JK (.inl rfl) PySem.F.typeCall_set_0 R hn λaZ led a6 le hs keep _=>?_;have g6:aZ.heap.get? s.heap.objs.size=aa {cls:=.type "set",dict:=af,data:=.set #[] 0 (.fresh 0 0 led)}:=hs;refine ah6 PySem.F.called_set.init.plain ah7 (check_set_init ⟨_,hs,rfl⟩ ?_);unfold Builtin.«set.__init__» noKeywords
 wp_walk
 exact⟨rfl,(c (.ref n) _ _ _ _ _ hq .rfl le ⟨_,Mu.i9,rfl⟩ a6)⟩
theorem ad8:cr (bC 172) ["self","terminals","term"]=ab:=by kernel_rfl
theorem w_gi:cY (bC 172) ["set"]=ab:=by kernel_rfl
noncomputable def kV:List Nat:=[34,35,36,37,38,39,41,45,46,49,50]
def Uz(h:SH)(B:List Nat):Prop:=∀k∈B,∀l,h (.mk k l)=af
noncomputable def io(t:Str):Nm:=.mk 41 [sym t]
noncomputable def iO:b7:=[(.str "a",.ref (io "a")),(.str "b",.ref (io "b")),(.str "error",.ref (io "error"))]
noncomputable def qw(st:SV):SF:=[("Productions",.ref (.mk 35 [])),("Prodnames",.ref (.mk 36 [])),("Prodmap",.ref (.mk 37 [])),("Terminals",.ref (.mk 38 [])),("Nonterminals",.ref (.mk 39 [])),("First",.ref (.mk 45 [])),("Follow",.ref (.mk 46 [])),("Precedence",.ref (.mk 49 [])),("UsedPrecedence",.ref (.mk 50 [])),("Start",st)]
structure rW(h h':SH):Prop where
 gr:h' aX=aa (.inst 283 (qw .none))
 fg:h' (.mk 35 [])=aa (.list [.none])
 names:h' (.mk 36 [])=aa (.dict [])
 map:h' (.mk 37 [])=aa (.dict [])
 term:h' (.mk 38 [])=aa (.dict iO)
 ta:h' (io "a")=aa (.list [])
 tb:h' (io "b")=aa (.list [])
 te:h' (io "error")=aa (.list [])
 iC:h' (.mk 39 [])=aa (.dict [])
 first:h' (.mk 45 [])=aa (.dict [])
 nE:h' (.mk 46 [])=aa (.dict [])
 prec:h' (.mk 49 [])=aa (.dict [])
 same:∀k l,kV.contains k=an→h' (.mk k l)=h (.mk k l)
theorem VJ{n:Nm}(hn:h n=af):CP i h (.ty "set") [] (is (.ref n) (h.set n (.set []))):=⟨λfr' Q' X hq=>aer hn (hq _ _ ⟨rfl,rfl⟩)⟩
noncomputable def u9(h:SH):SH:=((((h.set (.mk 35 []) (.list [.none])).set (.mk 36 []) (.dict [])).set (.mk 37 []) (.dict [])).set (.mk 38 []) (.dict [])).set aX (.inst 283 ((qw .none).take 4))
noncomputable def ql(h:SH)(es:b7)(t:Str):SH:=(h.set (io t) (.list [])).set (.mk 38 []) (.dict (bh es (.str t) (.ref (io t))))
noncomputable def E7(h:SH):Nat→SH
 |0=>u9 h
 |1=>ql (u9 h) [] "a"
 |_=>ql (ql (u9 h) [] "a") (iO.take 1) "b"
noncomputable def IW(h:SH):SH:=ql (E7 h 2) (iO.take 2) "error"
theorem ajl{x:SH}(h1:x aX=aa (.inst 283 (qw .none)))(h2:x (.mk 39 [])=aa (.dict []))(h3:x (.mk 45 [])=aa (.dict []))(h4:x (.mk 46 [])=aa (.dict []))(h5:x (.mk 49 [])=aa (.dict []))
  (e:∀k l,([34,39,45,46,49,50]:List Nat).contains k=an→x (.mk k l)=IW h (.mk k l)):rW h x:=by
 refine⟨h1,(e _ _ rfl).trans rfl,(e _ _ rfl).trans rfl,(e _ _ rfl).trans rfl,(e _ _ rfl).trans rfl,(e _ _ rfl).trans rfl,(e _ _ rfl).trans rfl,(e _ _ rfl).trans rfl,h2,h3,h4,h5,λk l hk=>?_⟩;have ne:∀a∈kV,∀l',Nm.mk k l≠.mk a l':=λa ha l' e=>by injection e with e;subst e;rw[e9.mpr ha] at hk;exact iV hk
 rw[e k l (by
  cases z:([34,39,45,46,49,50]:List Nat).contains k with
  |false=>rfl
  |true=>exact bc rfl (ne k ((aW:∀a∈([34,39,45,46,49,50]:List Nat),a∈kV) k (e9.mp z)) l))]
 show ql (ql (ql (u9 h) [] "a") (iO.take 1) "b") (iO.take 2) "error" (.mk k l)=_;unfold ql u9;have n41:∀t,Nm.mk k l≠io t:=λt=>ne 41 bQ _;have Fy:Nm.mk k l≠aX:=ne 34 bQ _
 iterate 3 rw[aq (ne 38 bQ _),aq (n41 _)]
 rw[aq Fy,aq (ne 38 bQ _),aq (ne 37 bQ _),aq (ne 36 bQ _),aq (ne 35 bQ _)]
theorem aaq(hb:i.b=b+1)(B:Uz h kV)(hl:h l=aa (.list [.str "a",.str "b"])):FP i (h.set aX (.inst 283 [])) (.glob 172) [.ref aX,.ref l] (λv h'=>v=.none∧rW h h'):=by
 have nl:∀k∈kV,∀l',l≠.mk k l':=λk hk l' e=>by rw[e,B k hk] at hl;exact a7 hl
 have hn:∀k∈kV,∀l,h (.mk k l)=af:=B;refine enter i.K.graminit ad8 w_gi hb rfl ?_;refine j9 (m:=.mk 35 []) (eD (aB kK aL) (show h _=af from B 35 bQ _)) az n_ ?_;refine j9 (m:=.mk 36 []) (g7 (show h _=af from B 36 bQ _)) az n_ ?_;refine j9 (m:=.mk 37 []) (g7 (show h _=af from B 37 bQ _)) az n_ ?_;refine j9 (m:=.mk 38 []) (g7 (show h _=af from B 38 bQ _)) az n_ ?_;have OY:∀n,E7 h n l=aa (.list [.str "a",.str "b"]):=λn=>by
  have e0:u9 h l=aa (.list [.str "a",.str "b"]):=(aq (nl 34 bQ _)).trans ((aq (nl 38 bQ _)).trans ((aq (nl 37 bQ _)).trans ((aq (nl 36 bQ _)).trans ((aq (nl 35 bQ _)).trans hl))));have e1:∀{x:SH} {es t},x l=aa (.list [.str "a",.str "b"])→ql x es t l=aa (.list [.str "a",.str "b"]):=λe=>(aq (nl 38 bQ _)).trans ((aq (nl 41 bQ _)).trans e)
  match n with
  |0=>exact e0
  |1=>exact e1 e0
  |n+2=>exact e1 (e1 e0)
 refine et (σ:=Nat) (λ_=>[("self",.ref aX),("terminals",.ref l)]) (E7 h) (λs j=>s=j) 0 [.str "a",.str "b"] (d7 n_ (OY 0)) rfl (ai (ai bq)) (λs j _=>d8 (OY s)) (λs j v e ev=>?_) (λs e=>?_)
 ·subst e
  match s,ev with
  |0,ev=>
   (first|exact a7 ev|obtain rfl:=aY ev)
   refine dX (ef (n:=.mk 38 []) (es:=[]) (eD (n:=io "a") aL (show h _=af from B 41 bQ _)) (a_ (n:=aX) n_ rfl) n_ rfl aJ ?_);exact aH (bK (LQ.next 1 rfl (ai (ai bq))))
  |1,ev=>
   (first|exact a7 ev|obtain rfl:=aY ev)
   refine dX (ef (n:=.mk 38 []) (es:=iO.take 1) (eD (n:=io "b") aL (show h _=af from B 41 bQ _)) (a_ (n:=aX) n_ rfl) n_ rfl aJ ?_);exact aH (bK (LQ.next 2 rfl (ai (ai bq))))
 ·obtain rfl:s=2:=e
  refine aH (ef (n:=.mk 38 []) (es:=iO.take 2) (eD (n:=io "error") aL (show h _=af from B 41 bQ _)) (a_ (n:=aX) n_ rfl) cx rfl aJ ?_);refine(?_:SS _ _ (IW h) _ _);refine jA (n:=aX) (g7 (n:=.mk 39 []) (show h _=af from B 39 bQ _)) n_ rfl aJ ?_;refine jA (n:=aX) (g7 (n:=.mk 45 []) (show h _=af from B 45 bQ _)) n_ rfl aJ ?_;refine jA (n:=aX) (g7 (n:=.mk 46 []) (show h _=af from B 46 bQ _)) n_ rfl aJ ?_;refine jA (n:=aX) (g7 (n:=.mk 49 []) (show h _=af from B 49 bQ _)) n_ rfl aJ ?_;refine jA (n:=aX) (b8 (i.K.ty rfl) rfl aL (VJ (n:=.mk 50 []) (show h _=af from B 50 bQ _))) n_ rfl aJ ?_;refine jA (n:=aX) kK n_ rfl aJ ?_;refine aH (bK ⟨rfl,ajl rfl rfl rfl rfl rfl λk l hk=>?_⟩);have ne:∀a∈([34,39,45,46,49,50]:List Nat),∀l',Nm.mk k l≠.mk a l':=λa ha l' e=>by injection e with e;subst e;rw[e9.mpr ha] at hk;exact iV hk
  have Fy:Nm.mk k l≠aX:=ne 34 bQ _
  iterate 11 rw[aq (by first|exact Fy|exact ne 39 bQ _|exact ne 45 bQ _|exact ne 46 bQ _|exact ne 49 bQ _|exact ne 50 bQ _)]
noncomputable def yX:List Str:=["self","prodname","syms","func","file","line","n","s","c","precname","prodprec","map","m","pnumber","t","p"]
theorem yY:cr (bC 201) yX=ab:=by kernel_rfl
noncomputable def Ni:List Str:=["_is_identifier","enumerate","rightmost_terminal","len","Production","KeyError"]
theorem w_ap:cY (bC 201) Ni=ab:=by kernel_rfl
noncomputable def nG(i:FI)(b:Nat):FI:=i.fn (b+2) 201 yX Ni yY w_ap
noncomputable def Db(nm:Str)(l:Nm):SF:=[("self",.ref aX),("prodname",.str nm),("syms",.ref l),("func",.none),("file",.str ""),("line",.int 0)]
noncomputable def a8:List Str:=["S","A","B"]
noncomputable def E8(s:Str):Nat:=s.cps.getD 0 0
noncomputable def Mi(s:Str):Bool:=((oz 0 s.length).bind (s.cps[·]?))==aa (E8 s) && !AD ⟨#[E8 s]⟩ "'\"" && decide (s.length≤1000)
theorem abn:lK.all Mi=ab:=by decide +kernel
theorem RO:∀s∈a8,s∈lK:=aW
theorem TY{s:Str}(h:s∈a8):s∈lK:=RO s h
theorem bp.oT{s:Str}(B:bp h N):bp (oT h N s) (N+1):=B.new _ _
noncomputable def wC(vs:List SV):List SV:=vs.zipIdx.map λp=>.tup [.int p.2,p.1]
theorem Bl{vs:List SV}{j:Nat}:(wC vs)[j]? =vs[j]?.map λv=>.tup [.int j,v]:=by
 unfold wC;rw[dv,List.getElem?_zipIdx,mZ _]
 cases vs[j]? <;>rfl
theorem ac7{n:Nm}{vs:List SV}{j:Nat}(hn:h n=aa (.list vs)):ji (.enumL n) j h=aa (wC vs)[j]? :=(ay (zr · λvs=>vs[j]?.map λv=>.tup [.int j,v]) hn).trans (ay aa Bl.symm)
theorem Vh{vs:List SV}{j:Nat}:ji (.enumT vs) j h=aa (wC vs)[j]? :=ay aa Bl.symm
structure AS where
 N:Nat
 h:SH
theorem ada:∀s∈a8,(iO.lookup (.str s)).isSome=an:=by decide +kernel
theorem L9{s:Str}(hs:s∈a8):iO.lookup (.str s)=af:=Option.not_isSome_iff_eq_none.mp λe=>by rw[ada s hs] at e;exact cJ e
theorem ab4(hn:nm∈a8)(hs:aT∈gn)(hl:h l=aa (.list (aT.map .str)))(n8:∃m t,l=.mk 99 (m::t)∧m<N)(ht:h (.mk 38 [])=aa (.dict iO))(hg:h aX=aa (.inst 283 (qw .none)))(B:bp h N)
  (fin:∀N' h',bp h' N'→Kq [] N h h'→N≤N'→SS (nG i b) (Db nm l) h' [(ba 201).drop 4] Q):SS (nG i b) (Db nm l) h [ba 201] Q:=by
 refine d_ n8 λm tl ax hm=>?_;clear n8;subst ax;have hj:=dc.mp zD _ hs;simp only[u5,bO,h_] at hj;have hz:=hj.1.2;refine cf (bt n_ (a_ (n:=aX) n_ hg) (CW ht (L9 hn))) (aH ?_);refine cf (bt n_ cx (lX λe=>by injection e with e;subst e;revert hn;exact aW)) (aH ?_);refine cf (fw (t:=ab) (p_ (b8 (i.K.ref rfl) (i.K.keep rfl) (aB n_ aL) (JR (b:=b+1) rfl (TY hn) B).cp) jf)) (aH ?_);have Lo:∀{h':SH},Kq [] N h h'→h' (.mk 99 (m::tl))=aa (.list (aT.map .str)):=λkq=>(kq.2 m tl hm).trans hl;have tE:Kq [] N h (oT h N nm):=.new (ar _);refine et (σ:=AS) (λ_=>Db nm (.mk 99 (m::tl))) AS.h (λs j=>bp s.h s.N∧Kq [] N h s.h∧N≤s.N) ⟨N+1,oT h N nm⟩ (wC (aT.map .str)) (O_ (i.K.ty rfl) n_ (.lst (Lo tE))) (cG B.oT tE (bR _)) .rfl (λs j Z=>ac7 (Lo Z.2.1)) (λs j v Z e=>?_) (λs Z=>aH (fin s.N s.h Z.1 Z.2.1 Z.2.2));rw[Bl,dv] at e
 cases g6:aT[j]? with
 |none=>rw[g6] at e;(first|exact a7 e|obtain rfl:=aY e)
 |some t=>
  rw[g6] at e
  (first|exact a7 e|obtain rfl:=aY e)
  have ht:=(λs h=>fC (dc.mp hj.2 s h):∀s∈aT,s∈lK) t (bN g6);have ok:=dc.mp abn _ ht;simp only[Mi,bO,jL,h_] at ok;obtain⟨⟨o1,o2⟩,o3⟩:=ok;refine GU ?_;refine cf (bt (yW (v:=.str ⟨#[E8 t]⟩) n_ bD .str ⟨λfr' Q X hq=>Xn aW aW (eq_of_beq o1) hq⟩) cx (o2▸MZ)) (aH ?_);refine cf (oJ (fw (t:=ab) (p_ (b8 (i.K.ref rfl) (i.K.keep rfl) (aB n_ aL) (JR (b:=b+1) rfl ht Z.1).cp) jf))) (aH (aH (bK ?_)));exact LQ.next ⟨s.N+1,oT s.h s.N t⟩ (cG Z.1.oT (Z.2.1.trans (M:=s.N) (.new (ar _)) Z.2.2) (c8 Z.2.2)) (SF.sub.rfl.b9.b9)
noncomputable def s7(aT:List Str):Str:=(IB (aT.map .str)).shown
noncomputable def Cr:List Str:=(["[]","['a']","['A']","['b']","['B']","['error']","['S']","['a', 'a']","['a', 'A']","['a', 'b']","['a', 'B']","['a', 'error']","['a', 'S']","['A', 'a']","['A', 'A']","['A', 'b']","['A', 'B']","['A', 'error']","['A', 'S']","['b', 'a']","['b', 'A']","['b', 'b']","['b', 'B']","['b', 'error']","['b', 'S']","['B', 'a']","['B', 'A']","['B', 'b']","['B', 'B']","['B', 'error']","['B', 'S']","['error', 'a']","['error', 'A']","['error', 'b']","['error', 'B']","['error', 'error']","['error', 'S']","['S', 'a']","['S', 'A']","['S', 'b']","['S', 'B']","['S', 'error']","['S', 'S']"]:List String).map d5
theorem Jo:∀l:List Str,Q2 (l.map .str)=l.map λx=>Q3 (.str x)
 |[]=>by simp only[DN,Q2]
 |x::r=>by simp only[sI,Q2];rw[Jo r]
theorem Rp(l:List Str):s7 l=listText (l.map reprText):=by
 unfold s7;simp only[Q3];rw[Jo _];simp only[Q3]
theorem aay:(gn.map λl=>listText (l.map reprText))=Cr:=by decide +kernel
theorem ac2:Cr.Nodup:=by decide +kernel
theorem aax:Cr.all (λs=>decide (s.length≤1000))=ab:=by decide +kernel
noncomputable def Xh:Str:=d5 " -> "
noncomputable def oC(nm:Str)(aT:List Str):Str:=nm++Xh++s7 aT
theorem Gg:a8.all (λs=>decide (s.cps.toList.length=1) && decide (s.length≤1000))=ab:=by decide +kernel
theorem FR{n:Nat}{aT:List Str}(h:gn[n]? =aa aT):Cr[n]? =aa (s7 aT):=by
 rw[←aay,dv,h,Option.map_some _ _,Rp _]
theorem ach{aT:List Str}(h:aT∈gn):(s7 aT).length≤1000:=by
 refine xE (uE h) λn hn=>?_;exact fC (dc.mp aax _ (bN (FR hn)))
theorem X1{s t:List Str}(hs:s∈gn)(ht:t∈gn)(e:s7 s=s7 t):s=t:=by
 refine xE (uE hs) λn hn=>?_;refine xE (uE ht) λm hm=>?_;have a:=FR hn;rw[e] at a;have:=(Qm ((cV.mp a).1) ac2).mp (a.trans (FR hm).symm);subst this;exact aY (hn.symm.trans hm)
theorem XX{a c:Str}{s t:List Str}(ha:a∈a8)(hc:c∈a8)(hs:s∈gn)(ht:t∈gn)(e:oC a s=oC c t):a=c∧s=t:=by
 have la:=dc.mp Gg _ ha;have lc:=dc.mp Gg _ hc;simp only[bO,h_] at la lc;have e2:=ay (λs:Str=>s.cps.toList) e;simp only[oC,Str.cps_append,ahf] at e2;refine xA (ai4 e2 (by rw[cU,cU,la.1,lc.1])) λh1 h2=>?_;refine xA (ai4 h1 (by rw[la.1,lc.1])) λh3 _=>?_;have IN:∀x y:Str,x.cps.toList=y.cps.toList→x=y:=λx y e=>by
  cases x;cases y;exact ay Str.mk (Ix.mp e)
 exact⟨IN _ _ h3,X1 hs ht (IN _ _ h2)⟩
variable{Rs:bn}
noncomputable def gH(Rs:bn)(s:Str):List Nat:=(bo Rs.length).filter λj=>decide (j≠0) && decide (bE Rs j=s)
noncomputable def fY(s:Str):Nm:=.mk 40 [sym s]
noncomputable def fW(s:Str):Nm:=.mk 44 [sym s]
structure g9(h:SH)(es:b7)(m:Nat):Prop where
 nd:(es.map (·.1)).Nodup
 key:∀k v,es.lookup k=aa v→∃s∈a8,k=.str s∧v=.ref (fW s)∧∃vs,h (fW s)=aa (.list vs)∧vs.length≤m
 no:∀s∈a8,es.lookup (.str s)=af→h (fW s)=af
def oS(h:SH)(m:Nat):Prop:=h (.mk 38 [])=aa (.dict iO)∧∀t∈dV,∃vs,h (io t)=aa (.list vs)∧vs.length≤m
noncomputable def wE:List Str:=["a","A","b","B","error"]
structure GB(Rs:bn)(h:SH):Prop where
 gr:h aX=aa (.inst 283 (qw .none))
 fg:h (.mk 35 [])=aa (.list (.none::(bo Rs.length).tail.map bA))
 names:∃es,h (.mk 36 [])=aa (.dict es)∧(es.map (·.1)).Nodup∧(∀k∈es.map (·.1),∃s∈a8,k=.str s)∧∀s∈a8,(gH Rs s≠[]→es.lookup (.str s)=aa (.ref (fY s))∧h (fY s)=aa (.list ((gH Rs s).map bA)))∧(gH Rs s=[]→es.lookup (.str s)=af∧h (fY s)=af)
 map:∃es,h (.mk 37 [])=aa (.dict es)∧(∀k∈es.map (·.1),∃r∈Rs.tail,k=.str (oC r.1 r.2))∧es.length≤Rs.length
 vL:oS h (3*Rs.length)
 iC:∃es,h (.mk 39 [])=aa (.dict es)∧g9 h es (3*Rs.length)∧∀j,0<j→j<Rs.length→(es.lookup (.str (bE Rs j))).isSome=ab
 first:h (.mk 45 [])=aa (.dict [])
 nE:h (.mk 46 [])=aa (.dict [])
 prec:h (.mk 49 [])=aa (.dict [])
 pr:∀j,0<j→j<Rs.length→h (bf j)=aa (.inst 100 (iS (bE Rs j) (aG Rs j) j (.mk 66 [j]) .none))∧h (.mk 42 [j])=aa (.list ((gX [] (aG Rs j)).map .str))
 free:∀j,j=0∨Rs.length≤j→h (bf j)=af∧h (.mk 42 [j])=af∧h (.mk 66 [j])=af
 shape:∀r∈Rs.tail,r.1∈a8∧r.2∈gn∧∀s∈r.2,s∈wE
 len:Rs.length≤5
 pos:0<Rs.length
noncomputable def r_(nm:Str)(l:Nm)(aT:List Str)(n:Nat):SF:=[("self",.ref aX),("prodname",.str nm),("syms",.ref l),("func",.none),("file",.str ""),("line",.int 0),("prodprec",wz),("map",.str (oC nm aT)),("pnumber",.int n)]
theorem Fe{n:Nat}:(bo n).tail.length=n-1:=by rw[pF,dS]
theorem W0:gn.all (λaT=>aT.all λs=>decide (s≠"%prec"))=ab:=by decide +kernel
theorem VC{n:Nm}(hn:h n=aa (.dict []))(hv:v=.none∨∃s,v=.str s):CP i h (.bi "dict.get") [.ref n,v,w] (is w h):=by
 rcases hv with rfl|⟨s,rfl⟩
 ·exact⟨λfr' Q X hq=>Y0 hn (hq _ _ ⟨rfl,rfl⟩)⟩
 ·exact y6 hn
theorem SG(G:GB Rs h)(hn:nm∈a8)(hs:aT∈gn)(hl:h l=aa (.list (aT.map .str)))(GV:(nm,aT)∉Rs.tail)
  (fin:SS (nG i b) (r_ nm l aT Rs.length) h [(ba 201).drop 8] Q):SS (nG i b) (Db nm l) h [(ba 201).drop 4] Q:=by
 have hj:=dc.mp zD _ hs;simp only[u5,bO,h_] at hj;have hz:=hj.1.2;have hp:(SV.str "%prec")∉aT.map SV.str:=λz=>by
  have:=dc.mp (dc.mp W0 _ hs) _ (jT.mp z);exact fC this rfl
 have nl:=dc.mp Gg _ hn;simp only[bO,h_] at nl;refine cf (bt cx n_ (XY (.own hl) hp mR)) ?_;refine kH (nV (i.K.ref rfl) (i.K.keep rfl) (aB n_ (aB (a_ (n:=aX) n_ G.gr) aL)) (abd (b:=b+1) rfl hl (ah ‹_› aJ) G.vL.1).cp) ?_;rintro v h1 ⟨rfl,hv⟩;have nb:lH v=ab:=by rcases hv with rfl|⟨s,rfl⟩<;>rfl
 refine bM (v:=wz) (gU (a_ (n:=aX) n_ G.gr) (jo G.prec) rfl (aB n_ (aB (eY (aB cx (aB bD aL))) aL)) (VC G.prec hv)) ?_;refine aH (bM (v:=.str (oC nm aT)) (JA n_ n_ (.inr (aU aT (.own hl) rfl)) nl.2 (by decide +kernel) (ach hs) rfl) ?_);obtain⟨mes,hm,hk,hml⟩:=G.map;have R2:mes.lookup (.str (oC nm aT))=af:=lU.mpr λz=>by
  refine aj (hk _ z) λr hr e=>?_;injection e with e;refine jz (G.shape r hr) λh1 h2 _=>?_;refine xA (XX hn h1 hs h2 e) λe1 e2=>?_;exact GV (by rw[e1,e2];exact hr)
 refine cf (bt n_ (a_ (n:=aX) n_ G.gr) (CW hm R2)) (aH ?_);have qt:=G.pos;refine bM (v:=.int Rs.length) (b8 (i.K.bi rfl) rfl (aB (a_ (n:=aX) n_ G.gr) aL) (KE (.own G.fg) (by rw[iE,aI _,Fe];exact qT ‹_›) (by rw[iE,aI _,Fe];exact pC (QZ (bd G.len bg))))) ?_;exact fin.sub (ai (ai (ai (ai (ai (ai (ai (ai (ai bq)))))))))
theorem HB:∀x∈a8,∀y∈a8,sym x=sym y→x=y:=by decide +kernel
theorem ad9:∀x∈dV,∀y∈dV,sym x=sym y→x=y:=by decide +kernel
theorem Bg{x y:Str}(hx:x∈a8)(hy:y∈a8)(e:fW x=fW y):x=y:=by injection e with _ e;injection e with e;exact HB x hx y hy e
theorem Ya{x y:Str}(hx:x∈dV)(hy:y∈dV)(e:io x=io y):x=y:=by injection e with _ e;injection e with e;exact ad9 x hx y hy e
theorem g9.add(I:g9 h es m)(hs:s∈a8)(hl:es.lookup (.str s)=af):g9 ((h.set (fW s) (.list [])).set (.mk 39 []) (.dict (bh es (.str s) (.ref (fW s))))) (bh es (.str s) (.ref (fW s))) m:=by
 refine⟨oN I.nd,λk v e=>?_,λt ht e=>?_⟩
 ·rw[fy] at e
  split at e
  ·next z=>obtain rfl:=aY e;exact(ye s hs z rfl ([]) ((aq az).trans aS) (b_ _))
  ·next z=>
   refine xj (I.key k v e) λt ht ax yM vs a c=>?_;subst ax;subst yM;exact(ye t ht rfl rfl vs ((aq az).trans ((aq λq=>z (ay SV.str (Bg ht hs q))).trans a)) c)
 ·rw[fy] at e
  split at e
  ·exact fu e
  ·next z=>exact(aq az).trans ((aq λq=>z (ay SV.str (Bg ht hs q))).trans (I.no t ht e))
theorem g9.app{vs:List SV}{x:SV}(I:g9 h es m)(hs:s∈a8)(hl:es.lookup (.str s)=aa (.ref (fW s)))(hv:h (fW s)=aa (.list vs)):g9 (h.set (fW s) (.list (vs++[x]))) es (m+1):=by
 refine⟨I.nd,λk v e=>?_,λt ht e=>?_⟩
 ·refine xj (I.key k v e) λt ht ax yM ws a c=>?_;subst ax;subst yM
  by_cases z:t=s
  ·subst z
   rw[hv] at a;cases a;exact(ye t ht rfl rfl _ aS (by rw[cU];exact eG c))
  ·exact(ye t ht rfl rfl ws ((aq λq=>z (Bg ht hs q)).trans a) (c8 c))
 ·exact(aq λq=>by rw[Bg ht hs q,hl] at e;exact fu e).trans (I.no t ht e)
theorem g9.same(I:g9 h es m){n:Nat}(e:∀l,h' (.mk 44 l)=h (.mk 44 l))(hm:m≤n):g9 h' es n:=
 ⟨I.nd,λk v q=>by refine xj (I.key k v q) λt ht a c vs d f=>?_;exact(ye t ht a c vs ((e _).trans d) (ah f hm)),λs hs q=>(e _).trans (I.no s hs q)⟩
theorem oS.same(I:oS h m){n:Nat}(e:∀l,h' (.mk 41 l)=h (.mk 41 l))(e2:h' (.mk 38 [])=h (.mk 38 []))(hm:m≤n):oS h' n:=
 ⟨e2.trans I.1,λt ht=>by refine aj (I.2 t ht) λvs a c=>?_;exact(aU vs ((e _).trans a) (ah c hm))⟩
theorem oS.app{vs:List SV}{x:SV}(I:oS h m)(hs:s∈dV)(hv:h (io s)=aa (.list vs)):oS (h.set (io s) (.list (vs++[x]))) (m+1):=by
 refine⟨(aq az).trans I.1,λt ht=>?_⟩;refine aj (I.2 t ht) λws a c=>?_
 by_cases z:t=s
 ·subst z
  rw[hv] at a;cases a;exact(aU _ aS (by rw[cU];exact eG c))
 ·exact(aU ws ((aq λq=>z (Ya ht hs q)).trans a) (c8 c))
theorem Jl(I:g9 h es m):es.length≤3:=by
 have:=fO I.nd (l₂:=a8.map SV.str) λk hk=>by
  cases e:es.lookup k with
  |none=>exact bc hk (lU.mp e)
  |some v=>refine bG (I.key k v e) λs hs z _=>?_;exact bB.mpr (aU s hs z.symm)
 rwa [aI] at this
theorem Ph:∀s∈dV,iO.lookup (.str s)=aa (.ref (io s)):=by
 intro s hs;have:s="a"∨s="b"∨s="error":=by simpa [dV] using hs
 rcases this with rfl|rfl|rfl<;>rfl
theorem Zk:∀s∈wE,s∈dV∨s∈a8:=aW
structure DS where
 es:b7
 h:SH
structure DJ(aA:SH)(nm:Str)(m:Nat)(s:DS):Prop where
 d:s.h (.mk 39 [])=aa (.dict s.es)
 nt:g9 s.h s.es m
 tm:oS s.h m
 kq:∀M,Kq [39,41,44] M aA s.h
 has:(s.es.lookup (.str nm)).isSome=ab
theorem Ud(G:GB Rs h)(hn:nm∈a8)(hs:aT∈gn)(h5:∀s∈aT,s∈wE)(hl:h l=aa (.list (aT.map .str)))(n8:∃m t,l=.mk 99 (m::t))
  (fin:∀es h',DJ h nm (3*(Rs.length+1)) ⟨es,h'⟩→(∀pP,h (.mk 39 [])=aa (.dict pP)→∀k,(pP.lookup k).isSome=ab→(es.lookup k).isSome=ab)→SS (nG i b) (r_ nm l aT Rs.length) h' [(ba 201).drop 10] Q):SS (nG i b) (r_ nm l aT Rs.length) h [(ba 201).drop 8] Q:=by
 refine jW n8 λm tl ax=>?_;clear n8;subst ax;have hj:=dc.mp zD _ hs;simp only[u5,bO,h_] at hj;have hz:=hj.1.2;have c7:=G.len;obtain⟨ns,hd,I0,_⟩:=G.iC;have rE:∀s0:DS,DJ h nm (3*Rs.length) s0→(∀k,(ns.lookup k).isSome=ab→(s0.es.lookup k).isSome=ab)→SS (nG i b) (r_ nm (.mk 99 (m::tl)) aT Rs.length) s0.h [(ba 201).drop 9] Q:=by
  intro s0 J0 K0;have hL:∀s:DS,∀m',DJ h nm m' s→s.h (.mk 99 (m::tl))=aa (.list (aT.map .str)):=λs m' J=>((J.kq (m+1)).2 m tl (dq _)).trans hl;refine et (σ:=DS) (λ_=>r_ nm (.mk 99 (m::tl)) aT Rs.length) DS.h (λs j=>DJ h nm (3*Rs.length+j) s∧∀k,(ns.lookup k).isSome=ab→(s.es.lookup k).isSome=ab) s0 (aT.map .str) (d7 n_ (hL s0 _ J0)) ⟨J0,K0⟩ .rfl (λs j Z=>d8 (hL s _ Z.1)) (λs j v Z e=>?_) (λs Z=>aH ?_)
  ·refine aj (dJ e) λt ht ax=>?_;subst ax
   refine xA Z λJ K=>?_;clear Z;have jl:=(cV.mp ht).1;have nI:s.h aX=aa (.inst 283 (qw .none)):=((J.kq 0).1 _ _ rfl).trans G.gr;refine dX ?_;rcases Zk t (h5 t (bN ht)) with h1|h1
   ·refine aj (J.tm.2 t h1) λvs hv yA=>?_
    refine cS (bt n_ (a_ (n:=aX) n_ nI) (Mm J.tm.1 (Ph t h1))) ?_;refine fG (di (gV (a_ (n:=aX) n_ nI) n_ J.tm.1 (Ph t h1)) (fS hv) iB (aB n_ aL) (fX hv (by refine(?_:_≤2^24);exact ah yA (ah (fp (pB 3 c7) (cj (bI jl hz))) aJ)))) ?_;exact aH (aH (bK (LQ.next ⟨s.es,s.h.set (io t) (.list (vs++[.int Rs.length]))⟩ ⟨⟨(by dsimp only;exact aE J.d),J.nt.same (λ_=>by dsimp only;exact td) (bR _),J.tm.app h1 hv,λM=>(J.kq M).trans (M:=M) .set (ar _),J.has⟩,K⟩ (SF.sub.rfl.b9))))
   ·refine cf (bt n_ (a_ (n:=aX) n_ nI) (CW J.tm.1 (L9 h1))) ?_
    have JQ:∀s1:DS,DJ h nm (3*Rs.length+j) s1→(∀k,(ns.lookup k).isSome=ab→(s1.es.lookup k).isSome=ab)→s1.es.lookup (.str t)=aa (.ref (fW t))→SS (nG i b) ((r_ nm (.mk 99 (m::tl)) aT Rs.length).put "t" (.str t)) s1.h ([(xc (stN (ew (stN (ba 201) 9)) 0)).drop 1,[]]) (LQ (nG i b) (λ_=>r_ nm (.mk 99 (m::tl)) aT Rs.length) DS.h (λs'=>DJ h nm (3*Rs.length+(j+1)) s'∧∀k,(ns.lookup k).isSome=ab→(s'.es.lookup k).isSome=ab) ((ba 201).drop 10::[]) Q):=by
     intro s1 J1 K1 tJ;refine xj (J1.nt.key _ _ tJ) λt' ht' e1 e2 vs hv yA=>?_;obtain rfl:=Mine.Internal.SV.str.inj e1;refine fG (di (gV (a_ (n:=aX) n_ (((J1.kq 0).1 _ _ rfl).trans G.gr:s1.h aX=aa (.inst 283 (qw .none)))) n_ J1.d tJ) (fS hv) iB (aB n_ aL) (fX hv (by refine(?_:_≤2^24);exact ah yA (ah (fp (pB 3 c7) (cj (bI jl hz))) aJ)))) ?_;exact aH (aH (bK (LQ.next ⟨s1.es,s1.h.set (fW t) (.list (vs++[.int Rs.length]))⟩ ⟨⟨(by dsimp only;exact aE J1.d),J1.nt.app h1 tJ hv,J1.tm.same (λ_=>by dsimp only;exact td) (by dsimp only;exact td) (bR _),λM=>(J1.kq M).trans (M:=M) .set (ar _),J1.has⟩,K1⟩ (SF.sub.rfl.b9))))
    cases jk:s.es.lookup (.str t) with
    |some v=>
     have hv:v=.ref (fW t):=by refine hG (J.nt.key _ _ jk) λt' _ e1 e2 _=>?_;obtain rfl:=Mine.Internal.SV.str.inj e1;exact e2
     subst hv;exact cf (bt n_ (a_ (n:=aX) n_ nI) (Ft J.d jk)) (aH (JQ s J K jk))
    |none=>
     refine cS (bt n_ (a_ (n:=aX) n_ nI) (ON J.d jk)) ?_;refine ef (n:=.mk 39 []) (es:=s.es) (eD (n:=fW t) aL (J.nt.no t h1 jk)) (a_ (n:=aX) n_ (aE nI)) n_ (aE J.d) (by have:=Jl J.nt;refine(?_:_≤2^24);exact ah ‹_› aJ) ?_;refine aH (JQ ⟨bh s.es (.str t) (.ref (fW t)),(s.h.set (fW t) (.list [])).set (.mk 39 []) (.dict (bh s.es (.str t) (.ref (fW t))))⟩ ⟨(by dsimp only;exact aS),J.nt.add h1 jk,J.tm.same (λ_=>by dsimp only;exact tR) (by dsimp only;exact tR) (ar _),λM=>((J.kq M).trans (M:=M) (.set (k:=44)) (ar _)).trans (M:=M) (.set (k:=39)) (ar _),?_⟩ (λk hk=>?_) ?_)
     ·show((bh s.es _ _).lookup _).isSome=ab
      rw[fy _];split
      ·rfl
      ·exact J.has
     ·show((bh s.es _ _).lookup _).isSome=ab
      rw[fy _];split
      ·rfl
      ·exact K k hk
     ·show(bh s.es _ _).lookup _=_
      rw[fy _,aP rfl]
  ·rw[aI] at Z
   refine xA Z λJ K=>?_;clear Z;refine fin s.es s.h ⟨J.d,J.nt.same (λ_=>rfl) (c8 (e6 hz _)),J.tm.same (λ_=>rfl) rfl (c8 (e6 hz _)),J.kq,J.has⟩ λpP e k hk=>K k ?_;rw[hd] at e;cases e;exact hk
 cases jk:ns.lookup (.str nm) with
 |some v=>
  refine cf (bt n_ (a_ (n:=aX) n_ G.gr) (Ft hd jk)) (aH (rE ⟨ns,h⟩ ⟨hd,I0,G.vL,λM=>.same,by show(ns.lookup (.str nm)).isSome=ab;rw[jk];rfl⟩ λ_=>id))
 |none=>
  refine cS (bt n_ (a_ (n:=aX) n_ G.gr) (ON hd jk)) ?_;refine ef (n:=.mk 39 []) (es:=ns) (eD (n:=fW nm) aL (I0.no nm hn jk)) (a_ (n:=aX) n_ (aE G.gr)) n_ (aE hd) (by have:=Jl I0;refine(?_:_≤2^24);exact ah ‹_› aJ) ?_;refine aH (rE ⟨bh ns (.str nm) (.ref (fW nm)),(h.set (fW nm) (.list [])).set (.mk 39 []) (.dict (bh ns (.str nm) (.ref (fW nm))))⟩ ⟨(by dsimp only;exact aS),I0.add hn jk,G.vL.same (λ_=>by dsimp only;exact tR) (by dsimp only;exact tR) (ar _),λM=>(Kq.set (k:=44)).trans (M:=M) (.set (k:=39)) (ar _),?_⟩ (λk hk=>?_))
  ·show((bh ns _ _).lookup _).isSome=ab
   rw[fy _,aP rfl];rfl
  ·show((bh ns _ _).lookup _).isSome=ab
   rw[fy _];split
   ·rfl
   ·exact hk
theorem adp{vs:List SV}{i:Nat}{Q:QV}{X:QX}(hF:F.q=ab)(xw:i<2^40)(ho:vs.length≤i)(hx:X "IndexError" h):
  WO G F b fr h [.tup vs,.int i] (bv i6) Q X:=by
 refine .mk ?_;intro own ae A P m s Q' E' a5 R d6 c d;refine gu d6 λu' i' hu zB=>?_
 first|refine nc zB λt=>?_|refine pG zB λt=>?_
 refine bP (R.sd hu) λa xs ax hL hX=>?_;subst ax;rw[hX.size] at ho;have hA:=R.quiet hF;have hE:∀h' tk e,ag0 s.heap h' e "IndexError"→E' (.ref e) {s with heap:=h',toks:=tk}:=λh' tk e N=>by
  refine xA (R.newExc N tk) λR' x=>?_;exact d _ _ e _ P m hx .rfl .rfl x R'
 have hi:oz (i:Int) xs.size=af:=by
  unfold oz;simp;lia
 show aw _ _ (i6 (.ref a) (.int i t)) _ _ _;unfold i6
 try with_reducible refine dM ?_
 first|refine wb (aD ?_)|skip
 refine wb (zR hL.typeIs aW ?_);refine wb (qK (name:=d5 "__getitem__") hL.typeIs DG
  (i5 DG hL.typeIs ahn ?_ (aho _ _)))
 show aw _ _ (Ql (.ref a) >>=_) _ _ s;refine wb (tupleItemsOf_ hL ?_);refine wb (uF (typeIs_int s i t) ?_);rw[aK aW];refine wb (qN (T:="int") (typeIs_int s i t) int_index ?_);rw[aK (by simp)];refine wb (qL (a:=(i:Int)) rfl ?_);rw[aK (by simp only[DP,decide_eq_true_eq];lia)];rw[hi]
 first
  |exact wb (jK (by exact_raiseError Q4 hA hE))
  |exact wb (jK (wb (by exact_raiseError Q4 hA hE)))
  |exact jK (by exact_raiseError Q4 hA hE)
variable{bw:SF}{t:Expr}{c:SV}{x:String}{body vp:List bx}{uZ:bx}{Cm:Pos}
def Sb(i:FI)(fr:SF)(h:SH)(e:Expr)(x:String)(h':SH):Prop:=
 ∀fr',fr.sub fr'→∀(Q:QV) (X:QX),X x h'→WE i.G i.F i.b fr' h e Q X
abbrev EX(i:FI)(fr:SF)(h:SH)(e:Expr)(x:String)(h':SH):Prop:=Bx (Sb i fr h e x h')
theorem JE{kx:Expr}(a:EV i fr h e (.ref n) ag)(d:EV i fr ag kx w aC)(hn:aC n=aa (.dict es))(hl:es.lookup w=af)(ok:autoParam (SV.key 6 w=ab) bl)(Gz:autoParam (qa kx) jg):EX i fr h (.Subscript e kx pos) "KeyError" aC:=
 ⟨λfr' s Q X hq=>BE Gz (a.run fr' s _ _ (d.run fr' s _ _ ⟨.dict hn,Ze i.q hn ok hl hq⟩))⟩
theorem RL{kx:Expr}{vs:List SV}{j:Nat}(a:EV i fr h e (.tup vs) ag)(d:EV i fr ag kx (.int j) aC)(hj:j<2^40)(ho:vs.length≤j)(ok:autoParam (qa kx) jg):EX i fr h (.Subscript e kx pos) "IndexError" aC:=
 ⟨λfr' s Q X hq=>BE (ok) (a.run fr' s _ _ (d.run fr' s _ _ ⟨.tup,adp i.q hj ho hq⟩))⟩
theorem abt{kx:Expr}(a:EV i fr h e u ag)(d:EX i fr ag kx x aC)(ok:autoParam (qa kx) jg):EX i fr h (.Subscript e kx pos) x aC:=
 ⟨λfr' s Q X hq=>BE (ok) (a.run fr' s _ _ (d.run fr' s _ _ hq))⟩
theorem RC{name:Str}{gJ:Pos}{args:List Expr}(a:EX i fr h o x ag)(ok:autoParam ((args.all iI && (gJ.endLine==pos.line && decide (args.length<20)))=ab) bl)(qk:autoParam (zg o) xy):EX i fr h (.Call (.Attribute o name gJ) args [] pos) x ag:=by
 have p:=(bO _ _).mp ok;exact⟨λfr' s Q X hq=>NV (a.run fr' s _ _ hq) (qk _) p.1 p.2⟩
def VL(i:FI)(fr:SF)(h:SH)(body:List bx)(x:String)(h':SH):Prop:=
 ∀fr',fr.sub fr'→∀(Q:QS) (X:dP),(∀bw,fr.sub bw→X x bw h')→j6 i.G i.F i.b fr' h body Q X
abbrev SX(i:FI)(fr:SF)(h:SH)(body:List bx)(x:String)(h':SH):Prop:=Bx (VL i fr h body x h')
theorem VG(a:EX i fr h e x ag)(ok:autoParam (iq e=ab) bl):SX i fr h (.Expr e pos::rest) x ag:=
 ⟨λfr' s Q X hq=>xY (JI (λae=>IH ok) (a.run fr' s _ _ (hq fr' s)))⟩
theorem LI(a:EX i fr h e x ag)(ok:autoParam ((iq e && uU t)=ab) bl):SX i fr h (.Assign [t] e pos::rest) x ag:=by
 rw[bO] at ok;exact⟨λfr' s Q X hq=>xY (CA (a.run fr' s _ _ (hq fr' s)) (λae=>Q8 ok.1) (λae=>Q9 ok.1 ok.2) λae=>Q_ ok.2)⟩
theorem Gq(w:SS i fr h (body::rest::k) Q):SS i fr h ((.Try body [.ExceptHandler (aa t) af (uZ::vp) Cm] [] [] pos::rest)::k) Q:=
 fH ⟨λfr' s Q' hq=>Nt (iY.imp (w.run _ s) (λf bw ag q=>hq _ _ f q) λ_ _ _ q=>q.elim)⟩
theorem Nx(a:SX i fr h body x ag)(hx:x≠"tuple"∧x≠"range")(ht:∀fr',WE i.G i.F.loud i.b fr' ag t (λv h'=>v=c∧h'=ag) lZ)(hm:XM i.G x c ab)
  (hd:∀fr',fr.sub fr'→∀Q:QS,(∀eo,bw.sub eo→Q .next eo aC)→j6 i.G i.F.loud i.b fr' ag (uZ::vp) Q nX) (w:SS i bw aC (rest::k) Q):SS i fr h ((.Try body [.ExceptHandler (aa t) af (uZ::vp) Cm] [] [] pos::rest)::k) Q:=
 fH ⟨λfr' s Q' hq=>Nt (a.run fr' s _ _ λbw aZ=>⟨hx,WV.imp (ht bw) (λv h' ⟨e1,e2⟩=>by subst e1;subst e2;exact⟨hm,hd bw aZ _ λeo bz=>hq _ _ .next (w.run eo bz)⟩) λ_ _ q=>q⟩)⟩
theorem II{x:Str}{v:SV}(hg:jm i.G x v)(hl:i.gs.contains x=ab):∀fr' h,WE i.G i.F.loud i.b fr' h (.Name x pos) (λv' h'=>v'=v∧h'=h) lZ:=λfr' h=>
 Ew hg (F:=i.F.loud) (cY.get i.W hl).1 (cY.get i.W hl).2 ⟨rfl,rfl⟩
theorem Kc:("KeyError":String)≠"tuple"∧("KeyError":String)≠"range":=aW
theorem Zt:("IndexError":String)≠"tuple"∧("IndexError":String)≠"range":=aW
variable{hf:SH}
theorem F6{r:Str×List Str}(hj:j<Rs.length):bE (Rs++[r]) j=bE Rs j:=by unfold bE;rw[Di hj]
theorem Fh{r:Str×List Str}:bE (Rs++[r]) Rs.length=r.1:=by unfold bE;rw[QU (ar _),zJ _];rfl
theorem afl{r:Str×List Str}(hj:j<Rs.length):aG (Rs++[r]) j=aG Rs j:=by unfold aG;rw[Di hj]
theorem VI{r:Str×List Str}:aG (Rs++[r]) Rs.length=r.2:=by unfold aG;rw[QU (ar _),zJ _];rfl
theorem W_{r:Str×List Str}(hp:0<Rs.length):gH (Rs++[r]) s=gH Rs s++if r.1=s then [Rs.length] else []:=by
 unfold gH;rw[cU,zU,w_,ai5 _ _];have e1:(bo Rs.length).filter (λj=>decide (j≠0) && decide (bE (Rs++[r]) j=s))=(bo Rs.length).filter (λj=>decide (j≠0) && decide (bE Rs j=s)):=
  List.filter_congr λj hj=>by rw[F6 (dR.mp hj)]
 rw[e1]
 congr 1
 rw[HX,Fh];have:decide (Rs.length≠0)=ab:=eQ (ai6.mp hp);rw[this,ai7 _]
 by_cases hs:r.1=s
 ·rw[eQ hs,aP rfl,aP hs];rfl
 ·rw[i0 hs,aK iD,aK hs];rfl
theorem aa4{n:Nat}(hp:0<n):(bo (n+1)).tail=(bo n).tail++[n]:=by
 rw[w_]
 cases h:bo n with
 |nil=>have:=ay oq h;rw[dS] at this;subst this;exact bc hp (fo _)
 |cons a r=>rfl
theorem I9{x y:Str}(hx:x∈a8)(hy:y∈a8)(e:fY x=fY y):x=y:=by injection e with _ e;injection e with e;exact HB x hx y hy e
theorem GB.add(G:GB Rs h)(hn:nm∈a8)(hs:aT∈gn)(h5:∀s∈aT,s∈wE)(c7:Rs.length<5)
  (xS:hf (.mk 35 [])=aa (.list (.none::(bo Rs.length).tail.map bA++[bA Rs.length])))
  (Kb:∃ns nW,h (.mk 36 [])=aa (.dict ns)∧hf (.mk 36 [])=aa (.dict nW)∧(((ns.lookup (.str nm)).isSome=ab∧nW=ns)∨(ns.lookup (.str nm)=af∧nW=bh ns (.str nm) (.ref (fY nm)))))
  (vN:hf (fY nm)=aa (.list ((gH Rs nm++[Rs.length]).map bA))) (RN:∀s∈a8,s≠nm→hf (fY s)=h (fY s))
  (uY:∃ms,h (.mk 37 [])=aa (.dict ms)∧hf (.mk 37 [])=aa (.dict (bh ms (.str (oC nm aT)) (bA Rs.length))))
  (Jx:∃es,hf (.mk 39 [])=aa (.dict es)∧g9 hf es (3*(Rs.length+1))∧(es.lookup (.str nm)).isSome=ab∧∀pP,h (.mk 39 [])=aa (.dict pP)→∀k,(pP.lookup k).isSome=ab→(es.lookup k).isSome=ab)
  (tm:oS hf (3*(Rs.length+1)))
  (pr:hf (bf Rs.length)=aa (.inst 100 (iS nm aT Rs.length (.mk 66 [Rs.length]) .none))∧hf (.mk 42 [Rs.length])=aa (.list ((gX [] aT).map .str)))
  (xP:∀k∈([10,42,66]:List Nat),∀j,j≠Rs.length→hf (.mk k [j])=h (.mk k [j]))
  (same:∀k∈([34,45,46,49]:List Nat),hf (.mk k [])=h (.mk k [])):GB (Rs++[(nm,aT)]) hf:=by
 have hp:=G.pos;have hL:(Rs++[(nm,aT)]).length=Rs.length+1:=by rw[cU];rfl
 refine⟨(same 34 bQ).trans G.gr,?_,?_,?_,by rw[hL];exact tm,?_,(same 45 bQ).trans G.first,(same 46 bQ).trans G.nE,(same 49 bQ).trans G.prec,λj h0 hj=>?_,λj hj=>?_,λr hr=>?_,by rw[hL];assumption,by rw[hL];exact dK _⟩
 ·rw[hL,aa4 hp,xS,dN];rfl
 ·refine bP Kb λns nW a1 a2 a3=>?_;clear Kb
  obtain⟨ns2,b1,b2,b3,b4⟩:=G.names;rw[a1] at b1;cases b1;refine(ik nW a2 ?_ (λk hk=>?_) (λs g6=>?_))
  ·rcases a3 with⟨_,rfl⟩|⟨_,rfl⟩
   ·exact b2
   ·exact oN b2
  ·rcases a3 with⟨_,rfl⟩|⟨_,rfl⟩
   ·exact b3 k hk
   ·rcases(uQ k).mp hk with rfl|hk
    ·exact(aU nm hn rfl)
    ·exact b3 k hk
  ·rw[W_ hp]
   by_cases A_:nm=s
   ·subst A_
    rw[aP rfl];refine⟨λ_=>⟨?_,vN⟩,λz=>bc z (by simp)⟩;rcases a3 with⟨z,rfl⟩|⟨_,rfl⟩
    ·by_cases q:gH Rs nm=[]
     ·rw[((b4 nm hn).2 q).1] at z;exact cJ z
     ·exact((b4 nm hn).1 q).1
    ·rw[fy _,aP rfl]
   ·rw[aK A_,gP _]
    have el:nW.lookup (.str s)=ns.lookup (.str s):=by
     rcases a3 with⟨_,rfl⟩|⟨_,rfl⟩
     ·rfl
     ·rw[fy _,aK (λz=>A_ (by injection z with z;exact z.symm))]
    rw[el,RN s g6 (Ne.symm A_)];exact b4 s g6
 ·refine aj uY λms a1 a2=>?_;clear uY
  obtain⟨ms2,b1,b2,b3⟩:=G.map;rw[a1] at b1;cases b1;have tl:(Rs++[(nm,aT)]).tail=Rs.tail++[(nm,aT)]:=by cases Rs with|nil=>exact bc hp (fo _)|cons a r=>rfl
  refine(cK _ a2 (λk hk=>?_) (by rw[hL];exact ah tD (eG b3)));rw[tl];rcases(uQ k).mp hk with rfl|hk
  ·exact(aU ((nm,aT)) (kj _ (bS.mpr rfl)) rfl)
  ·refine aj (b2 k hk) λr hr e=>?_
   exact(aU r (i7 _ hr) e)
 ·refine hG Jx λes a1 a2 a3 a4=>?_;clear Jx
  obtain⟨Cx,b1,b2,b3⟩:=G.iC;refine(cK es a1 (by rw[hL];exact a2) (λj h0 hj=>?_));rw[hL] at hj;rcases wP (eS hj) with rfl|hj
  ·rw[Fh];exact a3
  ·rw[F6 hj];exact a4 Cx b1 _ (b3 j h0 hj)
 ·rw[hL] at hj
  rcases wP (eS hj) with rfl|hj
  ·rw[Fh,VI];exact pr
  ·rw[F6 hj,afl hj]
   have:=G.pr j h0 hj;exact⟨(xP 10 bQ j (du hj)).trans this.1,(xP 42 bQ j (du hj)).trans this.2⟩
 ·rw[hL] at hj
  have fh:j≠Rs.length:=hj.elim (λz=>z▸du hp) λz=>dG z;have:=G.free j (hj.imp id gg);exact(cG ((xP 10 bQ j fh).trans this.1) ((xP 42 bQ j fh).trans this.2.1) ((xP 66 bQ j fh).trans this.2.2))
 ·rw[(by cases Rs with|nil=>exact bc hp (fo _)|cons a r=>rfl:(Rs++[(nm,aT)]).tail=Rs.tail++[(nm,aT)])] at hr
  rcases dw.mp hr with hr|hr
  ·exact G.shape r hr
  ·rw[bS.mp hr];exact(cG hn hs h5)
variable{ms ns:b7}
theorem TD(hb:i.b=b+2)(hn:nm∈u7)(hs:aT∈gn)(hl:h l=aa (.list (aT.map .str)))(hp:h (bf j)=af)(rS:h (.mk 42 [j])=af)(ud:h (.mk 66 [j])=af):
  FP i h (.glob 100) [.int j,.str nm,.ref l,wz,.none,.str "",.int 0] (is (.ref (bf j)) (tI h nm aT j)):=
 cls rfl hb hp (enter (b:=b) i.K.prodinit7 Gy w_pi rfl rfl ((MH (b:=b) hn hs hl hp rS ud).imp λf fr h' q=>(cG q.1 rfl q.2)))
theorem Vg(hb:i.b=b+2)(hn:nm∈u7)(hs:aT∈gn)(hl:h l=aa (.list (aT.map .str)))(hp:h (bf j)=af)(rS:h (.mk 42 [j])=af)(ud:h (.mk 66 [j])=af):
  FP i h (.glob 100) [.int j,.str nm,.ref l] (is (.ref (bf j)) (tI h nm aT j)):=
 cls rfl hb hp (enter (b:=b) i.K.prodinit3 Gy w_pi rfl rfl ((MH (b:=b) hn hs hl hp rS ud).imp λf fr h' q=>(cG q.1 rfl q.2)))
noncomputable def iM(h:SH)(nm:Str)(aT:List Str)(n:Nat)(ms:b7):SH:=((tI h nm aT n).set (.mk 35 []) (.list (.none::(bo n).tail.map bA++[bA n]))).set (.mk 37 []) (.dict (bh ms (.str (oC nm aT)) (bA n)))
theorem Nl{k:Nat}{l:List Nat}(hk:([10,42,66,35,37]:List Nat).contains k=an):iM h nm aT j ms (.mk k l)=h (.mk k l):=
 (ut hk).trans ((ut hk).trans ((ut hk).trans ((ut hk).trans (ut hk))))
theorem R3{k a:Nat}(hk:k∈([10,42,66]:List Nat))(ha:a≠j):iM h nm aT j ms (.mk k [a])=h (.mk k [a]):=
 have ne {k'}:Nm.mk k [a]≠.mk k' [j]:=λe=>ha (lw (Nm.mk.inj e).2).1
 (ut (mU (L':=[35,37]) hk)).trans ((ut (mU (L':=[35,37]) hk)).trans ((aq ne).trans ((aq ne).trans (aq ne))))
noncomputable def vr:List Nat:=[10,35,36,37,39,40,41,42,44,66]
theorem ZV:Kq vr N h (iM h nm aT j ms):=((((Kq.set (k:=42)).trans (M:=N) (Kq.set (k:=66)) (ar _)).trans (M:=N) (Kq.set (k:=10)) (ar _)).trans (M:=N) (Kq.set (k:=35)) (ar _)).trans (M:=N) (Kq.set (k:=37)) (ar _)
theorem afq(G:GB Rs h)(hn:nm∈a8)(hs:aT∈gn)(h5:∀s∈aT,s∈wE)(c7:Rs.length<5)(hl:h l=aa (.list (aT.map .str)))(n8:∃m t,l=.mk 99 (m::t)){es:b7}{hD:SH}(J:DJ h nm (3*(Rs.length+1)) ⟨es,hD⟩)
  (mono:∀pP,h (.mk 39 [])=aa (.dict pP)→∀k,(pP.lookup k).isSome=ab→(es.lookup k).isSome=ab)
  (fin:∀h' fr,GB (Rs++[(nm,aT)]) h'→(∀M,Kq vr M h h')→(∀a c,h' (.mk 40 [a,c])=h (.mk 40 [a,c]))→Q .next fr h'):SS (nG i b) (r_ nm l aT Rs.length) hD [(ba 201).drop 10] Q:=by
 refine jW n8 λlm tl ax=>?_;clear n8;subst ax;refine jz (G.free Rs.length (.inr (ar _))) λf1 f2 f3=>?_;have dk:∀{k l},(99::[39,41,44]:List Nat).contains k=an→hD (.mk k l)=h (.mk k l):=λ{k l} hk=>(J.kq 0).1 k l hk;refine bM (b8 (i.K.ref rfl) (i.K.keep rfl) (aB n_ (aB n_ (aB n_ (aB n_ (aB n_ (aB n_ (aB n_ aL))))))) (TD (b:=b) rfl (eT _ hn:nm∈u7) hs (((J.kq (lm+1)).2 lm tl (dq _)).trans hl:hD (.mk 99 (lm::tl))=aa (.list (aT.map .str))) ((dk rfl).trans f1) ((dk rfl).trans f2) ((dk rfl).trans f3)).cp) ?_;have nI:tI hD nm aT Rs.length aX=aa (.inst 283 (qw .none)):=aE (aE (aE ((dk rfl).trans G.gr)));have La:tI hD nm aT Rs.length (.mk 35 [])=aa (.list (.none::(bo Rs.length).tail.map bA)):=aE (aE (aE ((dk rfl).trans G.fg)));refine fG (di (a_ (n:=aX) n_ nI) (fS La) iB (aB n_ aL) (fX La (by rw[iE,aI _,Fe];refine(?_:_≤2^24);exact sH (QZ (bI c7 aJ))))) ?_;obtain⟨ms,m1,m2,m3⟩:=G.map;refine ef (v:=bA Rs.length) (n:=.mk 37 []) (es:=ms) n_ (a_ (n:=aX) n_ (aE nI)) n_ (aE (aE (aE (aE ((dk rfl).trans m1)))):((tI hD nm aT Rs.length).set (.mk 35 []) (.list (.none::(bo Rs.length).tail.map bA++[bA Rs.length]))) (.mk 37 [])=aa (.dict ms)) (by refine(?_:_≤2^24);exact cj (bd m3 (bI c7 aJ))) ?_;refine(?_:SS _ _ (iM hD nm aT Rs.length ms) _ _);obtain⟨ns,p1,p2,p3,p4⟩:=G.names;have ek:∀{k l},([10,42,66,35,37,99,39,41,44]:List Nat).contains k=an→iM hD nm aT Rs.length ms (.mk k l)=h (.mk k l):=λhk=>(Nl (tK hk)).trans (dk (tK hk));have y9:iM hD nm aT Rs.length ms (.mk 36 [])=aa (.dict ns):=(ek rfl).trans p1;have AW:iM hD nm aT Rs.length ms aX=aa (.inst 283 (qw .none)):=(ek rfl).trans G.gr;have xS:iM hD nm aT Rs.length ms (.mk 35 [])=aa (.list (.none::(bo Rs.length).tail.map bA++[bA Rs.length])):=aE aS;have uY:iM hD nm aT Rs.length ms (.mk 37 [])=aa (.dict (bh ms (.str (oC nm aT)) (bA Rs.length))):=aS;have GY:iM hD nm aT Rs.length ms (bf Rs.length)=aa (.inst 100 (iS nm aT Rs.length (.mk 66 [Rs.length]) .none)):=aE (aE aS);have Hz:iM hD nm aT Rs.length ms (.mk 42 [Rs.length])=aa (.list ((gX [] aT).map .str)):=aE (aE (aE (aE aS)));have d3:∀{k l},([39,41,44,38]:List Nat).contains k=ab→iM hD nm aT Rs.length ms (.mk k l)=hD (.mk k l):=λhk=>Nl (mU (e9.mp hk));have NT:g9 (iM hD nm aT Rs.length ms) es (3*(Rs.length+1)):=J.nt.same (λl=>d3 rfl) (ar _);have TM:oS (iM hD nm aT Rs.length ms) (3*(Rs.length+1)):=J.tm.same (λl=>d3 rfl) (d3 rfl) (ar _);have Gv:iM hD nm aT Rs.length ms (.mk 39 [])=aa (.dict es):=(d3 rfl).trans J.d;have pj:∀k∈([10,42,66]:List Nat),∀a,a≠Rs.length→iM hD nm aT Rs.length ms (.mk k [a])=h (.mk k [a]):=λk hk a ha=>(R3 hk ha).trans (dk (mU hk));have kq:∀M,Kq vr M h (iM hD nm aT Rs.length ms):=λM=>(J.kq M).mono.trans (M:=M) ZV (ar _);generalize iM hD nm aT Rs.length ms=hE at ek y9 AW xS uY GY Hz d3 NT TM Gv pj kq
 by_cases hp:gH Rs nm=[]
 ·refine xA ((p4 nm hn).2 hp) λq1 q2=>?_
  refine Nx (x:="KeyError") (c:=.ty "KeyError") (ag:=hE) (aC:=(hE.set (fY nm) (.list [bA Rs.length])).set (.mk 36 []) (.dict (bh ns (.str nm) (.ref (fY nm))))) (bw:=[]) (VG (RC (JE (a_ (n:=aX) n_ AW) n_ y9 q1))) Kc (λfr'=>II (i:=nG i b) (i.K.ty rfl) rfl fr' hE) Zj (λfr' s pT hq=>?_) ?_
  ·refine xY (CA (list (wx rfl) (ue (nv (l:=yX) yY (s _ _ rfl) (tC (rO rfl (fY nm) ((ek rfl).trans q2) (FL (at_ (nv (l:=yX) yY (s _ _ rfl) (Eg i.K rfl (aE AW:(hE.set (fY nm) (.list [bA Rs.length])) aX=_) rfl rfl (nv (l:=yX) yY (s _ _ rfl) (NB (aE y9) rfl ?_ (vU (hq fr' bq))))))))))))))
   exact ah (ah (bF (aI _).symm) (fO p2 (l₂:=a8.map SV.str) λk hk=>aj (p3 k hk) λs hs e=>bB.mpr ⟨s,hs,e.symm⟩)) (aJ:3≤cR)
  ·refine aH (bK (fin _ _ (G.add hn hs h5 c7 (aE (aE xS)) (mC ns _ p1 aS (.inr ⟨q1,rfl⟩)) (aE (by rw[hp];exact aS)) (λs g6 ne=>(aq az).trans ((aq λe=>ne (I9 g6 hn e)).trans (ek rfl))) (aU ms m1 (aE (aE uY))) (ik es (aE (aE Gv)) (NT.same (λl=>tR) (ar _)) J.has mono) (TM.same (λl=>tR) tR (ar _)) ⟨aE (aE GY),aE (aE Hz)⟩ (λk hk a ha=>?_) λk hk=>?_) (λM=>((kq M).trans (M:=M) (.set (k:=40)) (ar _)).trans (M:=M) (.set (k:=36)) (ar _)) λa c=>(aq az).trans ((aq λz=>jC (lw (Nm.mk.inj z).2).2).trans (ek rfl))))
   ·exact(aq (kC hk)).trans ((aq (kC hk)).trans (pj k hk a ha))
   ·exact(aq (kC hk)).trans ((aq (kC hk)).trans (ek (mU hk)))
 ·refine xA ((p4 nm hn).1 hp) λq1 q2=>?_
  have q3:hE (fY nm)=aa (.list ((gH Rs nm).map bA)):=(ek rfl).trans q2;refine Gq (fG (di (gV (a_ (n:=aX) n_ AW) n_ y9 q1) (fS q3) iB (aB n_ aL) (fX q3 (by rw[aI _];refine(?_:_≤2^24);exact cj (bd (ah (IC _ _) (by rw[dS];exact ar _):(gH Rs nm).length≤Rs.length) (bI c7 aJ))))) (aH (aH ?_)));refine bK (fin _ _ (G.add hn hs h5 c7 (aE xS) (mC ns ns p1 (aE y9) (.inl ⟨by rw[q1];rfl,rfl⟩)) (by rw[dN];exact aS) (λs g6 ne=>(aq λe=>ne (I9 g6 hn e)).trans (ek rfl)) (aU ms m1 (aE uY)) (ik es (aE Gv) (NT.same (λl=>td) (ar _)) J.has mono) (TM.same (λl=>td) td (ar _)) ⟨aE GY,aE Hz⟩ (λk hk a ha=>?_) λk hk=>?_) (λM=>(kq M).trans (M:=M) (.set (k:=40)) (ar _)) λa c=>(aq λz=>jC (lw (Nm.mk.inj z).2).2).trans (ek rfl))
  ·exact(aq (kC hk)).trans (pj k hk a ha)
  ·exact(aq (kC hk)).trans (ek (mU hk))
theorem g9.eq{n:Nat}(I:g9 h es n)(e:∀k l,k≠99→h' (.mk k l)=h (.mk k l)):g9 h' es n:=I.same (λl=>e 44 l bH) (ar _)
theorem GB.eq(G:GB Rs h)(e:∀k l,k≠99→h' (.mk k l)=h (.mk k l)):GB Rs h':=by
 refine⟨(e _ _ bH).trans G.gr,(e _ _ bH).trans G.fg,?_,?_,G.vL.same (λl=>e 41 l bH) (e _ _ bH) (ar _),?_,(e _ _ bH).trans G.first,(e _ _ bH).trans G.nE,(e _ _ bH).trans G.prec,λj h0 hj=>⟨(e _ _ bH).trans (G.pr j h0 hj).1,(e _ _ bH).trans (G.pr j h0 hj).2⟩,
  λj hj=>(cG ((e _ _ bH).trans (G.free j hj).1) ((e _ _ bH).trans (G.free j hj).2.1) ((e _ _ bH).trans (G.free j hj).2.2)),G.shape,G.len,G.pos⟩
 ·obtain⟨es,a,c,d,f⟩:=G.names
  exact(ik es ((e _ _ bH).trans a) c d (λs hs=>⟨λz=>⟨((f s hs).1 z).1,(e _ _ bH).trans ((f s hs).1 z).2⟩,λz=>⟨((f s hs).2 z).1,(e _ _ bH).trans ((f s hs).2 z).2⟩⟩))
 ·obtain⟨es,a,c⟩:=G.map
  exact(aU es ((e _ _ bH).trans a) c)
 ·obtain⟨es,a,c,d⟩:=G.iC
  exact(cK es ((e _ _ bH).trans a) (c.eq e) d)
theorem Kq.G6(k:Kq [] N h h'):∀k l,k≠99→h' (.mk k l)=h (.mk k l):=λk' l hk=>k.1 k' l (by rw[w8,propext Dz];exact⟨k9.mpr hk,rfl⟩)
theorem bp.kq{B:List Nat}(F:bp h N)(kq:∀M,Kq B M h h'):bp h' N:=λk l hk=>((kq (k+1)).2 k l (dq _)).trans (F k l hk)
theorem acv(hb:i.b=b+3)(G:GB Rs h)(B:bp h N)(hn:nm∈a8)(hs:aT∈gn)(h5:∀s∈aT,s∈wE)(GV:(nm,aT)∉Rs.tail)(c7:Rs.length<5)(hl:h l=aa (.list (aT.map .str)))(n8:∃m t,l=.mk 99 (m::t)∧m<N):
  FP i h (.glob 201) [.ref aX,.str nm,.ref l] (λv h'=>v=.none∧∃N',GB (Rs++[(nm,aT)]) h'∧bp h' N'∧N≤N'∧Kq vr N h h'∧∀a c,h' (.mk 40 [a,c])=h (.mk 40 [a,c])):=by
 refine enter i.K.addprod yY w_ap hb rfl ?_;refine d_ n8 λlm tl ax hm=>?_;clear n8;subst ax;refine ab4 hn hs hl (zq lm tl rfl hm) G.vL.1 G.gr B λN1 h1 B1 k1 le=>?_;have G1:=G.eq k1.G6;have tJ:h1 (.mk 99 (lm::tl))=aa (.list (aT.map .str)):=(k1.2 lm tl hm).trans hl;refine SG (b:=b) G1 hn hs tJ GV (Ud (b:=b) G1 hn hs h5 tJ (tz lm tl rfl) λes h2 J mono=>afq (b:=b) G1 hn hs h5 c7 tJ (tz lm tl rfl) J mono λh3 fr G3 k3 Fb=>⟨rfl,N1,G3,B1.kq k3,le,k1.mono.trans (k3 N1) le,λa c=>(Fb a c).trans (k1.1 40 _ rfl)⟩)
theorem Wf{n:Nm}{y:SV}{vs:List SV}{v:SV}{Q:QV}{X:QX}(hn:h n=aa (.list (y::vs)))(hq:Q .none (h.set n (.list (v::vs)))):
  WO G F b fr h [.ref n,.int 0,v] (GH λx y z=>do ux x y z;pure .none) Q X:=by
 refine .mk ?_;intro own ae A P m s Q' E' a5 R hv c d;refine ID hv λ_ _ xv zA zB Em=>?_;refine uN zA λad hm=>?_;refine nc zB λt=>?_;refine R.mK hn hm λxs k h3 h4=>?_;have hl:s.heap.IsList ad.1 xs:=⟨_,h3,rfl,_,rfl⟩;have hsz:=h4.size;rw[iE] at hsz;have fin:=λt'=>c .none _ .none _ _ _ hq .rfl .rfl rfl (R.BY hn hm h3 (·.setIfInBounds 0 xv) (by rw[Array.toList_setIfInBounds];exact h4.set Em 0) t');show aw _ _ (do ux (.ref ad.1) (.int 0 t) xv;pure eH) _ _ _;generalize hk:(0:Int)=kk;refine wb ?_;unfold ux
 try with_reducible refine dM ?_
 first|refine wb (aD ?_)|skip
 refine wb (zR hl.typeIs aW ?_);refine wb (qK (name:=d5 "__setitem__") hl.typeIs ai8
  (i5 ai8 hl.typeIs entry_list_setitem ?_ (args_list_setitem _ _ _)))
 show aw _ _ (al8 (.int kk t) >>=_) _ _ s;refine wb (wpAny_listSubscript_int (Qx (Int.le_of_eq hk) (hk▸aW)) ?_);subst hk;show aw _ _ ((seqItemAt ad.1 0 >>=λr=>pure (r.map (0,·))) >>=_) _ _ s;refine wb (wb (wpAny_seqItemAt h3 rfl (aD ?_)));rw[(jr (lr (ah (lu _ _) (bF hsz))):xs[0]? =aa xs[0])];show aw _ _ (setSeqItemAt ad.1 0 xv >>=_) _ _ s;refine wb (wpAny_setSeqItemAt h3 rfl ?_)
 first
  |exact wb (aD (aD (aU .none rfl (aD (aD (fin s.toks))))))
  |exact aD ⟨.none,rfl,aD (aD (fin s.toks))⟩
variable{y:SV}
theorem Ri{vs:List SV}{kx:Expr}{q pos:Pos}(x:EV i fr h e v ag)(yy:EV i fr ag o (.ref n) aC)(z:EV i fr aC kx (.int 0) cL)(hn:cL n=aa (.list (y::vs)))(b:SS i fr (cL.set n (.list (v::vs))) (rest::k) Q)(ok:autoParam (iq e=ab) bl):
  SS i fr h ((.Assign [.Subscript o kx q] e pos::rest)::k) Q:=
 fH (sZ _ x.ep (λv' aC e fr' s Q' hq=>by refine xA e λcP br=>?_;clear e;subst cP;subst br;exact FL (yy.run fr' s _ _ (z.run fr' s _ _ (Wf hn (hq _ _ (b.run _ s)))))) (by rw[ok];rfl))
structure GW(Rs:bn)(h:SH):Prop where
 gr:h aX=aa (.inst 283 pS)
 fg:h (.mk 35 [])=aa (.list ((bo Rs.length).map bA))
 names:∃es,h (.mk 36 [])=aa (.dict es)∧(∀s∈a8,es.lookup (.str s)=aa (.ref (fY s))∧h (fY s)=aa (.list ((gH Rs s).map bA)))∧∀s,s∉a8→es.lookup (.str s)=af
 term:h (.mk 38 [])=aa (.dict iO)
 iC:∃es,h (.mk 39 [])=aa (.dict es)∧g9 h es 20∧∀s∈a8,(es.lookup (.str s)).isSome=ab
 first:h (.mk 45 [])=aa (.dict [])
 nE:h (.mk 46 [])=aa (.dict [])
 prec:h (.mk 49 [])=aa (.dict [])
 pr:∀j,j<Rs.length→h (bf j)=aa (.inst 100 (iS (bE Rs j) (aG Rs j) j (.mk 66 [j]) .none))∧h (.mk 42 [j])=aa (.list ((gX [] (aG Rs j)).map .str))
noncomputable def Ga:List Nat:=[10,34,35,42,44,66]
theorem Nf:cr (bC 209) ["self","start"]=ab:=by kernel_rfl
theorem w_ss:cY (bC 209) ["Production"]=ab:=by kernel_rfl
theorem aco(hb:i.b=b+3)(G:GB Rs h)(B:bp h N)(h0:bE Rs 0="S'"∧aG Rs 0=[("S":Str)])(h1:1<Rs.length∧bE Rs 1="S")(all:∀s∈a8,∃j,0<j∧j<Rs.length∧bE Rs j=s):
  FP i h (.glob 209) [.ref aX] (λv h'=>v=.none∧∃N',GW Rs h'∧bp h' N'∧N≤N'∧Kq Ga N h h'):=by
 refine enter (b:=b+2) i.K.setstart Nf w_ss hb rfl ?_;refine xA (G.pr 1 pf h1.1) λp1 p2=>?_;have ZM:(SV.none::(bo Rs.length).tail.map bA)[1]? =aa (bA 1):=by
  rw[ai1,dv,Q5,w9 h1.1];rfl
 refine cS (fw (t:=an) (p_ n_ nN)) ?_;refine bM (v:=.str "S") (a_ (n:=bf 1) (mJ (j:=1) (a_ (n:=aX) n_ G.gr) bD (.own G.fg) bg ZM) p1 (ay (λz=>aa (SV.str z)) h1.2)) (aH ?_);obtain⟨ns,n1,n2,n3⟩:=G.iC;have nS:ns.lookup (.str "S")=aa (.ref (fW "S")):=by
  have:=n3 1 pf h1.1;rw[h1.2] at this
  cases e:ns.lookup (.str "S") with
  |none=>rw[e] at this;exact cJ this
  |some v=>refine hG (n2.key _ _ e) λt _ e1 e2 _=>?_;obtain rfl:=Mine.Internal.SV.str.inj e1;rw[e2]
 refine cf (bt n_ (a_ (n:=aX) n_ G.gr) (Ft n1 nS)) (aH ?_);refine jz (G.free 0 (.inl rfl)) λf1 f2 f3=>?_;have vd:([("S":Str)]:List Str)∈gn:=by decide +kernel
 have hh:∀{k l},k≠99→(h.set (gN N) (.list [.str "S"])) (.mk k l)=h (.mk k l):=λ{k l} hk=>aq λe=>hk (Nm.mk.inj e).1;have G2:GB Rs (h.set (gN N) (.list [.str "S"])):=G.eq λk l hk=>hh hk;have Mo:(h.set (gN N) (.list [.str "S"])) (gN N)=aa (.list (([("S":Str)]:List Str).map .str)):=aS;have B2:bp (h.set (gN N) (.list [.str "S"])) (N+1):=B.new _ _;have g8:Kq Ga N h (h.set (gN N) (.list [.str "S"])):=.new (ar _);refine Ri (v:=bA 0) (n:=.mk 35 []) (y:=.none) (vs:=(bo Rs.length).tail.map bA) (b8 (i.K.ref rfl) (i.K.keep rfl) (aB bD (aB cx (aB (eD (n:=gN N) (aB n_ aL) B.at) aL))) (Vg (i:=i.fn (b+2) 209 ["self","start"] ["Production"] Nf w_ss) (b:=b) (j:=0) (nm:="S'") (l:=gN N) rfl (dA) vd Mo ((hh bH).trans f1) ((hh bH).trans f2) ((hh bH).trans f3)).cp) (a_ (n:=aX) n_ (aE (aE (aE G2.gr)))) bD (aE (aE (aE G2.fg))) ?_;have D6:g9 (h.set (gN N) (.list [.str "S"])) ns (3*Rs.length):=n2.same (λl=>hh bH) (ar _);have D1:(h.set (gN N) (.list [.str "S"])) (.mk 39 [])=aa (.dict ns):=(hh bH).trans n1;generalize h.set (gN N) (.list [.str "S"])=hA at G2 Mo B2 g8 D6 D1 ⊢;refine xj (D6.key _ _ nS) λt _ e1 _ vs hv yA=>?_;obtain rfl:=Mine.Internal.SV.str.inj e1;have c7:=G.len;refine fG (di (gV (a_ (n:=aX) n_ (aE (aE (aE (aE G2.gr))))) n_ (aE (aE (aE (aE D1)))) nS) (fS (aE (aE (aE (aE hv))))) iB (aB bD aL) (fX (aE (aE (aE (aE hv)))) (by refine(?_:_≤2^24);exact ah yA (ah (pB _ c7) aJ)))) ?_;refine jA (n:=aX) n_ n_ (aE (aE (aE (aE (aE G2.gr))))) aJ ?_;refine aH (bK ⟨rfl,N+1,⟨aS,aE (aE ?_),?_,aE (aE (aE (aE (aE (aE G2.vL.1))))),?_,aE (aE (aE (aE (aE (aE G2.first))))),aE (aE (aE (aE (aE (aE G2.nE))))),aE (aE (aE (aE (aE (aE G2.prec))))),λj hj=>?_⟩,?_,bR _,?_⟩)
 ·rw[aS]
  congr 2
  have:=G.pos
  cases hR:bo Rs.length with
  |nil=>have z:=ay oq hR;rw[dS] at z;exact bc (show 0<Rs.length from by assumption) (z▸fo 0)
  |cons a r=>
   have:a=0:=by
    have z:=ay (·[0]?) hR;rw[w9 G.pos] at z;exact(aY z).symm
   rw[this];rfl
 ·obtain⟨es,a1,a2,a3,a4⟩:=G2.names
  refine(cK es (aE (aE (aE (aE (aE (aE a1)))))) (λs hs=>?_) (λs hs=>lU.mpr λz=>?_))
  ·refine bG (all s hs) λj j0 jl je=>?_
   have hp:gH Rs s≠[]:=λz=>by
    have:j∈gH Rs s:=m9.mpr ⟨dR.mpr jl,by rw[eQ je,eQ (ai6.mp j0)];rfl⟩;rw[z] at this;exact cT this
   exact⟨((a4 s hs).1 hp).1,aE (aE (aE (aE (aE (aE ((a4 s hs).1 hp).2)))))⟩
  ·refine aj (a3 _ z) λt ht e=>?_
   injection e with e;exact hs (e▸ht)
 ·refine(cK ns (aE (aE (aE (aE (aE (aE D1)))))) ?_ (λs hs=>?_))
  ·have:=(D6.same (h':=((((hA.set (.mk 42 [0]) (.list ((gX [] [("S":Str)]).map .str))).set (.mk 66 [0]) (.list [])).set (bf 0) (.inst 100 (iS "S'" [("S":Str)] 0 (.mk 66 [0]) .none))).set (.mk 35 []) (.list (bA 0::(bo Rs.length).tail.map bA)))) (λl=>aE (aE (aE (aE rfl)))) (ar _)).app (x:=.int 0) (dA:("S":Str)∈a8) nS (aE (aE (aE (aE hv))))
   exact this.same (λl=>td) (sH (bd (pB _ c7) bg))
  ·refine bG (all s hs) λj j0 jl je=>?_
   rw[←je];exact n3 j j0 jl
 ·rcases sJ j with rfl|j0
  ·rw[h0.1,h0.2]
   exact⟨aE (aE (aE aS)),aE (aE (aE (aE (aE aS))))⟩
  ·have z:=G2.pr j j0 hj
   have ne:∀k,Nm.mk k [j]≠.mk k [0]:=λk e=>by injection e with _ e;injection e with e;exact dG ‹_› ‹_›
   exact⟨aE (aE (aE ((aq (ne 10)).trans (aE (aE z.1))))),aE (aE (aE (aE (aE ((aq (ne 42)).trans z.2)))))⟩
 ·exact B2.kq (B:=Ga) λM=>(((((Kq.set (k:=42)).trans (M:=M) (Kq.set (k:=66)) (ar _)).trans (M:=M) (Kq.set (k:=10)) (ar _)).trans (M:=M) (Kq.set (k:=35)) (ar _)).trans (M:=M) (Kq.set (k:=44)) (ar _)).trans (M:=M) (Kq.set (k:=34)) (ar _)
 ·exact(((((g8.trans (M:=N) (Kq.set (k:=42)) (ar _)).trans (M:=N) (Kq.set (k:=66)) (ar _)).trans (M:=N) (Kq.set (k:=10)) (ar _)).trans (M:=N) (Kq.set (k:=35)) (ar _)).trans (M:=N) (Kq.set (k:=44)) (ar _)).trans (M:=N) (Kq.set (k:=34)) (ar _)
theorem RJ:cr (bC 83) ["self"]=ab:=by kernel_rfl
theorem w_pl:cY (bC 83) ["len"]=ab:=by kernel_rfl
theorem Vs{fs:SF}{vs:List SV}(hb:i.b=b+2)(hn:h n=aa (.inst 100 fs))(hp:fs.lookup ("prod":Str)=aa (.tup vs))(hz:vs.length≤1000):CP i h (.bi "len") [.ref n] (is (.int vs.length) h):=
 Zi hb hn (bd ‹_› bg) (enter (b:=b) i.K.plen RJ w_pl rfl rfl (gA (b8 (i.K.bi rfl) rfl (aB (a_ (n:=n) n_ hn hp) aL) (AN (bd ‹_› bg))) ⟨rfl,rfl⟩))
theorem R4:cr (bC 118) ["self","p","n"]=ab:=by kernel_rfl
theorem w_li:cY (bC 118) ["list","tuple","len"]=ab:=by kernel_rfl
theorem aa9{vs:List SV}(hn:h n=aa (.list vs)):MV i h (.ref n) "insert" (.bi "list.insert"):=⟨λfr'=>HA hn ahe PySem.F.type_list_insert⟩
theorem RA{vs:List SV}(hn:h n=aa (.list vs))(hz:vs.length≤cR)(hd:d≤vs.length):CP i h (.bi "list.insert") [.ref n,.int d,v] (is .none (h.set n (.list (vs.take d++v::vs.drop d)))):=⟨λfr' Q X hq=>UV hn hz hd (hq _ _ ⟨rfl,rfl⟩)⟩
theorem NS{vs:List SV}(hz:vs.length≤cR)(hn:h n=af):CP i h (.ty "list") [.tup vs] (is (.ref n) (h.set n (.list vs))):=⟨λfr' Q X hq=>Ts (.inr rfl) hz hn (hq _ _ ⟨rfl,rfl⟩)⟩
noncomputable def zd(R:bn)(q:aF):SF:=(dY R q).take 7
noncomputable def u_(h:SH)(N:Nat)(R:bn)(q:aF):SH:=((h.set (gN N) (.list ((iK R q).map .str))).set (.mk 60 [q.1,q.2]) (.dict [])).set (bj q) (.inst 135 (zd R q))
theorem UA{q:aF}:((aG R q.1).map SV.str).take q.2++SV.str "."::((aG R q.1).map SV.str).drop q.2=(iK R q).map .str:=by
 unfold iK;rw[dN,sI,Im,zZ]
theorem E9{q:aF}(hq:q.2≤(aG R q.1).length):(iK R q).length=(aG R q.1).length+1:=by
 unfold iK;rw[cU,iE,jH,zX,sA hq];exact ay (· +1) (uv hq)
theorem aa8{fs:SF}{q:aF}(hb:i.b=b+2)(hp:h (bf q.1)=aa (.inst 100 fs))(f1:fs.lookup ("name":Str)=aa (.str (bE R q.1)))(f2:fs.lookup ("prod":Str)=aa (.tup ((aG R q.1).map .str)))(f3:fs.lookup ("number":Str)=aa (.int q.1))(f4:fs.lookup ("usyms":Str)=aa (.ref (.mk 42 [q.1])))
  (hq:q.2≤(aG R q.1).length) (hz:(aG R q.1).length≤100) (B:bp h N) (U2:h (.mk 60 [q.1,q.2])=af) (hi:h (bj q)=af):FP i h (.glob 135) [.ref (bf q.1),.int q.2] (is (.ref (bj q)) (u_ h N R q)):=by
 refine cls (b:=b+1) (fI:=118) (n:=bj q) rfl hb hi (enter (b:=b) i.K.iteminit R4 w_li rfl rfl ?_);have hz2:((aG R q.1).map SV.str).length≤100:=by rw[aI _];exact hz
 have p0:∀iW,(h.set (bj q) (.inst 135 iW)) (bf q.1)=aa (.inst 100 fs):=λiW=>aE hp;refine fJ (a_ (n:=bf q.1) n_ (p0 _) f1) n_ ?_;refine j9 (m:=gN N) (b8 (i.K.ty rfl) rfl (aB (a_ (n:=bf q.1) n_ (p0 _) f2) aL) (NS (by refine(?_:_≤2^24);exact ah ‹_› aJ) (aE B.at))) az n_ ?_;refine fJ (a_ (n:=bf q.1) n_ ((λiW=>aE (aE hp):∀iW,((h.set (gN N) (.list ((aG R q.1).map .str))).set (bj q) (.inst 135 iW)) (bf q.1)=aa (.inst 100 fs)) _) f3) n_ ?_;refine fJ n_ n_ ?_;refine j9 (m:=.mk 60 [q.1,q.2]) (g7 (aE (aE U2))) az n_ ?_;have hl:∀iW,((((h.set (gN N) (.list ((aG R q.1).map .str))).set (.mk 60 [q.1,q.2]) (.dict [])).set (bj q) (.inst 135 iW))) (gN N)=aa (.list ((aG R q.1).map .str)):=λiW=>aE (aE aS);refine fG (di (a_ (n:=bj q) n_ aS) (aa9 (hl _)) rfl (aB n_ (aB cx aL)) (RA (hl _) (by refine(?_:_≤2^24);exact ah ‹_› aJ) (by rw[aI _];exact hq))) ?_;rw[UA];have sw:∀iW (l:List SV),((((h.set (gN N) (.list ((aG R q.1).map .str))).set (.mk 60 [q.1,q.2]) (.dict [])).set (bj q) (.inst 135 iW))).set (gN N) (.list l)=(((h.set (gN N) (.list l)).set (.mk 60 [q.1,q.2]) (.dict [])).set (bj q) (.inst 135 iW)):=λiW l=>by
  rw[Ab (n:=bj q) (m:=gN N) az,Ra (n:=.mk 60 [q.1,q.2]) (m:=gN N) az]
 rw[sw _ _];have dz:((iK R q).map SV.str).length=(aG R q.1).length+1:=by rw[aI _];exact(E9 hq)
 refine fJ (v:=.tup ((iK R q).map .str)) (b8 (i.K.ty rfl) rfl (aB (a_ (n:=bj q) n_ aS) aL) (AI (.own (aE (aE aS))) (by refine(?_:_≤2^24);exact ah (bF dz) (sH (bd hz bg))))) n_ ?_;refine fJ (v:=.int ((aG R q.1).length+1:Nat)) (b8 (i.K.bi rfl) rfl (aB (a_ (n:=bj q) n_ aS) aL) (Gc dz (bd (bF dz) (pC (bd hz bg))))) n_ ?_;refine fJ (a_ (n:=bf q.1) n_ (aE (aE (aE hp))) f4) n_ ?_;exact aH (bK (cG rfl rfl rfl))
noncomputable def Hr:List Str:=["self","p","lastlri","i","lr_items","lri"]
theorem FN:cr (bC 280) Hr=ab:=by kernel_rfl
theorem w_bl:cY (bC 280) ["len","LRItem","IndexError","KeyError"]=ab:=by kernel_rfl
noncomputable def kG(i:FI)(b:Nat):FI:=i.fn (b+2) 280 Hr ["len","LRItem","IndexError","KeyError"] FN w_bl
noncomputable def aeo(s:bx):List bx:=(kS s).1
noncomputable def Sk:List bx:=ew (stN (ba 280) 0)
noncomputable def D9:List bx:=ew (stN Sk 3)
noncomputable def vm:List bx:=xc (stN D9 0)
theorem No(hs:(aG R q.1)[q.2]? =aa s):dQ R q=gH R s:=by unfold dQ gH;rw[hs]
theorem ν(hs:(aG R q.1)[q.2]? =af):dQ R q=[]:=by unfold dQ;rw[hs]
def Ai(R:bn)(h:SH):Prop:=∃es,h (.mk 36 [])=aa (.dict es)∧(∀s∈a8,es.lookup (.str s)=aa (.ref (fY s))∧h (fY s)=aa (.list ((gH R s).map bA)))∧∀s,s∉a8→es.lookup (.str s)=af
theorem wc:qj s=ab↔s∈a8:=e9
theorem YN(hR:∀j,0<j→j<R.length→bE R j∈a8)(hs:s∉a8):gH R s=[]:=List.filter_eq_nil_iff.mpr λj hj z=>by
 rw[bO,h_,h_] at z;exact hs (z.2▸hR j (oh z.1) (dR.mp hj))
theorem acu(hR:∀j,0<j→j<R.length→bE R j∈a8)(hq:q.2≤(aG R q.1).length)(hz:(aG R q.1).length≤100)(hg:h aX=aa (.inst 283 pS))(T:Ai R h)(hi:h (bj q)=aa (.inst 135 (zd R q)))(Ξ:h (.mk 40 [q.1,q.2])=af)
  (f1:fr.lookup ("self":Str)=aa (.ref aX)) (f2:fr.lookup ("lri":Str)=aa (a9 q)) (f3:fr.lookup ("i":Str)=aa (.int q.2))
  (fin:∀h',h' (bj q)=aa (.inst 135 ((dY R q).take 8))→h' (gL R q)=aa (.list ((dQ R q).map bA))→(∀x,x≠bj q→x≠.mk 40 [q.1,q.2]→h' x=h x)→SS (kG i b) fr h' (vm.drop 2::k) Q):
  SS (kG i b) fr h (vm.drop 1::k) Q:=by
 refine bG T λes e1 e2 e3=>?_;clear T
 have Pr:∀(x:String),SX (kG i b) fr h (aeo (stN vm 1)) x h→XM i.G x (.tup [.ty "IndexError",.ty "KeyError"]) ab→(x≠"tuple"∧x≠"range")→dQ R q=[]→we R q=[q.1,q.2]→SS (kG i b) fr h (vm.drop 1::k) Q:=λx sx xm hx ea el=>by
  refine Nx (x:=x) (c:=.tup [.ty "IndexError",.ty "KeyError"]) (ag:=h) (aC:=(h.set (.mk 40 [q.1,q.2]) (.list [])).set (bj q) (.inst 135 ((dY R q).take 8))) (bw:=fr) sx hx (λfr'=>?_) xm (λfr' s pT hq=>?_) (fin _ aS ?_ λx n1 n2=>(aq n1).trans (aq n2))
  ·exact tuple (wx rfl) (ue (WV.imp (II (i:=kG i b) (i.K.ty rfl) rfl fr' h) (λv h' ⟨z1,z2⟩=>by subst z1;subst z2;exact ue (WV.imp (II (i:=kG i b) (i.K.ty rfl) rfl fr' h') (λv h' ⟨z1,z2⟩=>by subst z1;subst z2;exact tC (cG rfl rfl rfl)) λ_ _ z=>z)) λ_ _ z=>z))
  ·have ha:gL R q=.mk 40 [q.1,q.2]:=ay (Nm.mk 40) el
   refine xY (CA (list (wx rfl) (tC (rO rfl (.mk 40 [q.1,q.2]) Ξ (JX (nv (l:=Hr) FN (s _ _ f2) (Fj i.K rfl (aE hi) (jG rfl) ?_)))))));rw[show(zd R q).put "lr_after" (.ref (.mk 40 [q.1,q.2]))=(dY R q).take 8 from by rw[←ha];rfl];exact vU (hq fr' s)
  ·rw[show gL R q=.mk 40 [q.1,q.2] from ay (Nm.mk 40) el,ea]
   exact aE aS
 have pr:(zd R q).lookup ("prod":Str)=aa (.tup ((iK R q).map .str)):=rfl;have dl:((iK R q).map SV.str).length=(aG R q.1).length+1:=by rw[aI _];exact E9 hq
 cases hs:(aG R q.1)[q.2]? with
 |none=>
  have Al:=km.mp hs;refine Pr "IndexError" (LI (abt (a_ (n:=aX) (n_ f1) hg) (RL (j:=q.2+1) (a_ (n:=bj q) (n_ f2) hi pr) (fK (n_ f3) bD nZ) (pC (bd hq (bd hz bg))) (by rw[dl];exact eG ‹_›)))) RF Zt (ν hs) (by unfold we;rw[hs])
 |some s=>
  have hlt:=(cV.mp hs).1
  by_cases hn:s∈a8
  ·have ha:gL R q=fY s:=by unfold gL we fY;rw[hs];dsimp only;rw[aP (wc.mpr hn)]
   refine Gq (jA (n:=bj q) (v:=.ref (fY s)) (gV (a_ (n:=aX) (n_ f1) hg) (mI (j:=q.2+1) (a_ (n:=bj q) (n_ f2) hi pr) (fK (n_ f3) bD nZ) (pC (bI hlt (ah hz aJ))) (EY hs)) e1 (e2 s hn).1) (n_ f2) hi (jG rfl) (aH ?_));rw[show(zd R q).put "lr_after" (.ref (fY s))=(dY R q).take 8 from by rw[←ha];rfl];refine fin _ aS ?_ λx n1 n2=>aq n1;rw[ha,No hs];exact aE (e2 s hn).2
  ·refine Pr "KeyError" (LI (JE (a_ (n:=aX) (n_ f1) hg) (mI (j:=q.2+1) (a_ (n:=bj q) (n_ f2) hi pr) (fK (n_ f3) bD nZ) (pC (bI hlt (ah hz aJ))) (EY hs)) e1 (e3 s hn))) abr Kc (by rw[No hs,YN hR hn]) ?_
   have:qj s=an:=by cases z:qj s with|false=>rfl|true=>exact bc (wc.mp z) hn
   unfold we;rw[hs];dsimp only;rw[this];rfl
theorem Wd{vs:List SV}{kx:Expr}{pos:Pos}{z:Int}{j:Nat}(a:EV i fr h e (.tup vs) ag)(b:EV i fr ag kx (.int z) aC)(h1:-1≤z)(h2:z<1000)(hj:oz z vs.length=aa j)(hv:vs[j]? =aa v)(ok:autoParam (qa kx) jg):EV i fr h (.Subscript e kx pos) v aC:=
 yW a b .tup ⟨λfr' Q X hq=>Mf (DB aW h1) (sv h2 aW) hj hv hq⟩ ok
theorem YG(hq:q.2≤(aG R q.1).length):∃j,oz ((q.2:Int) - 1) ((iK R q).map SV.str).length=aa j∧((iK R q).map SV.str)[j]? =aa (.str (wa R q)):=by
 have dl:=E9 hq;unfold wa;rcases sJ q.2 with z|z
 ·rw[aP z,z]
  refine(aU ((aG R q.1).length) ?_ ?_)
  ·rw[aI _,dl];exact X6
  ·rw[dv,show(aG R q.1).length=(iK R q).length-1 from(ay (· - 1) dl).symm,←List.getLast?_eq_getElem?]
   cases hd:(iK R q).getLast? with
   |none=>rw[List.getLast?_eq_none_iff] at hd;rw[hd] at dl;cases dl
   |some s=>rw[List.getLastD_eq_getLast?,hd];rfl
 ·rw[aK (dG z)]
  have lt:q.2-1<q.2:=sn z pf;have hlt:q.2-1< (aG R q.1).length:=bI lt hq;refine(aU (q.2-1) ?_ ?_)
  ·rw[aI _,dl,show(q.2:Int) - 1=((q.2-1:Nat):Int) from(Int.natCast_sub z).symm];exact Hh (pE hlt)
  ·unfold iK
   rw[dv,Di (jH▸Nat.lt_min.mpr ⟨lt,hlt⟩),List.getElem?_take,aP lt,fb hlt];rfl
theorem acg(hq:q.2≤(aG R q.1).length)(hz:(aG R q.1).length≤100)(hi:h (bj q)=aa (.inst 135 ((dY R q).take 8)))
  (f2:fr.lookup ("lri":Str)=aa (a9 q)) (f3:fr.lookup ("i":Str)=aa (.int q.2))
  (fin:SS (kG i b) fr (h.set (bj q) (.inst 135 ((dY R q).take 9))) ([]::k) Q):SS (kG i b) fr h (vm.drop 2::k) Q:=by
 refine aj (YG hq) λj hj hv=>?_;exact Gq (jA (n:=bj q) (v:=.str (wa R q)) (Wd (a_ (n:=bj q) (n_ f2) hi) (fK (n_ f3) bD CE) (Int.sub_le_sub_right (jq q.2) 1) (ago (Int.sub_le_self _ aW) (ib.mpr (bd hq (bd hz bg)))) hj hv) (n_ f2) hi (jG rfl) (aH fin))
def Zl(R:bn)(h:SH)(q:aF):Prop:=h (bj q)=aa (.inst 135 (dY R q))∧h (gL R q)=aa (.list ((dQ R q).map bA))
structure BJ(R:bn)(aN:Nat)(aA:SH)(j d N:Nat)(h:SH):Prop where
 kq:Kq [10,20,40,43,60] aN aA h
 sP:∀x,h (.mk 40 [x])=aA (.mk 40 [x])
 done:∀q,cX R q→q.1<j∨(q.1=j∧q.2+1<d)→Zl R h q
 kY:∀j',j'<j→j'<R.length→h (bf j')=aa (.inst 100 (gd R j'))∧h (.mk 43 [j'])=aa (.list ((bo ((aG R j').length+1)).map λd=>a9 (j',d)))
 Br:∀j',j<j'→h (bf j')=aA (bf j')
 fresh:∀a d',j<a∨(a=j∧d≤d')→h (bj (a,d'))=af∧h (.mk 60 [a,d'])=af∧h (.mk 40 [a,d'])=af
 B9:∀a,j<a→h (.mk 43 [a])=af
 free:bp h N
 le:aN≤N
structure BW(R:bn)(aN:Nat)(aA:SH)(j d N:Nat)(h:SH):Prop extends BJ R aN aA j d N h where
 pr:h (bf j)=aa (.inst 100 (iS (bE R j) (aG R j) j (.mk 66 [j]) (if d=0 then .none else a9 (j,0))))
 lst:h (.mk 43 [j])=aa (.list ((bo d).map λd'=>a9 (j,d')))
 last:0<d→h (bj (j,d-1))=aa (.inst 135 ((dY R (j,d-1)).take 9))∧h (gL R (j,d-1))=aa (.list ((dQ R (j,d-1)).map bA))
noncomputable def yp(j d:Nat):SF:=[("self",.ref aX),("p",bA j),("lastlri",if d=0 then bA j else a9 (j,d-1)),("i",.int d),("lr_items",.ref (.mk 43 [j]))]
structure BS where
 d:Nat
 N:Nat
 h:SH
theorem tc{p q:aF}(e:bj p=bj q):p=q:=by injection e with _ e;injection e with e1 e;injection e with e2 _;exact jw e1 e2
theorem xB{q:aF}:gL R q=.mk 40 [q.1,q.2]∨∃x,gL R q=.mk 40 [x]:=by
 unfold gL we
 split
 ·split
  ·exact .inr ⟨_,rfl⟩
  ·exact .inl rfl
 ·exact .inl rfl
variable{h5:SH}
theorem ni{k k':Nat}{a c:List Nat}(h:a≠c):Nm.mk k a≠.mk k' c:=λe=>h (Nm.mk.inj e).2
theorem BW.step(W:BW R aN aA j d N h)(hd:d≤(aG R j).length)(E:∀x,x≠gN N→x≠.mk 60 [j,d]→x≠bj (j,d)→x≠.mk 40 [j,d]→(x≠bf j)→(0<d→x≠bj (j,d-1))→x≠.mk 43 [j]→h5 x=h x)
  (e1:h5 (bj (j,d))=aa (.inst 135 ((dY R (j,d)).take 9))) (e2:h5 (gL R (j,d))=aa (.list ((dQ R (j,d)).map bA))) (e3:h5 (.mk 43 [j])=aa (.list ((bo (d+1)).map λd'=>a9 (j,d'))))
  (e4:h5 (bf j)=aa (.inst 100 (iS (bE R j) (aG R j) j (.mk 66 [j]) (a9 (j,0))))) (e5:0<d→h5 (bj (j,d-1))=aa (.inst 135 (dY R (j,d-1)))) (kq:Kq [10,20,40,43,60] N h h5) (free:bp h5 (N+1)):BW R aN aA j (d+1) (N+1) h5:=by
 have vN:∀l:List Nat,l≠[j,d]→h5 (.mk 40 l)=h (.mk 40 l):=λl hl=>E _ az az az (ni hl) az (λ_=>az) az;have JC:∀q:aF,q≠(j,d)→h5 (gL R q)=h (gL R q):=λq hq=>by
  rcases xB (R:=R) (q:=q) with e|⟨x,e⟩<;>rw[e]
  ·exact vN _ λz=>hq (by injection z with z1 z;injection z with z2;exact jw z1 z2)
  ·exact vN _ λz=>by injection z with _ z;exact wk z
 refine⟨⟨W.kq.trans kq W.le,λx=>(vN [x] λz=>by injection z with _ z;exact wk z).trans (W.sP x),λq hq hc=>?_,λj' fh hl=>?_,λj' fh=>?_,λa d' hc=>?_,λa ha=>?_,free,c8 W.le⟩,?_,e3,λ_=>⟨e1,e2⟩⟩
 ·by_cases hz:0<d∧q=(j,d-1)
  ·refine xA hz λh0 br=>?_;clear hz;subst br
   exact⟨e5 h0,(JC _ λz=>by injection z with _ z;exact ma (bF z.symm) (sn h0 bg)).trans (W.last h0).2⟩
  ·have ga:q.1<j∨(q.1=j∧q.2+1<d):=by
    rcases hc with hc|⟨nY,rH⟩
    ·exact .inl hc
    ·refine .inr ⟨nY,?_⟩
     have:¬(q.2+1=d):=λz=>hz ⟨by exact Is (bd (lu _ _) rH),jw nY (by show q.2=d-1;exact Nat.eq_sub_of_add_eq z)⟩;exact wO (eS rH) this
   have dg:q≠(j,d):=λz=>by subst z;exact ga.elim (fo _) λw=>ma (bR _) w.2
   have:=W.done q hq ga;exact⟨(E _ az az (λz=>dg (tc z)) az az (λh0 z=>hz ⟨h0,tc z⟩) az).trans this.1,(JC q dg).trans this.2⟩
 ·have:=W.kY j' fh hl
  exact⟨(E _ az az az az (ni λz=>by injection z with z;exact mi fh (bF z.symm)) (λ_=>az) az).trans this.1,(E _ az az az az az (λ_=>az) (ni λz=>by injection z with z;exact mi fh (bF z.symm))).trans this.2⟩
 ·exact(E _ az az az az (ni λz=>by injection z with z;exact dG ‹_› ‹_›) (λ_=>az) az).trans (W.Br j' fh)
 ·have dg:(a,d')≠(j,d):=λz=>by injection z with z1 z2;exact hc.elim (λw=>dG w z1) λw=>mi w.2 (bF z2)
  have hl:[a,d']≠[j,d]:=λz=>by injection z with z1 z;injection z with z2;exact dg (jw z1 z2)
  have:=W.fresh a d' (hc.imp id λw=>⟨w.1,gg w.2⟩);exact(cG ((E _ az az (λz=>dg (tc z)) az az (λh0 z=>by have:=tc z;injection this with z1 z2;exact hc.elim (λw=>dG w z1) λw=>mi w.2 (ah (bF z2) (ku _ _))) az).trans this.1) ((E _ az (ni hl) az az az (λ_=>az) az).trans this.2.1) ((vN _ hl).trans this.2.2))
 ·exact(E _ az az az az az (λ_=>az) (ni λz=>by injection z with z;exact dG ‹_› ‹_›)).trans (W.B9 a ha)
 ·rw[aK (z0 d)];exact e4
theorem BW.stop(W:BW R aN aA j ((aG R j).length+1) N h)(E:∀x,x≠bf j→x≠bj (j,(aG R j).length)→h5 x=h x)(hj:j<R.length)
  (e4:h5 (bf j)=aa (.inst 100 (gd R j))) (e5:h5 (bj (j,(aG R j).length))=aa (.inst 135 (dY R (j,(aG R j).length)))) (kq:Kq [10,20,40,43,60] N h h5) (free:bp h5 N):BJ R aN aA (j+1) 0 N h5:=by
 have ea:∀q:aF,h5 (gL R q)=h (gL R q):=λq=>E _ az az;refine⟨W.kq.trans kq W.le,λx=>(E _ az az).trans (W.sP x),λq hq hc=>?_,λj' fh hl=>?_,λj' fh=>?_,λa d' hc=>?_,λa ha=>?_,free,W.le⟩
 ·by_cases hz:q=(j,(aG R j).length)
  ·subst hz
   exact⟨e5,(ea _).trans (W.last (dK _)).2⟩
  ·have ga:q.1<j∨(q.1=j∧q.2+1< (aG R j).length+1):=by
    rcases Qk q.1 j with z|z
    ·exact .inl z
    ·have z1:q.1=j:=qQ (hc.elim (λw=>eS w) λw=>bc w.2 (m5 _)) z
     refine .inr ⟨z1,?_⟩;have h2:=hq.2;rw[z1] at h2;have:q.2≠(aG R j).length:=λz2=>hz (jw z1 z2);exact pC (wO h2 this)
   have:=W.done q hq ga;exact⟨(E _ az λz=>hz (tc z)).trans this.1,(ea q).trans this.2⟩
 ·rcases wP (eS fh) with rfl|hlt
  ·exact⟨e4,(E _ az az).trans W.lst⟩
  ·have:=W.kY j' hlt hl
   exact⟨(E _ (ni λz=>by injection z with z;exact du ‹_› ‹_›) az).trans this.1,(E _ az az).trans this.2⟩
 ·exact(E _ (ni λz=>by injection z with z;exact mi fh (c8 (bF z))) az).trans (W.Br j' (cj ‹_›))
 ·have:=W.fresh a d' (.inl (hc.elim (λw=>oy w) λw=>lr (bF w.1.symm)))
  exact(cG ((E _ az (λz=>by have:=tc z;injection this with z1 z2;exact dG (hc.elim (λw=>oy w) λw=>lr (bF w.1.symm)) z1)).trans this.1) ((E _ az az).trans this.2.1) ((E _ az az).trans this.2.2))
 ·exact(E _ az az).trans (W.B9 a (cj ‹_›))
noncomputable def vb:List Nat:=[10,20,40,43,60]
structure yN(R:bn)(h:SH):Prop where
 g:GW R h
 nt:∀j,0<j→j<R.length→bE R j∈a8
 len:R.length≤5
 bu:∀j,(aG R j).length≤2
theorem MN{h':SH}(G:yN R aA)(kq:Kq vb N aA h')(sP:∀x,h' (.mk 40 [x])=aA (.mk 40 [x])):Ai R h':=by
 obtain⟨es,a,c,d⟩:=G.g.names;exact⟨es,(kq.1 _ _ rfl).trans a,λs hs=>⟨(c s hs).1,(sP _).trans (c s hs).2⟩,d⟩
theorem ad6{w:BS}(G:yN R aA)(W:BW R aN aA j w.d w.N w.h)(hj:j<R.length)(hd:w.d≤(aG R j).length){rest:List bx}
  (fin:∀h5 fr',BW R aN aA j (w.d+1) (w.N+1) h5→(yp j (w.d+1)).sub fr'→SS (kG i b) fr' h5 ([]::k) Q):
  SS (kG i b) (yp j w.d) w.h (vm::D9.drop 1::k) Q:=by
 obtain⟨d,N,h⟩:=w;dsimp only at W hd fin ⊢;have hz:=G.bu j;refine jz (W.fresh j d (.inr ⟨rfl,ar _⟩)) λfI f60 Y1=>?_;refine bM (v:=a9 (j,d)) (b8 (i.K.ref rfl) (i.K.keep rfl) (aB n_ (aB n_ aL)) (aa8 (i:=kG i b) (q:=(j,d)) (b:=b) (N:=N) rfl W.pr rfl rfl rfl rfl hd (by show(aG R j).length≤100;exact ah ‹_› aJ) W.free f60 fI).cp) ?_;have j_:Kq vb N h (u_ h N R (j,d)):=((Kq.new (ar _)).trans (M:=N) (.set (k:=60)) (ar _)).trans (M:=N) (.set (k:=20)) (ar _);have F1:bp (u_ h N R (j,d)) (N+1):=(W.free.new [] _).same λk l _=>aE (aE rfl);refine acu (q:=(j,d)) G.nt hd (by show(aG R j).length≤100;exact ah ‹_› aJ) ((j_.1 _ _ rfl).trans ((W.kq.1 _ _ rfl).trans G.g.gr:h aX=aa (.inst 283 pS))) (MN G (W.kq.trans j_ W.le) λx=>(aE (aE (aE rfl)):u_ h N R (j,d) (.mk 40 [x])=h (.mk 40 [x])).trans (W.sP x):Ai R (u_ h N R (j,d))) aS (aE (aE (aE Y1))) rfl rfl rfl λh2 a1 a2 E2=>?_;refine acg (q:=(j,d)) hd (by show(aG R j).length≤100;exact ah ‹_› aJ) a1 rfl rfl (aH ?_);have i3:(h2.set (bj (j,d)) (.inst 135 ((dY R (j,d)).take 9))) (bj (j,d))=aa (.inst 135 ((dY R (j,d)).take 9)):=aS;have a3:(h2.set (bj (j,d)) (.inst 135 ((dY R (j,d)).take 9))) (gL R (j,d))=aa (.list ((dQ R (j,d)).map bA)):=by
  rcases xB (R:=R) (q:=(j,d)) with e|⟨x,e⟩<;>rw[e] at a2 ⊢<;>exact aE a2
 have E3:∀x,x≠gN N→x≠.mk 60 [j,d]→x≠bj (j,d)→x≠.mk 40 [j,d]→(h2.set (bj (j,d)) (.inst 135 ((dY R (j,d)).take 9))) x=h x:=λx n1 n2 n3 n4=>(aq n3).trans ((E2 x n3 n4).trans ((λx n1 n2 n3=>(aq n3).trans ((aq n2).trans (aq n1)):∀x,x≠gN N→x≠.mk 60 [j,d]→x≠bj (j,d)→u_ h N R (j,d) x=h x) x n1 n2 n3));have Hp:Kq vb N h (h2.set (bj (j,d)) (.inst 135 ((dY R (j,d)).take 9))):=⟨λk l hk=>by
  have f:∀a,(99::vb).contains a=ab→k≠a:=λa ha=>iy hk ha;exact E3 _ (λe=>f 99 rfl (Nm.mk.inj e).1) (λe=>f 60 rfl (Nm.mk.inj e).1) (λe=>f 20 rfl (Nm.mk.inj e).1) (λe=>f 40 rfl (Nm.mk.inj e).1),λk l hk=>E3 _ (λe=>by have:=mv e;exact du ‹_› ‹_›) az az az⟩
 have F3:bp (h2.set (bj (j,d)) (.inst 135 ((dY R (j,d)).take 9))) (N+1):=λk l hk=>(E3 _ (λe=>by have:=mv e;exact dG ‹_› ‹_›) az az az).trans (W.free k l (cj ‹_›));generalize h2.set (bj (j,d)) (.inst 135 ((dY R (j,d)).take 9))=h3 at i3 a3 E3 Hp F3 ⊢
 have Ki:∀h4,h4 (bj (j,d))=aa (.inst 135 ((dY R (j,d)).take 9))→h4 (gL R (j,d))=aa (.list ((dQ R (j,d)).map bA))→(∀x,x≠bf j→(0<d→x≠bj (j,d-1))→h4 x=h3 x)→h4 (bf j)=aa (.inst 100 (iS (bE R j) (aG R j) j (.mk 66 [j]) (a9 (j,0))))→(0<d→h4 (bj (j,d-1))=aa (.inst 135 (dY R (j,d-1))))→
   SS (kG i b) ((yp j d).put "lri" (a9 (j,d))) h4 (D9.drop 2::k) Q:=λh4 b1 b2 E4 b4 b5=>by
  refine cf (fw (t:=ab) (p_ n_ (Ee (n:=bj (j,d)) b1))) (aH ?_);have hl:h4 (.mk 43 [j])=aa (.list ((bo d).map λd'=>a9 (j,d'))):=(E4 _ az λ_=>az).trans ((E3 _ az az az az).trans W.lst);refine fG (di n_ (fS hl) iB (aB n_ aL) (fX hl (by rw[aI _,dS];refine(?_:_≤2^24);exact ah (ah ‹_› ‹_›) aJ))) ?_;refine bM n_ (y0 rfl bD wA ?_);refine fin _ _ (W.step (N:=N) hd (λx n1 n2 n3 n4 n5 n6 n7=>(aq n7).trans ((E4 x n5 n6).trans (E3 x n1 n2 n3 n4))) (aE b1) ?_ ?_ (aE b4) (λh0=>aE (b5 h0)) ?_ ?_) ?_
  ·rcases xB (R:=R) (q:=(j,d)) with e|⟨x,e⟩<;>rw[e] at b2 ⊢<;>exact aE b2
  ·rw[w_,dN];exact aS
  ·refine Kq.trans (M:=N) (h':=h4) ⟨λk l hk=>?_,λk l hk=>?_⟩ (.set (k:=43)) (ar _)
   ·exact(E4 _ (λe=>iy hk (a:=10) rfl (Nm.mk.inj e).1) (λ_ e=>iy hk (a:=20) rfl (Nm.mk.inj e).1)).trans (Hp.1 k l hk)
   ·exact(E4 _ az λ_=>az).trans (Hp.2 k l hk)
  ·exact λk l hk=>(aq az).trans ((E4 _ az λ_=>az).trans (F3 k l hk))
  ·exact ai (ai (ai (ai (ai bq)) (by show aa (a9 (j,d))=aa (if d+1=0 then bA j else a9 (j,d+1-1));rw[aK (z0 d)];rfl)))
 rcases sJ d with rfl|h0
 ·refine jA (n:=bf j) n_ (n_ (v:=bA j)) ((E3 _ az az az az).trans W.pr:h3 (bf j)=aa (.inst 100 (iS (bE R j) (aG R j) j (.mk 66 [j]) .none))) (jG rfl) ?_
  exact Ki _ (aE i3) (by rcases xB (R:=R) (q:=(j,0)) with e|⟨x,e⟩<;>rw[e] at a3 ⊢<;>exact aE a3) (λx n1 _=>aq n1) aS (λz=>bc z (fo _))
 ·have dg:d≠0:=dG ‹_›
  have ll:=W.last h0;have nq:bj (j,d-1)≠bj (j,d):=λe=>by have:=tc e;injection this with _ z;exact ma (bF z.symm) (sn h0 bg)
  have ne:rt R (j,d-1)=a9 (j,d):=by unfold rt;rw[aP (show d-1< (aG R j).length by exact bI (sn ‹_› pf) ‹_›)];congr 3;exact qT ‹_›
  refine jA (n:=bj (j,d-1)) n_ (n_ (v:=a9 (j,d-1)) (by show aa (if d=0 then bA j else a9 (j,d-1))=_;rw[aK dg])) ((E3 _ az az nq az).trans ll.1:h3 (bj (j,d-1))=aa (.inst 135 ((dY R (j,d-1)).take 9))) (jG rfl) ?_;refine Ki _ (aq nq.symm|>.trans i3) (by rcases xB (R:=R) (q:=(j,d)) with e|⟨x,e⟩<;>rw[e] at a3 ⊢<;>exact aE a3) (λx _ n2=>aq (n2 h0)) (aE ((E3 _ az az az az).trans (by have:=W.pr;rwa [aK dg] at this))) (λ_=>?_);rw[←ne];exact aS
theorem BJ.enter(J:BJ R aN aA j 0 N h)(G:yN R aA)(hj:j<R.length)(hp:h (bf j)=aA (bf j)):BW R aN aA j 0 N (h.set (.mk 43 [j]) (.list [])):=by
 have E:∀x,x≠.mk 43 [j]→(h.set (.mk 43 [j]) (.list [])) x=h x:=λx hx=>aq hx;refine⟨⟨J.kq.trans (M:=N) .set J.le,λx=>(E _ az).trans (J.sP x),λq hq hc=>⟨(E _ az).trans (J.done q hq hc).1,((λq=>E _ az:∀q:aF,(h.set (.mk 43 [j]) (.list [])) (gL R q)=h (gL R q)) q).trans (J.done q hq hc).2⟩,λj' fh hl=>⟨(E _ az).trans (J.kY j' fh hl).1,(E _ (ni λz=>by injection z with z;exact mi fh (bF z.symm))).trans (J.kY j' fh hl).2⟩,λj' fh=>(E _ az).trans (J.Br j' fh),λa d' hc=>(cG ((E _ az).trans (J.fresh a d' hc).1) ((E _ az).trans (J.fresh a d' hc).2.1) ((E _ az).trans (J.fresh a d' hc).2.2)),λa ha=>(E _ (ni λz=>by injection z with z;exact dG ‹_› ‹_›)).trans (J.B9 a ha),λk l hk=>(E _ az).trans (J.free k l hk),J.le⟩,?_,aS,λz=>bc z (fo _)⟩;exact(E _ az).trans (hp.trans (G.g.pr j hj).1)
theorem WY(hb:i.b=b+3)(G:yN R h)(B:bp h N)(Xo:∀q,h (bj q)=af)(n60:∀a c,h (.mk 60 [a,c])=af)(iT:∀a c,h (.mk 40 [a,c])=af)(N0:∀a,h (.mk 43 [a])=af):
  FP i h (.glob 280) [.ref aX] (λv h'=>v=.none∧∃N',BJ R N h R.length 0 N' h'):=by
 refine enter (b:=b+2) i.K.blr FN w_bl hb rfl ?_;have c7:=G.len;refine et (σ:=AS) (λ_=>[("self",.ref aX)]) AS.h (λs j=>BJ R N h j 0 s.N s.h∧s.h (bf j)=h (bf j)∧s.h (.mk 43 [j])=af) ⟨N,h⟩ ((bo R.length).map bA) (d7 (a_ (n:=aX) n_ G.g.gr) G.g.fg) (cG (⟨.same,λ_=>rfl,λq hq hc=>(hc.elim (λw=>m5 _ w) λw=>m5 _ w.2).elim,λj' fh=>bc fh (m5 _),λ_ _=>rfl,λa d' _=>(cG (Xo (a,d')) (n60 a d') (iT a d')),λa _=>N0 a,B,ar _⟩:BJ R N h 0 0 N h) rfl (N0 0)) (ai bq) (λs j Z=>d8 ((Z.1.kq.1 _ _ rfl).trans G.g.fg)) (λs j v Z e=>?_) (λs Z=>?_)
 ·refine jz Z λJ hp Rk=>?_;clear Z
  have ig:j<R.length:=by have:=(cV.mp e).1;rwa [aI,dS] at this
  rw[CJ ig] at e;obtain rfl:=aY e;refine dX (bM n_ (bM bD (bM (eD aL Rk) ?_)));refine SS.sub (ej:=yp j 0) ?_ (ai (ai (ai (ai (ai bq)))));have hz:=G.bu j;refine ry (σ:=BS) (λs=>yp j s.d) BS.h (λw m=>m+w.d=(aG R j).length+2∧w.d≤(aG R j).length+1∧BW R N h j w.d w.N w.h) ⟨0,s.N,s.h.set (.mk 43 [j]) (.list [])⟩ ((aG R j).length+2) (cG rfl (b_ _) (J.enter G ig hp)) .rfl ?_;rintro w m ⟨hm,hd,W⟩;refine(mC ab w.h (p_ jE jf) (λz=>(iV z)) (λ_=>?_));have Ge:CP (kG i b) w.h (.bi "len") [.ref (bf j)] (is (.int (aG R j).length) w.h):=by
   have:=Vs (i:=kG i b) (b:=b) (n:=bf j) rfl W.pr rfl (by rw[aI _];exact ah ‹_› aJ)
   rwa [aI] at this
  by_cases hc:w.d≤(aG R j).length
  ·refine cf (bt n_ (b8 (i.K.bi rfl) rfl (aB (n_ (v:=bA j)) aL) Ge) (yr (qG.mpr (wZ.mpr hc)))) ?_
   exact ad6 G W ig hc (rest:=[]) λh5 fr' W5 sb=>aH (bK (LQ.next ⟨w.d+1,w.N+1,h5⟩ (ik (m-1) (JY hm (bd hc (qS (dK 1)))) (OA hm (bd hc (qS (dK 1)))) (by show w.d+1≤_;exact eG ‹_›) W5) sb))
  ·have vP:w.d=(aG R j).length+1:=qQ hd (sH (Nat.not_le.mp hc))
   obtain⟨d,N',h'⟩:=w;dsimp only at vP W Ge hm;subst vP;have h0:0< (aG R j).length+1:=dK _;refine cS (bt n_ (b8 (i.K.bi rfl) rfl (aB (n_ (v:=bA j)) aL) Ge) (CH (ib.mpr (lr hd)))) (bM kK (aH ?_));refine jA (n:=bj (j,(aG R j).length)) n_ (n_ (v:=a9 (j,(aG R j).length)) (by show aa (if(aG R j).length+1=0 then bA j else a9 (j,(aG R j).length+1-1))=_;rw[aK (z0 _)];rfl)) ((W.last h0).1) (jG rfl) ?_;have nv:rt R (j,(aG R j).length)=.none:=by unfold rt;rw[aK (fo _)]
   have eI:SF.put ((dY R (j,(aG R j).length)).take 9) "lr_next" (rt R (j,(aG R j).length))=dY R (j,(aG R j).length):=rfl;rw[nv] at eI;rw[show(j,(aG R j).length+1-1)=(j,(aG R j).length) from rfl,eI];refine cS (fw (t:=an) (p_ n_ nN)) (AO ?_);have pp:h' (bf j)=aa (.inst 100 (iS (bE R j) (aG R j) j (.mk 66 [j]) (a9 (j,0)))):=by have:=W.pr;rwa [aK (z0 _)] at this
   refine jA (n:=bf j) n_ (n_ (v:=bA j)) (aE pp) (jG rfl) ?_;refine(?_:SS _ _ ((h'.set (bj (j,(aG R j).length)) (.inst 135 (dY R (j,(aG R j).length)))).set (bf j) (.inst 100 (gd R j))) _ _);have E:∀x,x≠bf j→x≠bj (j,(aG R j).length)→((h'.set (bj (j,(aG R j).length)) (.inst 135 (dY R (j,(aG R j).length)))).set (bf j) (.inst 100 (gd R j))) x=h' x:=λx n1 n2=>(aq n1).trans (aq n2);have e1:((h'.set (bj (j,(aG R j).length)) (.inst 135 (dY R (j,(aG R j).length)))).set (bf j) (.inst 100 (gd R j))) (bf j)=aa (.inst 100 (gd R j)):=aS;have e2:((h'.set (bj (j,(aG R j).length)) (.inst 135 (dY R (j,(aG R j).length)))).set (bf j) (.inst 100 (gd R j))) (bj (j,(aG R j).length))=aa (.inst 135 (dY R (j,(aG R j).length))):=aE aS;have kz:Kq [10,20,40,43,60] N' h' ((h'.set (bj (j,(aG R j).length)) (.inst 135 (dY R (j,(aG R j).length)))).set (bf j) (.inst 100 (gd R j))):=(Kq.set (k:=20)).trans (M:=N') (.set (k:=10)) (ar _);generalize (h'.set (bj (j,(aG R j).length)) (.inst 135 (dY R (j,(aG R j).length)))).set (bf j) (.inst 100 (gd R j))=hz at E e1 e2 kz ⊢;exact aH (bK (LQ.next ⟨N',hz⟩ (cG (W.stop E ig e1 e2 kz (λk l hk=>(E _ az az).trans (W.free k l hk))) ((E _ (ni λz=>by injection z with z;exact fo _ (lb (bF z))) az).trans (W.Br (j+1) (dq _))) ((E _ az az).trans (W.B9 (j+1) (dq _)))) (ai bq)))
 ·rw[aI,dS] at Z
  exact aH (aH (bK (B7 rfl s.N Z.1)))
noncomputable def iU:Str:="<empty>"
noncomputable def ip(acc:List Str)(l:List Str):List Str:=l.foldl (λa f=>if f=iU then a else if f∈a then a else a++[f]) acc
noncomputable def frs(F:Str→List Str):List Str→List Str→List Str
 |acc,[]=>acc++[iU]
 |acc,x::r=>if iU∈F x then frs F (ip acc (F x)) r else ip acc (F x)
noncomputable def gq(s:Str):Nm:=.mk 47 [sym s]
noncomputable def e7:List Str:=["a","b","error","$end","S","A","B"]
noncomputable def oD:List Str:=["a","b","error","$end","<empty>"]
def lV(l:List Str):Prop:=l.Nodup∧∀x∈l,x∈oD
def nF(F:Str→List Str)(h:SH):Prop:=∃es,h (.mk 45 [])=aa (.dict es)∧∀s∈e7,es.lookup (.str s)=aa (.ref (gq s))∧h (gq s)=aa (.list ((F s).map .str))
theorem lV.len{l:List Str}(s:lV l):l.length≤5:=fO s.1 (l₂:=oD) s.2
theorem M0{acc l:List Str}{f:Str}:ip acc (l++[f])=if f=iU then ip acc l else if f∈ip acc l then ip acc l else ip acc l++[f]:=by unfold ip;rw[ai2];rfl
def lD(l:List Str):Prop:=l.Nodup∧∀x∈l,x∈oD∧x≠iU
theorem lD.add{acc l:List Str}(a:lD acc)(hl:∀x∈l,x∈oD):lD (ip acc l):=by
 induction l generalizing acc with
 |nil=>exact a
 |cons f r ih=>
  have hr:∀x∈r,x∈oD:=λx hx=>hl x (eT _ hx);show lD (ip (if f=iU then acc else if f∈acc then acc else acc++[f]) r)
  split
  ·exact ih a hr
  ·next h1=>
   split
   ·exact ih a hr
   ·next h2=>
    refine ih ⟨lq.mpr (cG a.1 (ko _ _) (λx hx y hy e=>h2 (by rw[bS.mp hy] at e;exact e▸hx))),λx hx=>?_⟩ hr;rcases dw.mp hx with z|z
    ·exact a.2 x z
    ·rw[bS.mp z];exact⟨hl f dA,h1⟩
theorem lD.frs{F:Str→List Str}{acc l:List Str}(a:lD acc)(hF:∀x∈l,lV (F x)):lV (frs F acc l):=by
 induction l generalizing acc with
 |nil=>
  refine⟨lq.mpr (cG a.1 (ko _ _) (λx hx y hy e=>(a.2 x hx).2 (by rw[e,bS.mp hy]))),λx hx=>?_⟩;rcases dw.mp hx with z|z
  ·exact(a.2 x z).1
  ·rw[bS.mp z];exact aW
 |cons x r ih=>
  have a':=a.add (hF x dA).2;show lV (if iU∈F x then Mine.Internal.frs F (ip acc (F x)) r else ip acc (F x))
  split
  ·exact ih a' λy hy=>hF y (eT _ hy)
  ·exact⟨a'.1,λy hy=>(a'.2 y hy).1⟩
theorem lD.nil:lD []:=⟨.nil,λ_ h=>by exact cT h⟩
noncomputable def vF:List Str:=["self","beta","result","x","x_produces_empty","f"]
theorem ab9:cr (bC 258) vF=ab:=by kernel_rfl
theorem w_fi:cY (bC 258) []=ab:=rfl
structure OW where
 a:List Str
 e:Bool
noncomputable def frF(N:Nat)(t:OW):SF:=[("self",.ref aX),("result",.ref (gN N)),("x_produces_empty",.bool t.e)]
theorem Ky{F:Str→List Str}{l:List Str}(hb:i.b=b+1)(hg:h aX=aa (.inst 283 pS))(I:nF F h)(hl:∀x∈l,x∈e7)(hF:∀x∈e7,lV (F x))(B:bp h N):
  FP i h (.glob 258) [.ref aX,.tup (l.map .str)] (is (.ref (gN N)) (h.set (gN N) (.list ((frs F [] l).map .str)))):=by
 refine enter (b:=b) i.K.first ab9 w_fi hb rfl ?_;refine aj I λes VZ yG=>?_;clear I;refine bM (eD (n:=gN N) aL B.at) ?_;have o:∀(a:List Str) {k l},k≠99→(h.set (gN N) (.list (a.map .str))) (.mk k l)=h (.mk k l):=λa {k l} hk=>aq λe=>hk (Nm.mk.inj e).1;refine BK (σ:=List Str) (λ_=>[("self",.ref aX),("result",.ref (gN N))]) (λa=>h.set (gN N) (.list (a.map .str))) (λa j m=>j+m=l.length∧frs F a (l.drop j)=frs F [] l∧lD a) [] l.length (Lh n_) (cG (mZ _) rfl lD.nil) (ai (ai bq)) ?_;rintro a j m ⟨hj,hf,ha⟩;refine(cK ((l.map SV.str)[j]?) rfl (λe=>?_) (λv e=>?_))
 ·have Al:l.length≤j:=by have:=km.mp e;rwa [aI] at this
  rw[List.drop_of_length_le Al] at hf;have hf:a++[iU]=frs F [] l:=hf;have la:a.length≤5:=fO ha.1 (l₂:=oD) λx hx=>(ha.2 x hx).1;refine fG (di n_ (fS aS) iB (aB cx aL) (fX aS (by rw[aI _];refine(?_:_≤2^24);exact ah ‹_› aJ))) (aH (gA n_ ⟨rfl,?_⟩));rw[iF,←hf,dN];rfl
 ·refine aj (dJ e) λx hx ax=>?_;subst ax
  have ig:=(cV.mp hx).1;have N5:=hl x (bN hx);refine xA (yG x N5) λk1 k2=>?_;have sx:=hF x N5;have dr:l.drop j=x::l.drop (j+1):=by rw[Iy ig];congr 1;exact aY ((fb ig).symm.trans hx)
  rw[dr] at hf;refine dX (bM jE ?_);refine et (σ:=OW) (frF N) (λt=>h.set (gN N) (.list (t.a.map .str))) (λt n=>t.a=ip a ((F x).take n)∧t.e=decide (iU∈(F x).take n)) ⟨a,an⟩ ((F x).map .str) (d7 (gV (a_ (n:=aX) n_ ((o a bH).trans hg)) n_ ((o a bH).trans VZ) k1) ((o a bH).trans k2)) ⟨rfl,rfl⟩ (ai (ai (ai bq))) (λt n _=>d8 ((o _ bH).trans k2)) (λt n v T e2=>?_) λt T=>?_
  ·refine aj (dJ e2) λf hf2 ax=>?_;subst ax
   refine xA T λT1 T2=>?_;clear T;have tk:(F x).take (n+1)=(F x).take n++[f]:=by rw[jN,hf2];rfl
   have s4:lD (ip a ((F x).take n)):=ha.add λy hy=>sx.2 y (DL hy);refine dX ?_
   by_cases mM:f=iU
   ·subst mM
    refine cS (bt n_ cx (nu rfl)) (bM jE (aH (aH (bK (LQ.next ⟨t.a,ab⟩ ⟨by rw[tk,M0,aP rfl];exact T1,?_⟩ (ai (ai (ai bq))))))));rw[tk];exact(eQ (kj _ (bS.mpr rfl))).symm
   ·have me:decide (iU∈(F x).take (n+1))=decide (iU∈(F x).take n):=by
     rw[tk];refine mY.mpr ⟨λz=>(dw.mp z).resolve_right λz=>mM (bS.mp z).symm,λz=>i7 _ z⟩
    refine cf (bt n_ cx (lX λz=>mM (by injection z))) ?_;have st:ip a ((F x).take (n+1))=if f∈t.a then t.a else t.a++[f]:=by rw[tk,M0,aK mM,←T1]
    by_cases hm:f∈t.a
    ·refine cf (bt n_ n_ (vA (.own aS) (jT.mpr hm) mR)) (aH (aH (aH (bK (LQ.next t ⟨by rw[st,aP hm],by rw[me];exact T2⟩ (ai (ai (ai bq))))))))
    ·have la:t.a.length≤5:=by rw[T1];exact fO s4.1 (l₂:=oD) λx hx=>(s4.2 x hx).1
     refine cS (bt n_ n_ (yT (.own aS) (λz=>hm (jT.mp z)) mR)) ?_;refine fG (di n_ (fS aS) iB (aB n_ aL) (fX aS (by rw[aI _];refine(?_:_≤2^24);exact ah ‹_› aJ))) ?_;refine aH (aH (aH (bK (LQ.next ⟨t.a++[f],t.e⟩ ⟨by rw[st,aK hm],by rw[me];exact T2⟩ (ai (ai (ai bq))) ?_))));rw[iF,dN];rfl
  ·rw[aI,zW] at T
   refine xA T λT1 T2=>?_;clear T;refine aH ?_
   by_cases uR:iU∈F x
   ·rw[show frs F a (x::l.drop (j+1))=if iU∈F x then frs F (ip a (F x)) (l.drop (j+1)) else ip a (F x) from rfl,aP uR] at hf
    refine cS (p_ n_ (by rw[T2,eQ uR];exact jf)) (VS (aH (aH (bK (LQ.next t.a (ik (m-1) (Cf hj ig) (Bz hj ig) (by rw[T1];exact hf) (by rw[T1];exact ha.add sx.2)) (ai (ai bq)))))))
   ·rw[show frs F a (x::l.drop (j+1))=if iU∈F x then frs F (ip a (F x)) (l.drop (j+1)) else ip a (F x) from rfl,aK uR] at hf
    refine cf (p_ n_ (by rw[T2,i0 uR];exact jf)) (AO ?_);exact gA n_ ⟨rfl,by rw[T1,hf]⟩
theorem aaz:∀x∈e7,∀y∈e7,sym x=sym y→x=y:=by decide +kernel
theorem Eh{x y:Str}(hx:x∈e7)(hy:y∈e7)(e:gq x=gq y):x=y:=by injection e with _ e;injection e with e;exact aaz x hx y hy e
structure GX(R:bn)(h:SH):Prop where
 gr:h aX=aa (.inst 283 pS)
 names:Ai R h
 term:h (.mk 38 [])=aa (.dict iO)
 iC:∃es,h (.mk 39 [])=aa (.dict es)∧∃ns:List Str,es.map (·.1)=ns.map .str∧ns.Nodup∧(∀s∈ns,s∈a8)∧∀s∈a8,s∈ns
 pr:∀j,j<R.length→h (bf j)=aa (.inst 100 (gd R j))
 fg:h (.mk 35 [])=aa (.list ((bo R.length).map bA))
 prec:h (.mk 49 [])=aa (.dict [])
 len:R.length≤5
 sy:∀j,j<R.length→∀s∈aG R j,s∈e7
 bu:∀j,(aG R j).length≤2
 nt:∀j,0<j→j<R.length→bE R j∈a8
theorem GX.kq{B:List Nat}(G:GX R h)(kq:Kq B N h h')(hB:autoParam ((([34,36,40,38,39,10,35,49]:List Nat).all λk=>!(99::B).contains k)=ab) bl):GX R h':=by
 have f:∀{k l},([34,36,40,38,39,10,35,49]:List Nat).contains k=ab→h' (.mk k l)=h (.mk k l):=λ{k l} hk=>kq.1 k l (mU (e9.mp hk) hB);exact⟨(f (k:=34) rfl).trans G.gr,bG G.names λes a c d=>⟨es,(f rfl).trans a,λs hs=>⟨(c s hs).1,(f (k:=40) rfl).trans (c s hs).2⟩,d⟩,(f rfl).trans G.term,aj G.iC λns a2 c2=>⟨ns,(f rfl).trans a2,c2⟩,λj hj=>(f (k:=10) rfl).trans (G.pr j hj),(f rfl).trans G.fg,(f rfl).trans G.prec,G.len,G.sy,G.bu,G.nt⟩
theorem G9{es:b7}{ns:List Str}(h:es.map (·.1)=ns.map .str):oG es=ab:=dc.mpr λp hp=>by
 exact aj (bB.mp (h▸agj (f:=(·.1)) hp:p.1∈ns.map SV.str)) λs _ e=>e▸rfl
noncomputable def F0(s:Str):List Str:=if s∈a8 then [] else [s]
structure qm(done:List Str)(aA h:SH)(es:b7):Prop where
 d:h (.mk 45 [])=aa (.dict es)
 ok:∀s∈done,es.lookup (.str s)=aa (.ref (gq s))∧h (gq s)=aa (.list ((F0 s).map .str))
 no:∀s∈e7,s∉done→h (gq s)=af
 len:es.length≤done.length
 kq:∀M,Kq [45,47] M aA h
theorem qm.step{done:List Str}{es:b7}(I:qm done aA h es)(hd:∀s∈done,s∈e7)(hs:s∈e7)(hn:s∉done):qm (done++[s]) aA ((h.set (gq s) (.list ((F0 s).map .str))).set (.mk 45 []) (.dict (bh es (.str s) (.ref (gq s))))) (bh es (.str s) (.ref (gq s))):=by
 refine⟨aS,λt ht=>?_,λt ht pU=>?_,?_,λM=>((I.kq M).trans (M:=M) (.set (k:=47)) (ar _)).trans (M:=M) (.set (k:=45)) (ar _)⟩
 ·rcases dw.mp ht with z|z
  ·have ne:t≠s:=λe=>hn (e▸z)
   refine xA (I.ok t z) λa c=>?_;exact⟨by rw[fy _,aK (λe=>ne (by injection e))];exact a,(aq az).trans ((aq λe=>ne (Eh (hd t z) hs e)).trans c)⟩
  ·rw[bS.mp z]
   exact⟨by rw[fy _,aP rfl],(aq az).trans aS⟩
 ·exact(aq az).trans ((aq λe=>(λe=>pU (kj _ (bS.mpr e)):t≠s) (Eh ht hs e)).trans (I.no t ht λz=>pU (i7 _ z)))
 ·rw[cU];exact ah tD (eG I.len)
structure vS where
 es:b7
 h:SH
noncomputable def vC:List Str:=["self","t","n","some_change","p","f"]
theorem OO:cr (bC 265) vC=ab:=by kernel_rfl
theorem w_cf:cY (bC 265) []=ab:=rfl
noncomputable def zG(i:FI)(b:Nat):FI:=i.fn (b+1) 265 vC [] OO w_cf
theorem AX:∀s∈dV,s∈e7:=aW
theorem u6:∀s∈a8,s∈e7:=aW
theorem acz:∀s∈dV,s∉a8:=aW
theorem Ws(h:s∈a8):F0 s=[]:=aP h
theorem NQ(h:s∉a8):F0 s=[s]:=aK h
theorem acs(G:GX R h)(j7:h (.mk 45 [])=aa (.dict []))(ER:∀l,h (.mk 47 l)=af)
  (fin:∀h',nF F0 h'→(∃es,h' (.mk 45 [])=aa (.dict es)∧es.length≤10)→(∀M,Kq [45,47] M h h')→SS (zG i b) [("self",.ref aX)] h' [(ba 265).drop 4] Q):SS (zG i b) [("self",.ref aX)] h [ba 265] Q:=by
 refine cf (p_ (a_ (n:=aX) n_ G.gr) (zb j7 bg)) (aH ?_);have gk:∀{done es h'},qm done h h' es→h' aX=aa (.inst 283 pS):=λI=>((I.kq 0).1 _ _ rfl).trans G.gr;refine et (σ:=vS) (λ_=>[("self",.ref aX)]) vS.h (λs j=>qm (dV.take j) h s.h s.es) ⟨[],h⟩ (iO.map (·.1)) (wd (a_ (n:=aX) n_ G.gr) G.term rfl) (⟨j7,λs z=>(cT z),λs _ _=>ER _,ar _,λM=>.same⟩:qm [] h h []) .rfl (λs j I=>wf (((I.kq 0).1 _ _ rfl).trans G.term) rfl) (λs j v I e=>?_) (λs I=>?_)
 ·have:∃t,dV[j]? =aa t∧v=.str t∧t∈dV∧t∉dV.take j:=by
   match j,e with
   |0,e=>(first|exact a7 e|obtain rfl:=aY e);exact(ik ("a") rfl rfl aW aW)
   |1,e=>(first|exact a7 e|obtain rfl:=aY e);exact(ik ("b") rfl rfl aW aW)
   |2,e=>(first|exact a7 e|obtain rfl:=aY e);exact(ik ("error") rfl rfl aW aW)
  refine hG this λt ht ax lO oO=>?_;clear this;subst ax;have tk:dV.take (j+1)=dV.take j++[t]:=by rw[jN,ht];rfl
  have l3:(dV.take j).length≤3:=by rw[jH];exact pD _ _
  refine dX (ef (n:=.mk 45 []) (es:=s.es) (eD (n:=gq t) (aB n_ aL) (I.no t (AX t lO) oO)) (a_ (n:=aX) n_ (aE (gk I))) n_ (aE I.d) (by have:=I.len;refine(?_:_≤2^24);exact ah (ah ‹_› ‹_›) aJ) ?_);have st:=I.step (λs hs=>AX s (DL hs)) (AX t lO) oO;rw[NQ (acz t lO)] at st;exact aH (bK (LQ.next ⟨_,_⟩ (by rw[tk];exact st) (ai bq)))
 ·have I:qm dV h s.h s.es:=I
  refine aH (ef (n:=.mk 45 []) (es:=s.es) (eD (n:=gq "$end") (aB cx aL) (I.no "$end" aW aW)) (a_ (n:=aX) n_ (aE (gk I))) cx (aE I.d) (by have:=I.len;refine(?_:_≤2^24);exact ah this aJ) ?_);have st:=I.step (s:="$end") AX aW aW;rw[NQ aW] at st;refine(?_:SS _ _ ((s.h.set (gq "$end") (.list [.str "$end"])).set (.mk 45 []) (.dict (bh s.es (.str "$end") (.ref (gq "$end"))))) _ _);obtain⟨jX,hn,ns,e1,e2,e3,e4⟩:=G.iC;have k7:=G9 e1;have st:qm (dV++[("$end":Str)]) h ((s.h.set (gq "$end") (.list [.str "$end"])).set (.mk 45 []) (.dict (bh s.es (.str "$end") (.ref (gq "$end"))))) (bh s.es (.str "$end") (.ref (gq "$end"))):=st;generalize bh s.es (.str "$end") (.ref (gq "$end"))=aB at st ⊢;generalize (s.h.set (gq "$end") (.list [.str "$end"])).set (.mk 45 []) (.dict aB)=h1 at st ⊢;have A7:ns.length≤3:=fO e2 (l₂:=a8) e3;refine et (σ:=vS) (λ_=>[("self",.ref aX)]) vS.h (λs j=>qm (dV++[("$end":Str)]++ns.take j) h s.h s.es) ⟨aB,h1⟩ (jX.map (·.1)) (wd (a_ (n:=aX) n_ (gk st)) (((st.kq 0).1 _ _ rfl).trans hn) k7) (by rw[List.take_zero,gP _];exact st) .rfl (λs j I=>wf (((I.kq 0).1 _ _ rfl).trans hn) k7) (λs j v I e=>?_) (λs I=>?_)
  ·rw[e1] at e
   refine aj (dJ e) λt ht ax=>?_;subst ax;have lO:=e3 t (bN ht);have tk:ns.take (j+1)=ns.take j++[t]:=by rw[jN,ht];rfl
   have oO:t∉dV++[("$end":Str)]++ns.take j:=λz=>by
    rcases dw.mp z with z|z
    ·exact(aW:∀t∈a8,t∉dV++[("$end":Str)]) t lO z
    ·have nd:=(HG (j+1) ns).nodup e2
     rw[tk,lq] at nd;exact nd.2.2 t z t (bS.mpr rfl) rfl
   have l7:(dV++[("$end":Str)]++ns.take j).length≤7:=by
    rw[cU,jH];exact ah (e6 (ah (pD _ _) A7) _) aJ
   refine dX (ef (n:=.mk 45 []) (es:=s.es) (eD (n:=gq t) aL (I.no t (u6 t lO) oO)) (a_ (n:=aX) n_ (aE (gk I))) n_ (aE I.d) (by have:=I.len;refine(?_:_≤2^24);exact ah (ah ‹_› ‹_›) aJ) ?_);have st:=I.step (λs hs=>by
    rcases dw.mp hs with z|z
    ·exact(aW:∀t∈dV++[("$end":Str)],t∈e7) s z
    ·exact u6 s (e3 s (DL z))) (u6 t lO) oO
   rw[Ws lO] at st;exact aH (bK (LQ.next ⟨_,_⟩ (by rw[tk,←wR];exact st) (ai bq)))
  ·rw[e1,aI,zW] at I
   refine aH (fin s.h ⟨s.es,I.d,λt ht=>I.ok t ?_⟩ (aU s.es I.d (ah I.len (by rw[cU];exact ah (e6 A7 _) aJ))) I.kq);have:t∈dV++[("$end":Str)]∨t∈a8:=by
    have:∀t∈e7,t∈dV++[("$end":Str)]∨t∈a8:=aW;exact this t ht
   rcases this with z|z
   ·exact i7 _ z
   ·exact kj _ (e4 t z)
variable{f:Str}{F:Str→List Str}
structure f_ where
 F:Str→List Str
 c:Bool
 N:Nat
 h:SH
noncomputable def hH(F:Str→List Str):Nat:=(F "S").length+(F "A").length+(F "B").length
noncomputable def lL(F:Str→List Str)(n f:Str):Str→List Str:=λs=>if s=n then F n++[f] else F s
theorem Hi(hn:s∈a8):hH F<hH (lL F s f):=by
 have:s="S"∨s="A"∨s="B":=by simpa [a8] using hn
 have d1:("S":Str)≠"A"∧("S":Str)≠"B"∧("A":Str)≠"S"∧("A":Str)≠"B"∧("B":Str)≠"S"∧("B":Str)≠"A":=aW;unfold hH lL;rcases this with rfl|rfl|rfl
 ·rw[aP rfl,aK d1.2.2.1,aK d1.2.2.2.2.1,cU];simp only[zU];exact De (De (dq _) _) _
 ·rw[aK d1.1,aP rfl,aK d1.2.2.2.2.2,cU];simp only[zU];exact De (dq _) _
 ·rw[aK d1.2.1,aK d1.2.2.2.1,aP rfl,cU];simp only[zU];exact ar _
structure FB(F:Str→List Str)(aN:Nat)(aA:SH)(N:Nat)(h:SH):Prop where
 I:nF F h
 s5:∀s∈e7,lV (F s)
 free:bp h N
 kq:Kq [45,47] aN aA h
 le:aN≤N
 j7:∃es,h (.mk 45 [])=aa (.dict es)∧es.length≤10
theorem FB.sum(B:FB F aN aA N h):hH F≤15:=Jd (k:=5) (B.s5 "S" aW).len (B.s5 "A" aW).len (B.s5 "B" aW).len
theorem FB.iQ{o:cw}(B:FB F aN aA N h):FB F aN aA (N+1) (h.set (gN N) o):=by
 obtain⟨es,a,c⟩:=B.I;exact⟨⟨es,aE a,λs hs=>⟨(c s hs).1,aE (c s hs).2⟩⟩,B.s5,B.free.new _ _,B.kq.trans (M:=N) (.new (ar _)) B.le,c8 B.le,B.j7.imp λes q=>⟨aE q.1,q.2⟩⟩
theorem FB.upd(B:FB F aN aA N h)(hn:s∈e7)(hf:f∈oD)(hm:f∉F s):FB (lL F s f) aN aA N (h.set (gq s) (.list ((F s).map .str++[.str f]))):=by
 obtain⟨es,a,c⟩:=B.I;refine⟨⟨es,aE a,λt ht=>⟨(c t ht).1,?_⟩⟩,λt ht=>?_,λk l hk=>aE (B.free k l hk),B.kq.trans (M:=N) (.set (k:=47)) B.le,B.le,B.j7.imp λes q=>⟨aE q.1,q.2⟩⟩
 ·unfold lL
  by_cases e:t=s
  ·subst e;rw[aP rfl,dN];exact aS
  ·rw[aK e];exact(aq λz=>e (Eh ht hn z)).trans (c t ht).2
 ·unfold lL
  by_cases e:t=s
  ·rw[aP e]
   have z:=B.s5 s hn;refine⟨lq.mpr (cG z.1 (ko _ _) (λx hx y hy w=>hm (by rw[bS.mp hy] at w;exact w▸hx))),λx hx=>?_⟩;rcases dw.mp hx with w|w
   ·exact z.2 x w
   ·rw[bS.mp w];exact hf
  ·rw[aK e];exact B.s5 t ht
structure FJ(g0:Nat)(aN:Nat)(aA:SH)(s:f_):Prop where
 B:FB s.F aN aA s.N s.h
 le:g0≤hH s.F
 lt:s.c=ab→g0<hH s.F
noncomputable def cfW:List bx:=ew (stN (ba 265) 4)
noncomputable def cfN:List bx:=ew (stN cfW 1)
theorem Uo{s:f_}{g0 p:Nat}{nm:Str}(G:GX R aA)(J:FJ g0 aN aA s)(hp:p<R.length)(hn:nm∈a8)(fin:∀F c N h fr,FJ g0 aN aA ⟨F,c,N,h⟩→(SF.sub [("self",.ref aX),("n",.str nm),("some_change",.bool c)] fr)→Q .next fr h):
  SS (zG i b) [("self",.ref aX),("n",.str nm),("some_change",.bool s.c),("p",bA p)] s.h [ew (stN cfN 0)] Q:=by
 have G1:=G.kq J.B.kq;have S5:lV (frs s.F [] (aG R p)):=lD.nil.frs λx hx=>J.B.s5 x (G.sy p hp x hx);have hL:(s.h.set (gN s.N) (.list ((frs s.F [] (aG R p)).map .str))) (gN s.N)=aa (.list ((frs s.F [] (aG R p)).map .str)):=aS;refine et (σ:=f_) (λt=>[("self",.ref aX),("n",.str nm),("some_change",.bool t.c)]) f_.h (λt j=>FJ g0 aN aA t∧t.N=s.N+1∧t.h (gN s.N)=aa (.list ((frs s.F [] (aG R p)).map .str))) ⟨s.F,s.c,s.N+1,s.h.set (gN s.N) (.list ((frs s.F [] (aG R p)).map .str))⟩ ((frs s.F [] (aG R p)).map .str) (d7 (EP.ev (di n_ (iX G1.gr rfl) (i.K.keep rfl) (aB (a_ (n:=bf p) n_ (G1.pr p hp)) aL) (Ky (i:=zG i b) (b:=b) (l:=aG R p) rfl G1.gr J.B.I (G.sy p hp) J.B.s5 J.B.free).cp)) hL) (cG ⟨(J.B.iQ (o:=.list ((frs s.F [] (aG R p)).map .str))),J.le,J.lt⟩ rfl hL) (ai (ai (ai bq))) (λt j Z=>d8 Z.2.2) (λt j v Z e=>?_) (λt Z=>?_)
 ·refine aj (dJ e) λf hf ax=>?_;subst ax
  refine jz Z λJ2 tN u4=>?_;clear Z;have G2:=G.kq J2.B.kq;obtain⟨es,a,c⟩:=J2.B.I;refine xA (c nm (u6 nm hn)) λc1 c2=>?_;have l5:=(J2.B.s5 nm (u6 nm hn)).len;refine dX ?_
  by_cases hm:f∈t.F nm
  ·exact cf (bt n_ (gV (a_ (n:=aX) n_ G2.gr) n_ a c1) (vA (.own c2) (jT.mpr hm) mR)) (aH (aH (bK (LQ.next t (cG J2 tN u4) (ai (ai (ai bq)))))))
  ·refine cS (bt n_ (gV (a_ (n:=aX) n_ G2.gr) n_ a c1) (yT (.own c2) (λz=>hm (jT.mp z)) mR)) ?_
   refine fG (di (gV (a_ (n:=aX) n_ G2.gr) n_ a c1) (fS c2) iB (aB n_ aL) (fX c2 (by rw[aI _];refine(?_:_≤2^24);exact ah ‹_› aJ))) (bM jE ?_);have su:=Hi (F:=t.F) (f:=f) hn;exact aH (aH (bK (LQ.next ⟨lL t.F nm f,ab,t.N,t.h.set (gq nm) (.list ((t.F nm).map .str++[.str f]))⟩ (cG ⟨J2.B.upd (u6 nm hn) (S5.2 f (bN hf)) hm,ah J2.le (cj su),λ_=>bd J2.le su⟩ tN (by dsimp only;exact aE u4)) (ai (ai (ai bq))))))
 ·exact aH (aH (bK (fin t.F t.c t.N t.h _ Z.1 .rfl)))
theorem Z7(G:GX R aA)(I:nF F0 h)(j7:∃es,h (.mk 45 [])=aa (.dict es)∧es.length≤10)(kq:Kq [45,47] N aA h)(B:bp h N):SS (zG i b) [("self",.ref aX)] h [(ba 265).drop 4] (λf _ h'=>f.val=.ref (.mk 45 [])∧∃F N',FB F N aA N' h'):=by
 have Y_:∀s∈e7,lV (F0 s):=λs hs=>by
  unfold F0
  split
  ·exact⟨.nil,λ_ h=>by exact cT h⟩
  ·next z=>
   refine⟨ko _ _,λx hx=>?_⟩;rw[bS.mp hx];have:∀s∈e7,s∉a8→s∈oD:=aW;exact this s hs z
 refine ry (σ:=f_) (λ_=>[("self",.ref aX)]) f_.h (λs m=>m+hH s.F=16∧FB s.F N aA s.N s.h) ⟨F0,an,N,h⟩ (16-hH F0) ⟨by rfl,I,Y_,B,kq,ar _,j7⟩ .rfl ?_;rintro s m ⟨hm,Bs⟩;refine(mC ab s.h (p_ jE jf) (λz=>(iV z)) (λ_=>?_));have G1:=G.kq Bs.kq;obtain⟨jX,hn,ns,e1,e2,e3,e4⟩:=G.iC;have tX:∀{N' h'} {F':Str→List Str},FB F' N aA N' h'→h' (.mk 39 [])=aa (.dict jX):=λZ=>(Z.kq.1 _ _ rfl).trans hn;have k7:=G9 e1;refine bM jE ?_;refine et (σ:=f_) (λt=>[("self",.ref aX),("some_change",.bool t.c)]) f_.h (λt j=>FJ (hH s.F) N aA t) ⟨s.F,an,s.N,s.h⟩ (jX.map (·.1)) (wd (a_ (n:=aX) n_ G1.gr) (tX Bs) k7) ⟨Bs,ar _,λz=>by exact cJ z⟩ (ai (ai bq)) (λt j J=>wf (tX J.B) k7) (λt j v J e=>?_) (λt J=>?_)
 ·rw[e1] at e
  refine aj (dJ e) λnm vD ax=>?_;subst ax;have yR:=e3 nm (bN vD);obtain⟨R_,p1,p2,p3⟩:=G.names;have pk:∀{N' h'} {F':Str→List Str},FB F' N aA N' h'→h' (.mk 36 [])=aa (.dict R_)∧h' (fY nm)=aa (.list ((gH R nm).map bA)):=λZ=>⟨(Z.kq.1 _ _ rfl).trans p1,(Z.kq.1 _ _ rfl).trans (p2 nm yR).2⟩;refine dX (et (σ:=f_) (λt=>[("self",.ref aX),("n",.str nm),("some_change",.bool t.c)]) f_.h (λt j=>FJ (hH s.F) N aA t) t ((gH R nm).map bA) (d7 (gV (a_ (n:=aX) n_ (G.kq J.B.kq).gr) n_ (pk J.B).1 (p2 nm yR).1) (pk J.B).2) J (ai (ai (ai bq))) (λt j J=>d8 (pk J.B).2) (λt2 j2 v2 J2 e2'=>?_) (λt2 J2=>?_))
  ·refine aj (dJ e2') λp hp ax=>?_;subst ax
   have qt:=dR.mp (m9.mp (bN hp)).1;exact dX (SS.sub (Uo G J2 qt yR λF' c' N' h' fr J' sb=>LQ.next ⟨F',c',N',h'⟩ J' sb) (ai (ai (ai (ai bq)))))
  ·exact aH (aH (bK (LQ.next t2 J2 (ai (ai bq)))))
 ·refine aH ?_
  cases hc:t.c with
  |true=>
   have lt:=J.lt hc;have I7:=J.B.sum;refine cf (fw (t:=ab) (p_ n_ jf)) (aH (aH (bK (LQ.next t (cK (16-hH t.F) (L_ hm lt (c8 I7)) (qT (c8 I7)) J.B) (ai bq)))))
  |false=>
   refine cS (fw (t:=an) (p_ n_ jf)) (AO ?_);obtain⟨es,a,c⟩:=J.B.I;exact gA (a_ (n:=aX) n_ (G.kq J.B.kq).gr) ⟨rfl,t.F,t.N,J.B⟩
theorem Y3(hb:i.b=b+2)(G:GX R h)(j7:h (.mk 45 [])=aa (.dict []))(ER:∀l,h (.mk 47 l)=af)(B:bp h N):FP i h (.glob 265) [.ref aX] (λv h'=>v=.ref (.mk 45 [])∧∃F N',FB F N h N' h'):=by
 refine enter (b:=b+1) i.K.cfirst OO w_cf hb rfl (acs (b:=b) G j7 ER λh' I j7 kq=>?_);exact(Z7 (b:=b) G I j7 (kq N) (B.kq kq)).imp λf fr h q=>q
variable{B:Str}{Fl:Str→List Str}
theorem AL{vs:List SV}{j:Nat}(hj:j≤vs.length):fk vs (aa (j:Int)) af=vs.drop j:=by
 show(vs.drop (fE vs.length j)).take (vs.length-fE vs.length j)=_;rw[show fE vs.length (j:Int)=j from C_.trans (sA hj)];exact na (bF zX)
noncomputable def jn(s:Str):Nm:=.mk 48 [sym s]
theorem Be{x y:Str}(hx:x∈a8)(hy:y∈a8)(e:jn x=jn y):x=y:=by injection e with _ e;injection e with e;exact HB x hx y hy e
def SubL(l:List Str):Prop:=l.Nodup∧∀x∈l,x∈j3
def Ve(Fl:Str→List Str)(h:SH):Prop:=∃es,h (.mk 46 [])=aa (.dict es)∧∀s∈a8,es.lookup (.str s)=aa (.ref (jn s))∧h (jn s)=aa (.list ((Fl s).map .str))
structure LB(Fl:Str→List Str)(aN:Nat)(aA:SH)(N:Nat)(h:SH):Prop where
 I:Ve Fl h
 s4:∀s∈a8,SubL (Fl s)
 free:bp h N
 kq:Kq [46,48,67] aN aA h
 le:aN≤N
theorem SubL.len{l:List Str}(s:SubL l):l.length≤4:=fO s.1 (l₂:=j3) s.2
theorem LB.sum(L:LB Fl aN aA N h):hH Fl≤12:=Jd (k:=4) (L.s4 "S" aW).len (L.s4 "A" aW).len (L.s4 "B" aW).len
theorem LB.iQ{o:cw}(L:LB Fl aN aA N h):LB Fl aN aA (N+1) (h.set (gN N) o):=by
 obtain⟨es,a,c⟩:=L.I;exact⟨⟨es,aE a,λs hs=>⟨(c s hs).1,aE (c s hs).2⟩⟩,L.s4,L.free.new _ _,L.kq.trans (M:=N) (.new (ar _)) L.le,c8 L.le⟩
theorem LB.upd(L:LB Fl aN aA N h)(hn:s∈a8)(hf:f∈j3)(hm:f∉Fl s):LB (lL Fl s f) aN aA N (h.set (jn s) (.list ((Fl s).map .str++[.str f]))):=by
 obtain⟨es,a,c⟩:=L.I;refine⟨⟨es,aE a,λt ht=>⟨(c t ht).1,?_⟩⟩,λt ht=>?_,λk l hk=>aE (L.free k l hk),L.kq.trans (M:=N) (.set (k:=48)) L.le,L.le⟩
 ·unfold lL
  by_cases e:t=s
  ·subst e;rw[aP rfl,dN];exact aS
  ·rw[aK e];exact(aq λz=>e (Be ht hn z)).trans (c t ht).2
 ·unfold lL
  by_cases e:t=s
  ·rw[aP e]
   have z:=L.s4 s hn;refine⟨lq.mpr (cG z.1 (ko _ _) (λx hx y hy w=>hm (by rw[bS.mp hy] at w;exact w▸hx))),λx hx=>?_⟩;rcases dw.mp hx with w|w
   ·exact z.2 x w
   ·rw[bS.mp w];exact hf
  ·rw[aK e];exact L.s4 t ht
structure LJ(g0:Nat)(aN:Nat)(aA:SH)(s:f_):Prop where
 L:LB s.F aN aA s.N s.h
 le:g0≤hH s.F
 lt:s.c=ab→g0<hH s.F
noncomputable def Ko:List Str:=["self","start","k","didadd","p","i","B","fst","hasempty","f"]
theorem Ji:cr (bC 273) Ko=ab:=by kernel_rfl
theorem w_fo:cY (bC 273) ["enumerate","len"]=ab:=by kernel_rfl
noncomputable def mT(i:FI)(b:Nat):FI:=i.fn (b+1) 273 Ko ["enumerate","len"] Ji w_fo
noncomputable def DZ:List bx:=ew (stN (ba 273) 5)
noncomputable def foP:List bx:=ew (stN DZ 1)
noncomputable def Jc:List bx:=ew (stN foP 0)
noncomputable def yJ:List bx:=ew (stN Jc 0)
noncomputable def wB(p:Nat)(i:Nat)(B:Str)(c:Bool):SF:=[("self",.ref aX),("p",bA p),("i",.int i),("B",.str B),("didadd",.bool c)]
theorem X4:∀f∈oD,f≠iU→f∈j3:=aW
theorem Vx{s:f_}{g0 p ix:Nat}(G:GX R aA)(hp:p<R.length)(y3:bE R p∈a8)(J:LJ g0 aN aA s)(hB:B∈a8)(fin:∀F c N h fr,LJ g0 aN aA ⟨F,c,N,h⟩→(wB p ix B c).sub fr→Q .next fr h):
  SS (mT i b) (wB p ix B s.c) s.h [ew (stN yJ 3)] Q:=by
 have pr:∀{h' N'} {F':Str→List Str},LB F' aN aA N' h'→GX R h':=λL=>G.kq L.kq;obtain⟨es,a,c⟩:=J.L.I;refine xA (c (bE R p) y3) λk1 k2=>?_;refine et (σ:=f_) (λt=>wB p ix B t.c) f_.h (λt j=>LJ g0 aN aA t∧t.F (bE R p)=s.F (bE R p)) s ((s.F (bE R p)).map .str) (d7 (gV (a_ (n:=aX) n_ (pr J.L).gr) (a_ (n:=bf p) n_ ((pr J.L).pr p hp)) a k1) k2) ⟨J,rfl⟩ .rfl (λt j Z=>?_) (λt j v Z e=>?_) (λt Z=>aH (aH (bK (fin t.F t.c t.N t.h _ Z.1 .rfl))))
 ·refine aj Z.1.L.I λCx a2 c2=>?_
  exact d8 (by rw[←Z.2];exact(c2 _ y3).2)
 ·refine aj (dJ e) λf hf ax=>?_;subst ax
  refine xA Z λJ2 eF=>?_;clear Z;have NJ:=bN hf;obtain⟨Cx,a2,c2⟩:=J2.L.I;refine xA (c2 B hB) λq1 q2=>?_;have l4:=(J2.L.s4 B hB).len;refine dX ?_
  by_cases hm:f∈t.F B
  ·exact cf (bt n_ (gV (a_ (n:=aX) n_ (pr J2.L).gr) n_ a2 q1) (vA (.own q2) (jT.mpr hm) mR)) (aH (aH (bK (LQ.next t ⟨J2,eF⟩ (SF.sub.rfl.b9)))))
  ·refine cS (bt n_ (gV (a_ (n:=aX) n_ (pr J2.L).gr) n_ a2 q1) (yT (.own q2) (λz=>hm (jT.mp z)) mR)) ?_
   refine fG (di (gV (a_ (n:=aX) n_ (pr J2.L).gr) n_ a2 q1) (fS q2) iB (aB n_ aL) (fX q2 (by rw[aI _];refine(?_:_≤2^24);exact ah ‹_› aJ))) (bM jE ?_);have su:=Hi (F:=t.F) (f:=f) hB;refine aH (aH (bK (LQ.next ⟨lL t.F B f,ab,t.N,t.h.set (jn B) (.list ((t.F B).map .str++[.str f]))⟩ ⟨⟨J2.L.upd hB ((J.L.s4 _ y3).2 f NJ) hm,ah J2.le (cj su),λ_=>bd J2.le su⟩,?_⟩ (ai (ai (ai (ai (ai bq))))))));show lL t.F B f (bE R p)=_;unfold lL;rw[aK (λz=>hm (by rw[←z,eF];exact NJ):bE R p≠B)];exact eF
structure vM where
 F:Str→List Str
 c:Bool
 e:Bool
 N:Nat
 h:SH
noncomputable def vv(p ix N:Nat)(B:Str)(t:vM):SF:=[("self",.ref aX),("p",bA p),("i",.int ix),("B",.str B),("didadd",.bool t.c),("fst",.ref (gN N)),("hasempty",.bool t.e)]
theorem Tq{s:f_}{g0 p ix:Nat}(G:GX R aA)(I0:nF F aA)(hF:∀x∈e7,lV (F x))(hp:p<R.length)(y3:bE R p∈a8)(J:LJ g0 aN aA s)(hB:(aG R p)[ix]? =aa B)(fin:∀F c N h fr,LJ g0 aN aA ⟨F,c,N,h⟩→(SF.sub [("self",.ref aX),("p",bA p),("didadd",.bool c)] fr)→Q .next fr h):
  SS (mT i b) (wB p ix B s.c) s.h [Jc] Q:=by
 have gx:∀{h' N'} {F':Str→List Str},LB F' aN aA N' h'→GX R h':=λL=>G.kq L.kq;have fx:∀{h' N'} {F':Str→List Str},LB F' aN aA N' h'→nF F h':=λL=>by
  refine aj I0 λes a c=>?_;clear I0;exact⟨es,(L.kq.1 _ _ rfl).trans a,λs hs=>⟨(c s hs).1,(L.kq.1 _ _ rfl).trans (c s hs).2⟩⟩
 obtain⟨jX,hn,ns,e1,e2,e3,e4⟩:=G.iC;have tX:∀{N' h'} {F':Str→List Str},LB F' aN aA N' h'→h' (.mk 39 [])=aa (.dict jX):=λZ=>(Z.kq.1 _ _ rfl).trans hn;have hlt:=(cV.mp hB).1
 cases jk:jX.lookup (.str B) with
 |none=>exact cf (bt n_ (a_ (n:=aX) n_ (gx J.L).gr) (CW (tX J.L) jk)) (aH (aH (bK (fin s.F s.c s.N s.h _ J (ai (ai (ai bq)))))))
 |some v=>
  have zy:B∈a8:=by
   have:(SV.str B)∈jX.map (·.1):=by
    cases z:decide (SV.str B∈jX.map (·.1)) with
    |true=>exact fC z
    |false=>rw[lU.mpr (sk z)] at jk;exact a7 jk
   rw[e1] at this;exact e3 B (jT.mp this)
  refine cS (bt n_ (a_ (n:=aX) n_ (gx J.L).gr) (Mm (tX J.L) jk)) ?_;have tw:∀x∈(aG R p).drop (ix+1),x∈e7:=λx hx=>G.sy p hp x (List.mem_of_mem_drop hx);have P:=Ky (i:=mT i b) (b:=b) (l:=(aG R p).drop (ix+1)) rfl (gx J.L).gr (fx J.L) tw hF J.L.free;have S5:lV (frs F [] ((aG R p).drop (ix+1))):=lD.nil.frs λx hx=>hF x (tw x hx);have L2:=J.L.iQ (o:=.list ((frs F [] ((aG R p).drop (ix+1))).map .str));have hL:(s.h.set (gN s.N) (.list ((frs F [] ((aG R p).drop (ix+1))).map .str))) (gN s.N)=aa (.list ((frs F [] ((aG R p).drop (ix+1))).map .str)):=aS;have sl:fk ((aG R p).map SV.str) (aa ((ix:Int)+1)) af=((aG R p).drop (ix+1)).map SV.str:=by
   have:=AL (vs:=(aG R p).map SV.str) (j:=ix+1) (by rw[aI _];exact hlt);rw[zZ];exact this
  have bu:=G.bu p;have AA:=(gx J.L).pr p hp;refine bM (v:=.ref (gN s.N)) (EP.ev (di n_ (iX (gx J.L).gr rfl) (i.K.keep rfl) (aB (sl▸XC (a_ (n:=bf p) n_ AA) (fK n_ bD nZ) (by rw[aI _];refine(?_:_≤2^24);exact ah ‹_› aJ)) aL) P.cp)) ?_;refine bM jE ?_
  have rest:∀t:vM,LJ g0 aN aA ⟨t.F,t.c,t.N,t.h⟩→SS (mT i b) (vv p ix s.N B t) t.h [yJ.drop 3,[]] Q:=λt J3=>by
   have AA:=(gx J3.L).pr p hp;have fj:SS (mT i b) (vv p ix s.N B t) t.h [ew (stN yJ 3),[],[]] Q:=by
    have:=Vx (i:=i) (b:=b) (s:=⟨t.F,t.c,t.N,t.h⟩) (ix:=ix) G hp y3 J3 zy (Q:=Q) λF c N h fr J4 sb=>fin F c N h fr J4 (λy v hv=>sb y v (by
     have:SF.sub [("self",.ref aX),("p",bA p),("didadd",.bool c)] (wB p ix B c):=ai (ai (ai bq));exact this y v hv))
    exact SS.sub (ej:=wB p ix B t.c) ⟨λfr' s'=>iY.imp (this.run fr' s') (λf fr h q=>by cases f with|next=>exact vU (vU q)|_=>exact q) λ_ _ _ q=>q⟩ (ai (ai (ai (ai (ai bq)))))
   have no:SS (mT i b) (vv p ix s.N B t) t.h [[],[],[]] Q:=aH (aH (aH (bK (fin t.F t.c t.N t.h _ J3 (ai (ai (ai bq)))))));have ln:CP (mT i b) t.h (.bi "len") [.tup ((aG R p).map .str)] (is (.int (aG R p).length) t.h):=Gc (aI _) (by rw[aI _];exact bd ‹_› bg)
   cases he:t.e with
   |true=>
    exact cS (xx (p_ n_ (by show TV (mT i b) t.h (.bool t.e) ab;rw[he];exact jf))) fj
   |false=>
    by_cases hl:ix+1=(aG R p).length
    ·exact cS (pN (p_ (n_ (v:=.bool t.e)) (by rw[he];exact jf)) (xx (bt n_ (fK (b8 (i.K.bi rfl) rfl (aB (a_ (n:=bf p) n_ AA) aL) ln) bD CE) (nu (by rw[←hl];show SV.int _=SV.int _;exact ay SV.int (Int.add_sub_cancel _ 1).symm))))) fj
    ·exact cf (pN (p_ (n_ (v:=.bool t.e)) (by rw[he];exact jf)) (pN (bt n_ (fK (b8 (i.K.bi rfl) rfl (aB (a_ (n:=bf p) n_ AA) aL) ln) bD CE) (lX λz=>hl (by injection z with z;exact w7 ((ay (· +1) z).trans (ahk _ _))))) Bm)) no
  refine et (σ:=vM) (vv p ix s.N B) vM.h (λt j=>LJ g0 aN aA ⟨t.F,t.c,t.N,t.h⟩∧t.h (gN s.N)=aa (.list ((frs F [] ((aG R p).drop (ix+1))).map .str))) ⟨s.F,s.c,an,s.N+1,s.h.set (gN s.N) (.list ((frs F [] ((aG R p).drop (ix+1))).map .str))⟩ ((frs F [] ((aG R p).drop (ix+1))).map .str) (d7 n_ hL) ⟨⟨L2,J.le,J.lt⟩,hL⟩ (ai (ai (ai (ai (ai (ai (ai bq))))))) (λt j Z=>d8 Z.2) (λt j v Z e=>?_) (λt Z=>aH (rest t Z.1));refine aj (dJ e) λf hf ax=>?_;subst ax;refine xA Z λJ2 u4=>?_;clear Z;have Wm:=S5.2 f (bN hf);obtain⟨Cx,a2,c2⟩:=J2.L.I;refine xA (c2 B zy) λq1 q2=>?_;have l4:=(J2.L.s4 B zy).len
  have tail:∀t2:vM,LJ g0 aN aA ⟨t2.F,t2.c,t2.N,t2.h⟩→t2.h (gN s.N)=aa (.list ((frs F [] ((aG R p).drop (ix+1))).map .str))→SS (mT i b) ((vv p ix s.N B t2).put "f" (.str f)) t2.h [(ew (stN yJ 2)).drop 1] (LQ (mT i b) (vv p ix s.N B) vM.h (λt=>LJ g0 aN aA ⟨t.F,t.c,t.N,t.h⟩∧t.h (gN s.N)=aa (.list ((frs F [] ((aG R p).drop (ix+1))).map .str))) (yJ.drop 3::[[]]) Q):=λt2 J4 KW=>by
   by_cases mM:f=iU
   ·subst mM
    exact cS (bt n_ cx (nu rfl)) (bM jE (aH (aH (bK (LQ.next ⟨t2.F,t2.c,ab,t2.N,t2.h⟩ ⟨J4,KW⟩ (ai (ai (ai (ai (ai (ai (ai bq))))))))))))
   ·exact cf (bt n_ cx (lX λz=>mM (by injection z))) (aH (aH (bK (LQ.next t2 ⟨J4,KW⟩ (SF.sub.rfl.b9)))))
  refine dX ?_
  by_cases mM:f=iU
  ·refine cf (oJ (bt n_ cx (DY (by rw[mM];rfl)))) (aH (tail t J2 u4))
  ·have hfL:=X4 f Wm mM
   by_cases hm:f∈t.F B
   ·exact cf (lY (bt n_ cx (J9 λz=>mM (by injection z))) (oJ (bt n_ (gV (a_ (n:=aX) n_ (gx J2.L).gr) n_ a2 q1) (vA (.own q2) (jT.mpr hm) mR)))) (aH (tail t J2 u4))
   ·refine cS (lY (bt n_ cx (J9 λz=>mM (by injection z))) (lY (bt n_ (gV (a_ (n:=aX) n_ (gx J2.L).gr) n_ a2 q1) (yT (.own q2) (λz=>hm (jT.mp z)) mR)) Au)) ?_
    refine fG (di (gV (a_ (n:=aX) n_ (gx J2.L).gr) n_ a2 q1) (fS q2) iB (aB n_ aL) (fX q2 (by rw[aI _];refine(?_:_≤2^24);exact ah ‹_› aJ))) (bM jE (aH ?_));have su:=Hi (F:=t.F) (f:=f) zy;refine SS.sub (tail ⟨lL t.F B f,ab,t.e,t.N,t.h.set (jn B) (.list ((t.F B).map .str++[.str f]))⟩ ⟨J2.L.upd zy hfL hm,ah J2.le (cj su),λ_=>bd J2.le su⟩ (by dsimp only;exact aE u4)) ?_;exact ai (ai (ai (ai (ai (ai (ai (ai bq)))))))
noncomputable def zn(s:Str):List Str:=if s="S" then ["$end"] else []
noncomputable def pX(s:Str):Nm:=if s="S" then .mk 67 [] else jn s
structure ur(done:List Str)(aA h:SH)(es:b7):Prop where
 d:h (.mk 46 [])=aa (.dict es)
 ok:∀s∈done,s≠"S"→es.lookup (.str s)=aa (.ref (jn s))∧h (jn s)=aa (.list [])
 no:∀s∈a8,s∉done∨s="S"→h (jn s)=af
 Bw:("S":Str)∉done→h (.mk 67 [])=af
 len:es.length≤done.length
 kq:∀M,Kq [46,48,67] M aA h
theorem ur.step{done:List Str}{es:b7}(I:ur done aA h es)(hd:∀s∈done,s∈a8)(hs:s∈a8)(hn:s∉done):h (pX s)=af∧ur (done++[s]) aA ((h.set (pX s) (.list [])).set (.mk 46 []) (.dict (bh es (.str s) (.ref (pX s))))) (bh es (.str s) (.ref (pX s))):=by
 by_cases hS:s="S"
 ·subst hS
  have e0:pX "S"=.mk 67 []:=aP rfl;rw[e0];refine⟨I.Bw hn,aS,λt ht dg=>?_,λt ht hc=>?_,λz=>bc (kj _ (bS.mpr rfl)) z,by rw[cU];exact ah tD (eG I.len),λM=>((I.kq M).trans (M:=M) (.set (k:=67)) (ar _)).trans (M:=M) (.set (k:=46)) (ar _)⟩
  ·have z:=(dw.mp ht).resolve_right λz=>dg (bS.mp z)
   refine xA (I.ok t z dg) λa c=>?_;exact⟨by rw[fy _,aK (λe=>dg (by injection e))];exact a,aE (aE c)⟩
  ·exact aE (aE (I.no t ht (hc.imp (λz w=>z (i7 _ w)) id)))
 ·have e0:pX s=jn s:=aK hS
  rw[e0];refine⟨I.no s hs (.inl hn),aS,λt ht dg=>?_,λt ht hc=>?_,λz=>aE (aE (I.Bw λw=>z (i7 _ w))),by rw[cU];exact ah tD (eG I.len),λM=>((I.kq M).trans (M:=M) (.set (k:=48)) (ar _)).trans (M:=M) (.set (k:=46)) (ar _)⟩
  ·rcases dw.mp ht with z|z
   ·have ne:t≠s:=λe=>hn (e▸z)
    refine xA (I.ok t z dg) λa c=>?_;exact⟨by rw[fy _,aK (λe=>ne (by injection e))];exact a,aE ((aq λe=>ne (Be (hd t z) hs e)).trans c)⟩
   ·rw[bS.mp z]
    exact⟨by rw[fy _,aP rfl],aE aS⟩
  ·have ne:t≠s:=λe=>hc.elim (λz=>z (kj _ (bS.mpr e))) λz=>hS (e▸z)
   exact aE ((aq λe=>ne (Be ht hs e)).trans (I.no t ht (hc.imp (λz w=>z (i7 _ w)) id)))
theorem Fm{n m:Nm}{vs ws:List SV}{lo e:Expr}{j:Int}{p pos:Pos}(a:EV i fr h e (.ref n) ag)(b:EV i fr ag lo (.int j) aC)(hn:aC n=aa (.list vs))(hz:vs.length≤cR)(hm:aC m=af)(hw:fk vs (aa j) af=ws):EV i fr h (.Subscript e (.Slice (aa lo) af af p) pos) (.ref m) (aC.set m (.list ws)):=hw▸δ a b hn hz hm
theorem nF.kq{B:List Nat}(I:nF F h)(kq:Kq B N h h')(hB:autoParam ((!(99::B).contains 45 && !(99::B).contains 47)=ab) bl):nF F h':=by
 rw[bO,jL,jL] at hB;refine aj I λes a c=>?_;clear I;exact⟨es,(kq.1 _ _ hB.1).trans a,λs hs=>⟨(c s hs).1,(kq.1 _ _ hB.2).trans (c s hs).2⟩⟩
theorem Tz{s:f_}(G:GX R aA)(I0:nF F aA)(hF:∀x∈e7,lV (F x))(L:LB s.F aN aA s.N s.h)(hR:0<R.length)
  (fin:∀t:f_,LJ (hH s.F) aN aA t→SS (mT i b) [("self",.ref aX),("didadd",.bool t.c)] t.h (DZ.drop 2::k) Q):SS (mT i b) [("self",.ref aX)] s.h (DZ::k) Q:=by
 have c7:=G.len;have gs:=G.kq L.kq;refine bM jE ?_;have sl:fk ((bo R.length).map bA) (aa (1:Int)) af=(bo R.length).tail.map bA:=by
  have:=AL (vs:=(bo R.length).map bA) (j:=1) (by rw[aI _,dS];exact hR);rw[show((1:Nat):Int)=1 from rfl] at this;rw[this,←zZ,ai9]
 have L2:=L.iQ (o:=.list ((bo R.length).tail.map bA));have hL:(s.h.set (gN s.N) (.list ((bo R.length).tail.map bA))) (gN s.N)=aa (.list ((bo R.length).tail.map bA)):=aS;refine et (σ:=f_) (λt=>[("self",.ref aX),("didadd",.bool t.c)]) f_.h (λt j=>LJ (hH s.F) (s.N+1) (s.h.set (gN s.N) (.list ((bo R.length).tail.map bA))) t) ⟨s.F,an,s.N+1,s.h.set (gN s.N) (.list ((bo R.length).tail.map bA))⟩ ((bo R.length).tail.map bA) (d7 (Fm (m:=gN s.N) (a_ (n:=aX) n_ gs.gr) bD gs.fg (by rw[aI _,dS];refine(?_:_≤2^24);exact ah ‹_› aJ) L.free.at sl) hL) ⟨⟨L2.I,L2.s4,L2.free,.same,ar _⟩,ar _,λz=>by exact cJ z⟩ (ai (ai bq)) (λt j Z=>d8 ((Z.L.kq.2 s.N [] (dq _)).trans hL)) (λt j v Z e=>?_) (λt Z=>aH (fin t ⟨⟨Z.L.I,Z.L.s4,Z.L.free,L2.kq.trans Z.L.kq L2.le,ah L2.le Z.L.le⟩,Z.le,Z.lt⟩));refine aj (dJ e) λp hp ax=>?_;subst ax;refine xA (Cs.mp (bN hp)) λp0 pl=>?_;have G2:=G.kq L2.kq;refine dX (et (σ:=f_) (λt=>[("self",.ref aX),("p",bA p),("didadd",.bool t.c)]) f_.h (λt _=>LJ (hH s.F) (s.N+1) (s.h.set (gN s.N) (.list ((bo R.length).tail.map bA))) t) t (wC ((aG R p).map .str)) (O_ (i.K.ty rfl) (a_ (n:=bf p) n_ (((λL=>G2.kq L.kq:∀{h' N'} {F':Str→List Str},LB F' (s.N+1) (s.h.set (gN s.N) (.list ((bo R.length).tail.map bA))) N' h'→GX R h') Z.L).pr p pl)) .tup) Z (ai (ai (ai bq))) (λt j Z=>Vh) (λt2 j2 v2 Z2 e2=>?_) (λt2 Z2=>aH (aH (bK (LQ.next t2 Z2 (ai (ai bq)))))));rw[Bl,dv] at e2
 cases hB:(aG R p)[j2]? with
 |none=>rw[hB] at e2;(first|exact a7 e2|obtain rfl:=aY e2)
 |some B=>
  rw[hB] at e2
  (first|exact a7 e2|obtain rfl:=aY e2)
  refine GU (SS.sub (Tq (i:=i) (b:=b) G2 (I0.kq L2.kq) hF pl (G.nt p p0 pl) Z2 hB λF c N h fr J' sb=>LQ.next ⟨F,c,N,h⟩ J' sb) ?_);exact ai (ai (ai (ai (ai bq))))
theorem UC(hb:i.b=b+2)(G:GX R h)(I0:nF F h)(j7:∃es,h (.mk 45 [])=aa (.dict es)∧es.length≤10)(hF:∀x∈e7,lV (F x))(hR:1<R.length)(h1:bE R 1="S")(LW:h (.mk 46 [])=aa (.dict []))(Tm:∀l,h (.mk 48 l)=af)(Bw:h (.mk 67 [])=af)(B:bp h N):
  FP i h (.glob 273) [.ref aX] (λv h'=>v=.ref (.mk 46 [])∧∃Fl N',LB Fl N h N' h'):=by
 refine enter (b:=b+1) i.K.cfollow Ji w_fo hb rfl ?_;have c7:=G.len;refine cf (p_ (a_ (n:=aX) n_ G.gr) (zb LW bg)) (aH ?_);refine aj j7 λD5 f1 f3=>?_;clear j7;have fne:(!D5.isEmpty)=ab:=by
  refine aj I0 λajo OP f2=>?_;clear I0;rw[f1] at OP;cases OP
  cases D5 with
  |nil=>have:=(f2 "a" aW).1;(first|exact a7 this|obtain rfl:=aY this)
  |cons _ _=>rfl
 refine cf (fw (t:=ab) (p_ (a_ (n:=aX) n_ G.gr) (fne▸zb f1 (bd ‹_› bg)))) (aH ?_);obtain⟨jX,hn,ns,e1,e2,e3,e4⟩:=G.iC;have k7:=G9 e1;have A7:ns.length≤3:=fO e2 (l₂:=a8) e3;have tX:∀{done es h'},ur done h h' es→h' (.mk 39 [])=aa (.dict jX):=λI=>((I.kq 0).1 _ _ rfl).trans hn;have gk:∀{done es h'},ur done h h' es→h' aX=aa (.inst 283 pS):=λI=>((I.kq 0).1 _ _ rfl).trans G.gr;have Rl:ur [] h h []:=⟨LW,λs z=>(cT z),λs _ _=>Tm _,λ_=>Bw,ar _,λM=>.same⟩;refine et (σ:=vS) (λ_=>[("self",.ref aX),("start",.none)]) vS.h (λs j=>ur (ns.take j) h s.h s.es) ⟨[],h⟩ (jX.map (·.1)) (wd (a_ (n:=aX) n_ G.gr) hn k7) Rl (ai (ai bq)) (λs j I=>wf (tX I) k7) (λs j v I e=>?_) (λs I=>?_)
 ·rw[e1] at e
  refine aj (dJ e) λt ht ax=>?_;subst ax;have lO:=e3 t (bN ht);have tk:ns.take (j+1)=ns.take j++[t]:=by rw[jN,ht];rfl
  have oO:t∉ns.take j:=λz=>by
   have nd:=(HG (j+1) ns).nodup e2;rw[tk,lq] at nd;exact nd.2.2 t z t (bS.mpr rfl) rfl
  have l3:(ns.take j).length≤3:=by rw[jH];exact ah (pD _ _) A7
  refine xA (I.step (λs hs=>e3 s (DL hs)) lO oO) λfr0 st=>?_;have nk:∀k l,k≠67→k≠48→(s.h.set (pX t) (.list [])) (.mk k l)=s.h (.mk k l):=λk l h1 h2=>aq λe=>by
   unfold pX at e
   split at e
   ·injection e with e;exact h1 e
   ·injection e with e;exact h2 e
  refine dX (ef (n:=.mk 46 []) (es:=s.es) (eD (n:=pX t) aL fr0) (a_ (n:=aX) n_ ((nk _ _ bH bH).trans (gk I))) n_ ((nk _ _ bH bH).trans I.d) (by have:=I.len;refine(?_:_≤2^24);exact ah (ah ‹_› ‹_›) aJ) ?_);exact aH (bK (LQ.next ⟨_,_⟩ (by rw[tk];exact st) (ai (ai bq))))
 ·rw[e1,aI,zW] at I
  have hS:("S":Str)∈a8:=aW;refine aH (cS (fw (t:=an) (p_ n_ nN)) ?_);have VE:((bo R.length).map bA)[1]? =aa (bA 1):=CJ hR;refine bM (v:=.str "S") (a_ (n:=bf 1) (mJ (j:=1) (a_ (n:=aX) n_ (gk I)) bD (.own (((I.kq 0).1 _ _ rfl).trans G.fg)) bg VE) (((I.kq 0).1 _ _ rfl).trans (G.pr 1 hR)) (ay (λz=>aa (SV.str z)) h1)) (aH ?_);refine ef (n:=.mk 46 []) (es:=s.es) (eD (n:=jn "S") (aB cx aL) (I.no "S" hS (.inr rfl))) (a_ (n:=aX) n_ (aE (gk I))) n_ (aE I.d) (by have:=I.len;refine(?_:_≤2^24);exact ah (ah ‹_› ‹_›) aJ) ?_;have L0:LB zn N h N ((s.h.set (jn "S") (.list [.str "$end"])).set (.mk 46 []) (.dict (bh s.es (.str "S") (.ref (jn "S"))))):=by
   refine⟨⟨_,aS,λt ht=>?_⟩,λt ht=>?_,λk l hk=>aE (aE (B.kq I.kq k l hk)),((I.kq N).trans (M:=N) (.set (k:=48)) (ar _)).trans (M:=N) (.set (k:=46)) (ar _),ar _⟩
   ·by_cases e:t="S"
    ·subst e
     exact⟨by rw[fy _,aP rfl],aE aS⟩
    ·refine xA (I.ok t (e4 t ht) e) λa c=>?_
     refine⟨by rw[fy _,aK (λz=>e (by injection z))];exact a,aE ((aq λz=>e (Be ht hS z)).trans ?_)⟩;unfold zn;rw[aK e];exact c
   ·unfold zn
    split
    ·exact⟨ko _ _,by exact aW⟩
    ·exact⟨.nil,λ_ z=>by exact cT z⟩
  generalize (s.h.set (jn "S") (.list [.str "$end"])).set (.mk 46 []) (.dict (bh s.es (.str "S") (.ref (jn "S"))))=h2 at L0 ⊢;refine ry (σ:=f_) (λ_=>[("self",.ref aX)]) f_.h (λs m=>m+hH s.F=13∧LB s.F N h s.N s.h) ⟨zn,an,N,h2⟩ (13-hH zn) ⟨by rfl,L0⟩ (ai bq) ?_;rintro s m ⟨hm,L⟩;refine(mC ab s.h (p_ jE jf) (λz=>(iV z)) (λ_=>?_));refine Tz (b:=b) G I0 hF L (cj ‹_›) λt J=>?_
  cases hc:t.c with
  |true=>
   have MB:=J.L.sum;exact cf (fw (t:=ab) (p_ n_ jf)) (aH (aH (bK (LQ.next t (cK (13-hH t.F) (L_ hm (J.lt hc) (c8 MB)) (qT (c8 MB)) J.L) (ai bq)))))
  |false=>
   exact cS (fw (t:=an) (p_ n_ jf)) (AO (gA (a_ (n:=aX) n_ (G.kq J.L.kq).gr) ⟨rfl,t.F,t.N,J.L⟩))
noncomputable def Za:List Str:=["self","grammar","method","log"]
theorem Wz:cr (bC 333) Za=ab:=by kernel_rfl
theorem w_ti:cY (bC 333) []=ab:=rfl
noncomputable def xt:List Nat:=[20,30,31,32,33,43,47,48,51,52,53,54,55,56,57,60,61,62,63,64,65,67]
noncomputable def sV:List Nat:=[10,40,45,46]++xt
noncomputable def jb(h:SH):SH:=(((((((h.set (.mk 51 []) (.dict [])).set (.mk 52 []) (.dict [])).set jc (.dict [])).set iP (.dict [])).set (.mk 53 []) (.list [])).set (.mk 54 []) (.list [])).set (.mk 55 []) (.list [])).set dp (.inst 427 (nC 0))
theorem yw{k:Nat}{l:List Nat}(hk:([51,52,32,33,53,54,55,30]:List Nat).contains k=an):jb h (.mk k l)=h (.mk k l):=by
 have ne:∀a∈([51,52,32,33,53,54,55,30]:List Nat),∀l',Nm.mk k l≠.mk a l':=λa ha l' e=>by injection e with e;subst e;rw[e9.mpr ha] at hk;exact iV hk
 unfold jb;exact(aq (ne 30 bQ _)).trans ((aq (ne 55 bQ _)).trans ((aq (ne 54 bQ _)).trans ((aq (ne 53 bQ _)).trans ((aq (ne 33 bQ _)).trans ((aq (ne 32 bQ _)).trans ((aq (ne 52 bQ _)).trans (aq (ne 51 bQ _))))))))
theorem M9(M:Nat):Kq sV M h (jb h):=⟨λk l hk=>yw (by
 cases z:([51,52,32,33,53,54,55,30]:List Nat).contains k with
 |false=>rfl
 |true=>rw[(aW:∀a∈([51,52,32,33,53,54,55,30]:List Nat),(99::sV).contains a=ab) k (e9.mp z)] at hk;exact iV hk),λk l _=>yw rfl⟩
theorem GW.same(G:GW R h)(e:∀k l,(kV++[10,40,42,44]:List Nat).contains k=ab→h' (.mk k l)=h (.mk k l)):GW R h':=by
 obtain⟨es,a,c,d⟩:=G.names;obtain⟨ns,a2,c2,d2⟩:=G.iC;exact⟨(e 34 _ rfl).trans G.gr,(e _ _ rfl).trans G.fg,(cK es ((e _ _ rfl).trans a) (λs hs=>⟨(c s hs).1,(e 40 _ rfl).trans (c s hs).2⟩) d),(e _ _ rfl).trans G.term,(cK ns ((e _ _ rfl).trans a2) (c2.same (λl=>e 44 l rfl) (ar _)) d2),(e _ _ rfl).trans G.first,(e _ _ rfl).trans G.nE,(e _ _ rfl).trans G.prec,λj hj=>⟨(e 10 _ rfl).trans (G.pr j hj).1,(e 42 _ rfl).trans (G.pr j hj).2⟩⟩
theorem abe:∀s:Str,(iO.lookup (.str s)).isSome=dV.contains s:=λs=>by
 have d:∀t:Str,(SV.str s==SV.str t)=(s==t):=λt=>by
  by_cases e:s=t
  ·subst e;rw[qF _,qF _]
  ·rw[k9.mpr e,k9.mpr λz=>e (by injection z)]
 unfold iO dV;simp only[k_,w8,d]
 cases(s==("a":Str))<;>cases(s==("b":Str))<;>cases(s==("error":Str))<;>rfl
theorem VD{es:b7}(I:g9 h es m)(all:∀s∈a8,(es.lookup (.str s)).isSome=ab):∃ns:List Str,es.map (·.1)=ns.map .str∧ns.Nodup∧(∀s∈ns,s∈a8)∧∀s∈a8,s∈ns:=by
 have key:∀p∈es,∃s∈a8,p.1=.str s:=λp hp=>by
  cases e:es.lookup p.1 with
  |none=>exact bc (bB.mpr (aU p hp rfl):p.1∈es.map (·.1)) (lU.mp e)
  |some v=>refine bG (I.key _ _ e) λs hs z _=>?_;exact(aU s hs z)
 have hn:∃ns:List Str,es.map (·.1)=ns.map .str∧∀s∈ns,s∈a8:=by
  clear I all
  induction es with
  |nil=>exact(aU ([]) rfl (λ_ z=>by exact cT z))
  |cons p r ih=>
   refine aj (ih λp hp=>key p (eT _ hp)) λns a c=>?_;refine aj (key p dA) λs hs e=>?_;exact(aU (s::ns) (by rw[sI,sI,a,e]) (λt ht=>(dE.mp ht).elim (λz=>z▸hs) (c t)))
 refine aj hn λns a c=>?_;clear hn;refine(ik ns a ?_ c (λs hs=>?_))
 ·have nd:=I.nd
  rw[a] at nd;exact aja SV.str (λa b z e=>z (ay _ e)) nd
 ·have:(SV.str s)∈es.map (·.1):=by
   cases z:decide (SV.str s∈es.map (·.1)) with
   |true=>exact fC z
   |false=>have:=all s hs;rw[lU.mpr (sk z)] at this;exact cJ this
  rw[a] at this;exact jT.mp this
theorem aes(g:GR R)(J:BJ R aN aA R.length 0 N h)(rS:∀j,j<R.length→h (.mk 42 [j])=aa (.list ((gX [] (aG R j)).map .str)))(tb:h dp=aa (.inst 427 (nC 0)))(ca:h jc=aa (.dict []))(Zq:∀l,h (.mk 31 l)=af):cZ R (gM R) 0 N h:=by
 have hl:=g.len;refine⟨⟨J.free,λq hq=>?_,λj hj=>(aU ([]) ?_ ⟨b_ _,.inl rfl,.inl rfl⟩),tb,QQ _,by exact ah ‹_› aJ,λj=>by have:=g.bu j;exact ah ‹_› aJ⟩,⟨λ_ _=>af,[],ca,.nil,λ_ _ e=>(by(first|exact a7 e|obtain rfl:=aY e)),λx _ ps=>Zq _,λ_ _ _ _ e=>(a7 e),λ_ _ e=>(cJ e),λ_ _ _ _ e=>(cJ e)⟩,by have:=G8 g;exact ah ‹_› aJ⟩
 ·have:=J.done q hq (.inl hq.1)
  exact(cG this.1 this.2 (rS q.1 hq.1))
 ·rw[gP _];exact(J.kY j hj hj).1
theorem GR.FS(g:GR R):∀j,0<j→j<R.length→bE R j∈a8:=λj h0 hj=>by
 rcases g.nm j h0 hj with e|e|e<;>rw[e]<;>exact aW
theorem GR.MQ(g:GR R):∀j,j<R.length→∀s∈aG R j,s∈e7:=λj hj s hs=>by
 rcases sJ j with rfl|h0
 ·rw[g.qe,bS] at hs;subst hs;exact aW
 ·have:∀s∈(["a","A","b","B","error"]:List Str),s∈e7:=aW
  exact this s (g.sy j s h0 hs)
structure ZY(R:bn)(N:Nat)(h h':SH)(c':Int)(N':Nat):Prop where
 w:cZ R (gM R) c' N' h'
 gr:iZ R h'
 od:∀j,j<R.length→h' (.mk 43 [j])=aa (.list ((bo ((aG R j).length+1)).map λd=>a9 (j,d)))
 kq:Kq sV N h h'
 le:N≤N'
theorem abw{ns:List (SV×SV)}{nW:List Str}{s:Str}(e1:ns.map (·.1)=nW.map .str)(e3:∀s∈nW,s∈a8)(e4:∀s∈a8,s∈nW):(ns.lookup (.str s)).isSome=qj s:=by
 cases z:ns.lookup (.str s) with
 |some v=>exact(wc.mpr (e3 s (jT.mp (e1▸Dh λn=>a7 ((lU.mpr n).symm.trans z))))).symm
 |none=>exact(DC.mpr λw=>lU.mp z (e1▸jT.mpr (e4 s (wc.mp w)))).symm
theorem Xg(hb:i.b=b+6)(g:GR R)(h1:1<R.length∧bE R 1="S")(G:GW R h)(B:bp h N)(no:∀k∈xt,∀l,h (.mk k l)=af)(iT:∀a c,h (.mk 40 [a,c])=af):
  FP i h (.glob 427) [.ref aX,.str "SLR"] (λv h'=>v=.ref dp∧∃c' N',ZY R N h h' c' N'):=by
 refine cls (b:=b+5) (fI:=333) (n:=dp) rfl hb (no 30 bQ _) (enter (b:=b+4) i.K.tabinit Wz w_ti rfl rfl ?_);have c7:=g.len;refine cf (bt n_ (eD (n:=gN N) (aB cx (aB cx aL)) (aE B.at)) (vA (.own aS) aW (by rfl))) (aH ?_);refine(?_:SS _ _ ((h.set dp (.inst 427 [])).set (gN N) (.list [.str "SLR",.str "LALR"])) _ _);rw[Ab (n:=dp) (m:=gN N) az]
 have kg:Kq sV N h (h.set (gN N) (.list [.str "SLR",.str "LALR"])):=.new (ar _);have og:∀{k l},k≠99→(h.set (gN N) (.list [.str "SLR",.str "LALR"])) (.mk k l)=h (.mk k l):=λ{k l} hk=>aq λe=>hk (Nm.mk.inj e).1;have B1:bp (h.set (gN N) (.list [.str "SLR",.str "LALR"])) (N+1):=B.new _ _;have G1:GW R (h.set (gN N) (.list [.str "SLR",.str "LALR"])):=G.same λk l hk=>og λe=>by subst e;exact cJ hk
 have qg:∀k∈xt,∀l,(h.set (gN N) (.list [.str "SLR",.str "LALR"])) (.mk k l)=af:=λk hk l=>(og λe=>by subst e;revert hk;exact aW).trans (no k hk l);have Jz:∀a c,(h.set (gN N) (.list [.str "SLR",.str "LALR"])) (.mk 40 [a,c])=af:=λa c=>(og bH).trans (iT a c);have GF:N≤N+1:=bR N;generalize h.set (gN N) (.list [.str "SLR",.str "LALR"])=hg at kg B1 G1 qg Jz ⊢;refine fJ n_ n_ ?_;refine fJ n_ n_ ?_;refine j9 (m:=.mk 51 []) (g7 (show hg _=af from qg 51 bQ _)) az n_ ?_;refine j9 (m:=.mk 52 []) (g7 (show hg _=af from qg 52 bQ _)) az n_ ?_;refine fJ (a_ (n:=aX) n_ (aE (aE (aE G1.gr)))) n_ ?_;refine j9 (m:=jc) (g7 (show hg _=af from qg 32 bQ _)) az n_ ?_;refine j9 (m:=iP) (g7 (show hg _=af from qg 33 bQ _)) az n_ ?_;refine fJ bD n_ ?_;refine fJ bD n_ ?_;refine fJ bD n_ ?_;refine j9 (m:=.mk 53 []) (eD aL (show hg _=af from qg 53 bQ _)) az n_ ?_;refine j9 (m:=.mk 54 []) (eD aL (show hg _=af from qg 54 bQ _)) az n_ ?_;refine j9 (m:=.mk 55 []) (eD aL (show hg _=af from qg 55 bQ _)) az n_ ?_;refine(?_:SS _ _ (jb hg) _ _);refine SS.sub (ej:=[("self",.ref dp)]) ?_ (ai bq);have kt:Kq sV N h (jb hg):=kg.trans (M9 _) (ar _);have Gt:GW R (jb hg):=G1.same λk l hk=>yw (by
  exact(aW:∀k∈(kV++[10,40,42,44]:List Nat),([51,52,32,33,53,54,55,30]:List Nat).contains k=an) k (e9.mp hk))
 have Bt:bp (jb hg) (N+1):=B1.kq λM=>M9 M;have nt:∀k∈xt,([51,52,32,33,53,54,55,30]:List Nat).contains k=an→∀l,jb hg (.mk k l)=af:=λk hk hc l=>(yw hc).trans (qg k hk l);have yj:jb hg dp=aa (.inst 427 (nC 0)):=aS;have Jk:jb hg jc=aa (.dict []):=rfl;have O5:jb hg iP=aa (.dict []):=rfl;have PB:jb hg (.mk 51 [])=aa (.dict []):=rfl;have JN:jb hg (.mk 52 [])=aa (.dict []):=rfl;have Me:jb hg (.mk 54 [])=aa (.list []):=rfl;have IU:jb hg (.mk 55 [])=aa (.list []):=rfl;have MJ:∀a c,jb hg (.mk 40 [a,c])=af:=λa c=>(yw rfl).trans (Jz a c);generalize jb hg=tQ at kt Gt Bt nt yj Jk O5 PB JN Me IU MJ ⊢;have BI:yN R tQ:=⟨Gt,g.FS,g.len,g.bu⟩;refine rn (di (a_ n_ yj) (iX Gt.gr rfl) (i.K.keep rfl) aL (WY (b:=b+1) rfl BI Bt (λq=>nt 20 bQ rfl _) (λa c=>nt 60 bQ rfl _) MJ (λa=>nt 43 bQ rfl _)).cp) ?_;rintro v h2 ⟨rfl,N2,J⟩;have k2:Kq vb (N+1) tQ h2:=J.kq;have o2:∀{k l},(99::vb).contains k=an→h2 (.mk k l)=tQ (.mk k l):=λ{k l} hk=>k2.1 k l hk;obtain⟨jX,m1,m2,m3⟩:=Gt.iC;have G2:GX R h2:=⟨(o2 rfl).trans Gt.gr,MN BI k2 J.sP,(o2 rfl).trans Gt.term,(aU jX ((o2 rfl).trans m1) (VD m2 m3)),λj hj=>(J.kY j hj hj).1,(o2 rfl).trans Gt.fg,(o2 rfl).trans Gt.prec,g.len,g.MQ,g.bu,g.FS⟩;refine rn (di (a_ n_ ((o2 rfl).trans yj)) (iX G2.gr rfl) (i.K.keep rfl) aL (Y3 (b:=b+2) rfl G2 ((o2 rfl).trans Gt.first) (λl=>(o2 rfl).trans (nt 47 bQ rfl l)) J.free).cp) ?_;rintro v h3 ⟨rfl,F,N3,l_⟩;have o3:∀{k l},(99::[45,47]:List Nat).contains k=an→h3 (.mk k l)=h2 (.mk k l):=λ{k l} hk=>l_.kq.1 k l hk;have G3:=G2.kq l_.kq;refine rn (di (a_ n_ ((o3 rfl).trans ((o2 rfl).trans yj))) (iX G3.gr rfl) (i.K.keep rfl) aL (UC (b:=b+2) rfl G3 l_.I l_.j7 l_.s5 h1.1 h1.2 ((o3 rfl).trans ((o2 rfl).trans Gt.nE)) (λl=>(o3 rfl).trans ((o2 rfl).trans (nt 48 bQ rfl l))) ((o3 rfl).trans ((o2 rfl).trans (nt 67 bQ rfl []))) l_.free).cp) ?_;rintro v h4 ⟨rfl,Fl,N4,L⟩;have qC:∀{k l},(99::[45,46,47,48,67]:List Nat).contains k=an→h4 (.mk k l)=h2 (.mk k l):=λhk=>((λ{k l} hk=>L.kq.1 k l hk:∀{k l},(99::[46,48,67]:List Nat).contains k=an→h4 (.mk k l)=h3 (.mk k l)) (tK hk)).trans (o3 (tK hk));have pI:∀{k l},(99::[10,20,40,43,60,45,46,47,48,67]:List Nat).contains k=an→h4 (.mk k l)=tQ (.mk k l):=λhk=>(qC (tK hk)).trans (o2 (tK hk));have G4:=G3.kq L.kq;have W2:cZ R (gM R) 0 N2 h2:=aes g J (λj hj=>(o2 rfl).trans (Gt.pr j hj).2) ((o2 rfl).trans yj) ((o2 rfl).trans Jk) (λl=>(o2 rfl).trans (nt 31 bQ rfl l));have W4:cZ R (gM R) 0 N4 h4:=jW W2.ca λT es C=>
  ⟨⟨L.free,λq hq=>have z:=W2.tb.it q hq;⟨(qC rfl).trans z.1,(qC rfl).trans z.2.1,(qC rfl).trans z.2.2⟩,λj hj=>aj (W2.tb.pr j hj) λx a c=>⟨x,(qC rfl).trans a,c⟩,(qC rfl).trans W2.tb.tb,W2.tb.hc,W2.tb.hR,W2.tb.hr⟩,⟨T,es,C.mono (l_.kq.2.trans L.kq.2 l_.le) (ah l_.le L.le) (λl=>qC rfl) (qC rfl)⟩,W2.hU⟩
 have V1:iZ R h4:=aj L.I λes a c=>YR G4.iC λns n1 nW e1 e2 e3 e4=>⟨G4.gr,G4.fg,⟨iO,G4.term,abe⟩,⟨ns,n1,λs=>abw e1 e3 e4⟩,⟨es,a,λs hs=>have z:=c s (wc.mp hs);have y:=L.s4 s (wc.mp hs);⟨z.1,Fl s,z.2,y.1,y.2⟩⟩,G4.prec⟩;refine rn (di n_ (iX W4.tb.tb rfl) (i.K.keep rfl) aL (aap (b:=b) rfl g (List.Subset.refl _) W4 (⟨V1,(pI rfl).trans O5,(pI rfl).trans (nt 56 bQ rfl _),λj=>(pI rfl).trans (nt 57 bQ rfl _),(pI rfl).trans PB,(pI rfl).trans JN,(pI rfl).trans Me,(pI rfl).trans IU,(pI rfl).trans (nt 65 bQ rfl _),λk hk j _=>(pI (mU hk)).trans (nt k (XV hk) (mU hk) _)⟩:OT R h4)).cp) ?_;rintro v h5 ⟨rfl,c',N',W5,Ub,k5,s8⟩;refine aH (bK ⟨rfl,rfl,c',N',W5,Ub,λj hj=>(k5.1 _ _ rfl).trans ((qC rfl).trans (J.kY j hj hj).2),?_,?_⟩)
 ·exact(kt.trans ((k2.mono.trans l_.kq.mono J.le).trans (L.kq.mono) (ah J.le l_.le):Kq sV (N+1) tQ h4) GF).trans (M:=N4) k5.mono (ah GF (ah J.le (ah l_.le L.le)):N≤N4)
 ·exact ah GF (ah J.le (ah l_.le (ah L.le s8)))
theorem Ei(hb:i.b=b+1)(B:bp h N):FP i h (.glob 438) [] (is (.ref (gN N)) (h.set (gN N) (.list (a8.map .str)))):=
 enter (l:=[]) (gs:=[]) i.K.NAMES rfl rfl hb rfl (gA (eD (aB cx (aB cx (aB cx aL))) B.at) ⟨rfl,rfl⟩)
noncomputable def Ask:List Str:=["a","A","b","B","error","S","c"]
theorem ZG(hb:i.b=b+1)(B:bp h N):FP i h (.glob 446) [] (is (.ref (gN N)) (h.set (gN N) (.list (Ask.map .str)))):=
 enter (l:=[]) (gs:=[]) i.K.ASKED rfl rfl hb rfl (gA (eD (aB cx (aB cx (aB cx (aB cx (aB cx (aB cx (aB cx aL))))))) B.at) ⟨rfl,rfl⟩)
noncomputable def oP(F:FD)(l:List Str):Bool:=l.all λx=>tf F x && !(x==("__debug__":Str))
theorem lJ{l:List Str}{v:SV}{x:Str}{pos:Pos}(V:oP i.F l=ab)(hx:autoParam (fr.lookup x=aa v) dH)(hl:autoParam (l.contains x=ab) bl):EV i fr h (.Name x pos) v h:=by
 have p:=(bO _ _).mp (dc.mp V x (e9.mp hl));exact⟨λfr' s Q X hq=>Ow (s _ _ hx) p.1 ((jL _).mp p.2) hq⟩
noncomputable def gC(t:List Int):Int:=t.headD 0
theorem JO{vs:List SV}(hn:h n=aa (.list vs)):MV i h (.ref n) "pop" (.bi "list.pop"):=⟨λfr'=>HA hn Qw PySem.F.type_list_pop⟩
theorem RM{vs:List SV}{v:SV}(hn:h n=aa (.list (v::vs)))(hz:vs.length<cR):CP i h (.bi "list.pop") [.ref n,.int 0] (is v (h.set n (.list vs))):=⟨λfr' Q X hq=>SN hn hz (hq _ _ ⟨rfl,rfl⟩)⟩
theorem V7{vs:List SV}{v:SV}(hn:h n=aa (.list (vs++[v])))(hz:vs.length<cR):CP i h (.bi "list.pop") [.ref n] (is v (h.set n (.list vs))):=⟨λfr' Q X hq=>Yf hn hz (hq _ _ ⟨rfl,rfl⟩)⟩
theorem vn{t:List Int}(hb:i.b=b+1)(hn:h n=aa (.list (t.map .int)))(hz:t.length≤20):FP i h (.glob 453) [.ref n] (is (.int (gC t)) (h.set n (.list (t.tail.map .int)))):=by
 refine enter (l:=["tape"]) (gs:=[]) i.K.next (by kernel_rfl) rfl hb rfl (gA ?_ ⟨rfl,rfl⟩)
 cases t with
 |nil=>rw[show h.set n (.list (([]:List Int).tail.map .int))=h from SH.i9 hn];exact My (p_ n_ (lT (.own hn) bg)) bD
 |cons x r=>exact LG (p_ n_ (lT (.own hn) (by rw[aI _];exact bd ‹_› bg))) (gU n_ (JO hn) rfl (aB bD aL) (RM (vs:=r.map .int) hn (by rw[aI _];refine(?_:_≤2^24);have:=hz;rw[iE] at this;exact ah ‹_› aJ)))
theorem tH{n j:Nat}{h:SH}:ji (.range 0 n) j h=aa (if j<n then aa (.int j) else af):=by
 rw[ji,Int.zero_add _]
noncomputable def mG:List Str:=["a","A","b","B","error"]
noncomputable def vW(x:Int):Nat:=(x % 5).toNat
theorem F_{x:Int}:vW x<5:=vk (k:=5) (dK _)
theorem Rg{x:Int}:x % 5=(vW x:Int):=xp (k:=5) (dK _)
noncomputable def gl(t:List Int)(j:Nat):List Str:=(bo j).map λk=>mG.getD (vW (t.getD k 0)) ""
theorem ab7{t:List Int}{j:Nat}:gC (t.drop j)=t.getD j 0:=by
 unfold gC;rw[List.headD_eq_head?_getD,List.head?_drop,pn]
theorem Wp{t:List Int}{j:Nat}:∀s∈gl t j,s∈mG:=λs hs=>by
 obtain⟨k,_,rfl⟩:=bB.mp hs;have:=@F_ (t.getD k 0);exact(aW:∀m<5,mG.getD m ""∈mG) _ this
theorem Ea{t:List Int}{j:Nat}:(gl t j).length=j:=by unfold gl;rw[aI _,dS]
noncomputable def fq(t:List Int):Nat:=(gC t % 3).toNat
theorem ug{n:Int}:CP i h (.ty "range") [.int n] (is (.range 0 n) h):=⟨λfr' Q X hq=>Zh (hq _ _ ⟨rfl,rfl⟩)⟩
noncomputable def ny(s:bx):Expr:=(kS s).2.2.1.getD (.Constant .none 0 ⟨0,0,0,0⟩)
noncomputable def kE:Expr→List Expr×cb×List Expr
 |.Call _ as _ _=>(as,default,[])
 |.Tuple as _ _=>(as,default,[])
 |.List as _=>(as,default,[])
 |.BinOp a _ b _=>([a,b],default,[])
 |.IfExp _ a _ _=>([a],default,[])
 |.ListComp a gs sc _=>([a],sc,gs.flatMap (·.ifs))
 |_=>([],default,[])
noncomputable def qf(k:Nat)(e:Expr):Expr:=(kE e).1.getD k (.Constant .none 0 ⟨0,0,0,0⟩)
noncomputable def dD(e:Expr):cb:=(kE e).2.1
noncomputable def Hq:Expr:=qf 0 (qf 1 (ny (stN (ba 458) 1)))
theorem ab3:cr (bC 458) ["tape","name","count"]=ab:=by kernel_rfl
theorem w_ru:cY (bC 458) ["_law_next","range","tuple"]=ab:=by kernel_rfl
theorem abc:cr (db (dD Hq) (bC 458)) ["_"]=ab:=by kernel_rfl
theorem Χ:oP (db (dD Hq) (bC 458)) ["tape"]=ab:=by kernel_rfl
theorem w_ru1:cY (db (dD Hq) (bC 458)) ["_law_SYMBOLS","_law_next"]=ab:=by kernel_rfl
theorem M6{t:List Int}(hb:i.b=b+2)(hn:h (.mk m [])=aa (.list (t.map .int)))(hm:m≠99)(hz:t.length≤20)(B:bp h N):FP i h (.glob 458) [.ref (.mk m []),.str nm]
  (is (.tup [.str nm,.tup ((gl t.tail (fq t)).map .str)]) ((h.set (.mk m []) (.list ((t.tail.drop (fq t)).map .int))).set (gN N) (.list ((gl t.tail (fq t)).map .str)))):=by
 have l3:fq t<3:=vk (k:=3) (dK _);have CX:Nm.mk m []≠gN N:=λe=>hm (Nm.mk.inj e).1;refine enter (b:=b+1) i.K.rule ab3 w_ru hb rfl ?_;refine bM (fK (b8 (i.K.ref rfl) (i.K.keep rfl) (aB n_ aL) (vn (b:=b) rfl hn hz).cp) bD (tZ aW)) ?_;rw[(xp (k:=3) (dK _):gC t % 3=(fq t:Int))];have p7:(h.set (.mk m []) (.list (t.tail.map .int))) (gN N)=af:=(aq λe=>CX e.symm).trans B.at;refine gA (eY (aB n_ (aB (b8 (i.K.ty rfl) rfl (aB (EP.ev (EP.imp (xg (acc:=gN N) (P:=λh'=>h'=((h.set (.mk m []) (.list (t.tail.map .int))).set (.mk m []) (.list ((t.tail.drop (fq t)).map .int))).set (gN N) (.list ((gl t.tail (fq t)).map .str))) abc w_ru1 rfl (tP (b8 (i.K.ty rfl) rfl (aB n_ aL) ug) (ah ‹_› aJ)) p7 ?_) λv h' q=>q)) aL) (AI (vs:=(gl t.tail (fq t)).map .str) (.own aS) (by rw[aI _,Ea];refine(?_:_≤2^24);exact cj (i4 ‹_› bg)))) aL))) ?_
 ·refine rI (σ:=Nat) (λj=>((h.set (.mk m []) (.list (t.tail.map .int))).set (.mk m []) (.list ((t.tail.drop j).map .int))).set (gN N) (.list ((gl t.tail j).map .str))) (λs j=>s=j∧j≤fq t) 0 (fq t) ⟨rfl,b_ _⟩ (λ_ _ e=>e.2) (λs j e=>?_) rfl rfl ?_
  ·obtain⟨rfl,hj⟩:=e
   refine(cK _ tH (λe=>?_) (λv e=>?_))
   ·split at e
    ·exact fu e
    ·have:s=fq t:=qQ hj (js.mp ‹_›)
     subst this;rfl
   ·split at e
    ·next hlt=>
     obtain rfl:=aY e;refine(tq hlt _ ab (lF rfl) (gF rfl) ze (λe=>(iV e)) (λ_=>?_));have l1:(t.tail.drop s).length≤20:=by rw[zX,pF];exact ah (ku _ _) (ah (ku _ _) ‹_›)
     refine p9 (P:=is (.str (mG.getD (vW (t.tail.getD s 0)) "")) (((((h.set (.mk m []) (.list (t.tail.map .int))).set (.mk m []) (.list ((t.tail.drop s).map .int))).set (gN N) (.list ((gl t.tail s).map .str)))).set (.mk m []) (.list ((t.tail.drop s).tail.map .int)))) ?_ ?_
     ·refine EV.ep (mJ (j:=vW (t.tail.getD s 0)) (vs:=mG.map .str) (g_ (v:=.glob 439) (i.K.ref rfl)) (fK (b8 (i.K.ref rfl) (i.K.keep rfl) (aB (lJ Χ) aL) (vn (b:=b) rfl ((aq CX).trans aS:(((h.set (.mk m []) (.list (t.tail.map .int))).set (.mk m []) (.list ((t.tail.drop s).map .int))).set (gN N) (.list ((gl t.tail s).map .str))) (.mk m [])=aa (.list ((t.tail.drop s).map .int))) l1).cp) bD ?_) (.base i.K.sym) (i4 F_ bg) ?_)
      ·rw[←Rg,←ab7];exact tZ aW
      ·exact(aW:∀m<5,(mG.map SV.str)[m]? =aa (.str (mG.getD m ""))) _ F_
     ·rintro v h1 ⟨rfl,rfl⟩
      refine(nz _ ((aq CX.symm).trans aS) (by rw[aI _,Ea];refine(?_:_≤2^24);exact cj (bd hj (bI l3 aJ))) (s+1) ⟨rfl,hlt⟩ ?_);rw[Ab CX.symm,iF,iF,List.tail_drop,iF,iF,show gl t.tail (s+1)=gl t.tail s++[mG.getD (vW (t.tail.getD s 0)) ""] from by unfold gl;rw[w_,dN];rfl,dN];rfl
    ·exact a7 e
  ·rw[show t.tail.drop 0=t.tail from rfl,iF];rfl
 ·exact⟨rfl,by rw[iF]⟩
theorem Uk:cr (bC 473) ["items"]=ab:=by kernel_rfl
noncomputable def WR(e:Expr):Expr:=qf 0 e
noncomputable def to1:Expr:=WR (ny (stN (ba 473) 0))
theorem WH:cr (db (dD to1) (bC 473)) ["item"]=ab:=by kernel_rfl
theorem Ed{v:SV}(hb:i.b=b+1)(hv:Told h v I)(hI:∀q∈I,cX R q)(it:u8 R h)(B:bp h N)(hz:I.length≤1000):FP i h (.glob 473) [v] (is (.ref (gN N)) (h.set (gN N) (.list (I.map aM)))):=by
 refine enter (gs:=[]) i.K.told Uk rfl hb rfl (gA ?_ ⟨rfl,rfl⟩)
 by_cases rd:I=[]
 ·subst rd
  refine My (ag:=h) (p_ n_ ?_) (eD aL B.at);rcases hv with⟨rfl,_⟩|⟨n,rfl,hn⟩
  ·exact nN
  ·exact lT (.own hn) bg
 ·refine aj (hv.resolve_left λe=>rd e.2) λn br hn=>?_;subst br
  have ng:n≠gN N:=λe=>by rw[e,gN,B.at] at hn;exact a7 hn
  refine LG (p_ n_ ((by cases I with|nil=>exact bc rfl rd|cons _ _=>rfl:(!(I.map a9).isEmpty)=ab)▸lT (.own hn) (by rw[aI _];exact bd ‹_› bg))) (CK (l:=["item"]) (ls:=[]) (us:=I.map aM) WH rfl ?_ (d7 n_ hn) (B.at (l:=[])) (λws j=>d8 ((aq ng).trans hn)) (by rw[aI _,aI _]) (by rw[aI _];refine(?_:_≤2^24);exact ah ‹_› aJ) rfl ?_)
  ·kernel_rfl
  ·intro ws j v u e1 e2
   refine aj (dJ e1) λq hq ax=>?_;subst ax;rw[dv,hq] at e2
   (first|exact a7 e2|obtain rfl:=aY e2)
   have A:=(it q (hI q (bN hq))).1;exact eY (aB (a_ (n:=bj q) n_ A) (aB (a_ (n:=bj q) n_ A) aL))
noncomputable def pV(p:Str×Str):SV:=.tup [.str p.1,.str p.2]
noncomputable def dh(r:Str×List Str):SV:=.tup [.str r.1,.tup (r.2.map .str)]
noncomputable def gv(r:Str×List Str):Option (Str×Str):=match r.2 with
 |s::_=>if s∈a8 then aa (r.1,s) else af
 |[]=>af
noncomputable def sq(P:List (Str×Str)):List (Str×Str):=P.flatMap λp=>P.filterMap λq=>if q.1=p.2 then aa (p.1,q.2) else af
noncomputable def Hn:Expr:=ny (stN (ba 463) 0)
noncomputable def Eb:Expr:=qf 1 (qf 0 (qf 0 (ny (stN (ew (stN (ba 463) 1)) 0))))
theorem KY:cr (bC 463) ["rules","pairs","_"]=ab:=by kernel_rfl
theorem w_co:cY (bC 463) ["range","sorted","set"]=ab:=by kernel_rfl
theorem Xc:cr (db (dD Hn) (bC 463)) ["name","symbols"]=ab:=by kernel_rfl
theorem w_co1:cY (db (dD Hn) (bC 463)) ["_law_NAMES"]=ab:=by kernel_rfl
theorem abk:cr (db (dD Eb) (bC 463)) ["one","y","x","z"]=ab:=by kernel_rfl
theorem ZW:oP (db (dD Eb) (bC 463)) ["pairs"]=ab:=by kernel_rfl
theorem LV{t:Bool}{pos:Pos}(a:EB i fr h e t ag):EB i fr h (.BoolOp .And [e] pos) t ag:=by
 cases t with
 |false=>exact oJ a
 |true=>exact lY a Au
structure M1 where
 ps:List (Str×Str)
 N:Nat
 h:SH
structure AH(aN:Nat)(aA:SH)(ps:List (Str×Str))(N:Nat)(h:SH):Prop where
 acc:h (gN aN)=aa (.list (ps.map pV))
 free:bp h N
 le:aN+1≤N
 kq:Kq [] aN aA h
noncomputable def xo(i:FI)(b:Nat):FI:=i.fn b 463 ["rules","pairs","_"] ["range","sorted","set"] KY w_co
theorem kA{a c:Nat}(e:a≠c):gN a≠gN c:=λz=>e (by injection z with _ z;injection z)
theorem Xu{s:Str}{l:List Str}:(SV.str s∈l.map SV.str)↔s∈l:=⟨λh=>by refine aj (bB.mp h) λt a c=>?_;injection c with c;exact c▸a,λh=>bB.mpr (aU s h rfl)⟩
theorem Ux(hn:h (.mk 71 [])=aa (.list (R.map dh)))(hz:R.length≤5)(hr:∀r∈R,r.2.length≤2)(F:bp h N)
  (fin:∀h' M,AH N h (R.filterMap gv) M h'→SS (xo i (b+1)) [("rules",.ref (.mk 71 [])),("pairs",.ref (gN N))] h' [(ba 463).drop 1] Q):
  SS (xo i (b+1)) [("rules",.ref (.mk 71 []))] h [ba 463] Q:=by
 refine vt (acc:=gN N) (P:=λh'=>∃M,AH N h (R.filterMap gv) M h') Xc w_co1 (by kernel_rfl) (d7 n_ hn) F.at ?_ λh' ⟨M,J⟩=>fin h' M J;refine Ax (σ:=M1) M1.h (λs j=>s.ps=(R.take j).filterMap gv∧AH N h s.ps s.N s.h) ⟨[],N+1,_⟩ R.length ⟨rfl,aS,F.new _ _,ar _,.new (ar _)⟩ ?_;rintro t j ⟨e1,J⟩;refine(cK _ (d8 ((J.kq.1 _ _ rfl).trans hn:t.h (.mk 71 [])=aa (.list (R.map dh)))) (λe=>?_) (λv e=>?_))
 ·have:R.length≤j:=by have:=km.mp e;rwa [aI] at this
  rw[na this] at e1;exact⟨t.N,e1▸J⟩
 ·refine aj (dJ e) λr rg ax=>?_;subst ax
  have π:=hr r (bN rg);have tk:(R.take (j+1)).filterMap gv=(R.take j).filterMap gv++(gv r).toList:=by
   rw[jN,rg,sD];refine ay (_++·) ?_;show uK gv [r]=_;rw[qP]
   cases gv r<;>rfl
  have plen:t.ps.length≤5:=by rw[e1];exact ah (uM _ _) (ah (by rw[jH];exact pD _ _) hz)
  refine(B7 ((cV.mp rg).1) (((gZ (dD Hn) [("rules",SV.ref (.mk 71 []))]).put "name" (.str r.1)).put "symbols" (.tup (r.2.map .str))) ?_);obtain⟨a,ss⟩:=r
  cases ss with
  |nil=>exact⟨an,t.h,at2 rfl,((gF rfl).trans (gF rfl)),(Bp (oJ (p_ n_ (CG (vs:=[]) bg)))),(λ_=>(aU t ⟨by rw[tk,e1];exact(gP _).symm,J⟩ rfl)),(λe=>(cJ e))⟩
  |cons s0 sr=>
   have J2:AH N h t.ps (t.N+1) (t.h.set (gN t.N) (.list (a8.map .str))):=⟨(aq (kA (by have:=J.le;exact du ‹_›))).trans J.acc,J.free.new _ _,c8 J.le,J.kq.trans (.new (ar _)) (ah (bR _) J.le)⟩;refine⟨decide (s0∈a8),(t.h.set (gN t.N) (.list (a8.map .str))),at2 rfl,((gF rfl).trans (gF rfl)),(Bp (lY (ag:=t.h) (p_ n_ (CG (vs:=.str s0::sr.map .str) (by rw[iE,aI _];rw[iE] at π;exact bd ‹_› bg))) (LV (ag:=t.h.set (gN t.N) (.list (a8.map .str))) (bt (u:=.str s0) (w:=.ref (gN t.N)) (mI (j:=0) n_ bD bg rfl) (b8 (i.K.ref rfl) (i.K.keep rfl) aL (Ei (b:=b) rfl J.free).cp) ?_)))),λe=>?_,λe=>?_⟩
   ·rw[show decide (s0∈a8)=decide (SV.str s0∈a8.map SV.str) from mY.mpr Xu.symm]
    exact Gu (.own aS) rfl
   ·exact(aU ⟨t.ps,_,_⟩ ⟨by rw[tk,e1,show gv (a,s0::sr)=af from aK (sk e)];exact(gP _).symm,J2⟩ rfl)
   ·refine p9 (EV.ep (eY (aB n_ (aB (mI (j:=0) n_ bD bg rfl) aL)))) ?_
    rintro v h1 ⟨rfl,rfl⟩;refine(nz _ J2.acc (by rw[aI _];refine(?_:_≤2^24);exact ah ‹_› aJ) ⟨t.ps++[(a,s0)],t.N+1,_⟩ ⟨by rw[tk,e1,show gv (a,s0::sr)=aa (a,s0) from aP (fC e)];rfl,?_⟩ rfl);exact⟨aS.trans (by rw[dN];rfl),J2.free.same λk l hk=>aq λz=>by injection z with _ z;injection z with z;have:=J2.le;exact mi (lb (bF z)) (ah this hk),J2.le,J2.kq.trans ⟨λk l hk=>aq λz=>by injection z with z;exact iy hk (by subst z;rfl) rfl,λk l hk=>aq λz=>by injection z with _ z;injection z with z;exact du ‹_› ‹_›⟩ (ar _)⟩
theorem th{x:Str}{q pos:Pos}{f:SV}{P Q:QV}(hg:jm i.G x f)(hc:callable i.G f=ab)(a:EP i fr h e P)(b:∀v ag,P v ag→CP i ag f [v] Q)(ok:autoParam ((i.gs.contains x && iI e)=ab) bl):EP i fr h (.Call (.Name x q) [e] [] pos) Q:=by
 rw[bO] at ok;exact⟨λfr' s Q' X hq=>Lx hg (cY.get i.W ok.1).1 hc (ue (a.run fr' s _ _ λv ag hp=>tC ((b v ag hp).run fr' _ _ hq)) ok.2) (cY.get i.W ok.1).2 (by rw[DH,ok.2];rfl)⟩
theorem FM{op:wS}{pos:Pos}{P:QV}{P2:QV}(a:EV i fr h e u ag)(b:EP i fr ag r P)(o:∀w aC,P w aC→∃v cL,OV i aC [u,w] (bv (m7 op)) v cL∧P2 v cL):EP i fr h (.BinOp e op r pos) P2:=
 ⟨λfr' s Q X hq=>Mx (a.run fr' s _ _ (b.run fr' s _ _ λw aC p=>by refine d_ (o w aC p) λv cL o p2=>?_;exact o.run fr' _ _ (hq _ _ p2)))⟩
def aah(i:FI)(fr:SF)(h:SH)(e:Expr)(t:Bool)(P:SH→Prop):Prop:=
 ∀fr',fr.sub fr'→∀Q X,(∀h',P h'→Q t h')→WB i.G i.F i.b fr' h e Q X
abbrev tT(i:FI)(fr:SF)(h:SH)(e:Expr)(t:Bool)(P:SH→Prop):Prop:=Bx (aah i fr h e t P)
theorem EB.tB{t:Bool}(a:EB i fr h e t h'):tT i fr h e t (· =h'):=⟨λfr' s Q X hq=>a.run fr' s _ _ (hq _ rfl)⟩
theorem Ck{op:CmpOp}{pos:Pos}{t:Bool}{P1:QV}{P2:SV→QV}{P:SH→Prop}(a:EP i fr h e P1)(b:∀u ag,P1 u ag→EP i fr ag r (P2 u))(o:∀u w aC,P2 u w aC→OV i aC [u,w] (bv (c5 op)) (.bool t) aC∧P aC)(ok:autoParam (Dp op r=an) dH):tT i fr h (.Compare e [op] [r] pos) t P:=
 ⟨λfr' s Q X hq=>Nk ok (a.run fr' s _ _ λu ag p=>(b u ag p).run fr' s _ _ λw aC p2=>by refine xA (o u w aC p2) λo p=>?_;exact o.run fr' _ _ (AG (hq _ p)))⟩
theorem Fg{es:List Expr}{t:Bool}{pos:Pos}{P P2:SH→Prop}(a:tT i fr h e an P)(b:∀ag,P ag→tT i fr ag (.BoolOp .Or es pos) t P2):tT i fr h (.BoolOp .Or (e::es) pos) t P2:=
 ⟨λfr' s Q X hq=>Gm (a.run fr' s _ _ λag p=>by rw[aK iD];exact(b ag p).run fr' s _ _ hq)⟩
theorem Xr{pos:Pos}:tT i fr h (.BoolOp .Or [] pos) an (· =h):=Bm.tB
theorem CU{t:Expr}{body eZ:List bx}{pos:Pos}{P:SH→Prop}(a:tT i fr h t an P)(b:∀ag,P ag→SS i fr ag (eZ::rest::k) Q):SS i fr h ((.If t body eZ pos::rest)::k) Q:=
 fH ⟨λfr' s Q' hq=>Ek (a.run fr' s _ _ λag p=>by rw[aK iD];exact iY.imp ((b ag p).run _ s) (λf bw ag q=>hq _ _ f q) λ_ _ _ q=>q)⟩
theorem BP{vs ws:List SV}(hu:de i.G h u vs)(hw:de i.G h w ws)(hz:vs.length+ws.length≤cR)(hn:h n=af):OV i h [u,w] (bv (m7 .Add)) (.ref n) (h.set n (.list (vs++ws))):=⟨λfr' Q X hq=>adx hu hw hz hn hq⟩
theorem AZ{vs:List SV}(hu:de i.G h u vs)(hw:de i.G h w vs)(d:eK 6 vs=ab):OV i h [u,w] (bv (c5 .NotEq)) (.bool an) h:=⟨λfr' Q X hq=>acl hu hw d d (by rw[eQ rfl];exact hq)⟩
theorem CN{l U:List SV}(hu:de i.G h u l)(iu:∀v∈l,fc v=ab)(hU:U.length<18)(tG:∀v∈l,v∈U)(hn:h n=af):
  CP i h (.ty "set") [u] (λv h'=>v=.ref n∧∃vs:List SV,vs.Nodup∧(∀y,y∈vs↔y∈l)∧h'=h.set n (.set vs)):=⟨λfr' Q X hq=>X9 i.q hu iu hU tG hn λvs a c=>hq _ _ ⟨rfl,vs,a,c,rfl⟩⟩
theorem Xp{ns n:Nm}{vs:List SV}(hs:h ns=aa (.set vs))(pW:uC vs)(iN:vs.length<64)(hn:h n=af){Q:QV}(k:∀out:List SV,out.Perm vs→Q (.ref n) (h.set n (.list out))):CP i h (.bi "sorted") [.ref ns] Q:=⟨λfr' Q X hq=>aeb i.q hs pW iN hn λvs a=>hq _ _ (k vs a)⟩
theorem JV{vs:List SV}{key:SV→Int}(hu:de i.G h u vs)(pW:uC vs)(iN:vs.length<64)(FW:∀x∈vs,∀y∈vs,lR x y=decide (key x<key y))(nd:(vs.map key).Nodup)(hn:h n=af){Q:QV}
  (k:∀out:List SV,out.Perm vs→out.Pairwise (λx y=>key x<key y)→Q (.ref n) (h.set n (.list out))):CP i h (.bi "sorted") [u] Q:=⟨λfr' Q X hq=>Yp hu pW iN hn λvs a c=>hq _ _ (k vs a (c key FW nd))⟩
theorem Yi{n n':Nm}{vs ws:List SV}(hn:h n=aa (.set vs))(pU:h n'=aa (.set ws))(he:∀y,y∈vs↔y∈ws):OV i h [.ref n,.ref n'] (bv (c5 .NotEq)) (.bool an) h:=⟨λfr' Q X hq=>Us hn pU λr hr=>by rw[hr.mpr he];exact hq⟩
theorem S7{vs:List SV}(hn:h n=aa (.set vs))(hz:vs.length<1000):CP i h (.bi "len") [.ref n] (is (.int vs.length) h):=⟨λfr' Q X hq=>Td hn hz (hq _ _ ⟨rfl,rfl⟩)⟩
theorem ε{vs:List SV}{ts:List Bool}(hl:de i.G h u vs)(ht:vs.map rG=ts.map aa):CP i h (.bi "any") [u] (is (.bool (ts.any id)) h):=⟨λfr' Q X hq=>Su i.q hl ht (hq _ _ ⟨rfl,rfl⟩)⟩
variable{ps:List (Str×Str)}
noncomputable def oX(ps:List (Str×Str))(p:Str×Str):List (Str×Str):=ps.filterMap λq=>if q.1=p.2 then aa (p.1,q.2) else af
theorem Ot{p:Str×Str}:(oX ps p).length≤ps.length:=uM _ _
theorem zF{α β:Type}{f:α→List β}{k:Nat}:∀{l:List α},(∀x∈l,(f x).length≤k)→(l.flatMap f).length≤l.length*k
 |[],_=>b_ _
 |x::l,h=>by
  rw[List.flatMap_cons,cU,iE,QP _ _,sp _ _];exact fp (zF λy hy=>h y (eT _ hy)) (h x dA)
theorem ZJ:(sq ps).length≤ps.length*ps.length:=zF λp _=>uM _ _
noncomputable def Ce(m:Nat):SF:=[("rules",.ref (.mk 71 [])),("pairs",.ref (gN m))]
theorem WU(hn:h (gN m)=aa (.list (ps.map pV)))(hz:ps.length≤12)(F:bp h N)(hm:m<N):EV (xo i b) (Ce m) h Eb (.ref (gN N)) (h.set (gN N) (.list ((sq ps).map pV))):=by
 have hs:∀(a:List (Str×Str)),(h.set (gN N) (.list (a.map pV))) (gN m)=aa (.list (ps.map pV)):=λa=>(aq (kA (du ‹_›))).trans hn;refine EP.ev (xg (acc:=gN N) (P:=λh'=>h'=h.set (gN N) (.list ((sq ps).map pV))) abk (ls:=[]) rfl (by kernel_rfl) (d7 n_ hn) F.at ?_);refine rI (σ:=List (Str×Str)) (λa=>h.set (gN N) (.list (a.map pV))) (λa j=>j≤ps.length∧a=(ps.take j).flatMap (oX ps)) [] ps.length ⟨b_ _,rfl⟩ (λ_ _ e=>e.1) (λa j ⟨hj,ea⟩=>(cK _ (d8 (hs a)) (λe=>?_) (λv e=>?_))) rfl rfl rfl
 ·have:ps.length≤j:=by have:=km.mp e;rwa [aI] at this
  rw[ea,na this];rfl
 ·refine aj (dJ e) λp hp ax=>?_;subst ax
  have hj:=(cV.mp hp).1;have tk:(ps.take (j+1)).flatMap (oX ps)=a++oX ps p:=by rw[jN,hp,ajb,ea];exact ay (_++·) (gP _)
  have al:a.length≤144:=by
   rw[ea];refine ah (zF (k:=12) λx _=>ah Ot hz) ?_;rw[jH];exact ah (qR _ (ah (pD _ _) hz)) aJ
  refine(tq hj _ ab (at2 rfl) ((gF rfl).trans (gF rfl)) ze (λe=>(iV e)) (λ_=>?_));refine NO (kk:=.list (gN m)) (ag:=h.set (gN N) (.list (a.map pV))) ?_ ?_ rfl rfl
  ·exact d7 (lJ ZW) (hs a)
  refine rI (σ:=List (Str×Str)) (λa=>h.set (gN N) (.list (a.map pV))) (λc j=>j≤ps.length∧c=a++oX (ps.take j) p) a ps.length ⟨b_ _,(gP _).symm⟩ (λ_ _ e=>e.1) (λc j' ⟨fh,ec⟩=>(cK _ (d8 (hs c)) (λe=>?_) (λv e=>?_))) rfl rfl rfl
  ·have:ps.length≤j':=by have:=km.mp e;rwa [aI] at this
   rw[na this] at ec;exact(aU c ⟨hj,by rw[tk,ec]⟩ rfl)
  ·refine aj (dJ e) λq hq ax=>?_;subst ax
   have rv:=(cV.mp hq).1;have t2:oX (ps.take (j'+1)) p=oX (ps.take j') p++(if q.1=p.2 then aa (p.1,q.2) else af).toList:=by
    rw[jN,hq,oX,sD];refine ay (oX (ps.take j') p++·) ?_;show uK _ [q]=_;rw[qP]
    split<;>simp_all
   refine(tq rv _ (decide (q.1=p.2)) (at2 rfl) ((gF rfl).trans (gF rfl)) (Er (bt n_ n_ ((mY.mpr ⟨λz=>by injection z,λz=>by rw[z]⟩:decide (SV.str q.1=SV.str p.2)=decide (q.1=p.2))▸zk))) (λe=>(aU c ⟨rv,by rw[t2,aK (sk e),ec];exact ay (a++·) (gP _).symm⟩ rfl)) (λe=>?_));refine p9 (EV.ep (eY (aB n_ (aB n_ aL)))) ?_;rintro v h1 ⟨rfl,rfl⟩;refine(nz _ aS ?_ (c++[(p.1,q.2)]) ⟨rv,by rw[t2,aP (fC e),ec,wR _ _ _];rfl⟩ ?_)
   ·rw[aI _,ec,cU]
    have:(oX (ps.take j') p).length≤12:=ah Ot (by rw[jH];exact ah (pD _ _) hz);refine(?_:_≤2^24);exact ah (fp ‹_› ‹_›) aJ
   ·show h.set (gN N) (.list ((c++[(p.1,q.2)]).map pV))=_
    rw[iF,dN];rfl
noncomputable def lS:List (Str×Str):=(["A","B","S","S'"]:List Str).flatMap λa=>(["A","B","S"]:List Str).map λc=>(a,c)
noncomputable def vg:List SV:=lS.map pV
theorem KA:vg.length=12:=by decide +kernel
theorem SQ:∀v∈vg,fc v=ab:=by decide +kernel
theorem yz{p:Str×Str}:p∈sq ps↔∃y,(p.1,y)∈ps∧(y,p.2)∈ps:=by
 unfold sq;rw[propext sK]
 constructor
 ·rintro⟨a,ha,h⟩
  refine aj (gQ.mp h) λc hc e=>?_
  split at e
  ·next z=>obtain rfl:=aY e;exact(aU a.2 ha (by rw[←z];exact hc))
  ·exact a7 e
 ·rintro⟨y,h1,h2⟩
  exact(aU _ h1 (gQ.mpr (aU _ h2 (aP rfl))))
theorem pR{p:Str×Str}:p∈lS↔p.1∈(["A","B","S","S'"]:List Str)∧p.2∈(["A","B","S"]:List Str):=by
 unfold lS;rw[propext sK];exact⟨λ⟨a,ha,h⟩=>by refine aj (bB.mp h) λc hc ax=>?_;subst ax;exact⟨ha,hc⟩,λ⟨h1,h2⟩=>⟨_,h1,bB.mpr ⟨_,h2,rfl⟩⟩⟩
theorem NR(h:ps ⊆ lS):sq ps ⊆ lS:=λp hp=>by
 refine aj (yz.mp hp) λy a c=>?_;exact pR.mpr ⟨(pR.mp (h a)).1,(pR.mp (h c)).2⟩
noncomputable def Pj(R:bn):Nat→List (Str×Str)
 |0=>R.filterMap gv
 |j+1=>Pj R j++sq (Pj R j)
theorem rL(hC:R.filterMap gv ⊆ lS):∀{j},Pj R j ⊆ lS
 |0=>hC
 |j+1=>ajc.mpr ⟨rL hC,NR (rL hC)⟩
structure uP where
 ps:List (Str×Str)
 m:Nat
 M:Nat
 h:SH
structure Ag(R:bn)(N:Nat)(aA:SH)(j:Nat)(s:uP):Prop where
 at':s.h (gN s.m)=aa (.list (s.ps.map pV))
 lt:s.m<s.M
 le:N≤s.m
 free:bp s.h s.M
 kq:Kq [] N aA s.h
 len:s.ps.length≤12
 mem:∀p,p∈s.ps↔p∈Pj R j
theorem OX:∀{l:List SV},(∀v∈l,v∈vg)→∃ps:List (Str×Str),l=ps.map pV
 |[],_=>⟨[],rfl⟩
 |v::l,h=>by
  refine xE (OX λx hx=>h x (eT _ hx)) λps e=>?_;refine aj (bB.mp (h v dA)) λp _ ax=>?_;subst ax;exact⟨p::ps,by rw[e];rfl⟩
theorem aef{p q:Str×Str}(e:pV p=pV q):p=q:=by
 obtain⟨a,c⟩:=p;obtain⟨a',c'⟩:=q;injection e with e;injection e with e1 e;injection e with e2 _;injection e1 with e1;injection e2 with e2;exact jw e1 e2
theorem Ep{p:Str×Str}:pV p∈ps.map pV↔p∈ps:=⟨λh=>by refine aj (bB.mp h) λq a c=>?_;exact aef c▸a,λh=>bB.mpr (aU _ h rfl)⟩
theorem Sm{ps qs:List (Str×Str)}(e:∀p,p∈ps↔p∈qs){p:Str×Str}:p∈sq ps↔p∈sq qs:=by
 rw[propext yz,propext yz];exact⟨λ⟨y,a,c⟩=>⟨y,(e _).mp a,(e _).mp c⟩,λ⟨y,a,c⟩=>⟨y,(e _).mpr a,(e _).mpr c⟩⟩
theorem Kq.at'{B:List Nat}{o:cw}{M:Nat}(a:Kq B N h h')(hM:N≤M):Kq B N h (h'.set (gN M) o):=a.trans (M:=N) (.new hM) (ar _)
theorem T8(hC:R.filterMap gv ⊆ lS){s:uP}{aA:SH}(J:Ag R N aA j s)(fin:∀s':uP,Ag R N aA (j+1) s'→SS (xo i (b+1)) (Ce s'.m) s'.h ((ew (stN (ba 463) 1)).drop 1::k) Q):
  SS (xo i (b+1)) (Ce s.m) s.h (ew (stN (ba 463) 1)::k) Q:=by
 obtain⟨ps,m,M,h⟩:=s;have F:=J.free;have lt:=J.lt;have le:=J.le;dsimp only at F lt le;have sub:ps ⊆ lS:=λp hp=>rL hC ((J.mem p).mp hp);have sl:(sq ps).length≤144:=ah ZJ (af4 J.len J.len);have F1:=F.new [] (.list ((sq ps).map pV));have F2:bp ((h.set (gN M) (.list ((sq ps).map pV))).set (gN (M+1)) (.list (ps.map pV++(sq ps).map pV))) (M+2):=F1.new [] _;have hU:∀v∈ps.map pV++(sq ps).map pV,v∈vg:=λv hv=>by
  rw[←dN] at hv;refine aj (bB.mp hv) λp hp ax=>?_;subst ax;exact bB.mpr (aU p ((ajc.mpr ⟨sub,NR sub⟩) hp) rfl)
 have pl:ps.length≤12:=J.len;generalize si:(h.set (gN M) (.list ((sq ps).map pV))).set (gN (M+1)) (.list (ps.map pV++(sq ps).map pV))=h2 at F2;have l2:h2 (gN (M+1))=aa (.list (ps.map pV++(sq ps).map pV)):=si▸aS;have k2:Kq [] N aA h2:=si▸(J.kq.at' (cj (bd le lt))).at' (cj (pE (bd le lt)));refine kH (P:=λv h1=>∃vs out,v=.ref (gN (M+3))∧(∀y,y∈out↔y∈ps.map pV++(sq ps).map pV)∧out.length≤12∧h1=(h2.set (gN (M+2)) (.set vs)).set (gN (M+3)) (.list out)) (th (P:=λv h1=>v=.ref (gN (M+2))∧∃vs:List SV,vs.Nodup∧(∀y,y∈vs↔y∈ps.map pV++(sq ps).map pV)∧h1=h2.set (gN (M+2)) (.set vs)) (i.K.bi rfl) rfl (th (P:=is (.ref (gN (M+1))) h2) (i.K.ty rfl) rfl (EV.ep (fK (cL:=h2) n_ (WU J.at' pl F lt) ?_)) (λv h1 p=>?_)) λv h1 p=>?_) λv h1 p=>?_
 ·rw[←si]
  exact BP (n:=gN (M+1)) (.own ((aq (kA (du ‹_›))).trans J.at':(h.set (gN M) (.list ((sq ps).map pV))) (gN m)=aa (.list (ps.map pV)))) (.own aS) (by rw[aI _,aI _];refine(?_:_≤2^24);exact ah (fp ‹_› ‹_›) aJ) F1.at
 ·refine xA p λcP br=>?_;clear p;subst cP;subst br
  exact CN (U:=vg) (.own l2) (λv hv=>SQ v (hU v hv)) (by rw[KA];exact bg) hU F2.at
 ·refine yb p λcP vs nd mm j8=>?_;clear p;subst cP;subst j8
  have sb:vs ⊆ vg:=λv hv=>hU v ((mm v).mp hv);have vl:=fO nd sb;rw[KA] at vl;exact Xp aS ⟨an,λv hv=>aj (bB.mp (sb hv)) λp _ e=>e▸⟨_,_,rfl,⟨_,rfl⟩,_,rfl⟩⟩ (bd vl bg) (F2.new [] (.set vs)).at λout pm=>⟨vs,out,rfl,λy=>pm.mem_iff.trans (mm y),pm.length_eq▸vl,rfl⟩
 ·refine gK p λvs out ax om ol ο=>?_;clear p;subst ax;subst ο
  refine xE (OX λv hv=>hU v ((om v).mp hv)) λqs br=>?_;subst br;rw[aI] at ol;refine SS.sub (fin ⟨qs,M+3,M+4,_⟩ ⟨aS,dq _,by show N≤M+3;exact cj (bd le (bI lt (b6 _ _))),(F2.new _ _).new _ _,(k2.at' (cj (pE (pE (bd le lt))))).at' (cj (bd le (bI lt (b6 _ _)))),ol,λp=>?_⟩) (ai (ai bq));rw[←Ep,om,←dN,propext Ep,Pj,propext dw,propext dw,propext (J.mem p),propext (Sm J.mem)]
theorem adw(hb:i.b=b+2)(hn:h (.mk 71 [])=aa (.list (R.map dh)))(hz:R.length≤5)(hr:∀r∈R,r.2.length≤2)(hC:R.filterMap gv ⊆ lS)(F:bp h N):
  FP i h (.glob 463) [.ref (.mk 71 [])] (λv h'=>∃s:uP,v=.ref (gN s.m)∧s.h=h'∧Ag R N h 2 s):=by
 refine enter (b:=b+1) i.K.corners KY w_co hb rfl (Ux hn hz hr F λh1 M J=>?_);refine et (σ:=uP) (λs=>Ce s.m) uP.h (λs j=>Ag R N h j s) ⟨R.filterMap gv,N,M,h1⟩ [.int 0,.int 1] (tP (n:=2) (b8 (i.K.ty rfl) rfl (aB bD aL) ug) bg) ?_ (ai (ai bq)) (λs j J=>tH.trans ?_) (λs j v J e=>?_) (λs J=>?_)
 ·exact⟨J.acc,by have:=J.le;assumption,ar _,J.free,J.kq,ah (ah (uM _ _) hz) aJ,λ_=>Iff.rfl⟩
 ·match j with
  |0=>rfl
  |1=>rfl
  |j+2=>exact ay aa (aK (ma (lu 2 j)))
 ·refine dX (SS.sub (T8 hC J λs' J'=>aH (bK (LQ.next s' J' .rfl))) (ai (ai bq)))
 ·exact aH (gA n_ (cK s rfl rfl J))
theorem Rw{pos:Pos}{t t':Bool}(a:EV i fr h e (.bool t) h)(c:EV i fr h e' (.bool t') h):EV i fr h (.BoolOp .Or [e,e'] pos) (.bool (t||t')) h:=
 ⟨λfr' s Q X hq=>U3 (a.run fr' s _ _ (AG (by
  cases t with
  |true=>rw[aP rfl];exact hq
  |false=>rw[aK iD];exact Lq (c.run fr' s _ _ hq))))⟩
theorem kJ{o:cw}(a:Kq [] N h h')(F:bp h N)(hn:h n=aa o)(hx:n≠.mk 99 []):h' n=aa o:=by
 obtain⟨k,l⟩:=n
 by_cases e:k=99
 ·subst e
  match l,hn,hx with
  |[],_,hx=>exact bc rfl hx
  |j::r,hn,_=>
   by_cases z:j<N
   ·exact(a.2 _ _ z).trans hn
   ·rw[F j r (js.mp ‹_›)] at hn;exact a7 hn
 ·exact(a.1 k l (by simp[e])).trans hn
noncomputable def e8(R:bn)(I:List aF):List Str:=I.filterMap λq=>(aG R q.1)[q.2]?
noncomputable def o7(R:bn)(ps:List (Str×Str))(n:Nat)(s:Str):Bool:=decide (s=bE R n)||decide ((s,bE R n)∈ps)
noncomputable def iH(R:bn)(ps:List (Str×Str))(I:List aF):List Nat:=(bo R.length).filter λn=>(e8 R I).any (o7 R ps n)
noncomputable def HC:Expr:=ny (stN (ba 468) 0)
noncomputable def mW:Expr:=ny (stN (ba 468) 1)
noncomputable def Tt(e:Expr):Expr:=(kE e).2.2.headD (.Constant .none 0 ⟨0,0,0,0⟩)
noncomputable def tj:Expr:=qf 0 (Tt mW)
noncomputable def elE(e:Expr):Expr:=qf 0 e
theorem LK:cr (bC 468) ["rules","corners","items","after"]=ab:=by kernel_rfl
theorem w_ad:cY (bC 468) ["range","len"]=ab:=by kernel_rfl
theorem ado:cr (db (dD HC) (bC 468)) ["n","dot"]=ab:=by kernel_rfl
theorem w_ad1:cY (db (dD HC) (bC 468)) ["len"]=ab:=by kernel_rfl
theorem Ll:oP (db (dD HC) (bC 468)) ["rules"]=ab:=by kernel_rfl
theorem yf:cr (db (dD mW) (bC 468)) ["n"]=ab:=by kernel_rfl
theorem w_ad2:cY (db (dD mW) (bC 468)) ["any"]=ab:=by kernel_rfl
theorem ξ:oP (db (dD mW) (bC 468)) ["after"]=ab:=by kernel_rfl
theorem y_:cr (db (dD tj) (db (dD mW) (bC 468))) ["s"]=ab:=by kernel_rfl
theorem G5:oP (db (dD tj) (db (dD mW) (bC 468))) ["corners","n","rules"]=ab:=by kernel_rfl
noncomputable def tS(i:FI)(b:Nat):FI:=i.fn b 468 ["rules","corners","items","after"] ["range","len"] LK w_ad
theorem Ae{a:Nat}(ha:a<R.length):R[a]? =aa (bE R a,aG R a):=by
 unfold bE aG;rw[fb ha];rfl
theorem wH{x y:Str}{p p' pos:Pos}{a:Nat}(r:EV i fr h (.Name x p) (.ref (.mk 71 [])) h)(c:EV i fr h (.Name y p') (.int a) h)(hR:h (.mk 71 [])=aa (.list (R.map dh)))(hz:R.length≤5)(ha:a<R.length):EV i fr h (.Subscript (.Name x p) (.Name y p') pos) (dh (bE R a,aG R a)) h:=
 mJ r c (.own hR) (i4 (bI ‹_› ‹_›) bg) (by rw[dv,Ae ha];rfl)
theorem WG(hR:h (.mk 71 [])=aa (.list (R.map dh)))(hz:R.length≤5)(hr:∀j,(aG R j).length≤2)(hi:h n=aa (.list (I.map aM)))(hx:n≠.mk 99 [])(ok:∀q∈I,cX R q)(il:I.length≤30)(F:bp h N)
  (fin:SS (tS i (b+1)) [("rules",.ref (.mk 71 [])),("corners",u),("after",.ref (gN N))] (h.set (gN N) (.list ((e8 R I).map .str))) [(ba 468).drop 1] Q):
  SS (tS i (b+1)) [("rules",.ref (.mk 71 [])),("corners",u),("items",.ref n)] h [ba 468] Q:=by
 have ne:n≠gN N:=λz=>by rw[z,gN,F.at] at hi;exact a7 hi
 refine vt (acc:=gN N) (P:=λh'=>h'=h.set (gN N) (.list ((e8 R I).map .str))) ado w_ad1 (by kernel_rfl) (d7 n_ hi) F.at ?_ λh' e=>e▸SS.sub fin (ai (ai (ai bq)));refine rI (σ:=Nat) (λj=>h.set (gN N) (.list ((e8 R (I.take j)).map .str))) (λs j=>s=j∧j≤I.length) 0 I.length ⟨rfl,b_ _⟩ (λ_ _ e=>e.2) (λs j ⟨es,hj⟩=>?_) rfl rfl rfl;subst es;have Kf:(h.set (gN N) (.list ((e8 R (I.take s)).map .str))) (.mk 71 [])=aa (.list (R.map dh)):=(aq az).trans hR;refine(cK _ (d8 ((aq ne).trans hi:(h.set (gN N) (.list ((e8 R (I.take s)).map .str))) n=aa (.list (I.map aM)))) (λe=>?_) (λv e=>?_))
 ·have:I.length≤s:=by have:=km.mp e;rwa [aI] at this
  show h.set (gN N) (.list ((e8 R (I.take s)).map .str))=_;rw[na this]
 ·refine aj (dJ e) λq hq ax=>?_;subst ax
  have hj:=(cV.mp hq).1;refine xA (ok q (bN hq)) λo1 o2=>?_;have tk:e8 R (I.take (s+1))=e8 R (I.take s)++((aG R q.1)[q.2]?).toList:=by
   unfold e8;rw[jN,hq,sD];refine ay (_++·) ?_;show uK _ [q]=_;rw[qP]
   cases(aG R q.1)[q.2]? <;>rfl
  have hlt:decide ((q.2:Int) < ((aG R q.1).map SV.str).length)=decide (q.2< (aG R q.1).length):=by rw[aI _];exact mY.mpr ib
  refine(tq hj _ (decide (q.2< (aG R q.1).length)) (at2 rfl) ((gF rfl).trans (gF rfl)) (Er (bt n_ (b8 (i.K.bi rfl) rfl (aB (mI (j:=1) (wH (lJ Ll) n_ Kf hz o1) bD bg rfl) aL) (AN (by rw[aI _];exact bd (hr q.1) bg))) (hlt▸yQ))) (λe=>?_) (λe=>?_))
  ·have:=sk e
   rw[md (js.mp ‹_›)] at tk;exact(aU (s+1) ⟨rfl,hj⟩ (by rw[tk];show _=h.set _ _;rw[ajd,gP _]))
  ·have:=fC e
   obtain⟨x,hx⟩:∃x,(aG R q.1)[q.2]? =aa x:=⟨_,fb this⟩;rw[hx] at tk;refine p9 (EV.ep (mI (j:=q.2) (mI (j:=1) (wH (lJ Ll) n_ Kf hz o1) bD bg rfl) n_ (by have z:=hr q.1;exact i4 (bI ‹_› ‹_›) bg) (v:=.str x) (by rw[dv,hx];rfl))) ?_;rintro v h1 ⟨rfl,rfl⟩;refine(nz _ aS ?_ (s+1) ⟨rfl,hj⟩ ?_)
   ·rw[aI _]
    refine ah (uM _ _) ?_;rw[jH];refine(?_:_≤2^24);exact ah (pD _ _) (ah il aJ)
   ·show h.set (gN N) (.list ((e8 R (I.take (s+1))).map .str))=_
    rw[iF,tk,dN];rfl
theorem L7:∀{l:List (Str×Str)},eK 6 (l.map pV)=ab
 |[]=>rfl
 |p::r=>by
  show(SV.data 6 (pV p) && eK 6 (r.map pV))=ab;rw[L7,Ig _];rfl
theorem ZN(sub:SF.sub [("rules",.ref (.mk 71 [])),("corners",.ref l),("n",.int j)] fr)(hj:j<R.length)(hR:h (.mk 71 [])=aa (.list (R.map dh)))(hz:R.length≤5)(hc:h l=aa (.list (ps.map pV))):
  EV (((tS i b).comp (dD mW) ["n"] ["any"] yf w_ad2).comp (dD tj) ["s"] [] y_ rfl) (fr.put "s" (.str s)) h (elE tj) (.bool (o7 R ps j s)) h:=by
 have r0:∀{p:Pos},EV (((tS i b).comp (dD mW) ["n"] ["any"] yf w_ad2).comp (dD tj) ["s"] [] y_ rfl) (fr.put "s" (.str s)) h (.Name "rules" p) (.ref (.mk 71 [])) h:=λ{p}=>lJ G5 (by rw[gj,aK aW];exact sub _ _ rfl);have n0:∀{p:Pos},EV (((tS i b).comp (dD mW) ["n"] ["any"] yf w_ad2).comp (dD tj) ["s"] [] y_ rfl) (fr.put "s" (.str s)) h (.Name "n" p) (.int j) h:=λ{p}=>lJ G5 (by rw[gj,aK aW];exact sub _ _ rfl);have s0:∀{p:Pos},EV (((tS i b).comp (dD mW) ["n"] ["any"] yf w_ad2).comp (dD tj) ["s"] [] y_ rfl) (fr.put "s" (.str s)) h (.Name "s" p) (.str s) h:=λ{p}=>n_ (by rw[gj,aP rfl]);refine Rw (t:=decide (s=bE R j)) (t':=decide ((s,bE R j)∈ps)) (c_ s0 (mI (j:=0) (wH r0 n0 hR hz hj) bD bg rfl) ((mY.mpr ⟨λz=>by injection z,λz=>by rw[z]⟩:decide (SV.str s=.str (bE R j))=decide (s=bE R j))▸zk)) (c_ (eY (aB s0 (aB (mI (j:=0) (wH r0 n0 hR hz hj) bD bg rfl) aL))) (lJ G5 (by rw[gj,aK aW];exact sub _ _ rfl)) ((mY.mpr (Ep (p:=(s,bE R j))):decide (SV.tup [.str s,.str (bE R j)]∈ps.map pV)=decide ((s,bE R j)∈ps))▸Gu (.own hc) ?_));exact L7
structure oc(aN:Nat)(aA:SH)(acc:Nat)(vs:List SV)(N:Nat)(h:SH):Prop where
 own:h (gN acc)=aa (.list vs)
 lt:acc<N
 ge:aN≤acc
 free:bp h N
 kq:Kq [] aN aA h
theorem oc.new{aN acc:Nat}{vs:List SV}{o:cw}(J:oc aN aA acc vs N h):oc aN aA acc vs (N+1) (h.set (gN N) o):=
 ⟨(aq (kA (by have:=J.lt;exact du ‹_›))).trans J.own,pE J.lt,J.ge,J.free.new _ _,J.kq.at' (cj (bd J.ge J.lt))⟩
theorem oc.put{aN acc:Nat}{vs ws:List SV}(J:oc aN aA acc vs N h):oc aN aA acc ws N (h.set (gN acc) (.list ws)):=
 ⟨aS,J.lt,J.ge,J.free.same λk l hk=>aq λz=>by injection z with _ z;injection z with z;have:=J.lt;exact mi this (ah hk (bF z)),J.kq.trans (M:=aN) ⟨λk l hk=>aq λz=>by injection z with z;exact iy hk (by subst z;rfl) rfl,λk l hk=>aq λz=>by injection z with _ z;injection z with z;have:=J.ge;exact mi hk (ah this (bF z.symm))⟩ (ar _)⟩
structure vf where
 N:Nat
 h:SH
noncomputable def pO(R:bn)(ps:List (Str×Str))(I:List aF)(j:Nat):List SV:=((bo j).filter λn=>(e8 R I).any (o7 R ps n)).map λn=>aM (n,0)
theorem SD:(pO R ps I j).length≤j:=by
 unfold pO;rw[aI _];exact ah (IC _ _) (bF dS)
theorem adt(hR:h (.mk 71 [])=aa (.list (R.map dh)))(hz:R.length≤5)(hc:h l=aa (.list (ps.map pV)))(hl:l≠.mk 99 [])(hn:n=gN m)(hm:m<N)(ha:h n=aa (.list ((e8 R I).map .str)))(il:I.length≤30)(F:bp h N):
  EP (tS i (b+1)) [("rules",.ref (.mk 71 [])),("corners",.ref l),("after",.ref n)] h mW (λv h'=>v=.ref (gN N)∧∃M,oc N h N (pO R ps I R.length) M h'):=by
 have V3:n≠.mk 99 []:=λz=>by rw[hn] at z;injection z with _ z;exact jC z
 refine xg (acc:=gN N) (P:=λh'=>∃M,oc N h N (pO R ps I R.length) M h') yf w_ad2 (by kernel_rfl) (tP (b8 (i.K.ty rfl) rfl (aB (b8 (i.K.bi rfl) rfl (aB n_ aL) (oI (.own hR) (by rw[aI _];exact bd ‹_› bg))) aL) ug) (by rw[aI _];exact bd ‹_› bg)) F.at ?_;rw[aI _];refine Ax (σ:=vf) vf.h (λs j=>j≤R.length∧oc N h N (pO R ps I j) s.N s.h) ⟨N+1,_⟩ R.length ⟨b_ _,aS,dq _,ar _,F.new _ _,Kq.same.at' (ar _)⟩ (λt j ⟨hj,J⟩=>?_) rfl rfl rfl;refine(cK _ tH (λe=>?_) (λv e=>?_))
 ·split at e
  ·exact fu e
  ·have:j=R.length:=qQ hj (js.mp ‹_›)
   subst this;exact⟨_,J⟩
 ·split at e
  ·next hlt=>
   obtain rfl:=aY e;have ea:t.h n=aa (.list ((e8 R I).map .str)):=kJ J.kq F ha V3;have ec:t.h l=aa (.list (ps.map pV)):=kJ J.kq F hc hl;have al:(e8 R I).length≤30:=ah (uM _ _) il;have nn:n≠gN t.N:=λz=>by rw[hn] at z;exact ma (bF (mv z).symm) (bI hm (cj J.lt))
   have nl:l≠gN t.N:=λz=>by rw[z,gN,J.free.at] at ec;exact a7 ec
   have tk:pO R ps I (j+1)=pO R ps I j++(if(e8 R I).any (o7 R ps j) then [aM (j,0)] else []):=by
    unfold pO;rw[w_,ai5 _ _,dN];refine ay (_++·) ?_;rw[HX]
    split<;>rfl
   have J2:oc N h N (pO R ps I j) (t.N+1) (t.h.set (gN t.N) (.list ((e8 R I).map λs=>.bool (o7 R ps j s)))):=J.new;refine⟨hlt,(gZ (dD mW) [("rules",.ref (.mk 71 [])),("corners",.ref l),("after",.ref n)]).put "n" (.int j),(e8 R I).any (o7 R ps j),t.h.set (gN t.N) (.list ((e8 R I).map λs=>.bool (o7 R ps j s))),lF rfl,gF rfl,Bp (p_ (b8 (i.K.bi rfl) rfl (aB (CK (acc:=gN t.N) (l:=["s"]) (ls:=[]) (vs:=(e8 R I).map .str) (us:=(e8 R I).map λs=>.bool (o7 R ps j s)) y_ rfl (by kernel_rfl) (d7 (lJ ξ) ea) J.free.at (λws j=>d8 ((aq nn).trans ea)) (by rw[aI _,aI _]) (by rw[aI _];refine(?_:_≤2^24);exact ah ‹_› aJ) rfl ?_) aL) (ε (ts:=(e8 R I).map (o7 R ps j)) (.own aS) ?_)) ?_),λe=>?_,λe=>?_⟩
   ·intro ws j' v u e1 e2
    refine aj (dJ e1) λs hs ax=>?_;subst ax;rw[dv,hs] at e2
    (first|exact a7 e2|obtain rfl:=aY e2)
    exact ZN (l:=l) (ps:=ps) (ai (ai (ai bq))) hlt ((aq az).trans (kJ J.kq F hR az:t.h (.mk 71 [])=aa (.list (R.map dh)))) hz ((aq nl).trans ec)
   ·rw[pi,pi];rfl
   ·rw[aht];exact jf
   ·exact(aU ⟨t.N+1,_⟩ ⟨hlt,by rw[tk,e,aK iD,gP _];exact J2⟩ rfl)
   ·refine p9 (EV.ep (eY (aB n_ (aB bD aL)))) ?_
    rintro v h1 ⟨rfl,rfl⟩;refine(nz _ J2.own (by have:=SD (R:=R) (ps:=ps) (I:=I) (j:=j);refine(?_:_≤2^24);exact ah this (ah hj (ah hz aJ))) ⟨t.N+1,_⟩ ⟨hlt,by rw[tk,e,aP rfl];exact J2.put⟩ rfl)
  ·exact a7 e
theorem OH{c:Nat}{ln:Nm}(hb:i.b=b+2)(hR:h (.mk 71 [])=aa (.list (R.map dh)))(hz:R.length≤5)(hr:∀j,(aG R j).length≤2)(hc:h (gN c)=aa (.list (ps.map pV)))(hi:h ln=aa (.list (I.map aM)))(hx:ln≠.mk 99 [])(ok:∀q∈I,cX R q)(il:I.length≤30)(F:bp h N):
  FP i h (.glob 468) [.ref (.mk 71 []),.ref (gN c),.ref ln] (λv h'=>v=.ref (gN (N+1))∧∃M,oc N h (N+1) ((iH R ps I).map λn=>aM (n,0)) M h'):=by
 refine enter (b:=b+1) i.K.added LK w_ad hb rfl (WG hR hz hr hi hx ok il F ?_);have k1:Kq [] N h (h.set (gN N) (.list ((e8 R I).map .str))):=Kq.same.at' (ar _);refine Yz (adt (m:=N) (n:=gN N) (N:=N+1) ((aq az).trans hR) hz (l:=gN c) (kJ k1 F hc (λz=>jC (Nm.mk.inj z).2)) (λz=>jC (Nm.mk.inj z).2) rfl (dq _) aS il (F.new _ _)) λv h' ⟨e,M,J⟩=>⟨e,M,J.own,J.lt,bR _,J.free,k1.trans J.kq (bR _)⟩
theorem ZS{elt iter:Expr}{y x:Str}{q q' gJ:Pos}{sc:cb}{pos:Pos}{kk:df}{acc:Nm}{l ls:List Str}{vs us:List SV}(V:cr (db sc i.F) l=ab)(W:cY (db sc i.F) ls=ab)(ok:(qu sc i.F && l.contains x && !GQ kk)=ab)(a:EI i fr h iter kk ag)(ha:ag acc=af)
  (hit:∀(ws:List SV) (j:Nat),ji kk j (ag.set acc (.list ws))=aa vs[j]?) (hl:us.length=vs.length) (hz:vs.length≤cR) (hx:(gZ sc fr).lookup x=af)
  (b:∀(ws:List SV) (j:Nat) (v u:SV),vs[j]? =aa v→us[j]? =aa u→EV (i.comp sc l ls V W) ((gZ sc fr).put x v) (ag.set acc (.list ws)) elt u (ag.set acc (.list ws)))
  (c:SS i (fr.put y (.ref acc)) (ag.set acc (.list us)) (rest::k) Q) (Xf:autoParam (i.l.contains y=ab) bl) (on:autoParam (rN iter) jg):SS i fr h ((.Assign [.Name y q'] (.ListComp elt [⟨.Name x q,iter,[],0⟩] sc pos) gJ::rest)::k) Q:=
 have o:=FC ok
 vt (P:=λh'=>h'=ag.set acc (.list us)) V W (vG o.c) a ha (GD (.name ((jL _).mp o.e)) hit hl hz λws j v u e hu=>⟨_,lF o.o,gF hx,b ws j v u e hu⟩) (λaC e=>e.symm▸c) Xf on
theorem Km{vs:List SV}{j:Nat}:fk vs af (aa (j:Int))=vs.take j:=by
 show(vs.drop 0).take (fE vs.length j-0)=_;rw[show fE vs.length (j:Int)=min j vs.length from C_];exact if h:j≤vs.length then ay (vs.take ·) (sA h) else(ay (vs.take ·) (Ij (Ii h))).trans ((na (ar _)).trans (na (Ii h)).symm)
def i_(B:List Nat)(h:SH):Prop:=∀k l,(99::B).contains k=an→h (.mk k l)=af
theorem i_.kq{B B':List Nat}(o:i_ B h)(a:Kq B' N h h')(hB:autoParam (B'.all (99::B).contains=ab) bl):i_ B h':=λk l hk=>((a.mono (B':=B) hB).1 k l hk).trans (o k l hk)
theorem i_.at{B:List Nat}{a:Nat}{l:List Nat}(o:i_ B h)(hB:autoParam ((99::B).contains a=an) dH):h (.mk a l)=af:=o a l hB
theorem i_.more{B B':List Nat}(o:i_ B h)(hB:autoParam (B.all (99::B').contains=ab) bl):i_ B' h:=λk l hk=>o k l (by
 cases z:(99::B).contains k with
 |false=>rfl
 |true=>
  rw[w8,DP,eX] at z;rcases z with rfl|z
  ·exact hk
  ·exact bc (Eq.refl k) (iy hk (dc.mp hB k (e9.mp z))))
noncomputable def Mg:List Str:=["script","tape","name","rules","_","row","grammar","symbols","table","corners","every","lists","chosen","one","asked","items","whole","rest","symbol","moved","answer"]
noncomputable def Pl:List Str:=["_law_NAMES","range","_law_next","_law_rule","Grammar","list","LRGeneratedTable","_law_corners","len","_law_told","set","_law_added","_law_ASKED","sorted"]
theorem Sp:cr (bC 478) Mg=ab:=by kernel_rfl
theorem w_la:cY (bC 478) Pl=ab:=by kernel_rfl
noncomputable def bJ(i:FI)(b:Nat):FI:=i.fn b 478 Mg Pl Sp w_la
noncomputable def SE:Expr:=ny (stN (ba 478) 0)
theorem Tf:cr (db (dD SE) (bC 478)) ["n"]=ab:=by kernel_rfl
noncomputable def cy:Nm:=.mk 70 []
noncomputable def iR:Nm:=.mk 71 []
theorem WN{a:au}{sc:List Int}(hs:BL i.G a (sc.map .int))(hz:sc.length≤63)
  (fin:∀(t:List Int) h,t.length≤20→i_ [70] h→bp h 1→h cy=aa (.list (t.map .int))→SS (bJ i b) [("tape",.ref cy)] h [(ba 478).drop 1] Q):
  SS (bJ i b) [("script",.glob a)] (λ_=>af) [ba 478] Q:=by
 have sl:fk (sc.map SV.int) af (aa 20)=(sc.take 20).map .int:=by
  rw[Im];exact Km (j:=20)
 have Ug:(sc.take 20).length≤20:=by rw[jH];exact aje _ _
 refine ZS (acc:=cy) (kk:=.list (gN 0)) (l:=["n"]) (ls:=[]) (vs:=(sc.take 20).map .int) (us:=((sc.take 20).map (· % 720720)).map .int) (ag:=(SH.set (λ_=>af) (gN 0) (.list ((sc.take 20).map .int)))) Tf rfl (by kernel_rfl) (d7 ?_ aS) rfl (λws j=>d8 rfl) (by rw[aI _,aI _,aI _]) (by rw[aI _];refine(?_:_≤2^24);exact ah ‹_› aJ) rfl ?_ ?_
 ·exact sl▸Nc (n:=gN 0) (m:=gN 0) (.base hs) n_ bD (by rw[aI _];refine(?_:_≤2^24);exact ah ‹_› aJ) rfl
 ·intro ws j v u e1 e2
  refine aj (dJ e1) λx hx ax=>?_;subst ax;rw[dv,dv,hx] at e2
  (first|exact a7 e2|obtain rfl:=aY e2)
  exact fK n_ bD (tZ aW)
 ·refine SS.sub (fin _ _ (by rw[aI _];exact Ug) ?_ ?_ aS) (ai bq)
  ·exact λk l hk=>by
    have f:∀a∈(99::[70]:List Nat),k≠a:=λa ha=>iy hk (e9.mpr ha);exact(aq λz=>by injection z with z;exact f 70 bQ z).trans (aq λz=>by injection z with z;exact f 99 bQ z)
  ·exact λk l hk=>(aq az).trans (aq λz=>by injection z with _ z;injection z with z;exact dG ‹_› ‹_›)
def vq(r:Str×List Str):Prop:=r.1∈a8∧r.2.length≤2∧∀s∈r.2,s∈mG
structure Ac where
 rs:bn
 t:List Int
 N:Nat
 h:SH
structure ED(aN:Nat)(aA:SH)(acc:Nm)(j:Nat)(s:Ac):Prop where
 sR:s.rs.map (·.1)=a8.take j
 ok:∀r∈s.rs,vq r
 own:s.h acc=aa (.list (s.rs.map dh))
 tp:s.h cy=aa (.list (s.t.map .int))
 tl:s.t.length≤20
 free:bp s.h s.N
 le:aN<s.N
 kq:Kq [70] aN aA s.h
noncomputable def Cn:Expr:=qf 1 (ny (stN (ba 478) 1))
theorem TX:cr (db (dD Cn) (bC 478)) ["name"]=ab:=by kernel_rfl
theorem w_la1:cY (db (dD Cn) (bC 478)) ["_law_rule"]=ab:=by kernel_rfl
theorem acm:oP (db (dD Cn) (bC 478)) ["tape"]=ab:=by kernel_rfl
theorem MM{t:List Int}(hn:nm∈a8):vq (nm,gl t.tail (fq t)):=⟨hn,by show(gl t.tail (fq t)).length≤2;rw[Ea];exact eS (vk (k:=3) (dK _)),Wp⟩
theorem YZ{t:List Int}(tp:h cy=aa (.list (t.map .int)))(tl:t.length≤20)(F:bp h N):
  EP (bJ i (b+6)) [("tape",.ref cy)] h Cn (λv h'=>v=.ref (gN (N+1))∧∃s,s.h=h'∧ED (N+1) ((h.set (gN N) (.list (a8.map .str))).set (gN (N+1)) (.list [])) (gN (N+1)) 3 s∧s.h=h'):=by
 have F1:bp (h.set (gN N) (.list (a8.map .str))) (N+1):=F.new [] _;have F2:bp ((h.set (gN N) (.list (a8.map .str))).set (gN (N+1)) (.list [])) (N+2):=F1.new [] _;refine xg (acc:=gN (N+1)) (P:=λh'=>∃s:Ac,s.h=h'∧ED (N+1) ((h.set (gN N) (.list (a8.map .str))).set (gN (N+1)) (.list [])) (gN (N+1)) 3 s∧s.h=h') TX w_la1 (by kernel_rfl) (d7 (b8 (i.K.ref rfl) (i.K.keep rfl) aL (Ei (b:=b+5) rfl F).cp) aS) F1.at ?_;have xF:((h.set (gN N) (.list (a8.map .str))).set (gN (N+1)) (.list [])) cy=aa (.list (t.map .int)):=(aq az).trans ((aq az).trans tp);have NZ:((h.set (gN N) (.list (a8.map .str))).set (gN (N+1)) (.list [])) (gN N)=aa (.list (a8.map .str)):=(aq (kA (by exact du (dq _)))).trans aS;have o2:((h.set (gN N) (.list (a8.map .str))).set (gN (N+1)) (.list [])) (gN (N+1))=aa (.list []):=aS;generalize hh:(h.set (gN N) (.list (a8.map .str))).set (gN (N+1)) (.list [])=h2 at F2 xF NZ o2;refine Ax (σ:=Ac) Ac.h (λs j=>s.h (gN N)=aa (.list (a8.map .str))∧ED (N+1) h2 (gN (N+1)) j s) ⟨[],t,N+2,h2⟩ 3 ⟨NZ,rfl,λ_ z=>(by exact cT z),o2,xF,tl,F2,dq _,.same⟩ (λs j ⟨hn,J⟩=>?_) rfl rfl rfl;refine(cK _ (d8 hn) (λe=>?_) (λv e=>?_))
 ·have:3≤j:=by have:=km.mp e;rwa [aI] at this
  have sR:=J.sR;rw[na (show a8.length≤j from this)] at sR;exact(cK s rfl ⟨sR,J.ok,J.own,J.tp,J.tl,J.free,J.le,J.kq⟩ rfl)
 ·refine aj (dJ e) λx hx ax=>?_;subst ax
  have le:=J.le;refine⟨((cV.mp hx).1:j<3),_,ab,s.h,lF rfl,gF rfl,Np,λe=>(by exact iV e),λ_=>?_⟩;refine p9 (EV.ep (b8 (i.K.ref rfl) (i.K.keep rfl) (aB (lJ acm) (aB n_ aL)) (M6 (b:=b+4) (m:=70) rfl J.tp bH J.tl J.free).cp)) ?_;rintro v h3 ⟨rfl,e3⟩;have l3:s.rs.length≤3:=by
   have:=ay oq J.sR;rw[aI,jH] at this;exact this▸pD _ _
  have F3:bp (s.h.set cy (.list ((s.t.tail.drop (fq s.t)).map .int))) s.N:=J.free.same λ_ _ _=>aq az;refine(nz _ (e3▸(aq (kA (by exact du ‹_›))).trans ((aq az).trans J.own):h3 (gN (N+1))=aa (.list (s.rs.map dh))) (by rw[aI _];refine(?_:_≤2^24);exact ah ‹_› aJ) ⟨s.rs++[(x,gl s.t.tail (fq s.t))],s.t.tail.drop (fq s.t),s.N+1,h3.set (gN (N+1)) (.list ((s.rs++[(x,gl s.t.tail (fq s.t))]).map dh))⟩ ⟨(aq (kA (by exact du (dq _)))).trans (e3▸(aq (kA (du (oy le)))).trans ((aq az).trans hn):h3 (gN N)=aa (.list (a8.map .str))),?_,?_,aS,?_,?_,?_,pE le,(e3▸(J.kq.trans (M:=N+1) (.set rfl) (ar _)).at' (cj le):Kq [70] (N+1) h2 h3).at' (ar _)⟩ (by rw[dN];rfl))
  ·show Iq _ (s.rs++[(x,gl s.t.tail (fq s.t))])=_
   rw[dN,J.sR,jN,hx];rfl
  ·intro r hr
   rcases dw.mp hr with hr|hr
   ·exact J.ok r hr
   ·rw[bS.mp hr];exact MM (bN hx)
  ·show(h3.set (gN (N+1)) (.list ((s.rs++[(x,gl s.t.tail (fq s.t))]).map dh))) cy=_
   exact(aq az).trans (e3▸(aq az).trans aS:h3 cy=aa (.list ((s.t.tail.drop (fq s.t)).map .int)))
  ·show(s.t.tail.drop (fq s.t)).length≤20
   rw[zX,pF];have:=J.tl;exact ah (ku _ _) (ah (ku _ _) ‹_›)
  ·exact(e3▸F3.new [] _:bp h3 (s.N+1)).same λk l hk=>aq λz=>by injection z with _ z;injection z with z;have:s.N+1≤k:=hk;exact mi le (gg (ah this (bF z)))
structure jS(t:List Int)(Rs:bn)(N:Nat)(h:SH):Prop where
 tp:h cy=aa (.list (t.map .int))
 tl:t.length≤20
 ru:h iR=aa (.list (Rs.map dh))
 ok:∀r∈Rs.tail,vq r
 hd:∃(a c d:List Str) (x:bn),Rs=(("S'":Str),[("S":Str)])::(("S":Str),a)::(("A":Str),c)::(("B":Str),d)::x∧x.length≤1∧Rs.Nodup
 free:bp h N
 mQ:i_ [70,71] h
noncomputable def rT:SF:=[("tape",.ref cy),("rules",.ref iR)]
theorem Ha{rs:bn}{x:Str}{l:List Str}(e:rs.map (·.1)=x::l):∃a r,rs=(x,a)::r∧r.map (·.1)=l:=by
 cases rs with
 |nil=>exact wk e
 |cons p r=>exact⟨p.2,r,ay (· ::r) (jw (lw e).1 rfl),(lw e).2⟩
theorem ad7{t:List Int}(tl:t.length≤20)(o:i_ [70] h)(F:bp h 1)(tp:h cy=aa (.list (t.map .int)))
  (fin:∀t Rs N h,jS t Rs N h→Rs.length=4→SS (bJ i (b+6)) rT h [(ba 478).drop 2] Q):SS (bJ i (b+6)) [("tape",.ref cy)] h [(ba 478).drop 1] Q:=by
 refine kH (P:=λv h'=>v=.ref iR∧∃t Rs N,jS t Rs N h'∧Rs.length=4) (FM (eD (n:=gN 1) (aB (eY (aB cx (aB (eY (aB cx aL)) aL))) aL) F.at) (YZ ((aq az).trans tp:(h.set (gN 1) (.list [dh ("S'",["S"])])) cy=aa (.list (t.map .int))) tl (F.new [] _:bp (h.set (gN 1) (.list [dh ("S'",["S"])])) 2)) ?_) ?_
 ·rintro w h2 ⟨rfl,s,rfl,J,_⟩
  have le:=J.le;obtain⟨rs,t',M,h2⟩:=s;dsimp only at le ⊢;have sh:∃a c d:List Str,rs=[(("S":Str),a),(("A":Str),c),(("B":Str),d)]:=by
   exact d_ (Ha (l:=[("A":Str),"B"]) J.sR) λa r z1 n=>d_ (Ha (l:=[("B":Str)]) n) λc r' z2 n=>d_ (Ha (l:=[]) n) λd r'' z3 n=>⟨a,c,d,z1.trans (ay _ (z2.trans (ay _ (z3.trans (ay _ (List.map_eq_nil_iff.mp n))))))⟩
  refine sO sh λa c d yM=>?_;clear sh;subst yM;have Ob:i_ [70] h2:=(((o.kq (B':=[]) (N:=0) (.new (M:=1) (b_ _))).kq (B':=[]) (N:=0) (.new (M:=2) (b_ _))).kq (B':=[]) (N:=0) (.new (M:=2+1) (b_ _)):i_ [70] ((((h.set (gN 1) (.list [dh ("S'",["S"])])).set (gN 2) (.list (a8.map .str)))).set (gN (2+1)) (.list []))).kq J.kq;refine⟨_,_,BP (n:=iR) (.own ((J.kq.2 1 [] bg).trans ((aq (kA bH)).trans ((aq (kA bH)).trans aS)):h2 (gN 1)=aa (.list [dh ("S'",["S"])]))) (.own J.own) (by show 1+3≤cR;refine(?_:_≤2^24);exact aJ) (Ob.at),rfl,t',(("S'":Str),[("S":Str)])::[(("S":Str),a),(("A":Str),c),(("B":Str),d)],M,⟨(aq az).trans J.tp,J.tl,aS,J.ok,⟨a,c,d,[],rfl,by exact aJ,?_⟩,(J.free:bp h2 M).same λ_ _ _=>aq az,?_⟩,rfl⟩
  ·exact aja m6 (λa b z e=>z (ay _ e)) (l:=(("S'":Str),[("S":Str)])::[(("S":Str),a),(("A":Str),c),(("B":Str),d)]) (aW:[("S'":Str),"S","A","B"].Nodup)
  ·exact(Ob.more (B':=[70,71])).kq (B':=[71]) (N:=0) (.set rfl)
 ·rintro v h' ⟨rfl,t,Rs,N,J,l4⟩
  exact SS.sub (fin t Rs N h' J l4) (ai (ai bq))
structure Hc where
 t:List Int
 Rs:bn
 N:Nat
 h:SH
theorem Mp{r:Str×List Str}:SV.data 6 (dh r)=ab:=by
 show(SV.data 5 (.str r.1) && (eK 4 (r.2.map .str) && ab))=ab;have:∀{l:List Str},eK 4 (l.map .str)=ab:=λ{l}=>by
  induction l with
  |nil=>rfl
  |cons x r ih=>exact ih
 rw[this];rfl
theorem J7:∀{l:bn},eK 6 (l.map dh)=ab
 |[]=>rfl
 |p::r=>by
  show(SV.data 6 (dh p) && eK 6 (r.map dh))=ab;rw[J7,Mp];rfl
theorem Ku:∀{a c:List Str},a.map SV.str=c.map SV.str→a=c
 |[],[],_=>rfl
 |[],_::_,e=>by cases e
 |_::_,[],e=>by cases e
 |x::a,y::c,e=>by
  injection e with e1 e2;injection e1 with e1;rw[e1,Ku e2]
theorem RW{p q:Str×List Str}(e:dh p=dh q):p=q:=by
 injection e with e;injection e with e1 e;injection e with e2 _;injection e1 with e1;injection e2 with e2;exact jw e1 (Ku e2)
theorem φ{p:Str×List Str}:dh p∈Rs.map dh↔p∈Rs:=⟨λh=>by refine aj (bB.mp h) λq a c=>?_;exact RW c▸a,λh=>bB.mpr (aU _ h rfl)⟩
theorem jS.add{t:List Int}(J:jS t Rs N h)(l4:Rs.length=4){r:Str×List Str}(hr:vq r)(hn:r∉Rs):jS t (Rs++[r]) N (h.set iR (.list ((Rs++[r]).map dh))):=by
 obtain⟨a,c,d,x,e,lx,nd⟩:=J.hd;subst e;have:x=[]:=by
  cases x with
  |nil=>rfl
  |cons y z=>simp at l4
 subst this;refine⟨(aq az).trans J.tp,J.tl,aS,λr' h'=>?_,⟨a,c,d,[r],rfl,ar _,?_⟩,J.free.same λ_ _ _=>aq az,J.mQ.kq (B':=[71]) (N:=0) (.set rfl)⟩
 ·rcases dw.mp (show r'∈[(("S":Str),a),(("A":Str),c),(("B":Str),d)]++[r] from h') with h'|h'
  ·exact J.ok r' h'
  ·rw[bS.mp h'];exact hr
 ·rw[propext lq]
  exact(cG nd (ko _ _) (λa ha b hb e=>hn (by rw[bS.mp hb] at e;exact e▸ha)))
noncomputable def ub(x:Int):Nat:=(x % 3).toNat
theorem Es{x:Int}:ub x<3:=vk (k:=3) (dK _)
theorem Pg{x:Int}:x % 3=(ub x:Int):=xp (k:=3) (dK _)
theorem RG{t:List Int}(J:jS t Rs N h)(l4:Rs.length=4)(fin:∀t Cy N h,jS t Cy N h→Cy.length≤5→SS (bJ i (b+6)) rT h k Q):
  SS (bJ i (b+6)) (rT.put "_" v) h (ew (stN (ba 478) 2)::k) Q:=by
 have F:=J.free;have vI:(h.set (gN N) (.list (a8.map .str))) cy=aa (.list (t.map .int)):=(aq az).trans J.tp;have xF:((h.set (gN N) (.list (a8.map .str))).set cy (.list (t.tail.map .int))) cy=aa (.list (t.tail.map .int)):=aS;have F1:bp (h.set (gN N) (.list (a8.map .str))) (N+1):=F.new [] _;have F2:bp ((h.set (gN N) (.list (a8.map .str))).set cy (.list (t.tail.map .int))) (N+1):=F1.same λ_ _ _=>aq az;have tl:=J.tl;have vD:∀m<3,∃x,(a8.map SV.str)[m]? =aa (.str x)∧x∈a8:=λm hm=>by
  match m,hm with
  |0,_=>exact(aU _ rfl aW)
  |1,_=>exact(aU _ rfl aW)
  |2,_=>exact(aU _ rfl aW)
 refine aj (vD _ (Es (x:=gC t))) λx hx Xi=>?_;have nl:((h.set (gN N) (.list (a8.map .str))).set cy (.list (t.tail.map .int))) (gN N)=aa (.list (a8.map .str)):=(aq az).trans aS;refine bM (v:=dh (x,gl t.tail.tail (fq t.tail))) (b8 (i.K.ref rfl) (i.K.keep rfl) (aB n_ (aB (mJ (j:=ub (gC t)) (b8 (i.K.ref rfl) (i.K.keep rfl) aL (Ei (b:=b+5) rfl F).cp) (fK (b8 (i.K.ref rfl) (i.K.keep rfl) (aB n_ aL) (vn (b:=b+5) rfl vI tl).cp) bD (Pg▸tZ aW)) (.own nl) (i4 Es bg) hx) aL)) (M6 (b:=b+4) (m:=70) rfl xF bH (by rw[pF];exact ah (ku _ _) ‹_›) F2).cp) ?_;generalize hh:SH.set (SH.set _ _ _) (gN (N+1)) _=h2;have J2:jS (t.tail.tail.drop (fq t.tail)) Rs (N+2) h2:=by
  subst hh;refine⟨(aq az).trans aS,by rw[zX,pF,pF];exact ah (ku _ _) (ah (ku _ _) (ah (ku _ _) tl)),(aq az).trans ((aq az).trans ((aq az).trans ((aq az).trans J.ru))),J.ok,J.hd,?_,?_⟩
  ·exact bp.new (N:=N+1) (F2.same λ_ _ _=>aq az) [] _
  ·exact(((J.mQ.kq (B':=[]) (N:=0) (.new (M:=N) (b_ _))).kq (B':=[70]) (N:=0) (.set rfl)).kq (B':=[70]) (N:=0) (.set rfl)).kq (B':=[]) (N:=0) (.new (M:=N+1) (b_ _))
 clear hh F1 F2 vI xF nl;refine EU (c:=!decide (dh (x,gl t.tail.tail (fq t.tail))∈Rs.map dh)) (ag:=h2) ?_ (λe=>?_) (λe=>?_)
 ·exact bt n_ n_ (A5 (.own J2.ru) J7 Mp)
 ·have hn:(x,gl t.tail.tail (fq t.tail))∉Rs:=λz=>by rw[eQ (φ.mpr z)] at e;exact cJ e
  refine fG (di n_ (fS J2.ru) rfl (aB n_ aL) (fX J2.ru (by rw[aI _,l4];refine(?_:_≤2^24);exact aJ))) (aH (aH (SS.sub (ej:=rT) ?_ (ai (ai bq)))));have:=J2.add l4 (MM (t:=t.tail) Xi) hn;rw[dN] at this;exact fin _ _ _ _ this (by rw[cU,l4];exact ar 5)
 ·exact aH (aH (SS.sub (fin _ _ _ _ J2 (c8 (bF l4))) (ai (ai bq))))
theorem aee{t:List Int}(J:jS t Rs N h)(l4:Rs.length=4)(fin:∀t Rs N h,jS t Rs N h→Rs.length≤5→SS (bJ i (b+6)) rT h [(ba 478).drop 3] Q):SS (bJ i (b+6)) rT h [(ba 478).drop 2] Q:=by
 have m2:gC t % 2=((gC t % 2).toNat:Int):=xp (k:=2) (dK _);have Jy:(gC t % 2).toNat<2:=vk (k:=2) (dK _);generalize (gC t % 2).toNat=c at m2 Jy;refine et (σ:=Hc) (λ_=>rT) Hc.h (λs j=>jS s.t s.Rs s.N s.h∧s.Rs.length≤5∧(j=0→s.Rs.length=4)) ⟨t.tail,Rs,N,_⟩ ((bo c).map λj:Nat=>SV.int j) (tP (n:=c) (b8 (i.K.ty rfl) rfl (aB (fK (b8 (i.K.ref rfl) (i.K.keep rfl) (aB n_ aL) (vn (b:=b+5) rfl J.tp J.tl).cp) bD (m2▸tZ aW)) aL) ug) (ah ‹_› aJ)) (cG (⟨aS,by rw[pF];have:=J.tl;exact ah (ku _ _) ‹_›,(aq az).trans J.ru,J.ok,J.hd,J.free.same λ_ _ _=>aq az,J.mQ.kq (B':=[70]) (N:=0) (.set rfl)⟩:jS t.tail Rs N (h.set cy (.list (t.tail.map .int)))) (by exact c8 (bF l4)) (λ_=>l4)) .rfl (λs j J=>tH.trans ?_) (λs j v J e=>?_) (λs J=>aH (fin _ _ _ _ J.1 J.2.1))
 ·rw[dv]
  by_cases hj:j<c
  ·rw[aP hj,w9 hj];rfl
  ·rw[aK hj,md (by rw[dS];exact js.mp ‹_›)];rfl
 ·have hj:=(cV.mp e).1
  rw[aI,dS] at hj;have:j=0:=It.mp (eS (bI hj (eS Jy)));subst this;exact dX (RG (v:=v) J.1 (J.2.2 rfl) λt Cy N h J' l5=>bK (LQ.next (⟨t,Cy,N,h⟩:Hc) (cG J' l5 (λz=>by cases z)) .rfl))
variable{t:List Int}
theorem FP.imp{f:SV}{vs:List SV}{P P':QV}(a:FP i h f vs P)(hq:∀v h',P v h'→P' v h'):FP i h f vs P':=⟨λF fr' hF Q' c=>a.run F fr' hF Q' λv h p=>c v h (hq v h p)⟩
noncomputable def R0:bn:=[(("S'":Str),[("S":Str)])]
theorem YJ(G:rW h h')(o:i_ [70,71] h):GB R0 h':=by
 have no:∀{k l},kV.contains k=an→(99::[70,71]).contains k=an→h' (.mk k l)=af:=λh1 h2=>(G.same _ _ h1).trans (o _ _ h2);refine⟨G.gr,G.fg,(ik ([]) G.names .nil (λ_ z=>(cT z)) (λs hs=>⟨λz=>bc ((aW:∀s∈a8,gH R0 s=[]) s hs) z,λ_=>⟨rfl,no rfl rfl⟩⟩)),(cK ([]) G.map (λ_ z=>(cT z)) (b_ _)),⟨G.term,λt ht=>?_⟩,(cK ([]) G.iC ⟨.nil,λ_ _ z=>(by(first|exact a7 z|obtain rfl:=aY z)),?_⟩ (λj h1 h2=>?_)),G.first,G.nE,G.prec,λj h1 h2=>?_,λj _=>(cG (no rfl rfl) (no rfl rfl) (no rfl rfl)),λ_ z=>(cT z),by exact aJ,by exact bg⟩
 ·have:t="a"∨t="b"∨t="error":=by simpa [dV] using ht
  rcases this with rfl|rfl|rfl
  ·exact(aU ([]) G.ta (b_ _))
  ·exact(aU ([]) G.tb (b_ _))
  ·exact(aU ([]) G.te (b_ _))
 ·exact λs hs _=>no rfl rfl
 ·exact bc h1 (ma (eS h2))
 ·exact bc h1 (ma (eS h2))
structure kW(R:bn)(B:List Nat)(N:Nat)(t:List Int)(h:SH):Prop where
 tp:h cy=aa (.list (t.map .int))
 tl:t.length≤20
 ru:h iR=aa (.list (R.map dh))
 free:bp h N
 mQ:i_ B h
theorem kW.kq{B B' B'':List Nat}{M:Nat}(L:kW R B N t h)(a:Kq B' N h h')(F:bp h' M)(hB:autoParam ((B'.all (99::B'').contains && B.all (99::B'').contains && !(99::B').contains 70 && !(99::B').contains 71)=ab) bl):kW R B'' M t h':=by
 simp only[bO,jL] at hB;obtain⟨⟨⟨h1,h2⟩,h3⟩,h4⟩:=hB;exact⟨(a.1 _ _ h3).trans L.tp,L.tl,(a.1 _ _ h4).trans L.ru,F,(L.mQ.more h2).kq a h1⟩
theorem rW.kq(G:rW h h'):Kq kV N h h':=⟨λk l hk=>G.same k l (by
 cases z:kV.contains k with
 |false=>rfl
 |true=>rw[w8,z,HW] at hk;exact iV hk),λk l _=>G.same _ _ rfl⟩
theorem jS.Vw(J:jS t Rs N h):kW Rs [70,71] N t h:=⟨J.tp,J.tl,J.ru,J.free,J.mQ⟩
noncomputable def uu:SF:=[("tape",.ref cy),("rules",.ref iR),("grammar",.ref aX)]
noncomputable def qB:List Nat:=[70,71]++kV++vr
theorem acw(J:jS t Rs N h)(fin:∀N h',GB R0 h'→kW Rs qB N t h'→(∀a c,h' (.mk 40 [a,c])=af)→SS (bJ i (b+6)) uu h' [(ba 478).drop 4] Q):SS (bJ i (b+6)) rT h [(ba 478).drop 3] Q:=by
 have F1:bp (h.set (gN N) (.list [.str "a",.str "b"])) (N+1):=J.free.new [] _;have L1:kW Rs [70,71] (N+1) t (h.set (gN N) (.list [.str "a",.str "b"])):=J.Vw.kq (.new (ar _):Kq [] N h (h.set (gN N) (.list [.str "a",.str "b"]))) F1;refine kH (nV (Q:=λv h'=>v=.ref aX∧rW (h.set (gN N) (.list [.str "a",.str "b"])) h') (i.K.ref rfl) (i.K.keep rfl) (aB (eD (n:=gN N) (aB cx (aB cx aL)) J.free.at) aL) (cls (b:=b+5) (fI:=172) (n:=aX) rfl rfl (L1.mQ.at (a:=34)) (FP.imp (aaq (b:=b+4) rfl (λk hk l=>L1.mQ k l ?_) (aS:(h.set (gN N) (.list [.str "a",.str "b"])) (gN N)=aa (.list [.str "a",.str "b"]))) λv h' q=>⟨q.1,rfl,q.2⟩)).cp) ?_
 ·exact(aW:∀k∈kV,(99::[70,71]:List Nat).contains k=an) k hk
 ·rintro v h' ⟨rfl,G⟩
  exact SS.sub (fin (N+1) h' (YJ G L1.mQ) (L1.kq (N:=N+1) G.kq (F1.same λk l _=>G.same _ _ rfl)) λa c=>(G.same _ _ rfl).trans (L1.mQ.at (a:=40))) (ai (ai (ai bq)))
structure eU(Rs:bn):Prop where
 ok:∀r∈Rs.tail,vq r
 hd:∃(a c d:List Str) (x:bn),Rs=(("S'":Str),[("S":Str)])::(("S":Str),a)::(("A":Str),c)::(("B":Str),d)::x∧x.length≤1∧Rs.Nodup
theorem eU.len(D:eU Rs):Rs.length≤5∧4≤Rs.length:=by
 obtain⟨a,c,d,x,e,lx,_⟩:=D.hd;subst e;show x.length+1+1+1+1≤5∧4≤x.length+1+1+1+1;exact⟨oj lx 4,lu _ _⟩
theorem eU.BA(D:eU Rs):Rs[0]? =aa (("S'":Str),[("S":Str)])∧bE Rs 1="S"∧bE Rs 2="A"∧bE Rs 3="B":=by
 obtain⟨a,c,d,x,e,lx,_⟩:=D.hd;subst e;exact(o_ rfl rfl rfl rfl)
theorem Rr:∀{s:Str},s∈mG→s∈lK:=λ{s} h=>by
 exact(aW:∀s∈mG,s∈lK) s h
structure Ss(Rs:bn)(aN:Nat)(t:List Int)(j:Nat)(s:vf):Prop where
 g:GB (Rs.take (j+1)) s.h
 L:kW Rs qB s.N t s.h
 sl:s.h (gN aN)=aa (.list (Rs.tail.map dh))
 lt:aN<s.N
 iT:∀a c,s.h (.mk 40 [a,c])=af
theorem WW(D:eU Rs)(G:GB R0 h)(L:kW Rs qB N t h)(iT:∀a c,h (.mk 40 [a,c])=af)(fin:∀N h',GB Rs h'→kW Rs qB N t h'→(∀a c,h' (.mk 40 [a,c])=af)→SS (bJ i (b+6)) uu h' [(ba 478).drop 5] Q):SS (bJ i (b+6)) uu h [(ba 478).drop 4] Q:=by
 have len:=D.len;have sl:fk (Rs.map dh) (aa 1) af=Rs.tail.map dh:=by
  have:=AL (vs:=Rs.map dh) (j:=1) (by rw[aI _];exact ah (lu _ _) len.2);rw[←ai9,zZ];exact this
 have k1:Kq [] N h (h.set (gN N) (.list (Rs.tail.map dh))):=.new (ar _);have tl:Rs.tail.length=Rs.length-1:=pF;have t0:Rs.take (0+1)=R0:=by rw[jN,D.BA.1];rfl
 refine et (σ:=vf) (λ_=>uu) vf.h (λs j=>j≤Rs.tail.length∧Ss Rs N t j s) ⟨N+1,_⟩ (Rs.tail.map dh) (d7 (Fm (n:=iR) (m:=gN N) n_ bD L.ru (by rw[aI _];refine(?_:_≤2^24);exact ah len.1 aJ) L.free.at sl) aS) ⟨b_ _,t0▸G.eq k1.G6,L.kq k1 (L.free.new [] _:bp (h.set (gN N) (.list (Rs.tail.map dh))) (N+1)),aS,dq _,λa c=>(k1.1 40 _ rfl).trans (iT a c)⟩ .rfl (λs j J=>d8 J.2.sl) (λs j v J e=>?_) (λs J=>aH (fin _ _ ?_ J.2.L J.2.iT))
 ·obtain⟨⟨hj,J⟩⟩:=Qj J trivial
  refine aj (dJ e) λr hr ax=>?_;subst ax;obtain⟨a,ss⟩:=r;have Hk:Rs[j+1]? =aa (a,ss):=by rw[←Q5];exact hr
  refine jz (D.ok _ (bN hr)) λo1 o2 o3=>?_;have tk:Rs.take (j+1+1)=Rs.take (j+1)++[(a,ss)]:=by rw[jN,Hk];rfl
  have ig:=(cV.mp hr).1;have nd:(Rs.take (j+1+1)).Nodup:=by
   obtain⟨_,_,_,_,_,_,nd⟩:=D.hd;exact nd.sublist (HG _ _)
  rw[tk,lq] at nd;have F:=J.L.free;have lt:=J.lt;have kl:Kq [] s.N s.h (s.h.set (gN s.N) (.list (ss.map .str))):=.new (ar _);have Fl:bp (s.h.set (gN s.N) (.list (ss.map .str))) (s.N+1):=F.new [] _;refine GU (rn (di n_ (iX J.g.gr rfl) (i.K.keep rfl) (aB n_ (aB (b8 (i.K.ty rfl) rfl (aB n_ aL) (NS (n:=gN s.N) (vs:=ss.map .str) (by rw[aI _];refine(?_:_≤2^24);have:ss.length≤2:=o2;exact ah ‹_› aJ) F.at)) aL)) (acv (b:=b+3) rfl (J.g.eq kl.G6) Fl o1 (afd o2 λs hs=>Rr (o3 s hs)) o3 (λz=>nd.2.2 _ (List.mem_of_mem_tail z) _ (bS.mpr rfl) rfl) (by rw[jH];exact bd (aje _ _) (bI (ajf (tl▸ig)) len.1)) aS (zq _ ([]) rfl (dq _))).cp) ?_);rintro v h' ⟨rfl,N',G',F',I4,k',Fb⟩;refine aH (bK (LQ.next (⟨N',h'⟩:vf) ⟨ig,tk▸G',(J.L.kq (B'':=qB) kl Fl).kq k' F',(k'.2 _ _ (ah ‹_› (b6 _ _))).trans ((kl.2 _ _ lt).trans J.sl),by show N<N';exact bI lt (gg I4),λa c=>(Fb a c).trans ((kl.1 40 _ rfl).trans (J.iT a c))⟩ (ai (ai (ai bq)))))
 ·have:Rs.take (Rs.tail.length+1)=Rs:=na (Nat.le_add_of_sub_le (bF tl.symm))
  have g:=J.2.g;rw[aI,this] at g;exact g
theorem eU.at(D:eU Rs)(h0:0<j)(hj:j<Rs.length):vq (bE Rs j,aG Rs j):=D.ok _ (by
 have:=Ae hj;refine bN (i:=j-1) ?_;rw[Q5,show j-1+1=j from by exact qT (sH h0)];exact this)
theorem eU.gr(D:eU Rs):GR Rs:=by
 have len:=D.len;obtain⟨e0,e1,e2,e3⟩:=D.BA;have n0:bE Rs 0="S'":=by unfold bE;rw[e0];rfl
 have r0:aG Rs 0=[("S":Str)]:=by unfold aG;rw[e0];rfl
 have bu:∀j,(aG Rs j).length≤2:=λj=>by
  rcases sJ j with rfl|h0
  ·rw[r0];exact aJ
  ·by_cases hj:j<Rs.length
   ·exact(D.at h0 hj).2.1
   ·unfold aG;rw[md (js.mp ‹_›)];exact b_ _
 refine⟨len.1,by exact lr (ah (lu _ _) len.2),n0,r0,?_,λj h0 hj=>?_,bu,λj s h0 hs=>?_,λs hs=>?_⟩
 ·refine ah (zF (k:=2) λx _=>by rw[aI _,dS];exact bu x) ?_
  rw[pF,dS];exact ah (qR _ (QG len.1)) aJ
 ·have:=(D.at h0 hj).1
  simpa [a8] using this
 ·by_cases hj:j<Rs.length
  ·exact(D.at h0 hj).2.2 s hs
  ·unfold aG at hs;rw[md (js.mp ‹_›)] at hs;exact cT hs
 ·have:s="S"∨s="A"∨s="B":=by simpa using hs
  rcases this with rfl|rfl|rfl
  ·exact(cK 1 bg (lr (gg (gg len.2))) e1)
  ·exact(cK 2 bg (lr (gg len.2)) e2)
  ·exact(cK 3 bg (lr len.2) e3)
theorem SR(D:eU Rs)(G:GB Rs h)(L:kW Rs qB N t h)(iT:∀a c,h (.mk 40 [a,c])=af)(fin:∀N h',GW Rs h'→kW Rs qB N t h'→(∀a c,h' (.mk 40 [a,c])=af)→SS (bJ i (b+6)) uu h' [(ba 478).drop 6] Q):SS (bJ i (b+6)) uu h [(ba 478).drop 5] Q:=by
 have g:=D.gr;refine rn (di n_ (iX G.gr rfl) (i.K.keep rfl) aL (aco (b:=b+3) rfl G L.free ⟨g.yd,g.qe⟩ ⟨by exact lr (gg (gg D.len.2)),D.BA.2.1⟩ g.all).cp) ?_;rintro v h' ⟨rfl,N',G',F',I4,k'⟩;exact fin N' h' G' (L.kq k' F') λa c=>(k'.1 40 _ rfl).trans (iT a c)
noncomputable def Lm:SF:=[("tape",.ref cy),("rules",.ref iR),("grammar",.ref aX),("table",.ref dp)]
noncomputable def AE:List Nat:=[70,71]++kV++vr++sV
theorem ae3(D:eU Rs)(G:GW Rs h)(L:kW Rs qB N t h)(iT:∀a c,h (.mk 40 [a,c])=af)(fin:∀N c h',cZ Rs (gM Rs) c N h'→iZ Rs h'→(∀j,j<Rs.length→h' (.mk 43 [j])=aa (.list ((bo ((aG Rs j).length+1)).map λd=>a9 (j,d))))→kW Rs AE N t h'→SS (bJ i (b+6)) Lm h' [(ba 478).drop 7] Q):SS (bJ i (b+6)) uu h [(ba 478).drop 6] Q:=by
 refine kH (nV (i.K.ref rfl) (i.K.keep rfl) (aB n_ (aB cx aL)) (Xg (b:=b) rfl D.gr ⟨by exact lr (gg (gg D.len.2)),D.BA.2.1⟩ G L.free (λk hk l=>L.mQ k l ?_) iT).cp) ?_
 ·exact(aW:∀k∈xt,(99::qB).contains k=an) k hk
 ·rintro v h' ⟨rfl,c',N',T⟩
  exact SS.sub (fin N' c' h' T.w T.gr T.od (L.kq T.kq T.w.tb.free)) (ai (ai (ai (ai bq))))
variable{c:Int}{cm:Nat}
theorem cZ.tE{B:List Nat}(w:cZ R U c N h)(a:Kq B N h h')(F:bp h' M)(le:N≤M)(hB:autoParam (yB.all (λk=>!(99::B).contains k)=ab) bl):cZ R U c M h':=by
 have ne:∀{x:Nat} {l':List Nat},yB.contains x=ab→h' (.mk x l')=h (.mk x l'):=λ{x l'} ha=>a.1 _ _ (by
  have:=dc.mp hB _ (e9.mp ha)
  rwa [jL] at this)
 exact⟨⟨F,λq hq=>(cG ((ne rfl).trans (w.tb.it q hq).1) ((ne rfl).trans (w.tb.it q hq).2.1) ((ne rfl).trans (w.tb.it q hq).2.2)),λj hj=>by refine aj (w.tb.pr j hj) λx e l=>?_;exact(aU x ((ne rfl).trans e) l),(ne rfl).trans w.tb.tb,w.tb.hc,w.tb.hR,w.tb.hr⟩,
  w.ca.imp λT ⟨es,C⟩=>⟨es,C.mono a.2 le (λ_=>ne rfl) (ne rfl)⟩,w.hU⟩
structure bL(R:bn)(U:List (List aF))(c:Int)(N:Nat)(t:List Int)(ps:List (Str×Str))(cm:Nat)(h:SH):Prop where
 w:cZ R U c N h
 gr:iZ R h
 od:∀j,j<R.length→h (.mk 43 [j])=aa (.list ((bo ((aG R j).length+1)).map λd=>a9 (j,d)))
 tp:h cy=aa (.list (t.map .int))
 tl:t.length≤20
 ru:h iR=aa (.list (R.map dh))
 co:h (gN cm)=aa (.list (ps.map pV))
 cl:cm<N
 pl:ps.length≤12
theorem bL.kq{B:List Nat}(S:bL R U c N t ps cm h)(a:Kq B N h h')(F:bp h' M)(le:N≤M)(hB:autoParam ((yB.all (λk=>!(99::B).contains k) && qV.all (λk=>!(99::B).contains k) && !(99::B).contains 43 && !(99::B).contains 70 && !(99::B).contains 71)=ab) bl):bL R U c M t ps cm h':=by
 simp only[bO,jL] at hB;obtain⟨⟨⟨⟨h1,h2⟩,h3⟩,h4⟩,h5⟩:=hB;exact⟨S.w.tE a F le h1,S.gr.kq a h2,λj hj=>(a.1 _ _ h3).trans (S.od j hj),(a.1 _ _ h4).trans S.tp,S.tl,(a.1 _ _ h5).trans S.ru,(a.2 _ _ S.cl).trans S.co,bI S.cl le,S.pl⟩
theorem eU.Cb(D:eU Rs):Rs.filterMap gv ⊆ lS:=λp hp=>by
 refine aj (gQ.mp hp) λr hr e=>?_;have h1:r.1∈(["A","B","S","S'"]:List Str):=by
  obtain⟨a,c,d,x,eR,_⟩:=D.hd;rw[eR] at hr;rcases dE.mp hr with rfl|hr
  ·exact aW
  ·have:=(D.ok r (by rw[eR];exact hr)).1
   have f:∀s∈a8,s∈(["A","B","S","S'"]:List Str):=aW;exact f _ this
 unfold gv at e
 split at e
 ·split at e
  ·next hs=>
   obtain rfl:=aY e;exact pR.mpr ⟨h1,(aW:∀s∈a8,s∈(["A","B","S"]:List Str)) _ hs⟩
  ·exact a7 e
 ·exact a7 e
theorem eU.two(D:eU Rs):∀r∈Rs,r.2.length≤2:=λr hr=>by
 obtain⟨a,c,d,x,eR,_⟩:=D.hd;rw[eR] at hr;rcases dE.mp hr with rfl|hr
 ·exact aJ
 ·exact(D.ok r (by rw[eR];exact hr)).2.1
noncomputable def OM(cm:Nat):SF:=[("tape",.ref cy),("rules",.ref iR),("grammar",.ref aX),("table",.ref dp),("corners",.ref (gN cm))]
theorem VA(D:eU Rs)(w:cZ Rs (gM Rs) c N h)(gr:iZ Rs h)(od:∀j,j<Rs.length→h (.mk 43 [j])=aa (.list ((bo ((aG Rs j).length+1)).map λd=>a9 (j,d))))(L:kW Rs AE N t h)
  (fin:∀N ps cm h',bL Rs (gM Rs) c N t ps cm h'→(∀p,p∈ps↔p∈Pj Rs 2)→i_ AE h'→SS (bJ i (b+6)) (OM cm) h' [(ba 478).drop 8] Q):SS (bJ i (b+6)) Lm h [(ba 478).drop 7] Q:=by
 refine kH (nV (i.K.ref rfl) (i.K.keep rfl) (aB n_ aL) (adw (b:=b+4) rfl L.ru D.len.1 D.two D.Cb L.free).cp) ?_;rintro v h' ⟨s,rfl,rfl,J⟩;exact SS.sub (fin s.M s.ps s.m s.h ⟨w.tE J.kq J.free (ah J.le (cj J.lt):N≤s.M),gr.kq J.kq,λj hj=>(J.kq.1 _ _ rfl).trans (od j hj),(J.kq.1 _ _ rfl).trans L.tp,L.tl,(J.kq.1 _ _ rfl).trans L.ru,J.at',J.lt,J.len⟩ J.mem (L.mQ.kq J.kq)) (ai (ai (ai (ai (ai bq)))))
noncomputable def eA(R:bn)(j:Nat):List aF:=(bo j).flatMap λn=>(bo ((aG R n).length+1)).map λd=>(n,d)
noncomputable def Ex:Expr:=ny (stN (ba 478) 8)
theorem Zs:cr (db (dD Ex) (bC 478)) ["n","dot"]=ab:=by kernel_rfl
theorem w_la8:cY (db (dD Ex) (bC 478)) ["range","len"]=ab:=by kernel_rfl
theorem Ue:oP (db (dD Ex) (bC 478)) ["rules"]=ab:=by kernel_rfl
noncomputable def Kj(cm em:Nat):SF:=[("tape",.ref cy),("rules",.ref iR),("grammar",.ref aX),("table",.ref dp),("corners",.ref (gN cm)),("every",.ref (gN em))]
theorem Hj(g:GR R):(eA R j).length≤j*3:=by
 refine ah (zF (k:=3) λx _=>by rw[aI _,dS];have:=g.bu x;exact eG ‹_›) ?_;rw[dS];exact ar _
theorem XT(g:GR R)(S:bL R U c N t ps cm h)
  (fin:SS (bJ i (b+6)) (Kj cm N) (h.set (gN N) (.list ((eA R R.length).map aM))) [(ba 478).drop 9] Q):SS (bJ i (b+6)) (OM cm) h [(ba 478).drop 8] Q:=by
 have len:=g.len;refine vt (acc:=gN N) (P:=λh'=>h'=h.set (gN N) (.list ((eA R R.length).map aM))) Zs w_la8 (by kernel_rfl) (tP (n:=R.length) (b8 (i.K.ty rfl) rfl (aB (b8 (i.K.bi rfl) rfl (aB n_ aL) (by have:=oI (i:=bJ i (b+6)) (.own S.ru) (by rw[aI _];exact bd ‹_› bg);rw[aI] at this;exact this)) aL) ug) (bd ‹_› bg)) S.w.tb.free.at ?_ λh' e=>e▸SS.sub fin (ai (ai (ai (ai (ai (ai bq))))));refine rI (σ:=Nat) (λj=>h.set (gN N) (.list ((eA R j).map aM))) (λs j=>s=j∧j≤R.length) 0 R.length ⟨rfl,b_ _⟩ (λ_ _ e=>e.2) (λs j ⟨es,hj⟩=>(cK _ tH (λe=>?_) (λv e=>?_))) rfl rfl rfl
 ·subst es
  split at e
  ·exact fu e
  ·have:s=R.length:=qQ hj (js.mp ‹_›)
   rw[this]
 ·subst es
  split at e
  ·next hlt=>
   obtain rfl:=aY e;refine(tq hlt _ ab (lF rfl) (gF rfl) ze (λe=>(iV e)) (λ_=>?_));refine NO (kk:=.range 0 ((aG R s).length+1)) (ag:=h.set (gN N) (.list ((eA R s).map aM))) ?_ ?_ rfl rfl
   ·refine tP (n:=(aG R s).length+1) (b8 (i.K.ty rfl) rfl (aB (fK (b8 (i.K.bi rfl) rfl (aB (mI (j:=1) (wH (lJ Ue) n_ ((λa=>(aq az).trans S.ru:∀a:List aF,(h.set (gN N) (.list (a.map aM))) iR=aa (.list (R.map dh))) _) len hlt) bD bg rfl) aL) (AN (by rw[aI _];exact bd (g.bu s) bg))) bD nZ) aL) (by rw[aI _];exact ug)) (by have:=g.bu s;exact pC (bd this bg))
   ·refine rI (σ:=Nat) (λd=>h.set (gN N) (.list ((eA R s++(bo d).map λd=>(s,d)).map aM))) (λd j=>d=j∧j≤(aG R s).length+1) 0 ((aG R s).length+1) ⟨rfl,b_ _⟩ (λ_ _ e=>e.2) (λd j' ⟨ed,hd⟩=>(cK _ tH (λe=>?_) (λv e=>?_))) rfl rfl (by rw[List.range_zero,DN,gP _])
    ·subst ed
     split at e
     ·exact fu e
     ·have:d=(aG R s).length+1:=qQ hd (js.mp ‹_›)
      refine(aU (s+1) ⟨rfl,hlt⟩ ?_);show h.set (gN N) (.list ((eA R (s+1)).map aM))=_;rw[this,show eA R (s+1)=eA R s++(bo ((aG R s).length+1)).map λd=>(s,d) from by unfold eA;rw[w_,ajb];exact ay (_++·) (gP _)]
    ·subst ed
     split at e
     ·next hlt2=>
      obtain rfl:=aY e;refine(tq hlt2 _ ab (lF rfl) (gF rfl) ze (λe=>(iV e)) (λ_=>?_));refine p9 (EV.ep (eY (aB n_ (aB n_ aL)))) ?_;rintro v h1 ⟨rfl,rfl⟩;refine(nz _ aS ?_ (d+1) ⟨rfl,hlt2⟩ ?_)
      ·rw[aI _,cU,aI _,dS]
       exact ah (fp (Hj (j:=s) g) (ah hd (eG (g.bu s)))) (ah (oj (qR 3 (ah hj len)) 3) aJ)
      ·show h.set (gN N) (.list ((eA R s++(bo (d+1)).map λd=>(s,d)).map aM))=_
       rw[iF,w_,dN (l₁:=bo d),←wR,dN (l₂:=Iq _ [d])];rfl
     ·exact a7 e
  ·exact a7 e
variable{ch:List aF}{em:Nat}
theorem bL.Μ{t':List Int}(S:bL R U c N t ps cm h)(tl:t'.length≤20):bL R U c N t' ps cm (h.set cy (.list (t'.map .int))):=by
 have S':=S.kq (B:=[71,70].tail.tail) (M:=N) (h':=h) .same S.w.tb.free (ar _);refine⟨S.w.tE (B:=[70]) (.set rfl) (S.w.tb.free.same λ_ _ _=>aq az) (ar _),S.gr.kq (B:=[70]) (N:=N) (.set rfl),λj hj=>(aq az).trans (S.od j hj),aS,tl,(aq az).trans S.ru,(aq az).trans S.co,S.cl,S.pl⟩
noncomputable def lsN:Nm:=.mk 73 []
noncomputable def da(j:Nat):Nm:=.mk 72 [j]
theorem Bu{j:Nat}:q∈eA R j↔q.1<j∧q.2≤(aG R q.1).length:=by
 unfold eA;rw[propext sK]
 constructor
 ·rintro⟨a,ha,h⟩
  refine aj (bB.mp h) λd hd ax=>?_;subst ax;exact⟨dR.mp ha,eS (dR.mp hd)⟩
 ·rintro⟨h1,h2⟩
  exact(aU q.1 (dR.mpr h1) (bB.mpr (aU q.2 (dR.mpr (lb h2)) rfl)))
theorem LN:aM q∈I.map aM↔q∈I:=⟨λh=>by refine aj (bB.mp h) λp a c=>?_;exact yC c▸a,λh=>bB.mpr (aU _ h rfl)⟩
theorem yc:∀{l:List aF},eK 6 (l.map aM)=ab
 |[]=>rfl
 |p::r=>by
  show(SV.data 6 (aM p) && eK 6 (r.map aM))=ab;rw[yc,Ig _];rfl
structure y8 where
 t:List Int
 ch:List aF
 h:SH
structure Bk(R:bn)(N:Nat)(aA:SH)(J:Nat)(em:Nat)(j:Nat)(s:y8):Prop where
 ch:s.h (da J)=aa (.list (s.ch.map aM))
 nd:s.ch.Nodup
 ok:∀q∈s.ch,cX R q
 len:s.ch.length≤j
 tp:s.h cy=aa (.list (s.t.map .int))
 tl:s.t.length≤20
 ev:s.h (gN em)=aa (.list ((eA R R.length).map aM))
 same:∀x,x≠cy→x≠da J→s.h x=aA x
noncomputable def qy(cm em:Nat):SF:=[("tape",.ref cy),("rules",.ref iR),("grammar",.ref aX),("table",.ref dp),("corners",.ref (gN cm)),("every",.ref (gN em)),("lists",.ref lsN)]
noncomputable def xk(cm em J:Nat):SF:=[("tape",.ref cy),("rules",.ref iR),("grammar",.ref aX),("table",.ref dp),("corners",.ref (gN cm)),("every",.ref (gN em)),("lists",.ref lsN),("chosen",.ref (da J))]
theorem Yt(g:GR R){J:Nat}{s:y8}(C:Bk R N aA J em j s)(hj:j<3)(fin:∀s',Bk R N aA J em (j+1) s'→SS (bJ i (b+6)) (xk cm em J) s'.h k Q):
  SS (bJ i (b+6)) ((xk cm em J).put "_" v) s.h (ew (stN (ew (stN (ba 478) 10)) 1)::k) Q:=by
 obtain⟨t,ch,h⟩:=s;have tl:=C.tl;have al:=Hj (j:=R.length) g;have len:=g.len;have a0:0< (eA R R.length).length:=List.length_pos_of_mem (Bu.mpr ⟨g.pos,b_ _⟩:((0,0):aF)∈eA R R.length);generalize hL:(eA R R.length).length=L at al a0;have mL:gC t % (L:Int)=((gC t % (L:Int)).toNat:Int):=xp a0;have Ff:(gC t % (L:Int)).toNat<L:=vk a0;generalize (gC t % (L:Int)).toNat=x at mL Ff;obtain⟨q,hq⟩:∃q,(eA R R.length)[x]? =aa q:=⟨_,fb (by rw[hL];exact Ff)⟩;have yV:(h.set cy (.list (t.tail.map .int))) (gN em)=aa (.list ((eA R R.length).map aM)):=(aq az).trans C.ev;have cl:CP (bJ i (b+6)) (h.set cy (.list (t.tail.map .int))) (.bi "len") [.ref (gN em)] (is (.int L) (h.set cy (.list (t.tail.map .int)))):=by
  have:=oI (i:=bJ i (b+6)) (.own yV) (by rw[aI _,hL];exact bd al (bd (qR _ len) bg));rw[aI,hL] at this;exact this
 refine bM (v:=aM q) (mJ (j:=x) n_ (fK (b8 (i.K.ref rfl) (i.K.keep rfl) (aB n_ aL) (vn (b:=b+5) rfl C.tp tl).cp) (b8 (i.K.bi rfl) rfl (aB n_ aL) cl) (mL▸tZ (ib.mpr a0))) (.own yV) (bI Ff (ah al (ah (qR _ len) aJ))) (by rw[dv,hq];rfl)) ?_;have xL:(h.set cy (.list (t.tail.map .int))) (da J)=aa (.list (ch.map aM)):=(aq az).trans C.ch;have vI:(h.set cy (.list (t.tail.map .int))) cy=aa (.list (t.tail.map .int)):=aS;have Gj:∀x,x≠cy→x≠da J→(h.set cy (.list (t.tail.map .int))) x=aA x:=λx h1 h2=>(aq h1).trans (C.same x h1 h2);have Fu:ch.length≤j:=C.len;have Pu:t.tail.length≤20:=by rw[pF];dsimp only at tl;exact ah (ku _ _) ‹_›
 have nd:ch.Nodup:=C.nd;have ok:∀q∈ch,cX R q:=C.ok;clear cl C mL;generalize h.set cy (.list (t.tail.map .int))=h1 at yV xL vI Gj ⊢;refine EU (c:=!decide (aM q∈ch.map aM)) (ag:=h1) ?_ (λe=>?_) (λe=>?_)
 ·exact bt n_ n_ (A5 (.own xL) yc rfl)
 ·have hn:q∉ch:=λz=>by rw[eQ (LN.mpr z)] at e;exact cJ e
  refine fG (di n_ (fS xL) rfl (aB n_ aL) (fX xL (by rw[aI _];refine(?_:_≤2^24);exact cj (bd Fu (bI hj aJ))))) (aH (aH (SS.sub (ej:=xk cm em J) ?_ (ai (ai (ai (ai (ai (ai (ai (ai bq)))))))))));refine fin ⟨t.tail,ch++[q],h1.set (da J) (.list (ch.map aM++[aM q]))⟩ ⟨(aS.trans (by rw[dN];rfl):(h1.set (da J) (.list (ch.map aM++[aM q]))) (da J)=aa (.list ((ch++[q]).map aM))),?_,λp hp=>?_,by show(ch++[q]).length≤j+1;rw[cU];exact eG Fu,((aq az).trans vI:(h1.set (da J) (.list (ch.map aM++[aM q]))) cy=aa (.list (t.tail.map .int))),Pu,((aq az).trans yV:(h1.set (da J) (.list (ch.map aM++[aM q]))) (gN em)=aa (.list ((eA R R.length).map aM))),(λx h1 h2=>(aq h2).trans (Gj x h1 h2):∀x,x≠cy→x≠da J→(h1.set (da J) (.list (ch.map aM++[aM q]))) x=aA x)⟩
  ·rw[propext lq]
   exact(cG nd (ko _ _) (λa ha b hb e=>hn (by rw[bS.mp hb] at e;exact e▸ha)))
  ·rcases dw.mp hp with hp|hp
   ·exact ok p hp
   ·rw[bS.mp hp];exact(Bu.mp (bN hq))
 ·refine aH (aH (SS.sub (ej:=xk cm em J) (fin ⟨t.tail,ch,h1⟩ ⟨xL,nd,ok,c8 Fu,vI,Pu,yV,Gj⟩) (ai (ai (ai (ai (ai (ai (ai (ai bq))))))))))
variable{K:Nat}{Ls:List (Nm×List aF)}
structure B5(R:bn)(N K:Nat)(h:SH)(p:Nm×List aF):Prop where
 own:h p.1=aa (.list (p.2.map aM))
 nd:p.2.Nodup
 len:p.2.length≤3
 ok:∀q∈p.2,cX R q
 nm:(∃k,k<N∧p.1=gN k)∨∃j,j<K∧p.1=da j
structure wr(R:bn)(em N:Nat)(Ls:List (Nm×List aF))(h:SH):Prop where
 ev:h (gN em)=aa (.list ((eA R R.length).map aM))
 el:em<N
 ls:h lsN=aa (.list (Ls.map λp=>.ref p.1))
 each:∀p∈Ls,B5 R N Ls.length h p
 fr:∀j,Ls.length≤j→h (da j)=af
theorem T_(g:GR R)(S:bL R U c N t ps cm h)(o:i_ AE h)(em:Nat)(uR:em<N)(ev:h (gN em)=aa (.list ((eA R R.length).map aM)))
  (fin:∀h' Ls,bL R U c (N+2) t ps cm h'→wr R em (N+2) Ls h'→Ls.length=2→h' (.mk 74 [])=af→SS (bJ i (b+6)) (qy cm em) h' [(ba 478).drop 10] Q):SS (bJ i (b+6)) (Kj cm em) h [(ba 478).drop 9] Q:=by
 have F:=S.w.tb.free;have F1:bp (h.set (gN N) (.list [])) (N+1):=F.new [] _;have F2:bp ((h.set (gN N) (.list [])).set (gN (N+1)) (.list [aM (0,0)])) (N+2):=F1.new [] _;have k2:Kq [] N h ((h.set (gN N) (.list [])).set (gN (N+1)) (.list [aM (0,0)])):=(Kq.same.at' (ar _)).at' (bR _);have S2:=S.kq k2 F2 (b6 _ _);have o2:=o.kq k2;have e0:((h.set (gN N) (.list [])).set (gN (N+1)) (.list [aM (0,0)])) (gN N)=aa (.list []):=(aq (kA (by exact du (dq _)))).trans aS;have e1:((h.set (gN N) (.list [])).set (gN (N+1)) (.list [aM (0,0)])) (gN (N+1))=aa (.list [aM (0,0)]):=aS;have Pn:((h.set (gN N) (.list [])).set (gN (N+1)) (.list [aM (0,0)])) (gN em)=aa (.list ((eA R R.length).map aM)):=(k2.2 em [] uR).trans ev;refine bM (eD (n:=lsN) (aB (eD (n:=gN N) aL F.at) (aB (eD (n:=gN (N+1)) (aB (eY (aB bD (aB bD aL))) aL) F1.at) aL)) (o2.at (a:=73))) ?_;refine SS.sub (ej:=qy cm em) ?_ (ai (ai (ai (ai (ai (ai (ai bq)))))));refine(?_:SS _ _ (SH.set (SH.set (SH.set h (gN N) (.list [])) (gN (N+1)) (.list [aM (0,0)])) lsN _) _ _);generalize (h.set (gN N) (.list [])).set (gN (N+1)) (.list [aM (0,0)])=h2 at F2 k2 S2 o2 e0 e1 Pn ⊢;refine fin _ [(gN N,[]),(gN (N+1),[(0,0)])] (S2.kq (.set rfl:Kq [73] (N+2) h2 (h2.set lsN (.list [.ref (gN N),.ref (gN (N+1))]))) (F2.same λ_ _ _=>aq az) (ar _)) ⟨(aq az).trans Pn,by exact ah ‹_› (b6 _ _),aS,λp hp=>?_,λj _=>(aq az).trans (o2.at (a:=72))⟩ rfl ((aq az).trans (o2.at (a:=74)));rcases dE.mp hp with rfl|hp
 ·exact⟨(aq az).trans e0,.nil,b_ _,λ_ z=>(by exact cT z),.inl (aU N (by exact bR _) rfl)⟩
 ·rw[bS.mp hp]
  exact⟨(aq (n:=lsN) (x:=gN (N+1)) az).trans e1,ko _ _,lu 1 2,λq hq=>by rw[bS.mp hq];exact⟨g.pos,b_ _⟩,.inl (aU (N+1) (by exact ar _) rfl)⟩
theorem bL.kqT{t':List Int}(S:bL R U c N t ps cm h)(a:Kq [70,72] N h h')(F:bp h' N)(tp:h' cy=aa (.list (t'.map .int)))(tl:t'.length≤20):bL R U c N t' ps cm h':=
 ⟨S.w.tE a F (ar _),S.gr.kq a,λj hj=>(a.1 _ _ rfl).trans (S.od j hj),tp,tl,(a.1 _ _ rfl).trans S.ru,(a.2 _ _ S.cl).trans S.co,S.cl,S.pl⟩
structure yZ where
 t:List Int
 Ls:List (Nm×List aF)
 h:SH
structure Ef(R:bn)(U:List (List aF))(c:Int)(N:Nat)(ps:List (Str×Str))(cm em:Nat)(m:Nat)(s:yZ):Prop where
 S:bL R U c N s.t ps cm s.h
 I:wr R em N s.Ls s.h
 pb:s.h (.mk 74 [])=af
 bu:m+s.Ls.length=4
theorem Vu(g:GR R){s:yZ}(J:Ef R U c N ps cm em (m+1) s)(fin:∀s',Ef R U c N ps cm em m s'→SS (bJ i (b+6)) (qy cm em) s'.h k Q):
  SS (bJ i (b+6)) (qy cm em) s.h (ew (stN (ba 478) 10)::k) Q:=by
 obtain⟨t,Ls,h⟩:=s;have S:bL R U c N t ps cm h:=J.S;have I:wr R em N Ls h:=J.I;have bu:m+1+Ls.length=4:=J.bu;refine bM (eD (n:=da Ls.length) aL (I.fr _ (ar _):h (da Ls.length)=af)) ?_;have S1:bL R U c N t ps cm (h.set (da Ls.length) (.list [])):=S.kq (B:=[72]) (.set rfl) (S.w.tb.free.same λ_ _ _=>aq az) (ar _);have S2:=S1.Μ (t':=t.tail) (by rw[pF];have:=S.tl;exact ah (ku _ _) ‹_›);have c0:((h.set (da Ls.length) (.list [])).set cy (.list (t.tail.map .int))) (da Ls.length)=aa (.list []):=(aq az).trans aS;have Um:((h.set (da Ls.length) (.list [])).set cy (.list (t.tail.map .int))) (gN em)=aa (.list ((eA R R.length).map aM)):=(aq az).trans ((aq az).trans I.ev);have m3:(1:Int)+gC t % 3=((1+ub (gC t):Nat):Int):=by rw[Pg];exact(Int.natCast_add 1 _).symm
 have l3:=Es (x:=gC t);refine et (σ:=y8) (λ_=>xk cm em Ls.length) y8.h (λs j=>Bk R N ((h.set (da Ls.length) (.list [])).set cy (.list (t.tail.map .int))) Ls.length em j s) ⟨t.tail,[],(h.set (da Ls.length) (.list [])).set cy (.list (t.tail.map .int))⟩ ((bo (1+ub (gC t))).map λj:Nat=>SV.int j) (tP (n:=1+ub (gC t)) (b8 (i.K.ty rfl) rfl (aB (fK bD (fK (b8 (i.K.ref rfl) (i.K.keep rfl) (aB n_ aL) (vn (b:=b+5) rfl S1.tp S1.tl).cp) bD (tZ aW)) (m3▸nZ)) aL) ug) (bd (e6 (cj l3) _) bg)) (⟨c0,.nil,λ_ z=>(cT z),ar _,S2.tp,S2.tl,Um,λ_ _ _=>rfl⟩:Bk R N ((h.set (da Ls.length) (.list [])).set cy (.list (t.tail.map .int))) Ls.length em 0 ⟨t.tail,[],(h.set (da Ls.length) (.list [])).set cy (.list (t.tail.map .int))⟩) (ai (ai (ai (ai (ai (ai (ai (ai bq)))))))) (λs j J=>tH.trans ?_) (λs j v J e=>?_) (λs C=>aH ?_)
 ·rw[dv]
  by_cases hj:j<1+ub (gC t)
  ·rw[aP hj,w9 hj];rfl
  ·rw[aK hj,md (by rw[dS];exact js.mp ‹_›)];rfl
 ·have hj:=(cV.mp e).1
  rw[aI,dS] at hj;exact dX (Yt (v:=v) g J (bI hj (ah (e6 (eS l3) _) aJ)) λs' J'=>bK (LQ.next (s':y8) J' .rfl))
 ·obtain⟨t',ch,h3⟩:=s
  have C':∀x,x≠cy→x≠da Ls.length→h3 x=h x:=λx h1 h2=>(C.same x h1 h2).trans ((aq h1).trans (aq h2));have Cch:h3 (da Ls.length)=aa (.list (ch.map aM)):=C.ch;have ZU:h3 cy=aa (.list (t'.map .int)):=C.tp;have RP:h3 (gN em)=aa (.list ((eA R R.length).map aM)):=C.ev;have L6:h3 lsN=aa (.list (Ls.map λp=>.ref p.1)):=(C' _ az az).trans I.ls;have kq:Kq [70,72] N h h3:=⟨λk l hk=>C' _ (λz=>by injection z with z;exact iy hk (a:=70) rfl z) λz=>by injection z with z;exact iy hk (a:=72) rfl z,λk l _=>C' _ az az⟩;have F3:bp h3 N:=S.w.tb.free.same λk l _=>C' _ az az;have S3:bL R U c N t' ps cm h3:=S.kqT kq F3 ZU C.tl;have cl:ch.length≤3:=by have:=C.len;rw[aI,dS] at this;dsimp only at this;exact ah this (ah (e6 (eS l3) _) aJ)
  refine fG (di n_ (fS L6) rfl (aB n_ aL) (fX L6 (by rw[aI _];refine(?_:_≤2^24);exact ah (ah (lu _ _) (bF bu)) aJ))) (aH ?_);refine SS.sub (ej:=qy cm em) ?_ (ai (ai (ai (ai (ai (ai (ai bq)))))));have ll:(Ls++[(da Ls.length,ch)]).length=Ls.length+1:=cU;refine fin ⟨t',Ls++[(da Ls.length,ch)],h3.set lsN (.list ((Ls.map λp=>SV.ref p.1)++[.ref (da Ls.length)]))⟩ ⟨(S3.kq (B:=[73]) (.set rfl) (F3.same λ_ _ _=>aq az) (ar _):bL R U c N t' ps cm (h3.set lsN (.list ((Ls.map λp=>SV.ref p.1)++[.ref (da Ls.length)])))),⟨((aq az).trans RP:(h3.set lsN (.list ((Ls.map λp=>SV.ref p.1)++[.ref (da Ls.length)]))) (gN em)=aa (.list ((eA R R.length).map aM))),I.el,(aS.trans (by rw[dN];rfl):(h3.set lsN (.list ((Ls.map λp=>SV.ref p.1)++[.ref (da Ls.length)]))) lsN=aa (.list ((Ls++[(da Ls.length,ch)]).map λp=>SV.ref p.1))),λp hp=>?_,λj hj=>?_⟩,((aq az).trans ((C' _ az az).trans J.pb):(h3.set lsN (.list ((Ls.map λp=>SV.ref p.1)++[.ref (da Ls.length)]))) (.mk 74 [])=af),by show m+(Ls++[(da Ls.length,ch)]).length=4;rw[ll];exact(uA m Ls.length 1).trans bu⟩
  ·rcases dw.mp hp with hp|hp
   ·have E:=I.each p hp
    have nn:p.1≠lsN∧p.1≠cy∧p.1≠da Ls.length:=by
     rcases E.nm with⟨x,_,e⟩|⟨x,hx,e⟩
     ·rw[e];exact(cG az az az)
     ·rw[e];exact(cG az az (λz=>by injection z with _ z;injection z with z;exact du ‹_› ‹_›))
    exact⟨(aq nn.1).trans ((C' _ nn.2.1 nn.2.2).trans E.own),E.nd,E.len,E.ok,E.nm.imp id λ⟨x,hx,e⟩=>⟨x,by rw[ll];exact ah ‹_› (b6 _ _),e⟩⟩
   ·rw[bS.mp hp]
    exact⟨((aq az).trans Cch:(h3.set lsN (.list ((Ls.map λp=>SV.ref p.1)++[.ref (da Ls.length)]))) (da Ls.length)=aa (.list (ch.map aM))),C.nd,cl,C.ok,.inr (aU Ls.length (by rw[ll];exact ar _) rfl)⟩
  ·have hj:Ls.length+1≤j:=by rw[←ll];exact hj
   exact(λj hj=>(aq az).trans ((C' _ az λz=>by injection z with _ z;injection z with z;exact dG ‹_› ‹_›).trans (I.fr j (cj ‹_›))):∀j,Ls.length+1≤j→(h3.set lsN (.list ((Ls.map λp=>SV.ref p.1)++[.ref (da Ls.length)]))) (da j)=af) j hj
theorem ae8(g:GR R)(S:bL R U c N t ps cm h)(I:wr R em N Ls h)(l2:Ls.length=2)(pb:h (.mk 74 [])=af)
  (fin:∀t h' Ls,bL R U c N t ps cm h'→wr R em N Ls h'→Ls.length≤4→h' (.mk 74 [])=af→SS (bJ i (b+6)) (qy cm em) h' [(ba 478).drop 11] Q):SS (bJ i (b+6)) (qy cm em) h [(ba 478).drop 10] Q:=by
 refine ry (σ:=yZ) (λ_=>qy cm em) yZ.h (λs m=>Ef R U c N ps cm em m s) ⟨t,Ls,h⟩ 2 ⟨S,I,pb,ay (2+·) l2⟩ .rfl (λs m J=>?_);have bu:=J.bu;have tl:=J.S.tl;refine(mC (!(s.t.map SV.int).isEmpty && decide (((s.Ls.length:Nat):Int) <4)) s.h ?_ (λe=>aH (fin _ _ _ J.S J.I (ah (lu _ _) (bF bu)) J.pb)) (λe=>?_))
 ·have ll:CP (bJ i (b+6)) s.h (.bi "len") [.ref lsN] (is (.int s.Ls.length) s.h):=by
   have:=oI (i:=bJ i (b+6)) (.own J.I.ls) (by rw[aI _];exact bd (ah (lu _ _) (bF bu)) bg)
   rwa [aI] at this
  cases z:!(s.t.map SV.int).isEmpty with
  |false=>exact oJ (z▸p_ n_ (lT (.own J.S.tp) (by rw[aI _];exact bd ‹_› bg)))
  |true=>rw[ai7 _];exact lY (ag:=s.h) (z▸p_ n_ (lT (.own J.S.tp) (by rw[aI _];exact bd ‹_› bg))) (LV (bt (b8 (i.K.bi rfl) rfl (aB n_ aL) ll) bD yQ))
 ·rw[bO] at e
  have:(s.Ls.length:Int) <4:=fC e.2;obtain⟨m',rfl⟩:∃m',m=m'+1:=⟨m-1,(qT (oh λz=>du (ib.mp this) ((mZ _).symm.trans (z▸bu)))).symm⟩;exact Vu g J λs' J'=>bK (LQ.next (s':yZ) (aU m' (dq _) J') .rfl)
variable{J:List aF}{ad bT:List Nat}{U':List (List aF)}
theorem cZ.up(w:cZ R U c N h)(hU:U ⊆ U')(hl:U'.length≤2000000):cZ R U' c N h:=
 ⟨w.tb,w.ca.imp λT ⟨es,C⟩=>⟨es,C.ca,C.nd,λk v e=>(C.ent k v e).imp id λ⟨I,hI,r⟩=>⟨I,hU hI,r⟩,C.heap,C.node,C.root,C.up⟩,hl⟩
theorem eW.reach{k:Nat}{J J':List aF}(C:eW R k J ad J' bT)(P:Nat→Prop)(step:∀y,P y→∀z∈dQ R (y,0),P z):(∀q∈J,∀y∈dQ R q,P y)→(∀y∈ad,P y)→∀y∈bT,P y:=by
 induction C with
 |done=>exact λ_ h=>h
 |@step k J J' ad bT q e w ih=>
  intro hJ ha;refine hG (AJ (dQ R q) J ad) λx ex h1 h2 h3=>?_;rw[ex] at ih;have hx:∀y∈x,P y:=λy hy=>hJ q (bN e) y (h2 y hy);refine ih (λp hp y hy=>?_) (λy hy=>?_)
  ·rcases dw.mp hp with hp|hp
   ·exact hJ p hp y hy
   ·refine aj (bB.mp hp) λa Ut ax=>?_;subst ax
    exact step a (hx a Ut) y hy
  ·rcases dw.mp hy with hy|hy
   ·exact ha y hy
   ·exact hx y hy
theorem xU{y:Nat}:y∈dQ R q↔∃s,(aG R q.1)[q.2]? =aa s∧y<R.length∧y≠0∧bE R y=s:=by
 unfold dQ
 split
 ·next e=>exact⟨λh=>(cT h),λ⟨s,h,_⟩=>(by rw[e] at h;exact a7 h)⟩
 ·next s e=>
  rw[propext m9,propext dR,bO _ _,propext h_,propext h_];exact⟨λ⟨a,b,c⟩=>⟨s,e,a,b,c⟩,λ⟨t,e',a,b,c⟩=>(by rw[e] at e';obtain rfl:=aY e';exact⟨a,b,c⟩)⟩
theorem He{s:Str}:s∈e8 R I↔∃q∈I,(aG R q.1)[q.2]? =aa s:=gQ
theorem yF{n:Nat}:n∈iH R ps I↔n<R.length∧∃s∈e8 R I,s=bE R n∨(s,bE R n)∈ps:=by
 unfold iH;rw[propext m9,propext dR,propext agy];refine and_congr Iff.rfl (exists_congr λs=>and_congr Iff.rfl ?_);unfold o7;rw[DP _ _,propext h_,propext h_]
noncomputable def rowM(r0 r1 r2 m0 m1 m2:Bool):Bool:=r0 && m0||(r1 && m1||r2 && m2)
noncomputable def Xj(r0 r1 r2 a0 a1 a2 b0 b1 b2 c0 c1 c2:Bool):Bool:=
 let s0:=r0||rowM r0 r1 r2 a0 b0 c0;let s1:=r1||rowM r0 r1 r2 a1 b1 c1;let s2:=r2||rowM r0 r1 r2 a2 b2 c2
 let A0:=a0||rowM a0 a1 a2 a0 b0 c0;let A1:=a1||rowM a0 a1 a2 a1 b1 c1;let A2:=a2||rowM a0 a1 a2 a2 b2 c2
 let B0:=b0||rowM b0 b1 b2 a0 b0 c0;let B1:=b1||rowM b0 b1 b2 a1 b1 c1;let B2:=b2||rowM b0 b1 b2 a2 b2 c2
 let C0:=c0||rowM c0 c1 c2 a0 b0 c0;let C1:=c1||rowM c0 c1 c2 a1 b1 c1;let C2:=c2||rowM c0 c1 c2 a2 b2 c2
 let t0:=s0||rowM s0 s1 s2 A0 B0 C0;let t1:=s1||rowM s0 s1 s2 A1 B1 C1;let t2:=s2||rowM s0 s1 s2 A2 B2 C2
 (!rowM t0 t1 t2 a0 b0 c0||t0) && (!rowM t0 t1 t2 a1 b1 c1||t1) && (!rowM t0 t1 t2 a2 b2 c2||t2)
theorem aet:∀r0 r1 r2 a0 a1 a2 b0 b1 b2 c0 c1 c2:Bool,Xj r0 r1 r2 a0 a1 a2 b0 b1 b2 c0 c1 c2=ab:=by
 decide +kernel
noncomputable def dj(R:bn)(j:Nat)(x z:Str):Bool:=decide ((x,z)∈Pj R j)
theorem LM(hC:R.filterMap gv ⊆ lS){x z:Str}:dj R (j+1) x z=(dj R j x z||rowM (dj R j x "A") (dj R j x "B") (dj R j x "S") (dj R j "A" z) (dj R j "B" z) (dj R j "S" z)):=by
 have:(x,z)∈sq (Pj R j)↔((x,("A":Str))∈Pj R j∧(("A":Str),z)∈Pj R j)∨((x,("B":Str))∈Pj R j∧(("B":Str),z)∈Pj R j)∨((x,("S":Str))∈Pj R j∧(("S":Str),z)∈Pj R j):=by
  rw[propext yz]
  constructor
  ·rintro⟨y,a,c⟩
   have hy:y="A"∨y="B"∨y="S":=by simpa using (pR.mp (rL hC a)).2
   rcases hy with rfl|rfl|rfl
   ·exact .inl ⟨a,c⟩
   ·exact .inr (.inl ⟨a,c⟩)
   ·exact .inr (.inr ⟨a,c⟩)
  ·rintro(⟨a,c⟩|⟨a,c⟩|⟨a,c⟩)<;>exact(aU _ a c)
 unfold dj rowM;rw[Pj,propext Qr];simp only[DP,bO,h_,dw,this]
theorem ad5(hC:R.filterMap gv ⊆ lS){x y z:Str}(h1:(x,y)∈Pj R 2)(h2:(y,z)∈Pj R 0):(x,z)∈Pj R 2:=by
 have key:((!rowM (dj R 2 x "A") (dj R 2 x "B") (dj R 2 x "S") (dj R 0 "A" "A") (dj R 0 "B" "A") (dj R 0 "S" "A")||dj R 2 x "A") && (!rowM (dj R 2 x "A") (dj R 2 x "B") (dj R 2 x "S") (dj R 0 "A" "B") (dj R 0 "B" "B") (dj R 0 "S" "B")||dj R 2 x "B") && (!rowM (dj R 2 x "A") (dj R 2 x "B") (dj R 2 x "S") (dj R 0 "A" "S") (dj R 0 "B" "S") (dj R 0 "S" "S")||dj R 2 x "S"))=ab:=by
  simp only[(λx z=>LM (j:=1) hC:∀x z,dj R 2 x z=_),(λx z=>LM (j:=0) hC:∀x z,dj R 1 x z=_)];exact aet (dj R 0 x "A") (dj R 0 x "B") (dj R 0 x "S") (dj R 0 "A" "A") (dj R 0 "A" "B") (dj R 0 "A" "S") (dj R 0 "B" "A") (dj R 0 "B" "B") (dj R 0 "B" "S") (dj R 0 "S" "A") (dj R 0 "S" "B") (dj R 0 "S" "S")
 have hy:y="A"∨y="B"∨y="S":=by simpa using (pR.mp (rL hC h1)).2
 have hz:z="A"∨z="B"∨z="S":=by simpa using (pR.mp (rL hC h2)).2
 have d1:dj R 2 x y=ab:=eQ h1;simp only[bO,DP,jL] at key;obtain⟨⟨k1,k2⟩,k3⟩:=key;have Wj:∀z,dj R 0 y z=ab→rowM (dj R 2 x "A") (dj R 2 x "B") (dj R 2 x "S") (dj R 0 "A" z) (dj R 0 "B" z) (dj R 0 "S" z)=ab:=λz hz=>by
  unfold rowM;rcases hy with rfl|rfl|rfl
  ·rw[d1,hz];rfl
  ·rw[d1,hz];simp
  ·rw[d1,hz];simp
 have hr:=Wj z (eQ h2:dj R 0 y z=ab);refine fC (?_:dj R 2 x z=ab);rcases hz with rfl|rfl|rfl
 ·exact k1.resolve_left (by rw[hr];exact aW)
 ·exact k2.resolve_left (by rw[hr];exact aW)
 ·exact k3.resolve_left (by rw[hr];exact aW)
variable{x:Str}
theorem Ld{a b:Str}:(a,b)∈Pj R 0↔∃j,j<R.length∧bE R j=a∧(aG R j)[0]? =aa b∧b∈a8:=by
 unfold Pj;rw[propext gQ];have f:∀{r:Str×List Str},gv r=aa (a,b)↔r.1=a∧r.2[0]? =aa b∧b∈a8:=λ{r}=>by
  obtain⟨x,ss⟩:=r;unfold gv
  cases ss with
  |nil=>exact⟨λz=>(by(first|exact a7 z|obtain rfl:=aY z)),λ⟨_,z,_⟩=>(by(first|exact a7 z|obtain rfl:=aY z))⟩
  |cons s t=>
   dsimp only
   by_cases hs:s∈a8
   ·rw[aP hs]
    exact⟨λz=>(by cases z;exact⟨rfl,rfl,hs⟩),λ⟨z1,z2,_⟩=>(by
     rw[ajg] at z2
     cases z2;exact ay (λy=>aa (y,b)) z1)⟩
   ·rw[aK hs]
    exact⟨λz=>(a7 z),λ⟨_,z,w⟩=>(by
     rw[ajg] at z;obtain rfl:=aY z;exact bc w hs)⟩
 constructor
 ·rintro⟨r,hr,e⟩
  obtain⟨j,hj,rfl⟩:=List.getElem_of_mem hr;have e1:=Ae hj;rw[fb hj] at e1;rw[(aY e1)] at e;refine jz (f.mp e) λz1 z2 z3=>?_;exact(ik j hj z1 z2 z3)
 ·rintro⟨j,hj,z1,z2,z3⟩
  exact(aU _ (bN (Ae hj)) (f.mpr (cG z1 z2 z3)))
theorem Tk:∀{s:Str},s∈a8→s≠"S'":=λ{s} h=>by
 exact(aW:∀s∈a8,s≠"S'") s h
theorem aea:∀{s:Str},s∈e7→s≠"S'":=λ{s} h=>by
 exact(aW:∀s∈e7,s≠"S'") s h
theorem NN(D:eU R)(eu:∀p,p∈ps↔p∈Pj R 2)(C:eW R 0 I [] J ad):J=I++ad.map (·,0)∧ad.Nodup∧∀n,n∈ad↔n∈iH R ps I:=by
 have g:=D.gr;obtain⟨P,NW⟩:=C.prop;obtain⟨x,e1,e2⟩:=P.ext;have e2:ad=x:=by rw[e2];rfl
 subst e2;have U8:∀s∈e8 R I,s≠"S'":=λs hs=>by
  refine aj (He.mp hs) λq _ e=>?_;refine aea (g.MQ q.1 ?_ s (bN e));refine aij λz=>?_;unfold aG at e;rw[md z] at e;(first|exact a7 e|obtain rfl:=aY e)
 refine(cG e1 (P.nd .nil) (λn=>⟨λhn=>?_,λhn=>?_⟩))
 ·
  have:=C.reach (λy=>y<R.length∧y≠0∧∃s∈e8 R I,s=bE R y∨(s,bE R y)∈Pj R 2) (λy ⟨h1,h2,s,hs,h3⟩ z hz=>?_) (λq hq y hy=>?_) (λ_ z=>by exact cT z) n hn
  ·obtain⟨h1,_,s,hs,h3⟩:=this
   exact yF.mpr ⟨h1,s,hs,h3.imp id (eu _).mpr⟩
  ·refine hG (xU.mp hz) λs' e' z1 z2 z3=>?_
   have ed:(bE R y,bE R z)∈Pj R 0:=Ld.mpr (ik y h1 rfl (z3▸e') (g.FS z (oh z2) z1));refine⟨z1,z2,s,hs,.inr ?_⟩;rcases h3 with rfl|h3
   ·exact(λp hp=>i7 _ (i7 _ hp):∀p∈Pj R 0,p∈Pj R 2) _ ed
   ·exact ad5 D.Cb h3 ed
  ·refine hG (xU.mp hy) λs e z1 z2 z3=>?_
   exact⟨z1,z2,s,He.mpr (aU q hq e),.inl z3.symm⟩
 ·refine mN (yF.mp hn) λh1 s hs h3=>?_
  have aad:∀a b:Str,a≠"S'"→(a,b)∈Pj R 0→(∀n,0<n→n<R.length→bE R n=a→n∈ad)→∀n,0<n→n<R.length→bE R n=b→n∈ad:=λa b ha hab Q n n0 n1 n2=>by
   refine hG (Ld.mp hab) λj hj z1 z2 z3=>?_;have hm:(j,0)∈J:=e1▸kj _ (bB.mpr (aU j (Q j (oh λz=>ha (by rw[←z1,z,g.yd]):0<j) hj z1) rfl));refine xE (uE hm) λi hi=>?_;exact NW i _ (b_ _) hi n (xU.mpr (ik b z2 n1 (dG n0) n2))
  have path:∀j,∀a b:Str,a≠"S'"→(a,b)∈Pj R j→(∀n,0<n→n<R.length→bE R n=a→n∈ad)→∀n,0<n→n<R.length→bE R n=b→n∈ad:=λj=>by
   induction j with
   |zero=>exact aad
   |succ j ih=>
    intro a b ha hab Q;rcases dw.mp hab with hab|hab
    ·exact ih a b ha hab Q
    ·refine aj (yz.mp hab) λy h1 h2=>?_
     have hy:y≠"S'":=Tk (by
      have:=(pR.mp (rL D.Cb h1)).2;exact(aW:∀s∈(["A","B","S"]:List Str),s∈a8) _ this)
     exact ih y b hy h2 (ih a y ha h1 Q)
  have Q0:∀n,0<n→n<R.length→bE R n=s→n∈ad:=λn n0 n1 n2=>by
   refine aj (He.mp hs) λq hq e=>?_;refine xE (uE (e1▸i7 _ hq:q∈J)) λi hi=>?_;exact NW i _ (b_ _) hi n (xU.mpr (ik s e n1 (dG n0) n2))
  have ns:=U8 s hs;rcases h3 with rfl|h3
  ·exact Q0 n (oh λz=>ns (by rw[z,g.yd])) h1 rfl
  ·have h3:=(eu _).mp h3
   have n0:0<n:=oh λz=>by
    have:=(pR.mp (rL D.Cb h3)).2;rw[z] at this;dsimp only at this;rw[g.yd] at this;exact bc this aW
   exact path 2 s _ ns h3 Q0 n n0 h1 rfl
theorem KV(D:eU R)(eu:∀p,p∈ps↔p∈Pj R 2)(r:dF R I L):∃ad:List Nat,L=I++ad.map (·,0)∧ad.Nodup∧∀n,n∈ad↔n∈iH R ps I:=by
 rcases r with⟨rfl,rfl⟩|⟨_,ad,C⟩
 ·refine(cK ([]) rfl .nil (λn=>⟨λz=>(cT z),λz=>?_⟩))
  refine mN (yF.mp z) λ_ s hs _=>?_;exact cT hs
 ·exact⟨ad,NN D eu C⟩
theorem BM:(iH R ps I).Nodup:=al9 List.filter_sublist HE
theorem Et{a c:List Nat}(ha:a.Nodup)(hc:c.Nodup)(e:∀n,n∈a↔n∈c):a.Perm c:=(HH ha hc).mpr e
theorem Vb{key:SV→Int}{vs ws a c:List SV}(pw:vs.Perm ws)(pa:a.Perm vs)(pc:c.Perm ws)(sa:a.Pairwise λx y=>key x<key y)(sc:c.Pairwise λx y=>key x<key y):a=c:=
 List.Perm.eq_of_pairwise (le:=λx y=>key x<key y) (λx y _ _ h1 h2=>bc h1 (ajh h2)) sa sc (pa.trans (pw.trans pc.symm))
noncomputable def kc:SV→Int
 |.tup [.int a,.int b]=>a*1000+b
 |_=>0
theorem Wr{a c e d:Nat}(hc:c<1000)(h:a<e):a*1000+c<e*1000+d:=
 bI (af2 hc _) (ah (bF (QP a 1000).symm) (ah (qR 1000 h) (b6 _ _)))
theorem AC{p q:aF}(hp:p.2<1000)(h:p.1<q.1):kc (aM p) <kc (aM q):=ib.mpr (Wr (d:=q.2) hp h)
theorem YA{p q:aF}(hp:p.2<1000)(hq:q.2<1000):lR (aM p) (aM q)=decide (kc (aM p) <kc (aM q)):=by
 show(if SV.int p.1=SV.int q.1 then(if SV.int p.2=SV.int q.2 then an else decide ((p.2:Int) <q.2)) else decide ((p.1:Int) <q.1))=_;have inj:∀{a c:Nat},SV.int a=SV.int c→a=c:=λe=>w7 (SV.int.inj e)
 by_cases h1:p.1=q.1
 ·rw[aP (ay (λn:Nat=>SV.int n) h1),(mY.mpr (by show(p.1:Int)*1000+p.2< (q.1:Int)*1000+q.2↔_;rw[h1];exact Int.add_lt_add_iff_left _):(decide (kc (aM p) <kc (aM q)))=decide ((p.2:Int) <q.2))]
  exact if h2:p.2=q.2 then(aP (ay (λn:Nat=>SV.int n) h2)).trans (h2▸(i0 (Int.lt_irrefl _)).symm) else aK λz=>h2 (inj z)
 ·rw[aK λz=>h1 (inj z)]
  exact mY.mpr ⟨λz=>AC hp (ib.mp z),λz=>(aji h1).elim (λy=>ib.mpr y) λy=>bc z (ajh (AC hq y))⟩
theorem Wu{p q:aF}(hp:p.2<1000)(hq:q.2<1000)(h:p≠q):kc (aM p)≠kc (aM q):=λe=>
 if h1:p.1=q.1 then h (jw h1 (w7 (Int.add_left_cancel ((ay (λn:Nat=>(n:Int)*1000+p.2) h1).symm.trans e))))
 else(aji h1).elim (λy=>QR (AC hp y) e) λy=>ahq (AC hq y) e
theorem Kt{l:List aF}(h:∀q∈l,q.2<1000)(nd:l.Nodup):((l.map aM).map kc).Nodup:=by
 rw[pi];exact wQ.mpr (nd.imp_of_mem λha hb dg=>Wu (h _ ha) (h _ hb) dg)
theorem UG{elt iter:Expr}{z x y:Str}{q q' xd q3 gJ:Pos}{nn:Nat}{sc:cb}{pos:Pos}{kk:df}{acc:Nm}{l ls:List Str}{vs us:List SV}(V:cr (db sc i.F) l=ab)(W:cY (db sc i.F) ls=ab)(ok:(qu sc i.F && (l.contains x && l.contains y) && ab)=ab)(a:EI i fr h iter kk ag)(ha:ag acc=af)
  (hit:∀(ws:List SV) (j:Nat),ji kk j (ag.set acc (.list ws))=aa vs[j]?) (hl:us.length=vs.length) (hz:vs.length≤cR) (hx:(gZ sc fr).lookup x=af) (hy:∀v,((gZ sc fr).put x v).lookup y=af) (two:∀v∈vs,∃a c,v=.tup [a,c])
  (b:∀(ws:List SV) (j:Nat) (v1 v2 u:SV),vs[j]? =aa (.tup [v1,v2])→us[j]? =aa u→EV (i.comp sc l ls V W) (((gZ sc fr).put x v1).put y v2) (ag.set acc (.list ws)) elt u (ag.set acc (.list ws)))
  (c:SS i (fr.put z (.ref acc)) (ag.set acc (.list us)) (rest::k) Q) (ZO:autoParam (i.l.contains z=ab) bl) (on:autoParam (rN iter) jg):SS i fr h ((.Assign [.Name z q3] (.ListComp elt [⟨.Tuple [.Name x q,.Name y q'] nn xd,iter,[],0⟩] sc pos) gJ::rest)::k) Q:=
 have o:=FC ok
 vt (P:=λh'=>h'=ag.set acc (.list us)) V W (vG o.c) a ha (GD .tup hit hl hz λws j v u e hu=>jW (two v (bN e)) λv1 v2 z=>⟨_,z▸at2 o.o,(gF hx).trans (gF (hy v1)),b ws j v1 v2 u (z▸e) hu⟩) (λaC e=>e.symm▸c) ZO on
noncomputable def ke:List bx:=ew (stN (ba 478) 12)
noncomputable def Kv:Expr:=ny (stN ke 0)
theorem VO:cr (db (dD Kv) (bC 478)) ["n","dot"]=ab:=by kernel_rfl
theorem TH:oP (db (dD Kv) (bC 478)) ["grammar"]=ab:=by kernel_rfl
noncomputable def sf(cm em:Nat)(cn:Nm):SF:=[("tape",.ref cy),("rules",.ref iR),("grammar",.ref aX),("table",.ref dp),("corners",.ref (gN cm)),("every",.ref (gN em)),("lists",.ref lsN),("asked",.ref (.mk 74 [])),("chosen",.ref cn)]
theorem Vm(g:GR R)(S:bL R U c N t ps cm h){cn:Nm}(E:B5 R N K h (cn,I))(nx:cn≠.mk 99 [])
  (fin:SS (bJ i (b+6)) ((sf cm em cn).put "items" (.ref (gN N))) (h.set (gN N) (.list (I.map a9))) (ke.drop 1::k) Q):SS (bJ i (b+6)) (sf cm em cn) h (ke::k) Q:=by
 have F:=S.w.tb.free;have own:h cn=aa (.list (I.map aM)):=E.own;have ok:∀q∈I,cX R q:=E.ok;have il:I.length≤3:=E.len;have nn:cn≠gN N:=λz=>by rw[z,gN,F.at] at own;exact a7 own
 obtain⟨es,XZ,UH⟩:∃es:Unit,h aX=aa (.inst 283 pS)∧h (.mk 35 [])=aa (.list ((bo R.length).map bA)):=(aU (()) S.gr.1 S.gr.2);refine UG (acc:=gN N) (kk:=.list cn) (l:=["n","dot"]) (ls:=[]) (vs:=I.map aM) (us:=I.map a9) VO rfl (by kernel_rfl) (d7 n_ own) F.at (λws j=>d8 ((aq nn).trans own)) (by rw[aI _,aI _]) (by rw[aI _];refine(?_:_≤2^24);exact ah ‹_› aJ) rfl (λ_=>rfl) (λv hv=>by refine aj (bB.mp hv) λq _ ax=>?_;subst ax;exact(tz _ _ rfl)) ?_ fin;intro ws j v1 v2 u e1 e2;refine aj (dJ e1) λq hq eq=>?_;rw[dv,hq] at e2
 (first|exact a7 e2|obtain rfl:=aY e2)
 injection eq with eq;injection eq with a1 eq;injection eq with a2 _;subst a1 a2;refine xA (ok q (bN hq)) λo1 o2=>?_;refine aj (S.w.tb.pr q.1 o1) λx px _=>?_;have Wi:((bo ((aG R q.1).length+1)).map λd=>a9 (q.1,d))[q.2]? =aa (a9 q):=by
  rw[dv,w9 (lb o2)];rfl
 have bu:=g.bu q.1;exact mJ (j:=q.2) (a_ (n:=bf q.1) (kY (a_ (n:=aX) (lJ TH) (aE XZ)) n_ (aE UH) g.len o1) (aE px)) n_ (.own (aE (S.od q.1 o1))) (bd o2 (bd bu bg)) Wi
theorem bL.run{B:List Nat}(S:bL R U c N t ps cm h)(w:cZ R U c' M h')(a:Kq B N h h')(le:N≤M)(hB:autoParam ((qV.all (λk=>!(99::B).contains k) && !(99::B).contains 43 && !(99::B).contains 70 && !(99::B).contains 71)=ab) bl):bL R U c' M t ps cm h':=by
 simp only[bO,jL] at hB;obtain⟨⟨⟨h2,h3⟩,h4⟩,h5⟩:=hB;exact⟨w,S.gr.kq a h2,λj hj=>(a.1 _ _ h3).trans (S.od j hj),(a.1 _ _ h4).trans S.tp,S.tl,(a.1 _ _ h5).trans S.ru,(a.2 _ _ S.cl).trans S.co,bI S.cl le,S.pl⟩
theorem eW.bu(C:eW R 0 I [] J ad):J.length≤I.length+R.length:=by
 refine aj C.prop.1.ext λx e e2=>?_;have e2:ad=x:=by rw[e2];rfl
 subst e2;have:=fO (C.prop.1.nd .nil) (l₂:=bo R.length) λy hy=>by
  rcases C.prop.1.src y hy with z|⟨q,_,z⟩
  ·exact cT z
  ·refine bG (xU.mp z) λ_ _ z _=>?_
   exact dR.mpr z
 rw[dS] at this;rw[e,cU,aI _];exact e6 this _
theorem UW{im:Nat}{fr:SF}{p1 p2:Pos}(g:GR R)(S:bL R U c N t ps cm h)(hi:h (gN im)=aa (.list (I.map a9)))(ok:∀q∈I,cX R q)(il:I.length≤3)(f1:fr.lookup ("table":Str)=aa (.ref dp))(f2:fr.lookup ("items":Str)=aa (.ref (gN im)))
  (c1:EP (bJ i (b+6)) fr h e (λv h'=>∃J ad,zo R c N h I v h' J ad)) (ns:iI e=ab):
  EP (bJ i (b+6)) fr h (.Call (.Name "_law_told" p1) [e] [] p2) (λv h'=>v=.ref (gN (N+1))∧∃J ad,eW R 0 I [] J ad∧bL R U (c+1) (N+2) t ps cm h'∧h' (gN (N+1))=aa (.list (J.map aM))∧Kq [10,30] N h h'):=by
 refine th (f:=.glob 473) (i.K.ref rfl) (i.K.keep rfl) c1 (λv h1 ⟨J,ad,C⟩=>?_) (by rw[ns];rfl);refine⟨λfr' Q' X hq=>(Ed (b:=b+5) rfl (.inr (aU _ C.v C.list):Told h1 v J) C.ok C.tb.it C.tb.free (ah (eW.bu C.clo) (ah (fp il g.len) aJ))).cp.run fr' Q' X λv h2 ⟨e1,e2⟩=>hq _ _ ⟨e1,J,ad,C.clo,?_,?_,?_⟩⟩
 ·rw[e2];exact(S.run (S.w.clo C) C.kq (bR _):bL R U (c+1) (N+1) t ps cm h1).kq (B:=[]) (M:=N+2) (.new (ar _)) (C.tb.free.new [] _) (bR _)
 ·rw[e2];exact aS
 ·rw[e2];exact C.kq.trans (M:=N+1) (.new (ar _)) (bR _)
theorem Ν{cn:Nm}{im:Nat}(g:GR R)(S:bL R U c N t ps cm h)(hi:h (gN im)=aa (.list (I.map a9)))(ok:∀q∈I,cX R q)(il:I.length≤3)
  (fin:∀J ad h',eW R 0 I [] J ad→bL R U (c+1) (N+2) t ps cm h'→h' (gN (N+1))=aa (.list (J.map aM))→Kq [10,30] N h h'→SS (bJ i (b+6)) (((sf cm em cn).put "items" (.ref (gN im))).put "whole" (.ref (gN (N+1)))) h' (ke.drop 2::k) Q):
  SS (bJ i (b+6)) ((sf cm em cn).put "items" (.ref (gN im))) h (ke.drop 1::k) Q:=by
 refine kH (UW g S hi ok il rfl rfl (di n_ (iX S.w.tb.tb rfl) (i.K.keep rfl) (aB n_ aL) (BZ (b:=b+5) rfl S.w.tb hi ok (ah ‹_› aJ)).cp) rfl) ?_;rintro v h' ⟨rfl,J,ad,C,S',hw,kq⟩;exact fin J ad h' C S' hw kq
variable{A:List aF}{im wm rm:Nat}{cn:Nm}
noncomputable def M7(cm em:Nat)(cn:Nm)(im wm:Nat):SF:=((sf cm em cn).put "items" (.ref (gN im))).put "whole" (.ref (gN wm))
noncomputable def nD(cm em:Nat)(cn:Nm)(im wm rm:Nat):SF:=(M7 cm em cn im wm).put "rest" (.ref (gN rm))
theorem UO(S:bL R U c N t ps cm h)(hc:h cn=aa (.list (I.map aM)))(il:I.length≤3)(hw:h (gN wm)=aa (.list ((I++A).map aM)))(al:A.length≤5)
  (fin:SS (bJ i (b+6)) (nD cm em cn im wm N) (h.set (gN N) (.list (A.map aM))) (ke.drop 3::k) Q):
  SS (bJ i (b+6)) (M7 cm em cn im wm) h (ke.drop 2::k) Q:=by
 have ll:CP (bJ i (b+6)) h (.bi "len") [.ref cn] (is (.int I.length) h):=by
  have:=oI (i:=bJ i (b+6)) (.own hc) (by rw[aI];exact bd ‹_› bg)
  rwa [aI] at this
 have sl:fk ((I++A).map aM) (aa (I.length:Int)) af=A.map aM:=by
  rw[AL (by rw[aI,cU];exact b6 _ _),←zZ,List.drop_left]
 exact bM (Fm (n:=gN wm) (m:=gN N) n_ (b8 (i.K.bi rfl) rfl (aB n_ aL) ll) hw (by rw[aI,cU];refine(?_:_≤2^24);exact ah (fp ‹_› ‹_›) aJ) S.w.tb.free.at sl) fin
theorem XW{fr:SF}{n m:Nm}{vs ws:List SV}{hi:Expr}{j:Int}{p pos:Pos}(hl:de i.G aC u vs)(a:EV i fr h e u ag)(b:EV i fr ag hi (.int j) aC)(hz:vs.length≤cR)(hm:aC m=af)(hw:fk vs af (aa j)=ws):EV i fr h (.Subscript e (.Slice af (aa hi) af p) pos) (.ref m) (aC.set m (.list ws)):=hw▸Nc (n:=n) hl a b hz hm
theorem aca(h:I.Nodup):(I.map aM).Nodup:=Iz _ (λa b z e=>z (yC e)) h
theorem Si(g:GR R)(S:bL R U c N t ps cm h)(hc:h cn=aa (.list (I.map aM)))(nx:cn≠.mk 99 [])(ok:∀q∈I,cX R q)(il:I.length≤3)(hi:h (gN im)=aa (.list (I.map a9)))(hw:h (gN wm)=aa (.list ((I++A).map aM)))(hr:h (gN rm)=aa (.list (A.map aM)))(al:A.length≤5)(nd:A.Nodup)(LP:∀q∈A,cX R q)
  (fin:∀M h',bL R U c M t ps cm h'→N≤M→Kq [] N h h'→SS (bJ i (b+6)) (nD cm em cn im wm rm) h' (ke.drop 4::k) Q):
  SS (bJ i (b+6)) (nD cm em cn im wm rm) h (ke.drop 3::k) Q:=by
 have F:=S.w.tb.free;have F1:bp (h.set (gN N) (.list (I.map aM))) (N+1):=F.new [] _;have k1:Kq [] N h (h.set (gN N) (.list (I.map aM))):=.new (ar _);have nY:=kJ k1 F hc nx;have Hk:=kJ k1 F hr (λz=>by injection z with _ z;exact jC z);have F2:bp ((h.set (gN N) (.list (I.map aM))).set (gN (N+1)) (.list (I.map aM))) (N+2):=F1.new [] _;have k2:Kq [] N h ((h.set (gN N) (.list (I.map aM))).set (gN (N+1)) (.list (I.map aM))):=k1.at' (bR _);have ll:CP (bJ i (b+6)) (h.set (gN N) (.list (I.map aM))) (.bi "len") [.ref cn] (is (.int I.length) (h.set (gN N) (.list (I.map aM)))):=by
  have:=oI (i:=bJ i (b+6)) (.own nY) (by rw[aI];exact bd ‹_› bg)
  rwa [aI] at this
 have sl:fk ((I++A).map aM) af (aa (I.length:Int))=I.map aM:=by
  rw[Km,←Im,List.take_left]
 refine CU (P:=λh'=>∃vs,h'=((h.set (gN N) (.list (I.map aM))).set (gN (N+1)) (.list (I.map aM))).set (gN (N+2)) (.set vs)) (Fg (EB.tB (h':=h.set (gN N) (.list (I.map aM))) ?_) λh1 e1=>?_) λh' ⟨vs,e⟩=>?_
 ·exact bt (u:=.ref (gN N)) (w:=.ref cn) (b8 (i.K.ref rfl) (i.K.keep rfl) (aB n_ aL) (Ed (b:=b+5) rfl (.inr (aU _ rfl hi)) ok S.w.tb.it F (ah ‹_› aJ)).cp) n_ (AZ (.own aS) (.own nY) yc)
 ·subst e1
  refine Fg (EB.tB (h':=(h.set (gN N) (.list (I.map aM))).set (gN (N+1)) (.list (I.map aM))) ?_) λh2 e2=>?_
  ·exact bt (u:=.ref (gN (N+1))) (w:=.ref cn) (XW (n:=gN wm) (m:=gN (N+1)) (.own (kJ k1 F hw (λz=>by injection z with _ z;exact jC z))) n_ (b8 (i.K.bi rfl) rfl (aB n_ aL) ll) (by rw[aI,cU];refine(?_:_≤2^24);exact ah (fp ‹_› ‹_›) aJ) F1.at sl) n_ (AZ (.own aS) (.own (kJ k2 F hc nx)) yc)
  ·subst e2
   refine Fg (P:=λh'=>∃vs,h'=((h.set (gN N) (.list (I.map aM))).set (gN (N+1)) (.list (I.map aM))).set (gN (N+2)) (.set vs)) (Ck (P1:=λv h'=>∃vs,v=.int A.length∧h'=((h.set (gN N) (.list (I.map aM))).set (gN (N+1)) (.list (I.map aM))).set (gN (N+2)) (.set vs)) (P2:=λu w h'=>u=.int A.length∧w=.int A.length∧∃vs,h'=((h.set (gN N) (.list (I.map aM))).set (gN (N+1)) (.list (I.map aM))).set (gN (N+2)) (.set vs)) ?_ (λu h3 p=>?_) λu w h4 p=>?_) λh3 p=>⟨λfr' s Q X hq=>Xr.run fr' s Q X λh4 e=>hq _ (e▸p)⟩
   ·refine th (P:=λv h'=>v=.ref (gN (N+2))∧∃vs:List SV,vs.Nodup∧(∀y,y∈vs↔y∈A.map aM)∧h'=((h.set (gN N) (.list (I.map aM))).set (gN (N+1)) (.list (I.map aM))).set (gN (N+2)) (.set vs)) (i.K.bi rfl) rfl (EP.imp (nV (i.K.ty rfl) rfl (aB n_ aL) (CN (U:=A.map aM) (.own (kJ k2 F hr (λz=>by injection z with _ z;exact jC z))) (λv hv=>?_) (by rw[aI];exact bd ‹_› bg) (λ_ z=>z) F2.at)) λv h' q=>q) λv h3 p=>?_
    ·refine aj (bB.mp hv) λq _ ax=>?_;subst ax
     rfl
    ·refine yb p λcP vs nv mm j8=>?_;clear p;subst cP;subst j8
     have pl:vs.length=A.length:=by
      have:=((HH nv (aca nd)).mpr mm).length_eq
      rwa [aI] at this
     exact⟨λfr' Q' X hq=>(S7 aS (bd (bF pl) (bd al bg))).run fr' Q' X λv h4 ⟨e1,e2⟩=>hq _ _ (aU vs (by rw[e1,pl]) e2)⟩
   ·refine aj p λvs br ax=>?_;clear p;subst br;subst ax
    have l3:CP (bJ i (b+6)) (((h.set (gN N) (.list (I.map aM))).set (gN (N+1)) (.list (I.map aM))).set (gN (N+2)) (.set vs)) (.bi "len") [.ref (gN rm)] (is (.int A.length) (((h.set (gN N) (.list (I.map aM))).set (gN (N+1)) (.list (I.map aM))).set (gN (N+2)) (.set vs))):=by
     have:=oI (i:=bJ i (b+6)) (.own (kJ (k2.at' (b6 _ _)) F hr (λz=>by injection z with _ z;exact jC z):(((h.set (gN N) (.list (I.map aM))).set (gN (N+1)) (.list (I.map aM))).set (gN (N+2)) (.set vs)) (gN rm)=aa (.list (A.map aM)))) (by rw[aI];exact bd ‹_› bg)
     rwa [aI] at this
    exact EP.imp (nV (i.K.bi rfl) rfl (aB n_ aL) l3) λv h' q=>⟨rfl,q.1,vs,q.2⟩
   ·obtain⟨rfl,rfl,p⟩:=p
    exact⟨DY rfl rfl,p⟩
 ·subst e
  exact aH (fin (N+3) _ (S.kq (B:=[]) (k2.at' (b6 _ _)) (F2.new [] _) (b6 _ _)) (b6 _ _) (k2.at' (b6 _ _)))
theorem Rb(g:GR R)(S:bL R U c N t ps cm h)(hc:h cn=aa (.list (I.map aM)))(nx:cn≠.mk 99 [])(ok:∀q∈I,cX R q)(il:I.length≤3)(hw:h (gN wm)=aa (.list ((I++ad.map λn=>((n,0):aF)).map aM)))(qq:∀n,n∈ad↔n∈iH R ps I)
  (fin:∀M h',bL R U c M t ps cm h'→N≤M→Kq [] N h h'→SS (bJ i (b+6)) (nD cm em cn im wm rm) h' (ke.drop 5::k) Q):
  SS (bJ i (b+6)) (nD cm em cn im wm rm) h (ke.drop 4::k) Q:=by
 have F:=S.w.tb.free;have len:=g.len;have UL:((eA R R.length).map aM).length<18:=by rw[aI _];have:=Hj (j:=R.length) g;exact bd this (bd (qR _ len) bg)
 have MW:∀n∈iH R ps I,((n,0):aF)∈eA R R.length:=λn hn=>Bu.mpr ⟨(yF.mp hn).1,b_ _⟩;have NA:∀q∈I,q∈eA R R.length:=λq hq=>Bu.mpr (ok q hq);have Uj:∀v∈(I++ad.map λn=>((n,0):aF)).map aM,v∈(eA R R.length).map aM:=λv hv=>by
  refine aj (bB.mp hv) λq hq ax=>?_;subst ax;refine bB.mpr (aU q ?_ rfl);rcases dw.mp hq with hq|hq
  ·exact NA q hq
  ·refine aj (bB.mp hq) λn hn ax=>?_;subst ax
   exact MW n ((qq n).mp hn)
 have flat:∀(L:List aF),∀v∈L.map aM,fc v=ab:=λL v hv=>by
  refine aj (bB.mp hv) λq _ ax=>?_;subst ax;rfl
 have N_:(iH R ps I).length≤5:=ah (IC _ _) (by rw[dS];exact len);have em:(iH R ps I).map (λn=>aM (n,0))=((iH R ps I).map λn=>((n,0):aF)).map aM:=by rw[pi];rfl
 refine CU (P:=λh'=>∃M,bL R U c M t ps cm h'∧N≤M∧Kq [] N h h') (Ck (P1:=λv h'=>v=.ref (gN N)∧∃vs:List SV,vs.Nodup∧(∀y,y∈vs↔y∈(I++ad.map λn=>((n,0):aF)).map aM)∧h'=h.set (gN N) (.set vs))
  (P2:=λu w h'=>∃n' vs ws,u=.ref (gN N)∧w=.ref n'∧h' (gN N)=aa (.set vs)∧h' n'=aa (.set ws)∧(∀y,y∈vs↔y∈ws)∧∃M,bL R U c M t ps cm h'∧N≤M∧Kq [] N h h') ?_ (λu h1 p=>?_) λu w h4 p=>?_) λh' ⟨M,S',le,kq⟩=>aH (fin M h' S' le kq)
 ·exact EP.imp (nV (i.K.ty rfl) rfl (aB n_ aL) (CN (U:=(eA R R.length).map aM) (.own hw) (flat _) UL Uj F.at)) λv h' q=>q
 ·refine yb p λcP vs nv mm j8=>?_;clear p;subst cP;subst j8
  have F1:bp (h.set (gN N) (.set vs)) (N+1):=F.new [] _;have k1:Kq [] N h (h.set (gN N) (.set vs)):=.new (ar _);have S1:bL R U c (N+1) t ps cm (h.set (gN N) (.set vs)):=S.kq (B:=[]) k1 F1 (bR _);have nY:=kJ k1 F hc nx;have v1:(h.set (gN N) (.set vs)) (gN N)=aa (.set vs):=aS;generalize h.set (gN N) (.set vs)=h1 at F1 k1 S1 nY v1 ⊢;refine th (P:=λv h'=>∃M,v=.ref (gN M)∧h' (gN M)=aa (.list (I.map aM++((iH R ps I).map λn=>((n,0):aF)).map aM))∧N+1≤M∧bp h' (M+1)∧Kq [] (N+1) h1 h') (i.K.ty rfl) rfl (FM n_ (nV (i.K.ref rfl) (i.K.keep rfl) (aB n_ (aB n_ (aB n_ aL))) (OH (b:=b+4) rfl S1.ru len (g.bu:∀j,(aG R j).length≤2) S1.co nY nx ok (ah ‹_› aJ) F1).cp) λw h2 p=>?_) λv h3 p=>?_
  ·refine B6 p λcP M J=>?_;clear p;subst cP
   have k2:=J.kq;have ho:=J.own;rw[em] at ho;have hM:N+1≤M:=by have:=J.lt;exact cj (oy this)
   exact⟨_,_,BP (n:=gN M) (.own (kJ k2 F1 nY nx)) (.own ho) (by rw[aI _,aI _,aI _];refine(?_:_≤2^24);exact ah (fp ‹_› ‹_›) aJ) J.free.at,M,rfl,aS,hM,J.free.new [] _,k2.at' hM⟩
  ·refine jy p λM br hl hM F3 k3=>?_;clear p;subst br
   refine⟨λfr' Q' X hq=>(CN (U:=(eA R R.length).map aM) (n:=gN (M+1)) (.own hl) (λv hv=>?_) UL (λv hv=>?_) F3.at).run fr' Q' X λv h4 ⟨e1,ws,nw,mw,e4⟩=>hq _ _ ⟨gN (M+1),vs,ws,rfl,e1,?_,?_,λy=>?_,M+2,?_,by exact c8 (c8 (gg hM)),?_⟩⟩
   ·rw[←dN] at hv;exact flat _ v hv
   ·rw[←dN] at hv
    refine aj (bB.mp hv) λq hq ax=>?_;subst ax;refine bB.mpr ⟨q,?_,rfl⟩;rcases dw.mp hq with hq|hq
    ·exact NA q hq
    ·refine aj (bB.mp hq) λn hn ax=>?_;subst ax
     exact MW n hn
   ·rw[e4];exact(aq (kA (du (lr (c8 hM))))).trans ((k3.2 N [] (dq _)).trans v1)
   ·rw[e4];exact aS
   ·rw[mm,mw,←dN]
    refine⟨λz=>?_,λz=>?_⟩<;>obtain⟨q,hq,rfl⟩:=bB.mp z<;>refine bB.mpr (aU q ?_ rfl)<;>rcases dw.mp hq with hq|hq
    ·exact i7 _ hq
    ·obtain⟨n,hn,rfl⟩:=bB.mp hq
     exact kj _ (bB.mpr (aU n ((qq n).mp hn) rfl))
    ·exact i7 _ hq
    ·obtain⟨n,hn,rfl⟩:=bB.mp hq
     exact kj _ (bB.mpr (aU n ((qq n).mpr hn) rfl))
   ·rw[e4];exact S1.kq (B:=[]) (k3.at' (ah ‹_› (b6 _ _))) (F3.new [] _) (ah ‹_› (b6 _ _))
   ·rw[e4];exact k1.trans (k3.at' (ah ‹_› (b6 _ _))) (bR _)
 ·obtain⟨n',vs,ws,rfl,rfl,h1,h2,e,p⟩:=p
  exact⟨Yi h1 h2 e,p⟩
noncomputable def o9:List bx:=ew (stN ke 5)
noncomputable def NX:Expr:=ny (stN o9 0)
theorem afh:cr (db (dD NX) (bC 478)) ["n","dot"]=ab:=by kernel_rfl
theorem OB:oP (db (dD NX) (bC 478)) ["rules","symbol"]=ab:=by kernel_rfl
theorem IV{vs:List SV}{d:Nat}:fk vs (aa (d:Int)) (aa ((d:Int)+1))=(vs[d]?).toList:=by
 show(vs.drop (fE vs.length d)).take (fE vs.length ((d+1:Nat):Int) - fE vs.length d)=_;rw[show fE vs.length (d:Int)=min d vs.length from C_,show fE vs.length ((d+1:Nat):Int)=min (d+1) vs.length from C_]
 by_cases hd:d<vs.length
 ·rw[sA (cj hd),sA hd,Df _ _,fb hd,Iy hd]
  rfl
 ·have hd:=pg hd
  rw[Ij hd,Ij (c8 hd),zJ _,md hd];rfl
noncomputable def Cq(cm em:Nat)(cn:Nm)(im wm rm:Nat)(x:Str):SF:=(nD cm em cn im wm rm).put "symbol" (.str x)
theorem ac4(g:GR R)(S:bL R U c N t ps cm h)(hc:h cn=aa (.list (I.map aM)))(nn:cn≠gN N)(ok:∀q∈I,cX R q)(il:I.length≤3)
  (fin:SS (bJ i (b+6)) ((Cq cm em cn im wm rm x).put "moved" (.ref (gN N))) (h.set (gN N) (.list ((cF R I x).map aM))) (o9.drop 1::k) Q):
  SS (bJ i (b+6)) (Cq cm em cn im wm rm x) h (o9::k) Q:=by
 refine vt (acc:=gN N) (P:=λh'=>h'=h.set (gN N) (.list ((cF R I x).map aM))) afh (ls:=[]) rfl (by kernel_rfl) (d7 n_ hc) S.w.tb.free.at ?_ λh' e=>e▸fin;refine rI (σ:=Nat) (λj=>h.set (gN N) (.list ((cF R (I.take j) x).map aM))) (λs j=>s=j∧j≤I.length) 0 I.length ⟨rfl,b_ _⟩ (λ_ _ e=>e.2) (λs j ⟨es,hj⟩=>?_) rfl rfl rfl;subst es;refine(cK _ (d8 ((aq nn).trans hc)) (λe=>?_) (λv e=>?_))
 ·have:I.length≤s:=by have:=km.mp e;rwa [aI] at this
  show h.set (gN N) (.list ((cF R (I.take s) x).map aM))=_;rw[na this]
 ·refine aj (dJ e) λq hq ax=>?_;subst ax
  have hj:=(cV.mp hq).1;refine xA (ok q (bN hq)) λo1 o2=>?_;have tk:cF R (I.take (s+1)) x=cF R (I.take s) x++(jB R x q).toList:=by
   unfold cF;rw[jN,hq,sD];refine ay (uK (jB R x) (I.take s)++·) ?_;show uK _ [q]=_;rw[qP]
   cases jB R x q<;>rfl
  have dd:decide (SV.tup (fk ((aG R q.1).map SV.str) (aa (q.2:Int)) (aa ((q.2:Int)+1)))=SV.tup [.str x])=decide ((aG R q.1)[q.2]? =aa x):=by
   rw[IV,dv]
   cases(aG R q.1)[q.2]? with
   |none=>exact mY.mpr ⟨λz=>(by injection z with z;cases z),λz=>(a7 z)⟩
   |some y=>exact mY.mpr ⟨λz=>(by injection z with z;injection z with z;injection z with z;rw[z]),λz=>(by injection z with z;rw[z];rfl)⟩
  have y5:SV.data 6 (SV.tup (fk ((aG R q.1).map SV.str) (aa (q.2:Int)) (aa ((q.2:Int)+1))))=ab:=by
   rw[IV,dv]
   cases(aG R q.1)[q.2]? <;>rfl
  refine(tq hj _ (decide ((aG R q.1)[q.2]? =aa x)) (at2 rfl) ((gF rfl).trans (gF rfl)) (Er (bt (Rx (mI (j:=1) (wH (lJ OB) n_ ((λa=>(aq az).trans S.ru:∀a:List aF,(h.set (gN N) (.list (a.map aM))) iR=aa (.list (R.map dh))) _) g.len o1) bD bg rfl) n_ (fK n_ bD nZ) (by rw[aI _];exact ah (g.bu q.1) (by refine(?_:_≤2^24);exact aJ))) (eY (aB (lJ OB) aL)) (dd▸zk (by rw[y5];rfl)))) (λe=>?_) (λe=>?_))
  ·have:=sk e
   exact(aU (s+1) ⟨rfl,hj⟩ (by rw[tk,show jB R x q=af from aK this];show _=h.set _ _;rw[ajd,gP _]))
  ·have:=fC e
   refine p9 (EV.ep (eY (aB n_ (aB (fK n_ bD nZ) aL)))) ?_;rintro v h1 ⟨rfl,rfl⟩;refine(nz _ aS ?_ (s+1) ⟨rfl,hj⟩ ?_)
   ·rw[aI _]
    refine ah (uM _ _) ?_;rw[jH];refine(?_:_≤2^24);exact ah (pD _ _) (ah il aJ)
   ·show h.set (gN N) (.list ((cF R (I.take (s+1)) x).map aM))=_
    rw[iF,tk,show jB R x q=aa (q.1,q.2+1) from aP this,dN];rfl
theorem FF(g:GR R):(iH R ps I).length≤5:=ah (IC _ _) (by rw[dS];exact g.len)
theorem JZ(D:eU R)(eu:∀p,p∈ps↔p∈Pj R 2)(r:dF R I L):L.length≤I.length+5:=by
 refine bG (KV D eu r) λad e nd mm=>?_;have:=(Et nd BM mm).length_eq;have:=FF (R:=R) (ps:=ps) (I:=I) D.gr;rw[e,cU,aI _];exact e6 (ah (bF ‹_›) ‹_›) _
theorem I6{fr:SF}{p1 p2:Pos}(D:eU R)(eu:∀p,p∈ps↔p∈Pj R 2)(S:bL R U c N t ps cm h)(ok:∀q∈I,cX R q)(il:I.length≤3)
  (c1:EP (bJ i (b+6)) fr aA e (oW R U N h (cF R I x))) (ns:iI e=ab):
  EP (bJ i (b+6)) fr aA (.Call (.Name "_law_told" p1) [e] [] p2) (λv h'=>∃L c' M,v=.ref (gN M)∧dF R (cF R I x) L∧bL R U c' (M+1) t ps cm h'∧h' (gN M)=aa (.list (L.map aM))∧Kq [10,30,31,32] N h h'∧N≤M):=by
 refine th (f:=.glob 473) (i.K.ref rfl) (i.K.keep rfl) c1 (λv h1 ⟨L,c',M,G⟩=>?_) (by rw[ns];rfl);have k1:Kq [10,30,31,32] N h h1:=G.kp.q;refine⟨λfr' Q' X hq=>(Ed (b:=b+5) rfl G.told.told (G.res.ok (Cg ok)) G.w.tb.it G.w.tb.free (ah (JZ D eu G.res) (oj (ah (ww (R:=R) (I:=I) (x:=x)) (ah il aJ)) _))).cp.run fr' Q' X λv h2 ⟨e1,e2⟩=>hq _ _ ⟨L,c',M,e1,G.res,?_,?_,?_,G.le⟩⟩
 ·rw[e2];exact(S.run G.w k1 G.le:bL R U c' M t ps cm h1).kq (B:=[]) (M:=M+1) (.new (ar _)) (G.w.tb.free.new [] _) (bR _)
 ·rw[e2];exact aS
 ·rw[e2];exact k1.trans (M:=M) (.new (ar _)) G.le
noncomputable def D8(cm em:Nat)(cn:Nm)(im wm rm:Nat)(x:Str)(mm:Nat):SF:=(Cq cm em cn im wm rm x).put "moved" (.ref (gN mm))
theorem ι{mm:Nat}(D:eU R)(eu:∀p,p∈ps↔p∈Pj R 2)(S:bL R U c N t ps cm h)(A:kU R U x I)(il:I.length≤3)(hk:im<N)(hi:h (gN im)=aa (.list (I.map a9)))
  (fin:∀L c' M h',dF R (cF R I x) L→bL R U c' (M+1) t ps cm h'→h' (gN M)=aa (.list (L.map aM))→Kq [10,30,31,32] N h h'→N≤M→SS (bJ i (b+6)) ((D8 cm em cn im wm rm x mm).put "answer" (.ref (gN M))) h' (o9.drop 2::k) Q):
  SS (bJ i (b+6)) (D8 cm em cn im wm rm x mm) h (o9.drop 1::k) Q:=by
 refine kH (I6 (x:=x) D eu S A.ok il (di n_ (iX S.w.tb.tb rfl) (i.K.keep rfl) (aB n_ (aB n_ aL)) (xG (b:=b+4) rfl A S.w hk hi).cp) rfl) ?_;rintro v h' ⟨L,c',M,rfl,r,S',hw,kq,le⟩;exact fin L c' M h' r S' hw kq le
variable{mm am:Nat}
noncomputable def Ay(cm em:Nat)(cn:Nm)(im wm rm:Nat)(x:Str)(mm am:Nat):SF:=(D8 cm em cn im wm rm x mm).put "answer" (.ref (gN am))
theorem C5(g:GR R){l:List aF}(ok:∀q∈l,cX R q)(q:aF)(hq:q∈l):q.2<1000:=bd (ah (ok q hq).2 (g.bu q.1)) bg
theorem MF(g:GR R){l:List aF}(ok:∀q∈l,cX R q):∀x∈l.map aM,∀y∈l.map aM,lR x y=decide (kc x<kc y):=λx hx y hy=>
 aj (bB.mp hx) λp hp e=>aj (bB.mp hy) λq hq e'=>e▸e'▸YA (C5 g ok p hp) (C5 g ok q hq)
theorem Pa{l:List aF}:uC (l.map aM):=⟨ab,λv hv=>aj (bB.mp hv) λp _ e=>e▸⟨_,_,rfl,⟨_,rfl⟩,_,rfl⟩⟩
theorem V6(Yb:I.Nodup)(pos:∀q∈I,0<q.2)(D:eU R)(eu:∀p,p∈ps↔p∈Pj R 2)(S:bL R U c N t ps cm h)(ok:∀q∈I,cX R q)(il:I.length≤3)(r:dF R I L)(hm:h (gN mm)=aa (.list (I.map aM)))(ha:h (gN am)=aa (.list (L.map aM)))
  (fin:∀M h',bL R U c M t ps cm h'→N≤M→Kq [] N h h'→SS (bJ i (b+6)) (Ay cm em cn im wm rm x mm am) h' (o9.drop 3::k) Q):
  SS (bJ i (b+6)) (Ay cm em cn im wm rm x mm am) h (o9.drop 2::k) Q:=by
 have g:=D.gr;have F:=S.w.tb.free;have F7:=r.ok ok;refine bG (KV D eu r) λad eL nd qq=>?_;have N_:=FF (R:=R) (ps:=ps) (I:=I) g;have Ww:(iH R ps I).map (λn=>aM (n,0))=((iH R ps I).map λn=>((n,0):aF)).map aM:=by rw[pi];rfl
 have pm:(L.map aM).Perm ((I++(iH R ps I).map λn=>((n,0):aF)).map aM):=by
  rw[eL];exact((((Et nd BM qq).map _).append_left I)).map _
 have Nu:∀{ad:List Nat},ad.Nodup→(I++ad.map λn=>((n,0):aF)).Nodup:=λ{ad} nd=>lq.mpr ⟨Yb,Iz _ (λa b z e=>z (ay m6 e)) nd,λa ha c hc e=>aj (bB.mp hc) λn _ e'=>fo 0 (PS (pos a ha) (ay Dk (e.trans e'.symm)))⟩;have vG:∀q∈I++(iH R ps I).map (λn=>((n,0):aF)),cX R q:=λq hq=>by
  have:aM q∈L.map aM:=pm.mem_iff.mpr (bB.mpr (aU q hq rfl));exact F7 q (LN.mp this)
 have FQ:∀{a:Nat},gN a≠.mk 99 []:=λz=>jC (Nm.mk.inj z).2;refine CU (P:=λh'=>∃M,bL R U c M t ps cm h'∧N≤M∧Kq [] N h h') (Ck (P1:=λv h'=>v=.ref (gN N)∧∃out:List SV,out.Perm (L.map aM)∧out.Pairwise (λx y=>kc x<kc y)∧h'=h.set (gN N) (.list out))
  (P2:=λu w h'=>∃n' out,u=.ref (gN N)∧w=.ref n'∧eK 6 out=ab∧h' (gN N)=aa (.list out)∧h' n'=aa (.list out)∧∃M,bL R U c M t ps cm h'∧N≤M∧Kq [] N h h') ?_ (λu h1 p=>?_) λu w h4 p=>?_) λh' ⟨M,S',le,kq⟩=>aH (fin M h' S' le kq)
 ·exact nV (i.K.bi rfl) rfl (aB n_ aL) (JV (key:=kc) (.own ha) Pa (by rw[aI _];exact bd (JZ D eu r) (ajf (bd il bg))) (MF g F7) (Kt (C5 g F7) (eL▸Nu nd)) F.at λout p s=>⟨rfl,out,p,s,rfl⟩)
 ·refine yb p λcP out po so j8=>?_;clear p;subst cP;subst j8
  have F1:bp (h.set (gN N) (.list out)) (N+1):=F.new [] _;have k1:Kq [] N h (h.set (gN N) (.list out)):=.new (ar _);have S1:bL R U c (N+1) t ps cm (h.set (gN N) (.list out)):=S.kq (B:=[]) k1 F1 (bR _);have yU:=kJ k1 F hm FQ;have v1:(h.set (gN N) (.list out)) (gN N)=aa (.list out):=aS;generalize h.set (gN N) (.list out)=h1 at F1 k1 S1 yU v1 ⊢;have y5:eK 6 out=ab:=by
   have:∀v∈out,∃q,v=aM q:=λv hv=>by
    refine aj (bB.mp (po.mem_iff.mp hv)) λq _ e=>?_;exact⟨q,e.symm⟩
   clear po so v1
   induction out with
   |nil=>rfl
   |cons a t ih=>
    refine xE (this a dA) λq br=>?_;subst br;show(SV.data 6 (aM q) && eK 6 t)=ab;rw[ih λv hv=>this v (eT _ hv),Ig _];rfl
  refine th (P:=λv h'=>∃M,v=.ref (gN M)∧h' (gN M)=aa (.list ((I++(iH R ps I).map λn=>((n,0):aF)).map aM))∧N+1≤M∧bp h' (M+1)∧Kq [] (N+1) h1 h') (i.K.bi rfl) rfl (FM n_ (nV (i.K.ref rfl) (i.K.keep rfl) (aB n_ (aB n_ (aB n_ aL))) (OH (b:=b+4) rfl S1.ru g.len g.bu S1.co yU FQ ok (ah ‹_› aJ) F1).cp) λw h2 p=>?_) λv h3 p=>?_
  ·refine B6 p λcP M J=>?_;clear p;subst cP
   have k2:=J.kq;have ho:=J.own;rw[Ww] at ho;have hM:N+1≤M:=by have:=J.lt;exact cj (oy this)
   exact⟨_,_,BP (n:=gN M) (.own (kJ k2 F1 yU FQ)) (.own ho) (by rw[aI _,aI _,aI _];refine(?_:_≤2^24);exact ah (fp ‹_› ‹_›) aJ) J.free.at,M,rfl,aS.trans (by rw[←dN]),hM,J.free.new [] _,k2.at' hM⟩
  ·refine jy p λM br hl hM F3 k3=>?_;clear p;subst br
   refine JV (key:=kc) (n:=gN (M+1)) (.own hl) Pa (by rw[aI _,cU,aI _];exact bd (fp il N_) bg) (MF g vG) (Kt (C5 g vG) (Nu BM)) F3.at λUK p2 s2=>?_;obtain rfl:out=UK:=Vb pm po p2 so s2;refine⟨gN (M+1),out,rfl,rfl,y5,?_,aS,M+2,?_,by exact c8 (c8 (gg hM)),?_⟩
   ·exact(aq (kA (du (lr (c8 hM))))).trans ((k3.2 N [] (dq _)).trans v1)
   ·exact S1.kq (B:=[]) (k3.at' (ah ‹_› (b6 _ _))) (F3.new [] _) (ah ‹_› (b6 _ _))
   ·exact k1.trans (k3.at' (ah ‹_› (b6 _ _))) (bR _)
 ·obtain⟨n',out,rfl,rfl,y5,h1,h2,p⟩:=p
  exact⟨AZ (.own h1) (.own h2) y5,p⟩
noncomputable def iz:Nm:=.mk 74 []
structure gO where
 im:Nat
 I:List aF
 x:Str
 am:Nat
 L:List aF
noncomputable def gO.val(a:gO):SV:=.tup [.ref (gN a.im),.str a.x,.ref (gN a.am)]
structure za(R:bn)(U:List (List aF))(N:Nat)(h:SH)(a:gO):Prop where
 i:kU R U a.x a.I
 il:a.I.length≤3
 hi:h (gN a.im)=aa (.list (a.I.map a9))
 li:a.im<N
 res:dF R (cF R a.I a.x) a.L
 ha:h (gN a.am)=aa (.list (a.L.map aM))
 la:a.am<N
theorem za.rR{a:gO}(A:za R U N h a)(s:fz N h h')(le:N≤M):za R U M h' a:=
 ⟨A.i,A.il,(s _ _ A.li).trans A.hi,bI A.li le,A.res,(s _ _ A.la).trans A.ha,bI A.la le⟩
structure eM(R:bn)(U:List (List aF))(N:Nat)(as:List gO)(h:SH):Prop where
 ls:h iz=aa (.list (as.map gO.val))
 each:∀a∈as,za R U N h a
theorem eM.kq{B:List Nat}{as:List gO}(A:eM R U N as h)(a:Kq B N h h')(le:N≤M)(hB:autoParam ((99::B).contains 74=an) dH):eM R U M as h':=
 ⟨(a.1 _ _ hB).trans A.ls,λx hx=>(A.each x hx).rR a.2 le⟩
theorem abf{as:List gO}(S:bL R U c N t ps cm h)(A:eM R U N as h)(ho:za R U N h ⟨im,I,x,am,L⟩)(bu:as.length≤1000)
  (fin:∀h',bL R U c N t ps cm h'→eM R U N (as++[⟨im,I,x,am,L⟩]) h'→Kq [74] N h h'→SS (bJ i (b+6)) (Ay cm em cn im wm rm x mm am) h' (o9.drop 4::k) Q):
  SS (bJ i (b+6)) (Ay cm em cn im wm rm x mm am) h (o9.drop 3::k) Q:=by
 refine fG (di n_ (fS A.ls) rfl (aB (eY (aB n_ (aB n_ (aB n_ aL)))) aL) (fX A.ls (by rw[aI _];refine(?_:_≤2^24);exact ah ‹_› aJ))) ?_;have k1:Kq [74] N h (h.set iz (.list (as.map gO.val++[gO.val ⟨im,I,x,am,L⟩]))):=.set rfl;refine fin _ (S.kq k1 (S.w.tb.free.same λ_ _ _=>aq az) (ar _)) ⟨aS.trans (by rw[dN];rfl),λa ha=>?_⟩ k1;rcases dw.mp ha with ha|ha
 ·exact(A.each a ha).rR k1.2 (ar _)
 ·rw[bS.mp ha];exact ho.rR k1.2 (ar _)
noncomputable def fM:List Nat:=[10,30,31,32,74]
structure re where
 c:Int
 N:Nat
 as:List gO
 h:SH
structure Fv(R:bn)(U:List (List aF))(t:List Int)(ps:List (Str×Str))(cm:Nat)(aN:Nat)(aA:SH)(a:Nat)(s:re):Prop where
 S:bL R U s.c s.N t ps cm s.h
 A:eM R U s.N s.as s.h
 le:aN≤s.N
 kq:Kq fM aN aA s.h
 bu:s.as.length=a
theorem XU{a:Nat}:gN a≠.mk 99 []:=λz=>jC (Nm.mk.inj z).2
theorem Kq.rD{B:List Nat}{o:cw}(a:Kq B N h h')(hn:h n=aa o)(hx:(∃k,k<N∧n=gN k)∨∃j,n=da j)(hB:autoParam ((99::B).contains 72=an) dH):h' n=aa o:=by
 rcases hx with⟨k,hk,rfl⟩|⟨j,rfl⟩
 ·exact(a.2 _ _ hk).trans hn
 ·exact(a.1 _ _ hB).trans hn
theorem TU{I:List aF}:∀q∈cF R I x,0<q.2:=λq hq=>aj (gQ.mp hq) λp _ e=>by
 unfold jB at e
 split at e
 ·exact aY e▸dK _
 ·exact a7 e
theorem Vo{s:re}{aN a:Nat}(nd:I.Nodup)(D:eU R)(eu:∀p,p∈ps↔p∈Pj R 2)(J:Fv R U t ps cm aN aA a s)(hc:aA cn=aa (.list (I.map aM)))(hx:(∃k,k<aN∧cn=gN k)∨∃j,cn=da j)(G:kU R U x I)(il:I.length≤3)(hi:aA (gN im)=aa (.list (I.map a9)))(li:im<aN)(bu:a≤1000)
  (fin:∀s',Fv R U t ps cm aN aA (a+1) s'→SS (bJ i (b+6)) (nD cm em cn im wm rm) s'.h k Q):
  SS (bJ i (b+6)) (Cq cm em cn im wm rm x) s.h (o9::k) Q:=by
 obtain⟨c,N,as,h⟩:=s;have S:bL R U c N t ps cm h:=J.S;have le:aN≤N:=J.le;have kq:Kq fM aN aA h:=J.kq;have fa:as.length=a:=J.bu;have nn:cn≠gN N:=by
  rcases hx with⟨k,hk,rfl⟩|⟨j,rfl⟩
  ·exact kA (du (bI hk le))
  ·exact az
 refine ac4 D.gr S (kq.rD hc hx) nn G.ok il ?_;have k1:Kq [] N h (h.set (gN N) (.list ((cF R I x).map aM))):=.new (ar _);have F1:bp (h.set (gN N) (.list ((cF R I x).map aM))) (N+1):=S.w.tb.free.new [] _;have S1:bL R U c (N+1) t ps cm _:=S.kq (B:=[]) k1 F1 (bR _);have vo:Kq fM aN aA _:=kq.trans (k1.mono (B':=fM)) le;have A1:eM R U (N+1) as _:=(J.A:eM R U N as h).kq k1 (bR _);have m1:(h.set (gN N) (.list ((cF R I x).map aM))) (gN N)=aa (.list ((cF R I x).map aM)):=aS;generalize h.set (gN N) (.list ((cF R I x).map aM))=h1 at k1 F1 S1 vo A1 m1 ⊢;refine ι (mm:=N) D eu S1 G il (ah ‹_› (ah ‹_› (b6 _ _)):im<N+1) ((vo.2 _ _ li).trans hi) λL c' M h2 res S2 ha k2 CR=>?_;have A2:eM R U (M+1) as h2:=A1.kq k2 (ah ‹_› (b6 _ _));have ml:=ww (R:=R) (I:=I) (x:=x);refine V6 (mm:=N) (am:=M) (Ec nd) TU D eu S2 (Cg G.ok) (ah ‹_› ‹_›) res ((k2.2 _ _ (dq _)).trans m1:h2 (gN N)=aa (.list ((cF R I x).map aM))) ha λM3 h3 S3 Cw k3=>?_;have v_:Kq fM aN aA h3:=(vo.trans (k2.mono (B':=fM)) (ah ‹_› (b6 _ _)):Kq fM aN aA h2).trans (k3.mono (B':=fM)) (c8 (ah le (gg CR)));refine abf S3 (A2.kq k3 Cw:eM R U M3 as h3) (x:=x) (am:=M) (L:=L) ⟨G,il,(v_.2 _ _ li).trans hi,bI (bI li le) (ah (bR _) (ah CR (ah (bR _) Cw))),res,(k3.2 _ _ (dq _)).trans ha,by show M<M3;assumption⟩ (ah (bF fa) bu) λh4 S4 A4 k4=>?_;refine SS.sub (ej:=nD cm em cn im wm rm) (aH (fin ⟨c',M3,_,h4⟩ ⟨S4,A4,by show aN≤M3;exact ah le (gg (ah CR (gg Cw))),v_.trans (k4.mono (B':=fM)) (ah le (gg (ah CR (gg Cw)))),by show(as++[_]).length=a+1;rw[cU,fa];rfl⟩)) ?_;exact ai (ai (ai (ai (ai (ai (ai (ai (ai (ai (ai (ai bq)))))))))))
variable{as:List gO}
theorem WK:∀x∈Ask,x∈Sy:=aW
theorem We(nd:I.Nodup)(D:eU R)(eu:∀p,p∈ps↔p∈Pj R 2)(S:bL R U c N t ps cm h)(A:eM R U N as h)(hc:h cn=aa (.list (I.map aM)))(hx:(∃k,k<N∧cn=gN k)∨∃j,cn=da j)(ok:∀q∈I,cX R q)(hU:I∈U)(il:I.length≤3)(hi:h (gN im)=aa (.list (I.map a9)))(li:im<N)(bu:as.length≤100)
  (fin:∀c N' kf h',bL R U c N' t ps cm h'→eM R U N' kf h'→N≤N'→Kq fM N h h'→kf.length≤as.length+7→SS (bJ i (b+6)) (nD cm em cn im wm rm) h' (ke.drop 6::k) Q):
  SS (bJ i (b+6)) (nD cm em cn im wm rm) h (ke.drop 5::k) Q:=by
 have F:=S.w.tb.free;have F1:bp (h.set (gN N) (.list (Ask.map .str))) (N+1):=F.new [] _;have k1:Kq [] N h (h.set (gN N) (.list (Ask.map .str))):=.new (ar _);have l1:(h.set (gN N) (.list (Ask.map .str))) (gN N)=aa (.list (Ask.map .str)):=aS;refine et (σ:=re) (λ_=>nD cm em cn im wm rm) re.h (λs j=>Fv R U t ps cm (N+1) (h.set (gN N) (.list (Ask.map .str))) (as.length+j) s) ⟨c,N+1,as,h.set (gN N) (.list (Ask.map .str))⟩ (Ask.map .str) (d7 (n:=gN N) (b8 (i.K.ref rfl) (i.K.keep rfl) aL (ZG (b:=b+5) rfl F).cp) l1) ⟨(S.kq (B:=[]) k1 F1 (bR _):bL R U c (N+1) t ps cm (h.set (gN N) (.list (Ask.map .str)))),(A.kq k1 (bR _):eM R U (N+1) as (h.set (gN N) (.list (Ask.map .str)))),ar _,.same,rfl⟩ .rfl (λs j J=>d8 ((J.kq.2 _ _ (dq _)).trans l1)) (λs j v J e=>?_) (λs J=>aH (fin s.c s.N s.as s.h J.S J.A (by have:=J.le;exact cj ‹_›) ((k1.mono (B':=fM)).trans J.kq (bR _)) (by have:=J.bu;rw[aI] at this;have z:Ask.length=7:=rfl;exact ah (bF this) (e6 aJ _))));refine aj (dJ e) λx s9 ax=>?_;subst ax;have z:Ask.length=7:=rfl;exact dX (Vo nd D eu J ((k1.mono (B':=fM)).rD hc hx) (hx.imp (λ⟨k,a,e⟩=>⟨k,pE a,e⟩) id) ⟨ok,by exact ah ‹_› aJ,hU,WK _ (bN s9)⟩ il ((k1.2 _ _ li).trans hi:(h.set (gN N) (.list (Ask.map .str))) (gN im)=aa (.list (I.map a9))) (pE li) (ah (fp bu (cj ((cV.mp s9).1))) aJ) λs' J'=>bK (LQ.next (s':re) J' .rfl))
theorem XD(D:eU R)(eu:∀p,p∈ps↔p∈Pj R 2)(S:bL R U c N t ps cm h)(A:eM R U N as h)(E:B5 R N K h (cn,I))(hU:I∈U)(bu:as.length≤100)
  (fin:∀c N' kf h',bL R U c N' t ps cm h'→eM R U N' kf h'→N≤N'→Kq fM N h h'→kf.length≤as.length+7→SS (bJ i (b+6)) (sf cm em cn) h' k Q):
  SS (bJ i (b+6)) (sf cm em cn) h (ke::k) Q:=by
 have g:=D.gr;have hx:(∃k,k<N∧cn=gN k)∨∃j,cn=da j:=E.nm.imp id λ⟨j,_,e⟩=>⟨j,e⟩;have nx:cn≠.mk 99 []:=by
  rcases hx with⟨k,_,rfl⟩|⟨j,rfl⟩
  ·exact XU
  ·exact az
 have il:I.length≤3:=E.len;have ok:∀q∈I,cX R q:=E.ok;have hc:h cn=aa (.list (I.map aM)):=E.own;refine Vm g S E nx ?_;have k1:Kq [] N h (h.set (gN N) (.list (I.map a9))):=.new (ar _);have S1:bL R U c (N+1) t ps cm (h.set (gN N) (.list (I.map a9))):=S.kq (B:=[]) k1 (S.w.tb.free.new [] _) (bR _);have A1:eM R U (N+1) as (h.set (gN N) (.list (I.map a9))):=A.kq k1 (bR _);have i1:(h.set (gN N) (.list (I.map a9))) (gN N)=aa (.list (I.map a9)):=aS;have vo:Kq fM N h (h.set (gN N) (.list (I.map a9))):=k1.mono;generalize h.set (gN N) (.list (I.map a9))=h1 at k1 S1 A1 i1 vo ⊢;refine Ν g S1 i1 ok il λJ ad h2 C S2 hw k2=>?_;refine jz (NN D eu C) λeJ nd qq=>?_;subst eJ;have MO:Kq fM N h h2:=vo.trans (k2.mono (B':=fM)) (bR _);have Jw:(ad.map λn=>((n,0):aF)).length≤5:=by
  rw[aI,(Et nd BM qq).length_eq];exact FF g
 have LP:∀q∈ad.map (λn=>((n,0):aF)),cX R q:=λq hq=>by
  refine aj (bB.mp hq) λn hn ax=>?_;subst ax;exact⟨(yF.mp ((qq n).mp hn)).1,b_ _⟩
 refine UO (im:=N) S2 (MO.rD hc hx) il hw Jw ?_;have k3:Kq [] (N+3) h2 (h2.set (gN (N+3)) (.list ((ad.map λn=>((n,0):aF)).map aM))):=.new (ar _);have S3:bL R U (c+1) (N+4) t ps cm (h2.set (gN (N+3)) (.list ((ad.map λn=>((n,0):aF)).map aM))):=S2.kq (B:=[]) k3 (S2.w.tb.free.new [] _) (bR _);have A3:eM R U (N+4) as _:=(A1.kq k2 (e6 aJ _):eM R U (N+3) as h2).kq k3 (bR _);have v_:Kq fM N h _:=MO.trans (k3.mono (B':=fM)) (b6 _ _);have r3:(h2.set (gN (N+3)) (.list ((ad.map λn=>((n,0):aF)).map aM))) (gN (N+3))=aa (.list ((ad.map λn=>((n,0):aF)).map aM)):=aS;have i3:=(k3.2 N [] (lb (b6 _ _))).trans ((k2.2 _ _ (dq _)).trans i1:h2 (gN N)=aa (.list (I.map a9)));have w3:=(k3.2 (N+1+1) [] (ar _)).trans hw;generalize h2.set (gN (N+3)) (.list ((ad.map λn=>((n,0):aF)).map aM))=h3 at k3 S3 A3 v_ r3 i3 w3 ⊢;refine Si (im:=N) (rm:=N+3) g S3 (v_.rD hc hx) nx ok il i3 w3 r3 Jw (Iz _ (λa b z e=>z (ay m6 e)) nd:(ad.map λn=>((n,0):aF)).Nodup) LP λM h4 S4 qE k4=>?_;have A4:eM R U M as h4:=A3.kq k4 qE;have NP:Kq fM N h h4:=v_.trans (k4.mono (B':=fM)) (b6 _ _);refine Rb g S4 (NP.rD hc hx) nx ok il ((k4.2 (N+1+1) [] (bR _)).trans w3) qq λM5 h5 S5 s8 k5=>?_;have Jr:Kq fM N h h5:=NP.trans (k5.mono (B':=fM)) (ah (b6 _ _) qE);refine We E.nd D eu S5 (A4.kq k5 s8:eM R U M5 as h5) (Jr.rD hc hx) (hx.imp (λ⟨k,a,e⟩=>⟨k,bI a (ah (ah (b6 _ 4) qE) s8),e⟩) id) ok hU il ((k5.2 N [] (bI (lb (b6 _ _)) qE)).trans ((k4.2 N [] (lb (b6 _ _))).trans i3)) (bI (bI (qS (dK 3)) qE) s8) bu λc6 N6 SM h6 S6 A6 TA k6 f6=>?_;exact SS.sub (aH (fin c6 N6 SM h6 S6 A6 (ah (ah (ah (b6 _ 4) qE) s8) TA) (Jr.trans k6 (ah (ah (b6 _ 4) qE) s8)) f6)) (ai (ai (ai (ai (ai (ai (ai (ai (ai bq)))))))))
noncomputable def rA(cm em:Nat):SF:=[("tape",.ref cy),("rules",.ref iR),("grammar",.ref aX),("table",.ref dp),("corners",.ref (gN cm)),("every",.ref (gN em)),("lists",.ref lsN),("asked",.ref iz)]
theorem aba(D:eU R)(eu:∀p,p∈ps↔p∈Pj R 2)(S:bL R (gM R) c N t ps cm h)(I:wr R em N Ls h)(l4:Ls.length≤4)(pb:h iz=af)
  (fin:∀U c N as h',bL R U c N t ps cm h'→eM R U N as h'→as.length≤28→SS (bJ i (b+6)) (rA cm em) h' [(ba 478).drop 13] Q):
  SS (bJ i (b+6)) (qy cm em) h [(ba 478).drop 11] Q:=by
 have hUl:=G8 D.gr;refine bM (eD (n:=iz) aL pb) (SS.sub (ej:=rA cm em) ?_ (ai (ai (ai (ai (ai (ai (ai (ai bq)))))))));have k1:Kq fM N h (h.set iz (.list [])):=.set rfl;have S1:bL R (gM R) c N t ps cm (h.set iz (.list [])):=S.kq (B:=[74]) (.set rfl) (S.w.tb.free.same λ_ _ _=>aq az) (ar _);have S2:bL R (gM R++Ls.map (·.2)) c N t ps cm (h.set iz (.list [])):={S1 with w:=S1.w.up (List.subset_append_left _ _) (by rw[cU,aI];exact ah (fp ‹_› ‹_›) aJ)};have Hu:(h.set iz (.list [])) lsN=aa (.list (Ls.map λp=>.ref p.1)):=(aq az).trans I.ls;have A1:eM R (gM R++Ls.map (·.2)) N [] (h.set iz (.list [])):=⟨aS,λ_ z=>by exact cT z⟩;have e1:∀p∈Ls,B5 R N Ls.length (h.set iz (.list [])) p:=λp hp=>by
  have E:=I.each p hp;exact⟨k1.rD E.own (E.nm.imp id λ⟨j,_,e⟩=>⟨j,e⟩),E.nd,E.len,E.ok,E.nm⟩
 generalize h.set iz (.list [])=h1 at k1 S2 Hu A1 e1 ⊢;refine et (σ:=re) (λ_=>rA cm em) re.h (λs j=>bL R (gM R++Ls.map (·.2)) s.c s.N t ps cm s.h∧eM R (gM R++Ls.map (·.2)) s.N s.as s.h∧N≤s.N∧Kq fM N h1 s.h∧s.as.length≤7*j) ⟨c,N,[],h1⟩ (Ls.map (λp:Nm×List aF=>SV.ref p.1)) (d7 (n:=lsN) n_ Hu) (uo S2 A1 (ar _) .same (ar _)) .rfl (λs j J=>d8 (n:=lsN) ((J.2.2.2.1.1 73 [] rfl).trans Hu)) (λs j v J e=>?_) (λs J=>aH (fin _ s.c s.N s.as s.h J.1 J.2.1 (by have:=J.2.2.2.2;rw[aI] at this;exact ah this (ah (pB _ l4) aJ))));refine aj (dJ e) λp hp ax=>?_;subst ax;have hj:=(cV.mp hp).1;obtain⟨cn,I'⟩:=p;refine yk J λS3 A3 le kq bu=>?_;clear J;have pm:=bN hp;have E:=e1 _ pm;refine dX (SS.sub (ej:=sf cm em cn) (XD (K:=Ls.length) D eu S3 A3 ⟨kq.rD E.own (E.nm.imp id λ⟨j,_,e⟩=>⟨j,e⟩),E.nd,E.len,E.ok,E.nm.imp (λ⟨x,a,e⟩=>⟨x,by exact ah ‹_› ‹_›,e⟩) id⟩ (kj _ (bB.mpr ⟨_,pm,rfl⟩)) (by lia) λc' N' kf h' S4 A4 qE k4 f4=>bK (LQ.next (⟨c',N',kf,h'⟩:re) ⟨S4,A4,ah le qE,kq.trans k4 le,by show kf.length≤7*(j+1);exact ah f4 (fp bu aJ)⟩ (ai (ai (ai (ai (ai (ai (ai (ai bq)))))))))) (ai (ai (ai (ai (ai (ai (ai (ai (ai bq))))))))))
theorem U_{fr:SF}{ag:SH}{e:Expr}{u v w:SV}{rest:List bx}{x y z:Str}{p q r tp pos:Pos}{n:Nat}(a:EV i fr h e (.tup [u,v,w]) ag)(b:SS i (((fr.put x u).put y v).put z w) ag (rest::k) Q)(ok:autoParam ((i.l.contains x && i.l.contains y && i.l.contains z && iq e)=ab) bl):SS i fr h ((.Assign [.Tuple [.Name x p,.Name y q,.Name z r] n tp] e pos::rest)::k) Q:=by
 simp only[bO] at ok;exact fH (sZ _ a.ep (λv' aC e fr' s Q' hq=>by refine xA e λcP br=>?_;clear e;subst cP;subst br;exact EE i.q (λ_=>rfl) rfl (oH i.V (oH i.V (oH i.V (hq _ _ (b.run _ (((s.put _ _).put _ _).put _ _))) ok.1.2) ok.1.1.2) ok.1.1.1)) (by rw[ok.2];rfl))
noncomputable def VN:List bx:=ew (stN (ba 478) 13)
theorem SU{a:gO}(D:eU R)(eu:∀p,p∈ps↔p∈Pj R 2)(S:bL R U c N t ps cm h)(A:eM R U N (as++[a]) h)(bu:as.length≤28)
  (fin:∀c N h',bL R U c N t ps cm h'→eM R U N as h'→SS (bJ i (b+6)) (rA cm em) h' k Q):
  SS (bJ i (b+6)) (rA cm em) h (VN::k) Q:=by
 have ls:h iz=aa (.list (as.map gO.val++[a.val])):=by have:=A.ls;rwa [dN] at this
 have k1:Kq [74] N h (h.set iz (.list (as.map gO.val))):=.set rfl;have S1:bL R U c N t ps cm (h.set iz (.list (as.map gO.val))):=S.kq k1 (S.w.tb.free.same λ_ _ _=>aq az) (ar _);have A1:eM R U N as (h.set iz (.list (as.map gO.val))):=⟨aS,λx hx=>(A.each x (i7 _ hx)).rR k1.2 (ar _)⟩;have O1:=(A.each a (kj _ dA)).rR k1.2 (ar N);refine U_ (u:=.ref (gN a.im)) (v:=.str a.x) (w:=.ref (gN a.am)) (gU n_ (JO ls) rfl aL (V7 ls (by rw[aI _];refine(?_:_≤2^24);exact bd ‹_› bg):CP (bJ i (b+6)) h (.bi "list.pop") [.ref iz] (is a.val (h.set iz (.list (as.map gO.val)))))) ?_;generalize h.set iz (.list (as.map gO.val))=h1 at S1 A1 O1 k1 ⊢;refine rn (di n_ (iX S1.w.tb.tb rfl) (i.K.keep rfl) (aB n_ aL) (BZ (b:=b+5) rfl S1.w.tb O1.hi O1.i.ok (by have:=O1.il;exact ah ‹_› aJ)).cp) ?_;rintro v h2 ⟨J,ad,C⟩;have S2:bL R U (c+1) (N+1) t ps cm h2:=S1.run (S1.w.clo C) C.kq (bR _);have A2:eM R U (N+1) as h2:=A1.kq C.kq (bR _);have O2:=O1.rR C.kq.2 (bR N);have k3:Kq [] (N+1) h2 (h2.set (gN (N+1)) (.list (a.I.map a9))):=.new (ar _);have S3:bL R U (c+1) (N+2) t ps cm (h2.set (gN (N+1)) (.list (a.I.map a9))):=S2.kq (B:=[]) k3 (S2.w.tb.free.new [] _) (bR _);have O3:=O2.rR k3.2 (bR (N+1));refine CU (P:=λh'=>∃c N,bL R U c N t ps cm h'∧eM R U N as h') (Ck (P1:=λv h'=>∃L c' M,v=.ref (gN M)∧dF R (cF R a.I a.x) L∧bL R U c' (M+1) t ps cm h'∧h' (gN M)=aa (.list (L.map aM))∧Kq [10,30,31,32] (N+2) (h2.set (gN (N+1)) (.list (a.I.map a9))) h'∧N+2≤M)
  (P2:=λu w h'=>∃L c' M,u=.ref (gN M)∧w=.ref (gN a.am)∧dF R (cF R a.I a.x) L∧bL R U c' (M+1) t ps cm h'∧h' (gN M)=aa (.list (L.map aM))∧Kq [10,30,31,32] (N+2) (h2.set (gN (N+1)) (.list (a.I.map a9))) h'∧N+2≤M) ?_ (λu h4 p=>?_) λu w h4 p=>?_) λh' ⟨c',N',S',A'⟩=>SS.sub (ej:=rA cm em) (aH (aH (fin c' N' h' S' A'))) ?_
 ·exact I6 D eu S3 O3.i.ok O3.il (di n_ (iX S2.w.tb.tb rfl) (i.K.keep rfl) (aB ((λx=>Ox x O2.hi (by rw[aI _];have:=O1.il;refine(?_:_≤2^24);exact ah ‹_› aJ) S2.w.tb.free.at:∀{e:Expr} {p pos:Pos} {fr:SF},EV (bJ i (b+6)) fr h2 e (.ref (gN a.im)) h2→EV (bJ i (b+6)) fr h2 (.Subscript e (.Slice af af af p) pos) (.ref (gN (N+1))) (h2.set (gN (N+1)) (.list (a.I.map a9)))) n_) (aB n_ aL)) (xG (b:=b+4) rfl O3.i S3.w (dq _) aS).cp) rfl
 ·obtain⟨L,c',M,rfl,p⟩:=p
  exact EP.imp (n_ (v:=.ref (gN a.am))).ep λv h5 ⟨e1,e2⟩=>⟨L,c',M,rfl,e1,e2▸p⟩
 ·obtain⟨L,c',M,rfl,rfl,r,S4,hL,k4,le⟩:=p
  have O4:=O3.rR k4.2 (ah ‹_› (b6 _ _):N+2≤M+1);obtain rfl:L=a.L:=dF.det r O4.res;exact⟨AZ (.own hL) (.own O4.ha) yc,c',M+1,S4,(A2.kq k3 (bR _):eM R U (N+2) as (h2.set (gN (N+1)) (.list (a.I.map a9)))).kq k4 (ah ‹_› (b6 _ _))⟩
 ·exact ai (ai (ai (ai (ai (ai (ai (ai bq)))))))
structure GN where
 c:Int
 N:Nat
 as:List gO
 h:SH
theorem KQ{α:Type}:∀{l:List α},l≠[]→∃a x,l=a++[x]
 |[],z=>bc rfl z
 |[x],_=>(tz ([]) x rfl)
 |x::y::r,_=>by
  refine jW (KQ (l:=y::r) (λz=>by exact jC z)) λa z e=>?_;exact(tz (x::a) z (by rw[e];rfl))
theorem acf(D:eU R)(eu:∀p,p∈ps↔p∈Pj R 2)(S:bL R U c N t ps cm h)(A:eM R U N as h)(bu:as.length≤28)
  (fin:∀fr h',Q (.ret (.bool ab)) fr h'):SS (bJ i (b+6)) (rA cm em) h [(ba 478).drop 13] Q:=by
 refine ry (σ:=GN) (λ_=>rA cm em) GN.h (λs m=>bL R U s.c s.N t ps cm s.h∧eM R U s.N s.as s.h∧s.as.length=m∧m≤28) ⟨c,N,as,h⟩ as.length (o_ S A rfl bu) .rfl (λs m J=>?_);obtain⟨c,N,as,h⟩:=s;refine mz J λS A e bu=>?_;clear J;dsimp only at S A e bu ⊢;refine(mC (!(as.map gO.val).isEmpty) h (p_ n_ (lT (.own A.ls) (by rw[aI _];exact bd (bF e) (bd bu bg)))) (λz=>aH (gA jE (fin _ _))) (λz=>?_));refine jW (KQ (l:=as) (λq=>by subst q;exact cJ z)) λkf a ax=>?_;subst ax;rw[cU] at e;have e1:kf.length+1=m:=e;exact SU D eu S A (gg (ah (bF e1) bu)) λc' N' h' S' A'=>bK (LQ.next (⟨c',N',kf,h'⟩:GN) ⟨kf.length,lr (bF e1),S',A',rfl,gg (ah (bF e1) bu)⟩ .rfl)
theorem YX{i:FI}{b:Nat}{Q:QS}{a:au}{sc:List Int}(hs:BL i.G a (sc.map .int))(hz:sc.length≤63)(fin:∀fr h',Q (.ret (.bool ab)) fr h'):
  SS (bJ i (b+6)) [("script",.glob a)] (λ_=>af) [ba 478] Q:=
 WN (b:=b+6) hs hz λt h tl o F tp=>ad7 (b:=b) tl o F tp λt Rs N h J l4=>aee J l4 λt Rs N h J l5=>
  have D:eU Rs:=⟨J.ok,J.hd⟩
  acw J λN h G L iT=>WW D G L iT λN h G L iT=>SR D G L iT λN h G L iT=>ae3 D G L iT λN c h w gr od L=>
  VA D w gr od L λN ps cm h S eu o=>XT D.gr S (T_ D.gr (S.kq (B:=[]) (.new (ar _)) (S.w.tb.free.new [] _) (bR _)) (o.kq (B':=[]) (.new (N:=N) (ar _))) N (dq _) aS
  λh' Ls S I l2 pb=>ae8 D.gr S I l2 pb λt h Ls S I l4 pb=>aba D eu S I l4 pb λU c N as h S A bu=>acf D eu S A bu fin)
theorem NY{L:Nat}:gt (L+1) (cg 478).names []=([("symbol",L+1+1+1+1),("grammar",L+1+1+1),("rules",L+1+1),("tape",L+1)]:List (Str×au)):=by kernel_rfl
theorem Kw:iL (cg 478)=(["tape","rules","grammar","symbol"]:List Str):=by kernel_rfl
theorem aaj:(cg 478).names.all (λp=>p.2 !=.free)=ab:=by kernel_rfl
theorem WP:(cg 478).names.lookup ("script":Str)=aa .local:=by kernel_rfl
theorem Pb:(cg 478).kind=.function:=by kernel_rfl
theorem SA:(["tape","rules","grammar","symbol"]:List Str).all (λx=>(cg 478).names.lookup x==aa .cell)=ab:=by kernel_rfl
theorem Κ{P:aV}{m:Mu}{wo:List Value}{sc:List Int}(h:IntsAre wo sc):aO P m (sc.map .int) wo:=by
 induction h with
 |nil=>rfl
 |cons _ _ _ ih=>exact⟨_,_,rfl,⟨_,rfl⟩,ih⟩
theorem Rf{prog:fD}{w:cE}{base:cO}{K:Frag}{mg mb mm:Str→Option Value}{L a sa:au}{cd:Value}{nm:Str}{c1 c2 c3 c4:Obj}{wo:List Value}{sc:List Int}{s:ak}
  (hK:∀G:Gl,G.K=K→KD G) (g:base.Ns uw mg) (bb:base.Ns zK mb) (blt:∀x:Str,x≠"__name__"→mb x=HI x) (nl:base.NoLimit) (f7:K.In base) (Bc:∃o,base.get? Dn=aa o)
  (F:Fr base L s.heap mm) (hmm:mm "script"=aa (.ref sa)) (N:News base L s.heap [(L+1+1+1+1,c1),(L+1+1+1,c2),(L+1+1,c3),(L+1,c4),(398,mj #[]),(391,mj #[])])
  (d1:∃v,c1.data=.cell v) (d2:∃v,c2.data=.cell v) (d3:∃v,c3.data=.cell v) (d4:∃v,c4.data=.cell v)
  (hl:base.IsList sa wo.toArray) (hi:IntsAre wo sc) (len:¬((63:Int) <sc.length)) (lt:398<L) (hg:s.gens=#[]):
  aw (aR prog w) (callerA.deeper (xa nm (cg 478) L a cd)) (execs (ba 478) (xa nm (cg 478) L a cd))
   (λf s'=>f=.ret (.bool ab)∧(∀b o,base.get? b=aa o→s'.heap.get? b=aa o)∧s'.os=s.os∧s'.gens=#[]∧s'.heap.get? 398=aa (mj #[])∧s'.heap.get? 391=aa (mj #[]))
   (λ_ _=>False) s:=by
 let G:Gl:=⟨prog,w,base,K,mg,mb,s.os,g,bb,blt,nl,f7,Bc⟩
 have LA:KD G:=hK G rfl;have Ta:=F.above;have cz:∀{c o},(c,o)∈[(L+1+1+1+1,c1),(L+1+1+1,c2),(L+1+1,c3),(L+1,c4),(398,mj #[]),(391,mj #[])]→(∃v,o.data=.cell v)→(∃v,s.heap.IsCell c v)∧base.get? c=af:=λhm d=>xE d λv e=>⟨⟨v,_,(N _ hm).1,e⟩,(N _ hm).2.2⟩;have cellAt:∀c,c∈[L+1+1+1+1,L+1+1+1,L+1+1,L+1]→(∃v,s.heap.IsCell c v)∧base.get? c=af:=λc hc=>
  m4 hc (cz (.head _) d1) (cz (.tail _ (.head _)) d2) (cz (.tail _ (.tail _ (.head _))) d3) (cz (.tail _ (.tail _ (.tail _ (.head _)))) d4)
 have Gw:=N (398,mj #[]) (.tail _ (.tail _ (.tail _ (.tail _ (.head _)))));have D_:=N (391,mj #[]) (.tail _ (.tail _ (.tail _ (.tail _ (.tail _ (.head _))))));have Ψ:base.get? L=af:=zQ Ta;obtain⟨oL,es,ep,q1,q2,q3⟩:=F.ns;have Kh:∀x,(cg 478).names.lookup x=aa .cell→∃c,(xa nm (cg 478) L a cd).cells.lookup x=aa c∧c∈[L+1+1+1+1,L+1+1+1,L+1+1,L+1]:=λx hx=>by
  have hm:x∈iL (cg 478):=bB.mpr (aU ((x,.cell)) (m9.mpr ⟨m_ hx,rfl⟩) rfl);rw[Kw] at hm;show ∃c,(gt (L+1) (cg 478).names []).lookup x=aa c∧_;rw[NY];exact m4 hm (aU _ rfl (.tail _ (.tail _ (.tail _ (.head _))))) (aU _ rfl (.tail _ (.tail _ (.head _)))) (aU _ rfl (.tail _ (.head _))) (aU _ rfl (.head _))
 have CY:∀x,(cg 478).names.lookup x≠aa .free:=λx hx=>by
  have:=dc.mp aaj _ (m_ hx);exact cJ this
 have frs:∀{x:Str} {v:SV},([("script",SV.glob sa)]:SF).lookup x=aa v→x="script"∧v=.glob sa:=λ{x v} e=>by
  rw[k_] at e
  cases z:x==("script":Str) with
  |true=>rw[z] at e;exact⟨eX.mp z,(aY e).symm⟩
  |false=>rw[z] at e;(first|exact a7 e|obtain rfl:=aY e)
 have FG:∀{c},c∈[L+1+1+1+1,L+1+1+1,L+1+1,L+1]→c≠L∧c≠398∧c≠391:=λ{c} hc=>by
  have hL:L<c:=m4 hc (qS (dK 3)) (qS (dK 2)) (qS (dK 1)) (dq L);exact(cG (dG hL) (dG (i4 lt hL)) (dG (i4 (i4 bg lt) hL)))
 have R:Rel G (bC 478) 6 (L::[L+1+1+1+1,L+1+1+1,L+1+1,L+1]) (xa nm (cg 478) L a cd) (callerA.deeper (xa nm (cg 478) L a cd)) (pJ base [(398,mj #[]),(391,mj #[])]) (λ_=>af) [("script",.glob sa)] (λ_=>af) s:=by
  refine Rel.start (G:=G) (L:=L) (ex:=[(398,mj #[]),(391,mj #[])]) hg rfl F.keep (λp hp=>?_) (λc hc=>?_) rfl rfl dA (by show(cg 478).kind≠_;rw[Pb];nofun) (aU oL q1 (λvs e=>by rw[q2] at e;exact nomatch e)) ?_ (by show 1+claimMargin+1+6<HJ;exact bg) (by show 4+3+8*6+8<ez;exact bg) rfl (λ_=>rfl)
  ·rcases dE.mp hp with rfl|hp
   ·exact⟨Gw.1,λz=>(dE.mp z).elim (λz=>Gw.2.1 z) λz=>(FG z).2.1 rfl⟩
   ·rw[bS.mp hp]
    exact⟨D_.1,λz=>(dE.mp z).elim (λz=>D_.2.1 z) λz=>(FG z).2.2 rfl⟩
  ·rcases dE.mp hc with rfl|hc
   ·exact Ψ
   ·exact(cellAt c hc).2
  ·refine⟨rfl,Pb,rfl,rfl,dA,(aU mm F.ns (λx v e hx=>?_)),λx v e hx=>?_,λx hx=>?_,λx hx=>?_,λx y c hx h1 h2=>?_,λc hc=>?_⟩
   ·refine xA (frs e) λcP br=>?_;subst cP;subst br
    exact(aU _ hmm rfl)
   ·refine xA (frs e) λcP br=>?_;subst cP;subst br
    rcases hx with hx|hx
    ·have:=WP.symm.trans hx;cases this
    ·exact bc hx (CY _)
   ·rcases hx with hx|hx
    ·refine aj (Kh x hx) λc e1 e2=>?_
     exact(aU c e1 (.inl ⟨eT _ e2,(cellAt c e2).1⟩))
    ·exact bc hx (CY _)
   ·have hx:x∈iL (cg 478):=hx
    rw[Kw] at hx;have hc:=eX.mp (dc.mp SA x hx);refine aj (Kh x hc) λc e1 e2=>?_;refine xE ((cellAt c e2).1) λv e3=>?_;exact⟨hc,c,v,e1,eT _ e2,(FG e2).1,e3⟩
   ·have k:∀y (c:au),(xa nm (cg 478) L a cd).cells.lookup y=aa c→y=(["tape","rules","grammar","symbol"]:List Str).getD (c- (L+1)) "":=λy c e=>by
     have e:(gt (L+1) (cg 478).names []).lookup y=aa c:=e;rw[NY] at e;have q:∀d,(["tape","rules","grammar","symbol"]:List Str).getD d ""=(["tape","rules","grammar","symbol"]:List Str).getD (L+1+d- (L+1)) "":=λd=>ay (λn=>(["tape","rules","grammar","symbol"]:List Str).getD n "") (Df (L+1) d).symm;exact m4 (motive:=λp=>p.1=(["tape","rules","grammar","symbol"]:List Str).getD (p.2- (L+1)) "") (m_ e) (q 3) (q 2) (q 1) (q 0)
    exact(k _ _ h1).trans (k _ _ h2).symm
   ·rcases dE.mp hc with rfl|hc
    ·exact(aU oL q1 (xR q2))
    ·refine d_ ((cellAt c hc).1) λv o e1 e2=>?_
     exact(aU o e1 (CT e2))
 have hBL:BL G sa (sc.map .int):=⟨_,hl,λP m _=>Κ hi⟩;have i:FI:=⟨G,6,LA,bC 478,[],[],rfl,rfl,rfl⟩;have W:=YX (i:=⟨G,6,LA,bC 478,[],[],rfl,rfl,rfl⟩) (b:=0) (Q:=λf _ _=>f=.ret (.bool ab)) hBL (by lia) (λ_ _=>rfl);refine(W.run _ .rfl).run _ _ _ _ _ _ _ _ R (λf fr' h' f' s' P' m' hq hP hm hf R'=>?_) λx fr' h' e s' P' m' hq=>hq.elim;have keep:∀x o,pJ base [(398,mj #[]),(391,mj #[])] x=aa o→x≠L→s'.heap.get? x=aa o:=λx o hx hn=>by
  obtain⟨l,e1,_,_,_,e5⟩:=R'.frs;refine aj (e5 x o (hP _ _ hx)) λsl z1 z2=>?_;have:l=[xa nm (cg 478) L a cd]:=(aY e1).symm;subst this;rw[z1,IE o sl (z2 λz=>hn (bS.mp z))]
 have hq:up (λf _ _=>f=.ret (.bool ab)) f fr' h':=by cases f<;>exact hq
 refine aj hq λ_ _ ax=>?_;clear hq;subst ax;refine aj hf λv' br ax=>?_;clear hf;subst br;subst ax;exact⟨rfl,R'.bs,R'.os,R'.gens,(keep _ _ (by unfold pJ;rw[Gw.2.2];rfl) (du lt)),(keep _ _ (by unfold pJ;rw[D_.2.2];rfl) (du (i4 bg lt)))⟩
theorem act{h:cO}{KJ:List (au×au)}{p:fD}{XI:List Str}{GZ:ExcName→Option Value}{mg mb:Str→Option Value}(hT:TabsAt KJ h)(T:Top p XI GZ mg mb h)(hp:importsNone p=ab):∃o,(ghostOf h KJ).get? Dn=aa o:=by
 obtain⟨mm,n,_⟩:=(T.seer hp).mods;obtain⟨o,_,_,e,_⟩:=ghost_ns hT n;exact⟨o,e⟩
theorem W6{c:ClaimW}{cl:Str→Option au}{GZ:ExcName→Option Value}{args:List WData}{aZ s':ak}{b:Bool}(hr:∀cls,c.raises args cls=an)(hp:c.post args (.bool b) args=ab)
  (keep:∀b o,aZ.heap.get? b=aa o→s'.heap.get? b=aa o) (ho:s'.os=aZ.os) (hg:s'.gens=#[]):GoodW c cl GZ args aZ (.ok (.ret (.bool b))) s':=
 ⟨.inl ⟨_,_,[],rfl,hr,ReadsW.bool b,hp,λ_=>⟨List.nodup_nil,λ_ hm=>(nomatch hm)⟩⟩,keep,ho,hg⟩
end Mine.Internal
namespace Mine.top
theorem tw16541100652227675460:0=0:=rfl
theorem tw17652467196902433924:0=0:=rfl
theorem tw10601156486104046309:0=0:=rfl
theorem tw18064794426631996164:0=0:=rfl
theorem tw10210261568307299710:0=0:=rfl
theorem tw11767933985995177338:0=0:=rfl
theorem tw17639367228396055390:0=0:=rfl
theorem tw11948995353047267269:0=0:=rfl
theorem tw10900551605799900844:0=0:=rfl
theorem tw16600302727076016134:0=0:=rfl
theorem tw6156568016551699631:0=0:=rfl
theorem tw9595512800414480283:0=0:=rfl
theorem tw12545222027267286695:0=0:=rfl
theorem tw2878843996050045342:0=0:=rfl
theorem tw11534289746047712335:0=0:=rfl
theorem tw12438410632805049552:0=0:=rfl
theorem tw14549111412433740942:0=0:=rfl
theorem tw953821971998124167:0=0:=rfl
theorem tw3820434133910038737:0=0:=rfl
theorem tw12535971307161669396:0=0:=rfl
theorem tw381845443943030031:0=0:=rfl
theorem tw7673058066778466091:0=0:=rfl
theorem tw10008474027749305400:0=0:=rfl
theorem tw14435140724418575476:0=0:=rfl
theorem tw9152664641465651067:0=0:=rfl
theorem tw13710211086531791108:0=0:=rfl
theorem tw2312856594315299383:0=0:=rfl
theorem tw7160873610591055699:0=0:=rfl
theorem tw1527239484044843206:0=0:=rfl
theorem tw10484538523117445312:0=0:=rfl
theorem tw14789260269991461300:0=0:=rfl
theorem tw4859757453598101857:0=0:=rfl
theorem tw227720230686144328:0=0:=rfl
theorem tw17346259052997144950:0=0:=rfl
theorem tw15169761463676818070:0=0:=rfl
theorem tw17542608870123051758:0=0:=rfl
theorem tw9590735534726013551:0=0:=rfl
theorem tw16878204669230926818:0=0:=rfl
theorem tw908825868028484722:0=0:=rfl
theorem tw1754339480302792767:0=0:=rfl
theorem tw7681529838311687354:0=0:=rfl
theorem tw3254097082911018636:0=0:=rfl
theorem tw9233715247699887402:0=0:=rfl
theorem tw13307591127769906961:0=0:=rfl
theorem tw16800595933775061595:0=0:=rfl
theorem tw12209182163369298222:0=0:=rfl
theorem tw10801874191123338550:0=0:=rfl
theorem tw8281120267493503204:0=0:=rfl
theorem tw7386116660499605909:0=0:=rfl
theorem tw3871027444623705763:0=0:=rfl
theorem tw860223938195835975:0=0:=rfl
theorem tw1601500998369573665:0=0:=rfl
theorem tw11116745826364501430:0=0:=rfl
theorem tw13889309363888878346:0=0:=rfl
theorem tw2267912224990424062:0=0:=rfl
theorem tw9919435345466941130:0=0:=rfl
theorem tw9589608677651300831:0=0:=rfl
theorem tw4331257952254489624:0=0:=rfl
theorem tw11199710921928265848:0=0:=rfl
theorem tw5839659824258004927:0=0:=rfl
theorem tw15245507539482535896:0=0:=rfl
theorem tw14168018189251442112:0=0:=rfl
theorem tw6662652255960138227:0=0:=rfl
theorem tw7657828476027519975:0=0:=rfl
theorem tw5513142621748847562:0=0:=rfl
theorem tw11546936639936008217:0=0:=rfl
theorem tw17022078359063049780:0=0:=rfl
theorem tw6885214360128481674:0=0:=rfl
theorem tw9685713192446186341:0=0:=rfl
theorem tw12904532413392791838:0=0:=rfl
theorem tw2220570432770164149:0=0:=rfl
theorem tw17781115878593249900:0=0:=rfl
theorem tw12256363837256957063:0=0:=rfl
theorem tw3995942328266245912:0=0:=rfl
theorem tw12643491718579748851:0=0:=rfl
theorem tw15349318334595610263:0=0:=rfl
theorem tw9195894827357321740:0=0:=rfl
theorem tw1123975283337734383:0=0:=rfl
theorem tw6487610083215253720:0=0:=rfl
theorem tw15299407806266782574:0=0:=rfl
theorem tw9768079942903668216:0=0:=rfl
theorem tw1195175773429642966:0=0:=rfl
theorem tw9361663168868926718:0=0:=rfl
theorem tw17428532607074087071:0=0:=rfl
theorem tw16759092144687519636:0=0:=rfl
theorem tw3378803678994701225:0=0:=rfl
theorem tw7381879191629600215:0=0:=rfl
theorem tw18177719399980262173:0=0:=rfl
theorem tw16174758807025615021:0=0:=rfl
theorem tw2988451766255067171:0=0:=rfl
theorem tw7847650389618582240:0=0:=rfl
theorem tw10574840078274726829:0=0:=rfl
theorem tw1291508964198565346:0=0:=rfl
theorem tw13272337422414781067:0=0:=rfl
theorem tw7297446738713254254:0=0:=rfl
theorem tw4058662728301269685:0=0:=rfl
theorem tw8973803690348224638:0=0:=rfl
theorem tw12425085872883035938:0=0:=rfl
theorem tw11760055953109336660:0=0:=rfl
theorem tw9366391650621772374:0=0:=rfl
theorem tw13968125046926948103:0=0:=rfl
theorem tw11240886729373846589:0=0:=rfl
theorem tw8735323631387419056:0=0:=rfl
theorem tw4321519831107876412:0=0:=rfl
theorem tw5915399644114372684:0=0:=rfl
theorem tw6196800358849779857:0=0:=rfl
theorem tw10017263926548143515:0=0:=rfl
theorem tw10187264123177260123:0=0:=rfl
theorem tw2561016716579263177:0=0:=rfl
theorem tw6438537300738474071:0=0:=rfl
theorem tw4916261283513009128:0=0:=rfl
theorem tw6572447435987645144:0=0:=rfl
theorem tw9666326922614434849:0=0:=rfl
theorem tw2007660962349395123:0=0:=rfl
theorem tw14615657086365298920:0=0:=rfl
theorem tw4597200072644226624:0=0:=rfl
theorem tw11457754044182789617:0=0:=rfl
theorem tw8311017846404947139:0=0:=rfl
theorem tw17486766287000646611:0=0:=rfl
theorem tw3855276242980373810:0=0:=rfl
theorem tw1814787853859245837:0=0:=rfl
theorem tw18164388396756303480:0=0:=rfl
theorem tw4571971715460732019:0=0:=rfl
theorem tw72247145696351765:0=0:=rfl
theorem tw8598144960395782539:0=0:=rfl
theorem tw3696473221133414273:0=0:=rfl
theorem tw6176384092110617959:0=0:=rfl
theorem tw2665807947273092163:0=0:=rfl
theorem tw6664487174759623829:0=0:=rfl
theorem tw6906291655842520137:0=0:=rfl
theorem tw18186074749648716422:0=0:=rfl
theorem tw15254643099363442306:0=0:=rfl
theorem tw2287823674025257028:0=0:=rfl
theorem tw16034636559557993077:0=0:=rfl
theorem tw4177254973167742082:0=0:=rfl
theorem tw2596539476470345881:0=0:=rfl
theorem tw14459580976405569124:0=0:=rfl
theorem tw2985252069258134486:0=0:=rfl
theorem tw7414872774492366064:0=0:=rfl
theorem tw18063644159110109576:0=0:=rfl
theorem tw1486479319815781832:0=0:=rfl
theorem tw2514443458684651071:0=0:=rfl
theorem tw13120753694373217308:0=0:=rfl
theorem tw11279390925490393535:0=0:=rfl
theorem tw15740088241188596515:0=0:=rfl
theorem tw11982747722937265360:0=0:=rfl
theorem tw11423202765487971197:0=0:=rfl
theorem tw7743179893348639699:0=0:=rfl
theorem tw7990429038631628895:0=0:=rfl
theorem tw18085771088847121727:0=0:=rfl
theorem tw10936122117785486979:0=0:=rfl
theorem tw12166907935582030026:0=0:=rfl
theorem tw17953984050398360512:0=0:=rfl
theorem tw10194810499950245846:0=0:=rfl
theorem tw8810280945414196856:0=0:=rfl
theorem tw8204474986945543665:0=0:=rfl
theorem tw7527032243904285869:0=0:=rfl
theorem tw14987219478266130788:0=0:=rfl
theorem tw1149218181149386328:0=0:=rfl
theorem tw5118827330378232414:0=0:=rfl
theorem tw4186445540838780016:0=0:=rfl
theorem tw13001836021917841797:0=0:=rfl
theorem tw8560541052185303311:0=0:=rfl
theorem tw7429413206186439793:0=0:=rfl
theorem tw9305691244287143441:0=0:=rfl
theorem tw15569959144833144457:0=0:=rfl
theorem tw17046948494117081484:0=0:=rfl
theorem tw8237333600419904120:0=0:=rfl
theorem tw15503665604740900718:0=0:=rfl
theorem tw8369368087495890639:0=0:=rfl
theorem tw2126296398998916975:0=0:=rfl
theorem tw12105128591322288922:0=0:=rfl
theorem tw15985961358823992270:0=0:=rfl
theorem tw146815374380898660:0=0:=rfl
theorem tw10404823597219466188:0=0:=rfl
theorem tw5889316905344633881:0=0:=rfl
theorem tw9108098604805947806:0=0:=rfl
theorem tw11141966352661209427:0=0:=rfl
theorem tw11762496359356365647:0=0:=rfl
theorem tw2581206410525282061:0=0:=rfl
theorem tw16123964013534891561:0=0:=rfl
theorem tw14671331368771545958:0=0:=rfl
theorem tw1988063486488863061:0=0:=rfl
theorem tw16597617366809209970:0=0:=rfl
theorem tw17030962893124633753:0=0:=rfl
theorem tw17886615442053742456:0=0:=rfl
theorem tw15860264024139754761:0=0:=rfl
theorem tw6659320528611288953:0=0:=rfl
theorem tw9178861053002065721:0=0:=rfl
theorem tw10657950659306570408:0=0:=rfl
theorem tw14597223018079223185:0=0:=rfl
theorem tw8657480035899644758:0=0:=rfl
theorem tw13160728816969591200:0=0:=rfl
theorem tw16155163154822807229:0=0:=rfl
theorem tw10567129059001840431:0=0:=rfl
theorem tw342308947776675178:0=0:=rfl
theorem tw775762912060472103:0=0:=rfl
theorem tw6430265229019958763:0=0:=rfl
theorem tw4840481374290595910:0=0:=rfl
theorem tw12483720753089274532:0=0:=rfl
theorem tw7715697345341360870:0=0:=rfl
theorem tw297971269722091814:0=0:=rfl
theorem tw708234853630380328:0=0:=rfl
theorem tw8622502720953521162:0=0:=rfl
theorem tw9259421805112917234:0=0:=rfl
theorem tw1212798325632107971:0=0:=rfl
theorem tw1638113669730673903:0=0:=rfl
theorem tw13290321428070320777:0=0:=rfl
theorem tw14657780768301432306:0=0:=rfl
theorem tw8435561252592420358:0=0:=rfl
theorem tw6930518751129746686:0=0:=rfl
theorem tw14399976873020721970:0=0:=rfl
theorem tw4713442408853163898:0=0:=rfl
theorem tw5303079699428457377:0=0:=rfl
theorem tw14697636140705633519:0=0:=rfl
theorem tw7830913209206220567:0=0:=rfl
theorem tw956089473029861405:0=0:=rfl
theorem tw6265701101103706036:0=0:=rfl
theorem tw8472579005086612782:0=0:=rfl
theorem tw3315250197877816394:0=0:=rfl
theorem tw9227541089923242437:0=0:=rfl
theorem tw3479634599624807885:0=0:=rfl
theorem tw1833847959688406909:0=0:=rfl
theorem tw1655259298481077034:0=0:=rfl
theorem tw9913501989792142831:0=0:=rfl
theorem tw2029088862249889922:0=0:=rfl
theorem tw7847352863974893604:0=0:=rfl
theorem tw339143206060000330:0=0:=rfl
theorem tw4383139521930768336:0=0:=rfl
theorem tw2544169868661182894:0=0:=rfl
theorem tw13983857475226248213:0=0:=rfl
theorem tw14537839394382259888:0=0:=rfl
theorem tw2683898200743741643:0=0:=rfl
theorem tw12958664272152378060:0=0:=rfl
theorem tw15092371282622821202:0=0:=rfl
theorem tw9843447840031818808:0=0:=rfl
theorem tw11443710868159068359:0=0:=rfl
theorem tw1697544655201012999:0=0:=rfl
theorem tw14145802354927516647:0=0:=rfl
theorem tw13223034962123697568:0=0:=rfl
theorem tw8025738503920905074:0=0:=rfl
theorem tw8345894832289464959:0=0:=rfl
theorem tw10987319290404115282:0=0:=rfl
theorem tw18367679650794681301:0=0:=rfl
theorem tw12764151676501842404:0=0:=rfl
theorem tw1706793611546318481:0=0:=rfl
theorem tw4159251561096739476:0=0:=rfl
theorem tw15095372191486117680:0=0:=rfl
theorem tw1016984595167383106:0=0:=rfl
theorem tw13134186033006778460:0=0:=rfl
theorem tw13928562000808390012:0=0:=rfl
theorem tw4299629679881509495:0=0:=rfl
theorem tw11845233108574324481:0=0:=rfl
theorem tw17492772389151264855:0=0:=rfl
theorem tw2732273902793177162:0=0:=rfl
theorem tw9382581127745807760:0=0:=rfl
theorem tw9229161468869434483:0=0:=rfl
theorem tw1676862907878916244:0=0:=rfl
theorem tw1040915598704419856:0=0:=rfl
theorem tw13889484949932952446:0=0:=rfl
theorem tw7444641836354208208:0=0:=rfl
theorem tw12392516345856041104:0=0:=rfl
theorem tw10915162052029792233:0=0:=rfl
theorem tw12317137736924338119:0=0:=rfl
theorem tw9614876229902214918:0=0:=rfl
theorem tw13044034144603486326:0=0:=rfl
theorem tw6919701780365589675:0=0:=rfl
theorem tw2555065506035805374:0=0:=rfl
theorem tw15877122091014420850:0=0:=rfl
theorem tw14861896470697024400:0=0:=rfl
theorem tw13091174067606910046:0=0:=rfl
theorem tw10773188271377071773:0=0:=rfl
theorem tw9378254376102152143:0=0:=rfl
theorem tw5244899138074338376:0=0:=rfl
theorem tw3422688185749166683:0=0:=rfl
theorem tw427269002284569659:0=0:=rfl
theorem tw17315540178315561739:0=0:=rfl
theorem tw13802547742096326172:0=0:=rfl
theorem tw2249405535684624136:0=0:=rfl
theorem tw13303987763403120937:0=0:=rfl
theorem tw1516213087968936877:0=0:=rfl
theorem tw1617357707322924660:0=0:=rfl
theorem tw17469865338272021226:0=0:=rfl
theorem tw987869383939708018:0=0:=rfl
theorem tw620129878449983639:0=0:=rfl
theorem tw14502225709538309166:0=0:=rfl
theorem tw11542710104232473196:0=0:=rfl
theorem tw1108800333578037850:0=0:=rfl
theorem tw7855079511596107753:0=0:=rfl
theorem tw1736530178072539846:0=0:=rfl
theorem tw13305523845174962083:0=0:=rfl
theorem tw7204998973626084599:0=0:=rfl
theorem tw602653604445443664:0=0:=rfl
theorem tw13864677062968915208:0=0:=rfl
theorem tw12117888159696746259:0=0:=rfl
theorem tw10399464001100048223:0=0:=rfl
theorem tw17342085116792181814:0=0:=rfl
theorem tw13326734554550294991:0=0:=rfl
theorem tw17103585973383926153:0=0:=rfl
theorem tw10005945817407372193:0=0:=rfl
theorem tw17981982808018919739:0=0:=rfl
theorem tw16900427199656544559:0=0:=rfl
theorem tw6042063481754889096:0=0:=rfl
theorem tw5648408011753718230:0=0:=rfl
theorem tw6674990990233134667:0=0:=rfl
theorem tw3195522803047326042:0=0:=rfl
theorem tw6908635100366463001:0=0:=rfl
theorem tw9800703332001039478:0=0:=rfl
theorem tw6859976401760118174:0=0:=rfl
theorem tw8694864300669457046:0=0:=rfl
theorem tw16415559393655328363:0=0:=rfl
theorem tw9631074621892390191:0=0:=rfl
theorem tw11133666699803404755:0=0:=rfl
theorem tw5938664839603501006:0=0:=rfl
theorem tw10617020205504526918:0=0:=rfl
theorem tw2464713573024523455:0=0:=rfl
theorem tw10996937224433265937:0=0:=rfl
theorem tw2770239361232196585:0=0:=rfl
theorem tw16273406610938067001:0=0:=rfl
theorem tw15361541807878343388:0=0:=rfl
theorem tw795583310449317561:0=0:=rfl
theorem tw12342655685612074800:0=0:=rfl
theorem tw13822267516522204269:0=0:=rfl
theorem tw15646934709686841381:0=0:=rfl
theorem tw9059672392935016618:0=0:=rfl
end Mine.top
section
open PySem PySem.W PyProof.Rows Mine.Internal
set_option Elab.async true
set_option maxRecDepth 100000
set_option maxHeartbeats 8000000
theorem Mine.top:PySem.Challenge.rw_te0019_03.Holds:=by
 w_on;o_law;k_head;(case hw=>w_witness2)
 k_go0
 rename_i w dI aZ mg mb G Y fa o pm cd doc ho hcd hg X V T B TE TW akg hs Mz hL1 Hk hl2 as1 Cc la wo as3 hL ra wl r0 hI hr nY rH hD ag tk c1 c2 c3 c4 l1 l2 l3 l4 X0 X' T' K' F' cH N' l0
 refine ox (Rf (λG hK=>({
   c:=(by rw[hK];exact⟨by kernel_rfl,by kernel_rfl,by kernel_rfl,by kernel_rfl,by kernel_rfl,by kernel_rfl,by kernel_rfl,by kernel_rfl,by kernel_rfl,by kernel_rfl,by kernel_rfl,by kernel_rfl⟩),
   ident:=mO hK [] [] ⟨by kernel_rfl,by kernel_rfl,by kernel_rfl,by kernel_rfl⟩ rfl (λS v=>by kernel_rfl) (λ_ _ _=>rfl),
   prodinit7:=XP hK ⟨by kernel_rfl,by kernel_rfl,by kernel_rfl,by kernel_rfl⟩ (λS v1 v2 v3 v4 v5 v6 v7 v8=>by kernel_rfl),
   prodinit3:=fn4 hK [.ref 54,.none,.str "" 251,.int 0 252] ⟨by kernel_rfl,by kernel_rfl,by kernel_rfl,by kernel_rfl⟩ rfl (λS v1 v2 v3 v4=>by kernel_rfl) (λP m hb=>Vd hK hb (a:=54) (by kernel_rfl) λz=>⟨_,_,rfl,⟨54,_,_,_,rfl,z,by kernel_rfl,rfl,⟨_,_,rfl,⟨_,rfl⟩,_,_,rfl,⟨_,rfl⟩,rfl⟩⟩,_,_,rfl,rfl,_,_,rfl,⟨_,rfl⟩,_,_,rfl,⟨_,rfl⟩,rfl⟩),
   plen:=mO hK [] [] ⟨by kernel_rfl,by kernel_rfl,by kernel_rfl,by kernel_rfl⟩ rfl (λS v=>by kernel_rfl) (λ_ _ _=>rfl),
   iteminit:=y7 hK [] [] ⟨by kernel_rfl,by kernel_rfl,by kernel_rfl,by kernel_rfl⟩ rfl (λS v w u=>by kernel_rfl) (λ_ _ _=>rfl),
   rightmost:=zH hK [] [] ⟨by kernel_rfl,by kernel_rfl,by kernel_rfl,by kernel_rfl⟩ rfl (λS v w=>by kernel_rfl) (λ_ _ _=>rfl),
   graminit:=zH hK [] [] ⟨by kernel_rfl,by kernel_rfl,by kernel_rfl,by kernel_rfl⟩ rfl (λS v w=>by kernel_rfl) (λ_ _ _=>rfl),
   addprod:=y7 hK ["func","file","line"] [.none,.str "" 448,.int 0 449] ⟨by kernel_rfl,by kernel_rfl,by kernel_rfl,by kernel_rfl⟩ rfl (λS v w u=>by kernel_rfl) (λ_ _ _=>⟨_,_,rfl,rfl,_,_,rfl,⟨_,rfl⟩,_,_,rfl,⟨_,rfl⟩,rfl⟩),
   setstart:=mO hK ["start"] [.none] ⟨by kernel_rfl,by kernel_rfl,by kernel_rfl,by kernel_rfl⟩ rfl (λS v=>by kernel_rfl) (λ_ _ _=>⟨_,_,rfl,rfl,rfl⟩),
   first:=zH hK [] [] ⟨by kernel_rfl,by kernel_rfl,by kernel_rfl,by kernel_rfl⟩ rfl (λS v w=>by kernel_rfl) (λ_ _ _=>rfl),
   cfirst:=mO hK [] [] ⟨by kernel_rfl,by kernel_rfl,by kernel_rfl,by kernel_rfl⟩ rfl (λS v=>by kernel_rfl) (λ_ _ _=>rfl),
   cfollow:=mO hK ["start"] [.none] ⟨by kernel_rfl,by kernel_rfl,by kernel_rfl,by kernel_rfl⟩ rfl (λS v=>by kernel_rfl) (λ_ _ _=>⟨_,_,rfl,rfl,rfl⟩),
   blr:=mO hK [] [] ⟨by kernel_rfl,by kernel_rfl,by kernel_rfl,by kernel_rfl⟩ rfl (λS v=>by kernel_rfl) (λ_ _ _=>rfl),
   place:=mO hK [] [] ⟨by kernel_rfl,by kernel_rfl,by kernel_rfl,by kernel_rfl⟩ rfl (λS v=>by kernel_rfl) (λ_ _ _=>rfl),
   tabinit:=y7 hK ["log"] [.none] ⟨by kernel_rfl,by kernel_rfl,by kernel_rfl,by kernel_rfl⟩ rfl (λS v w u=>by kernel_rfl) (λ_ _ _=>⟨_,_,rfl,rfl,rfl⟩),
   clo:=zH hK [] [] ⟨by kernel_rfl,by kernel_rfl,by kernel_rfl,by kernel_rfl⟩ rfl (λS v w=>by kernel_rfl) (λ_ _ _=>rfl),
   goto:=y7 hK [] [] ⟨by kernel_rfl,by kernel_rfl,by kernel_rfl,by kernel_rfl⟩ rfl (λS v w u=>by kernel_rfl) (λ_ _ _=>rfl),
   items:=mO hK [] [] ⟨by kernel_rfl,by kernel_rfl,by kernel_rfl,by kernel_rfl⟩ rfl (λS v=>by kernel_rfl) (λ_ _ _=>rfl),
   ptable:=mO hK [] [] ⟨by kernel_rfl,by kernel_rfl,by kernel_rfl,by kernel_rfl⟩ rfl (λS v=>by kernel_rfl) (λ_ _ _=>rfl),
   NAMES:=Ny hK ⟨by kernel_rfl,by kernel_rfl,by kernel_rfl,by kernel_rfl⟩ (λS=>by kernel_rfl),
   ASKED:=Ny hK ⟨by kernel_rfl,by kernel_rfl,by kernel_rfl,by kernel_rfl⟩ (λS=>by kernel_rfl),
   next:=mO hK [] [] ⟨by kernel_rfl,by kernel_rfl,by kernel_rfl,by kernel_rfl⟩ rfl (λS v=>by kernel_rfl) (λ_ _ _=>rfl),
   rule:=zH hK [] [] ⟨by kernel_rfl,by kernel_rfl,by kernel_rfl,by kernel_rfl⟩ rfl (λS v w=>by kernel_rfl) (λ_ _ _=>rfl),
   corners:=mO hK [] [] ⟨by kernel_rfl,by kernel_rfl,by kernel_rfl,by kernel_rfl⟩ rfl (λS v=>by kernel_rfl) (λ_ _ _=>rfl),
   added:=y7 hK [] [] ⟨by kernel_rfl,by kernel_rfl,by kernel_rfl,by kernel_rfl⟩ rfl (λS v w u=>by kernel_rfl) (λ_ _ _=>rfl),
   told:=mO hK [] [] ⟨by kernel_rfl,by kernel_rfl,by kernel_rfl,by kernel_rfl⟩ rfl (λS v=>by kernel_rfl) (λ_ _ _=>rfl)})) T'.g T'.b T'.builtins T'.nolimit X' (act hT9 T rfl) F' (sa:=la) rfl N' ⟨_,l1⟩ ⟨_,l2⟩ ⟨_,l3⟩ ⟨_,l4⟩ lifted hI nY l0.1 hg) ?_ ?_
 ·rintro f s' ⟨rfl,keep,ho,hg,h1,h2⟩
  exact⟨W6 (λ_=>rfl) (by kc_post) keep ho hg,⟨_,h1⟩,⟨_,h2⟩,trivial⟩
 ·rintro e s' z
  exact z.elim
end
theorem PySem.Challenge.cw_te0019_03_holds : PySem.Challenge.rw_te0019_03.Holds :=
 Mine.top
