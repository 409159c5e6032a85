import PyProof.Rows.All
import Wide.All
import OpenK.AllK
import Wide.FinOn
import PySem.Challenge.RW_te0019_03
open Option renaming some→aa,none→af,map→oZ,isSome→uF,eq_none_iff_forall_ne_some→wN,isSome_iff_exists→zD,map_eq_some_iff→C8,getD→PB,map_id'→ae9,getD_some→agm,toList→ah5
open Bool renaming true→ab,false→an,and_eq_true→bR,false_ne_true→iB,not_eq_true'→jI,and_eq_true_iff→Dk,or_eq_false_iff→Dm,eq_false_iff→Do,or_eq_true→Dz,or_true→HI,and_true→HZ,eq_iff_iff→Qb,not_true→ag7,true_and→ahz
open Nat renaming le_trans→ah,le_refl→au,lt_of_le_of_lt→bf,le_of_eq→bH,lt_of_lt_of_le→bK,le_succ→bT,le_add_right→b7,zero_le→cb,le_of_lt→cj,le_succ_of_le→c7,lt_succ_self→dm,ne_of_lt→dp,ne_of_gt→dF,succ_pos→dJ,succ_le_succ→eE,le_of_lt_succ→eQ,add_le_add_left→eZ,lt_irrefl→fo,add_le_add→fp,le_of_succ_le→gd,lt_trans→i2,not_lt→jr,le_of_ble_eq_true→jD,sub_le→kh,lt_succ_of_le→kY,lt_of_succ_le→lb,le_add_left→lf,not_lt_of_le→lW,not_le_of_lt→l6,zero_add→mP,not_lt_zero→mQ,pos_of_ne_zero→nU,add_le_add_right→nW,lt_of_succ_lt→n8,one_pos→oX,le_of_not_lt→oY,mul_le_mul_left→pg,succ_lt_succ→ph,min_le_right→pi,lt_succ_of_lt→pn,le_antisymm→qD,mul_le_mul_right→qE,lt_add_of_pos_right→qF,sub_add_cancel→qG,sub_lt→rY,add_comm→rZ,min_eq_left→r9,succ_le_of_lt→sn,eq_zero_or_pos→sv,add_sub_cancel_left→ui,add_sub_cancel'→uj,add_right_comm→ur,ble→wF,two_pos→wG,succ_add→wH,lt_of_le_of_ne→wI,eq_or_lt_of_le→wJ,lt_or_eq_of_le→zw,sub_self→zx,succ_ne_zero→zO,add_lt_add_right→CZ,mod_lt→C3,succ_add_eq_add_succ→C6,lt_trichotomy→Hp,succ→Hr,le_of_succ_le_succ→HT,le_of_not_le→H3,min_eq_right→H4,lt_of_succ_lt_succ→Ib,le_zero→Ic,lt_of_lt_of_eq→PA,lt_or_ge→P5,add_sub_cancel→Qd,sub_le_of_le_add→Qp,succ_mul→QA,sub_lt_of_lt→QI,div_lt_of_lt_mul→aeo,le_div_iff_mul_le→aep,sub_pos_of_lt→aeq,add_lt_add_left→aer,add_assoc→aes,mul_le_mul→aet,not_succ_le_zero→afl,succ_ne_self→agl,lt_of_mul_lt_mul_right→ago,zero_lt_succ→ag4,lt_of_not_le→ag9,sub_lt_sub_left→ahk,pos_iff_ne_zero→ahy,min_le_left→ah6,add_lt_of_lt_sub→ah7,lt_or_gt_of_ne→aia
open PySem renaming Shared→ak,wpAny→aw,Addr→ax,wpAny_pure→aD,model→aQ,sizeLine→aZ,Stmt→bI,Scope→cu,World→cD,Heap→cO,compareOp→cZ,SetTable→c8,LstAt→dc,wpAny_holding→dD,DictEntry→dK,Around→dP,Comprehension→dT,wpAny_ite_false→dU,eval→d8,cLine→ew,rawInt→e_,Program→fq,clipAt→fE,starEach→gg,cellsFrom→gu,Model→i0,wpAny_call_entry→i4,getItem→i5,holding→jt,backTo→ju,wpAny_standAt→jG,wpAny_rule→jH,wpAny_ite_split→jJ,standAt→kb,codeAny→kc,wpAny_setState_of→ki,NameKind→k7,Fin→k9,isSubtype→lg,binaryOp→mS,getAttr→mT,mem_of_lookup→mV,wpAny_of_eq→mW,wpAny_mono→nZ,seqIndex?→n9,assign→o8,call→o_,wpAny_ite_true→pd,isSubtype_type→pf,assignEach→qx,wpAny_callSpecial?_slot→qy,pyIter→qz,wpAny_specialOf→qA,wpAny_dictEpoch→qB,inplaceOp→sd,wpAny_setField→sf,wpAny_newObj_type→si,dictGet→sk,mainGlobals→uk,setItem→um,attributeBase→uo,bindArgs→uq,wpAny_field→ut,wpAny_seqItems→uu,Pairs→uv,pyNext→uw,wpAny_isInstance→ux,wpAny_typeOf→uz,typeOf→uA,Operator→wM,swappedStores→wP,Result→wQ,callWith→wR,foldedSetIterable→wT,codeAny_builtin→wV,builtinsNs→zy,truthy→zz,wpAny_askSetting→zB,wpAny_sequenceKey→zF,IsPart→zJ,hashByValue→zM,sysModules→C_,unsupported→Db,behindInMarks→Dc,setAttr→Dd,swapsWithSole→De,swapsWith→Dg,strKind→Dj,letOwnedTupleGo→Dl,slot_dict_getitem→Dq,ofAClassStatement→Du,bootBuiltins→Hu,recursionLimit→Hv,wpAny_truthy_bool→Hw,FuncData→HA,wpAny_loadPart'→HD,raiseNew→HH,compPost→HK,pushCells→HL,noteFrame→HO,eqIsQuiet→HR,isInstance→HS,wpAny_dictEntries→HU,wpAny_missed_other→HW,ret→HY,setSearchFrom→H6,plainId_quiet→Ia,entryFor→Ie,reduceHash→PC,wpAny_release→PF,wpAny_assignInOrder_more→PG,letTemporaryGo→PJ,wpAny_letTemporaryGo→PL,wpAny_call→PO,firstArgMember→PT,wpAny_pyIter_tuple→PU,wpAny_pyIter_list→PX,wpAny_alloc→PY,pushCells_keeps→PZ,codeAny_of_tree→P0,wpAny_runValue→P9,callSpecial?→P_,wpAny_operating→Qa,call_meets→Qf,fitsIndex_of→Qh,firstAsync→Ql,sub_set_self→Qn,entryFor_alias→Qq,wpAny_setEpoch_of→Qs,formatField→QG,strLen_append→QH,plainExc_IndexError→QL,wpAny_assignInOrder_none→ae1,wpAny_Assign_stores→ae2,wpAny_pyIter_enum→aff,wpAny_pyHash_int→afh,wpAny_pyHash_str→afi,beq_builtin_none→afj,isSubtype_tuple_tuple→afk,entry_dict_getitem→afq,args_dict_getitem→afr,slot_dict_contains→afu,slot_dict_setitem→afw,searchCouldBeSeen→agp,wpAny_storeSet_of→ags,checkBuiltinCall→agu,codeAny_call_builtin→agw,builtinLookup_eq_fast→ag3,wpAny_pyIter_slot→ag5,slot_list_setitem→ah0
open List renaming length_map→aI,range→bq,mem_map→bD,mem_of_getElem?→bQ,mem_singleton→bU,length_append→cT,getElem?_eq_some_iff→cU,all_eq_true→db,getElem?_map→dq,mem_append→du,mem_cons_self→dv,mem_cons→dA,map_append→dM,mem_range→dQ,length_range→dR,mem_cons_of_mem→eS,contains_iff_mem→e9,getElem?_eq_getElem→fb,append_nil→gO,mem_filterMap→gP,length_cons→iC,mem_append_left→i6,length_take→jE,take_add_one→jK,mem_append_right→kd,getElem?_eq_none_iff→ke,pairwise_singleton→kf,lookup_cons→kX,nodup_cons→k8,nodup_append→k_,getElem?_eq_none→lY,mem_filter→mU,take_of_length_le→mX,length→nY,map_map→o0,getD_eq_getElem?_getD→o7,forIn_cons→pb,length_tail→pq,mem_iff_getElem?→qw,filterMap_cons→qC,filterMap_append→se,not_mem_nil→sj,map_cons→sp,mem_flatMap→sA,getElem?_of_mem→uy,replicate→uB,filterMap→uE,length_filterMap_le→uG,pairwise_map→wK,append_assoc→wL,lookup→wU,contains_cons→wX,getElem?_range→wY,range_succ→wZ,length_singleton→zI,take_length→zK,length_drop→zL,map_drop→zN,getElem?_append_left→C5,all_cons→Ds,cons→Dt,mem_of_mem_take→Dv,map_nil→Dx,map_inj_left→Dy,nodup_range→Hq,take_sublist→Hs,perm_ext_iff_of_nodup→Ht,filter_cons→HJ,map_take→H7,map→H_,drop_eq_getElem_cons→Ij,cons_ne_nil→Il,length_filter_le→Io,pairwise_iff_getElem→Pu,getElem?_drop→Pw,take_append_drop→Px,any_cons→PH,forall_mem_cons→PV,getElem?_inj→P7,range_succ_eq_map→Qj,not_mem_cons_of_ne_of_not_mem→Qv,length_flatMap→QD,getElem?_append_right→QE,getElem?_tail→QM,lookup_cons_self→aen,getElem?_take_of_lt→aeu,pairwise_lt_range→aex,nil_append→aey,find?_cons_of_neg→ae4,size_toArray→ae6,map_fst_zip→ae7,mem_map_of_mem→ae8,ext_getElem?→afg,any_eq_true→afn,all_map→agi,any_map→agj,eq_nil_of_length_eq_zero→agy,length_eq_zero_iff→ahi,append_eq_nil_iff→ahn,map_const'→aho,map_congr_left→ahp,sum_replicate_nat→ahq,length_erase_of_mem→ahr,cons_append→ahs,getElem?_cons_succ→aht,foldl_append→ahu,append_inj→ahw,filter_append→ahx,drop_one→ah1,flatMap_append→ah3,append_subset→ah4,getElem?_cons_zero→ah8
open Option.some renaming inj→aU
open PySem.Str renaming ofString→dL,empty→zR
open PySem.Heap renaming get?_push_of_some→dS,get?_push_size→fP,lt_size→jF,get?_update_self→kZ,size_push→lX,SameBut→r_,get?_update_other→zC,get?_none_of_le→zE,ExtBut→PS,NewExc→afp
open PySem.W renaming FnAt→dZ,findIn→h_,tabObj→oa,dictOf→ul,plainGet→zA,kas_sort→zP,hasDictIn→Df,kas_bin→Dw,plainGet_of→Hx,plainOver→Hy,putName_dict→Hz,kas_count→Ig,looks_findIn→PP,kas_descPart→Qu
open PySem.Value renaming none→eG,type→zG,ref→Dh,builtin→HP,bool→afv
open List.Nodup renaming length_le_of_subset→fO
open Array renaming length_toList→fQ,getElem?_eq_getElem→jq,getElem?_toList→js,getElem?_eq_some_iff→nV,toList_push→HN,forIn_toList→HQ,size_map→H9,toList_inj→Ii,replicate→Py,getD_eq_getD_getElem?→Pz,any_toList→ae5,mem_of_getElem?→afm,isEmpty→afy,eraseIdxIfInBounds→af1,toList_eraseIdx→af2,toList_append→af5,toArray_toList→af6,toList_map→agq,getD→ag8
open Prod.mk renaming inj→gh
open Int renaming ofNat_lt→h9,natCast_nonneg→jp,not_lt→qv,lt_trans→r8,ofNat_le→wS,le_trans→Dn,toNat_natCast→HF,toNat→H0,emod_nonneg→Pt,max_eq_right→Qi,le_refl→QB,ne_of_lt→QC,ofNat_ne_zero→aej,toNat_lt→aek,emod_lt_of_pos→ael,natCast_pos→aem,ediv_one→afc,lt_of_le_of_lt→afd,add_zero→afe,min_eq_left→af7,le_of_lt→af8,sub_add_cancel→aga,ne_of_gt→agg,lt_of_lt_of_le→ahj,le_add_one→ahl,lt_add_one_of_le→ahm,ofNat_sub→ahv,lt_asymm→ah9
open Prod renaming ext→jv,fst→mR,snd→C7
open PyProof.Rows renaming seqObj→kj,envOfC→w0,lookup_of_mem_nodup→HB,SortKind→Ih,range_getD→Qw,slicePart_none→agb,loadName_read→as0,UnaryOp_→as4,neg_int→as5,IfExp_→as7,truthy_none→as8,isTrue_not→as9,isTrue_and→ata,isTrue_or→atb,isTrue_and_nil→atc,isTrue_or_nil→atd,isTrue_plain→ate,BoolOp_one→atf,BoolOp_and→atg,BoolOp_or→ath,getItem_tuple→atp,truthy_tuple→atq,len_tuple→atr,list_addW→atv,slicePart_int→atx,tupleItemsOf_→atz
open List.cons renaming inj→lh
open PySem.Obj renaming mapSeq→lZ,mapFields→uC,putSet→uD,cls_mapFields→Di,data_mapFields→HG,putName→PM,isFreed_of_fields→PQ,isFreed_of_dict→afo
open PySem.Heap.SameBut renaming update→o9
open PySem.Expr renaming casesOn→wO
open Int.ofNat renaming inj→wW
open PySem.Around renaming under_plainId→zH
open PySem.Txt renaming join→zQ
open Classical renaming byContradiction→C4,choose_spec→Qc,choose→afz
open PySem.Builtin.Tuple renaming tupleHashOf→C9,tupleItemsOf→P6,tupleExact→at0
open Nat.succ renaming inj→Dp
open PySem.F renaming slot_tuple_getitem→Dr,slot_dict_get→HX,entry_dict_get→P8,slot_list_pop→Qg,args_dict_get_3→afs,slot_dict_len→afx,entry_list_pop→af0,slot_list_insert→af4,entry_tuple_getitem→agd,args_tuple_getitem_2→age,plain_set_new→agv,entry_set_init→agx,slot_set_ne→ag1,slot_set_iter→ag6,plain_list_iadd→ahc
open PySem.Code renaming builtin→HC
open PySem.Builtin.SmallTypes renaming nextOf→HE
open ForInStep renaming yield→HM
open PySem.Builtin.Dict renaming missed→HV,pendingKey?→atm,notOrdered→atn,pendingCount→ato
open PySem.Builtin.Slice renaming sliceAdjust→H5,slicePlaces→af9,sliceApplied→agc,slicePartIndex→atw,sliceFields→aty
open PySem.SetTable renaming insertAt→H8,toList_insertAt→aev,fill→agn
open List.Pairwise renaming map→Ik,imp_of_mem→aew,of_map→ah2,filterMap→asz,imp→atj,filter→atl,sublist→aug
open PySem.PyData renaming list→Im,keyHash→PN,hasDictAll→Qy,depthAll→Qz,shownAll→QJ,shown→QK,hasDict→ahg,depth→ahh
open PySem.Env renaming kindOf→PD
open PySem.Calls renaming loadGlobal_global→PE,loadGlobal_builtin→aez,call_function_entry→agk
open PySem.Value.ref renaming inj→PW
open And renaming intro→P4
open PySem.Walks renaming list→Qk
open PyProof.Rows.F renaming plain_set_update_loop→Qm,entry_set_update_loop→agt
open PySem.Shared renaming TypeIs→Qo
open PySem.Builtin.Frozenset renaming quietEq→Qr,slot1→ag0,addrOf→ag2,newClass→at3,updateFrom→at4,isAnySet→at5,sizeOf→at6,walkUnseen→at7,walk→at8,subsetOf→at9,unchanged→aua,slot0→aub
open PySem.W.KPc renaming turn→Qx,range_list→ahf
open Lean.Parser.Tactic renaming exact→aeh,tacticSeq→ast,tacticSeq1Indented→asu,tacticRfl→asw
open Lean renaming Syntax→aei
open PySem.NameKind renaming cell→ae0
open PySem.DictEntry renaming refKey→ae3
open PySem.Builtin.Range renaming rangeSize→afa,small→afb,rangeFitsLong→atk
open PySem.Builtin.List renaming listFitsIndex→af3,listUpdate→aha,listLengthHint→ahb,listExtendWith→ahd,listItems→auc,listSameRef→aud,listTouch→aue,listSubscript?→auf
open PySem.Heap.IsSliceOf renaming new→agf
open PySem.P renaming truthy_int→agh
open PySem.List renaming filterMap_getElem?_range_length→agr
open PySem.pickOrder renaming go→agz
open PySem.Builtin.Str renaming percentFormat→ahe
open Lean.Parser.Term renaming app→asv,hole→asx,basicFun→asy
open PySem.Builtin.SmallTypes.calledThroughType renaming match_1→ati
open PySem.MeetsSeq renaming list_pop_last→ats,list_pop_at→att
open PySem.AutoSeq1 renaming list_insert_list_int_val_1→atu
open PySem PySem.W PyProof.Rows
set_option Elab.async false
set_option maxRecDepth 100000
set_option maxHeartbeats 8000000
set_option linter.unusedVariables false
namespace Mine.Internal
abbrev iZ:=@decide_eq_false
abbrev rX:=@of_decide_eq_false
abbrev qu:=@beq_self_eq_true
abbrev mN:=@bne_self_eq_false
abbrev kW:=@beq_eq_false_iff_ne
abbrev mO:=@decide_eq_decide
abbrev ay:=@congrArg
abbrev aK:=@if_neg
abbrev aO:=@if_pos
abbrev bd:=@absurd
abbrev fD:=@of_decide_eq_true
abbrev eP:=@decide_eq_true
abbrev hH:=@decide_eq_true_iff
abbrev eW:=@beq_iff_eq
open Lean in
def EO (k:Name) (a:Array Syntax):Syntax:=.node .none ``Lean.Parser.Tactic.tacticSeq #[.node .none ``Lean.Parser.Tactic.tacticSeq1Indented #[.node .none `null #[.node .none k a]]]
open Lean in
def bn:Syntax:=EO ``Lean.Parser.Tactic.exact #[mkAtom "exact",.node .none ``Lean.Parser.Term.app #[mkIdent `Eq.refl,.node .none `null #[mkIdent `true]]]
open Lean in
def dI:Syntax:=EO ``Lean.Parser.Tactic.tacticRfl #[mkAtom "rfl"]
open Lean in
def xe:Syntax:=.node .none ``Lean.Parser.Term.hole #[mkAtom "_"]
open Lean in
def OL (a:Array Syntax):Syntax:=EO ``Lean.Parser.Tactic.exact #[mkAtom "exact",.node .none ``Lean.Parser.Term.fun #[mkAtom "fun",.node .none ``Lean.Parser.Term.basicFun #[.node .none `null a,.node .none `null #[],mkAtom "=>",mkIdent `rfl]]]
def jn:aei:=OL #[xe,xe]
def xf:aei:=OL #[xe,xe,xe]
theorem aJ {n m:Nat} (h:wF n m=ab:=by with_unfolding_all exact Eq.refl ab):n≤m:=jD h
theorem bj {n m:Nat} (h:wF (n+1) m=ab:=by with_unfolding_all exact Eq.refl ab):n<m:=jD h
theorem bJ {n m:Nat} (h:Nat.beq n m=an:=by with_unfolding_all exact Eq.refl an):n≠m:=Nat.ne_of_beq_eq_false h
theorem bS {n:Nat} {l:List Nat} (h:l.elem n=ab:=by with_unfolding_all exact Eq.refl ab):n∈l:=List.mem_of_elem_eq_true h
theorem yH {x:Int} {k:Nat} (h:0<k):x % (k:Int)=((x % (k:Int)).toNat:Int):=(Int.toNat_of_nonneg (Pt _ (aej.mpr (dF h)))).symm
theorem u9 {x:Int} {k:Nat} (h:0<k):(x % (k:Int)).toNat<k:=(aek (Pt _ (aej.mpr (dF h)))).mpr (ael _ (aem.mpr h))
theorem CV {j m n:Nat} (h:j+m=n) (l:j<n):m-1<m:=rY (nU λz=>fo n (bf (bH (by rw[←h,z];rfl)) l)) oX
theorem Cs {j m n:Nat} (h:j+m=n) (l:j<n):j+1+(m-1)=n:=by lia
theorem J9 {j m n:Nat} (h:m+j=n) (l:j<n):m-1<m:=CV ((rZ _ _).trans h) l
theorem Nu {j m n:Nat} (h:m+j=n) (l:j<n):m-1+(j+1)=n:=(rZ _ _).trans (Cs ((rZ _ _).trans h) l)
theorem IR {n:Nat} (h:0<n):-(n:Int) <0:=Int.neg_neg_of_pos (aem.mpr h)
theorem L7 {n:Nat}:¬-(n:Int) > 0:=qv.mpr (Int.neg_nonpos_of_nonneg (jp n))
theorem u8 {n:Nat} (h:n<2^62):(n:Int) <2^63:=r8 (b:=((2^62:Nat):Int)) (h9.mpr h) (by decide)
theorem Jm {n:Nat} (h:n<2^62):¬(n:Int)≥2^63:=Int.not_le.mpr (u8 h)
theorem NP {a b c k:Nat} (x:a≤k) (y:b≤k) (z:c≤k):a+b+c≤k+k+k:=fp (fp x y) z
theorem MD {m a b k:Nat} (h:m+a=k) (l:a<b) (e:b≤k):k-b<m:=by lia
theorem aV {p:Prop} [d:Decidable p] (h:decide p=ab:=by with_unfolding_all exact Eq.refl ab):p:=fD h
open PySem in
theorem wb {α β:Type} {M:i0} {A:dP} {E:Value→ak→Prop} {s:ak} {m:Sem α} {f:α→Sem β} {Q:β→ak→Prop} (h:aw M A m (λa=>aw M A (f a) Q E) E s):aw M A (m >>=f) Q E s:=wpAny_bind h
theorem nE {α:Sort u} {c:Prop} [d:Decidable c] {a b:α} {P:α→Prop} (h:c) (x:P a):P (if c then a else b):=(aO h).symm▸x
theorem nI {α:Sort u} {c:Prop} [d:Decidable c] {a b:α} {P:α→Prop} (h:¬c) (x:P b):P (if c then a else b):=(aK h).symm▸x
theorem CH {α:Sort u} {c:Prop} [d:Decidable c] {a b:α} {P:α→Prop} (h:c→P a) (h':¬c→P b):P (if c then a else b):=if z:c then nE z (h z) else nI z (h' z)
theorem jg {α β:Type} [BEq α] [LawfulBEq α] {p:α×β} {r:List (α×β)} {x:α} (e:x=p.1):(p::r).lookup x=aa p.2:=e▸aen
theorem gT {α β:Type} [BEq α] [LawfulBEq α] {p:α×β} {r:List (α×β)} {x:α} (e:x≠p.1):(p::r).lookup x=r.lookup x:=by rw[kX,kW.mpr e]
@[elab_as_elim] theorem YB {α:Sort u} {b:α} {motive:α→Prop} (x:motive b) {a:α} (h:a=b):motive a:=h▸x
@[elab_as_elim] theorem RG {α:Sort u} {b:α} {motive:α→Prop} (x:motive b) {a:α} (h:b=a):motive a:=h▸x
theorem cI {p0:Prop} {p1:Prop} {p2:Prop} (eK:p0) (eT:p1) (fV:p2):p0∧p1∧p2:=⟨eK,eT,fV⟩
theorem Au {T0:Type} {p0:Prop} {p1:T0→Prop} (eK:p0) (v0:T0) (eT:p1 v0):p0∧∃v0,p1 v0:=⟨eK,v0,eT⟩
theorem aT {T0:Type} {p0:T0→Prop} {p1:T0→Prop} (v0:T0) (eK:p0 v0) (eT:p1 v0):∃v0,p0 v0∧p1 v0:=⟨v0,eK,eT⟩
theorem tT {T0 T1:Type} {p0:T0→T1→Prop} (v0:T0) (v1:T1) (eK:p0 v0 v1):∃v0,∃v1,p0 v0 v1:=⟨v0,v1,eK⟩
theorem oQ {p0:Prop} {p1:Prop} {p2:Prop} {p3:Prop} (eK:p0) (eT:p1) (fV:p2) (ka:p3):p0∧p1∧p2∧p3:=⟨eK,eT,fV,ka⟩
theorem rt {T0:Type} {p0:Prop} {p1:T0→Prop} {p2:T0→Prop} (eK:p0) (v0:T0) (eT:p1 v0) (fV:p2 v0):p0∧∃v0,p1 v0∧p2 v0:=⟨eK,v0,eT,fV⟩
theorem cL {T0:Type} {p0:T0→Prop} {p1:T0→Prop} {p2:T0→Prop} (v0:T0) (eK:p0 v0) (eT:p1 v0) (fV:p2 v0):∃v0,p0 v0∧p1 v0∧p2 v0:=⟨v0,eK,eT,fV⟩
theorem zp {T0 T1:Type} {p0:T0→T1→Prop} {p1:T0→T1→Prop} (v0:T0) (v1:T1) (eK:p0 v0 v1) (eT:p1 v0 v1):∃v0,∃v1,p0 v0 v1∧p1 v0 v1:=⟨v0,v1,eK,eT⟩
theorem t8 {p0:Prop} {p1:Prop} {p2:Prop} {p3:Prop} {p4:Prop} (eK:p0) (eT:p1) (fV:p2) (ka:p3) (pF:p4):p0∧p1∧p2∧p3∧p4:=⟨eK,eT,fV,ka,pF⟩
theorem ik {T0:Type} {p0:T0→Prop} {p1:T0→Prop} {p2:T0→Prop} {p3:T0→Prop} (v0:T0) (eK:p0 v0) (eT:p1 v0) (fV:p2 v0) (ka:p3 v0):∃v0,p0 v0∧p1 v0∧p2 v0∧p3 v0:=⟨v0,eK,eT,fV,ka⟩
theorem mB {T0 T1:Type} {p0:T0→T1→Prop} {p1:T0→T1→Prop} {p2:T0→T1→Prop} (v0:T0) (v1:T1) (eK:p0 v0 v1) (eT:p1 v0 v1) (fV:p2 v0 v1):∃v0,∃v1,p0 v0 v1∧p1 v0 v1∧p2 v0 v1:=⟨v0,v1,eK,eT,fV⟩
theorem nQ {T0 T1:Type} {p0:T0→Prop} {p1:T0→Prop} {p2:T0→T1→Prop} {p3:T0→T1→Prop} (v0:T0) (eK:p0 v0) (eT:p1 v0) (v1:T1) (fV:p2 v0 v1) (ka:p3 v0 v1):∃v0,p0 v0∧p1 v0∧∃v1,p2 v0 v1∧p3 v0 v1:=⟨v0,eK,eT,v1,fV,ka⟩
theorem xg {T0:Type} {p0:T0→Prop} {p1:T0→Prop} {p2:T0→Prop} {p3:T0→Prop} {p4:T0→Prop} {p5:T0→Prop} (v0:T0) (eK:p0 v0) (eT:p1 v0) (fV:p2 v0) (ka:p3 v0) (pF:p4 v0) (yS:p5 v0):∃v0,p0 v0∧p1 v0∧p2 v0∧p3 v0∧p4 v0∧p5 v0:=⟨v0,eK,eT,fV,ka,pF,yS⟩
theorem xl {T0 T1:Type} {p0:T0→Prop} {p1:T0→Prop} {p2:T0→Prop} {p3:T0→T1→Prop} {p4:T0→T1→Prop} (v0:T0) (eK:p0 v0) (eT:p1 v0) (fV:p2 v0) (v1:T1) (ka:p3 v0 v1) (pF:p4 v0 v1):∃v0,p0 v0∧p1 v0∧p2 v0∧∃v1,p3 v0 v1∧p4 v0 v1:=⟨v0,eK,eT,fV,v1,ka,pF⟩
theorem sQ {T0:Type} {p0:Prop} {p1:Prop} {p2:Prop} {p3:Prop} {p4:T0→Prop} {p5:T0→Prop} {p6:T0→Prop} (eK:p0) (eT:p1) (fV:p2) (ka:p3) (v0:T0) (pF:p4 v0) (yS:p5 v0) (ι:p6 v0):p0∧p1∧p2∧p3∧∃v0,p4 v0∧p5 v0∧p6 v0:=⟨eK,eT,fV,ka,v0,pF,yS,ι⟩
theorem s7 {T0 T1:Type} {p0:Prop} {p1:T0→T1→Prop} {p2:T0→T1→Prop} {p3:T0→T1→Prop} {p4:T0→T1→Prop} {p5:T0→T1→Prop} (eK:p0) (v0:T0) (v1:T1) (eT:p1 v0 v1) (fV:p2 v0 v1) (ka:p3 v0 v1) (pF:p4 v0 v1) (yS:p5 v0 v1):p0∧∃v0,∃v1,p1 v0 v1∧p2 v0 v1∧p3 v0 v1∧p4 v0 v1∧p5 v0 v1:=⟨eK,v0,v1,eT,fV,ka,pF,yS⟩
theorem a8 {α:Type} {a:α} {C:Prop} (h:af=aa a):C:=nomatch h
theorem fB {α:Type} {a:α} {C:Prop} (h:aa a=af):C:=nomatch h
theorem cJ {C:Prop} (h:an=ab):C:=nomatch h
theorem iQ {C:Prop} (h:ab=an):C:=nomatch h
theorem jz {α:Type} {a:α} {l:List α} {C:Prop} (h:a::l=[]):C:=nomatch h
theorem vS {α:Type} {a:α} {l:List α} {C:Prop} (h:[]=a::l):C:=nomatch h
theorem cS {α:Type} {a:α} {C:Prop} (h:a∈[]):C:=nomatch h
theorem xA {p0:Prop} {p1:Prop} {C:Prop} (h:p0∧p1) (k:p0→p1→C):C:=k h.1 h.2
theorem xE {T0:Type} {p0:T0→Prop} {C:Prop} (h:∃v0,p0 v0) (k:∀v0,p0 v0→C):C:=h.elim λv0 h1=>k v0 h1
theorem jw {p0:Prop} {p1:Prop} {p2:Prop} {C:Prop} (h:p0∧p1∧p2) (k:p0→p1→p2→C):C:=k h.1 h.2.1 h.2.2
theorem BC {T0:Type} {p0:Prop} {p1:T0→Prop} {C:Prop} (h:p0∧∃v0,p1 v0) (k:p0→∀v0,p1 v0→C):C:=h.2.elim λv0 h1=>k h.1 v0 h1
theorem aj {T0:Type} {p0:T0→Prop} {p1:T0→Prop} {C:Prop} (h:∃v0,p0 v0∧p1 v0) (k:∀v0,p0 v0→p1 v0→C):C:=h.elim λv0 h1=>k v0 h1.1 h1.2
theorem jX {T0 T1:Type} {p0:T0→T1→Prop} {C:Prop} (h:∃v0,∃v1,p0 v0 v1) (k:∀v0,∀v1,p0 v0 v1→C):C:=h.elim λv0 h1=>h1.elim λv1 h2=>k v0 v1 h2
theorem mE {p0:Prop} {p1:Prop} {p2:Prop} {p3:Prop} {C:Prop} (h:p0∧p1∧p2∧p3) (k:p0→p1→p2→p3→C):C:=k h.1 h.2.1 h.2.2.1 h.2.2.2
theorem l_ {T0:Type} {p0:Prop} {p1:T0→Prop} {p2:T0→Prop} {C:Prop} (h:p0∧∃v0,p1 v0∧p2 v0) (k:p0→∀v0,p1 v0→p2 v0→C):C:=h.2.elim λv0 h1=>k h.1 v0 h1.1 h1.2
theorem bM {T0:Type} {p0:T0→Prop} {p1:T0→Prop} {p2:T0→Prop} {C:Prop} (h:∃v0,p0 v0∧p1 v0∧p2 v0) (k:∀v0,p0 v0→p1 v0→p2 v0→C):C:=h.elim λv0 h1=>k v0 h1.1 h1.2.1 h1.2.2
theorem eA {T0 T1:Type} {p0:T0→T1→Prop} {p1:T0→T1→Prop} {C:Prop} (h:∃v0,∃v1,p0 v0 v1∧p1 v0 v1) (k:∀v0,∀v1,p0 v0 v1→p1 v0 v1→C):C:=h.elim λv0 h1=>h1.elim λv1 h2=>k v0 v1 h2.1 h2.2
theorem th {T0 T1 T2:Type} {p0:T0→T1→T2→Prop} {C:Prop} (h:∃v0,∃v1,∃v2,p0 v0 v1 v2) (k:∀v0,∀v1,∀v2,p0 v0 v1 v2→C):C:=h.elim λv0 h1=>h1.elim λv1 h2=>h2.elim λv2 h3=>k v0 v1 v2 h3
theorem xD {p0:Prop} {p1:Prop} {p2:Prop} {p3:Prop} {p4:Prop} {C:Prop} (h:p0∧p1∧p2∧p3∧p4) (k:p0→p1→p2→p3→p4→C):C:=k h.1 h.2.1 h.2.2.1 h.2.2.2.1 h.2.2.2.2
theorem WF {T0:Type} {p0:Prop} {p1:Prop} {p2:T0→Prop} {p3:T0→Prop} {C:Prop} (h:p0∧p1∧∃v0,p2 v0∧p3 v0) (k:p0→p1→∀v0,p2 v0→p3 v0→C):C:=h.2.2.elim λv0 h1=>k h.1 h.2.1 v0 h1.1 h1.2
theorem yG {T0:Type} {p0:Prop} {p1:T0→Prop} {p2:T0→Prop} {p3:T0→Prop} {C:Prop} (h:p0∧∃v0,p1 v0∧p2 v0∧p3 v0) (k:p0→∀v0,p1 v0→p2 v0→p3 v0→C):C:=h.2.elim λv0 h1=>k h.1 v0 h1.1 h1.2.1 h1.2.2
theorem g9 {T0:Type} {p0:T0→Prop} {p1:T0→Prop} {p2:T0→Prop} {p3:T0→Prop} {C:Prop} (h:∃v0,p0 v0∧p1 v0∧p2 v0∧p3 v0) (k:∀v0,p0 v0→p1 v0→p2 v0→p3 v0→C):C:=h.elim λv0 h1=>k v0 h1.1 h1.2.1 h1.2.2.1 h1.2.2.2
theorem vU {T0 T1:Type} {p0:T0→Prop} {p1:T0→Prop} {p2:T0→T1→Prop} {C:Prop} (h:∃v0,p0 v0∧p1 v0∧∃v1,p2 v0 v1) (k:∀v0,p0 v0→p1 v0→∀v1,p2 v0 v1→C):C:=h.elim λv0 h1=>h1.2.2.elim λv1 h2=>k v0 h1.1 h1.2.1 v1 h2
theorem bC {T0 T1:Type} {p0:T0→T1→Prop} {p1:T0→T1→Prop} {p2:T0→T1→Prop} {C:Prop} (h:∃v0,∃v1,p0 v0 v1∧p1 v0 v1∧p2 v0 v1) (k:∀v0,∀v1,p0 v0 v1→p1 v0 v1→p2 v0 v1→C):C:=h.elim λv0 h1=>h1.elim λv1 h2=>k v0 v1 h2.1 h2.2.1 h2.2.2
theorem Ez {p0:Prop} {p1:Prop} {p2:Prop} {p3:Prop} {p4:Prop} {p5:Prop} {C:Prop} (h:p0∧p1∧p2∧p3∧p4∧p5) (k:p0→p1→p2→p3→p4→p5→C):C:=k h.1 h.2.1 h.2.2.1 h.2.2.2.1 h.2.2.2.2.1 h.2.2.2.2.2
theorem jA {T0:Type} {p0:T0→Prop} {p1:T0→Prop} {p2:T0→Prop} {p3:T0→Prop} {p4:T0→Prop} {C:Prop} (h:∃v0,p0 v0∧p1 v0∧p2 v0∧p3 v0∧p4 v0) (k:∀v0,p0 v0→p1 v0→p2 v0→p3 v0→p4 v0→C):C:=h.elim λv0 h1=>k v0 h1.1 h1.2.1 h1.2.2.1 h1.2.2.2.1 h1.2.2.2.2
theorem gC {T0 T1:Type} {p0:T0→T1→Prop} {p1:T0→T1→Prop} {p2:T0→T1→Prop} {p3:T0→T1→Prop} {C:Prop} (h:∃v0,∃v1,p0 v0 v1∧p1 v0 v1∧p2 v0 v1∧p3 v0 v1) (k:∀v0,∀v1,p0 v0 v1→p1 v0 v1→p2 v0 v1→p3 v0 v1→C):C:=h.elim λv0 h1=>h1.elim λv1 h2=>k v0 v1 h2.1 h2.2.1 h2.2.2.1 h2.2.2.2
theorem ky {T0 T1 T2:Type} {p0:T0→T1→T2→Prop} {p1:T0→T1→T2→Prop} {p2:T0→T1→T2→Prop} {C:Prop} (h:∃v0,∃v1,∃v2,p0 v0 v1 v2∧p1 v0 v1 v2∧p2 v0 v1 v2) (k:∀v0,∀v1,∀v2,p0 v0 v1 v2→p1 v0 v1 v2→p2 v0 v1 v2→C):C:=h.elim λv0 h1=>h1.elim λv1 h2=>h2.elim λv2 h3=>k v0 v1 v2 h3.1 h3.2.1 h3.2.2
theorem od {T0 T1 T2 T3:Type} {p0:T0→T1→T2→T3→Prop} {p1:T0→T1→T2→T3→Prop} {C:Prop} (h:∃v0,∃v1,∃v2,∃v3,p0 v0 v1 v2 v3∧p1 v0 v1 v2 v3) (k:∀v0,∀v1,∀v2,∀v3,p0 v0 v1 v2 v3→p1 v0 v1 v2 v3→C):C:=h.elim λv0 h1=>h1.elim λv1 h2=>h2.elim λv2 h3=>h3.elim λv3 h4=>k v0 v1 v2 v3 h4.1 h4.2
theorem Ck {T0:Type} {p0:Prop} {p1:Prop} {p2:Prop} {p3:Prop} {p4:T0→Prop} {p5:T0→Prop} {C:Prop} (h:p0∧p1∧p2∧p3∧∃v0,p4 v0∧p5 v0) (k:p0→p1→p2→p3→∀v0,p4 v0→p5 v0→C):C:=h.2.2.2.2.elim λv0 h1=>k h.1 h.2.1 h.2.2.1 h.2.2.2.1 v0 h1.1 h1.2
theorem ww {T0 T1:Type} {p0:Prop} {p1:T0→T1→Prop} {p2:T0→T1→Prop} {p3:T0→T1→Prop} {p4:T0→T1→Prop} {C:Prop} (h:p0∧∃v0,∃v1,p1 v0 v1∧p2 v0 v1∧p3 v0 v1∧p4 v0 v1) (k:p0→∀v0,∀v1,p1 v0 v1→p2 v0 v1→p3 v0 v1→p4 v0 v1→C):C:=h.2.elim λv0 h1=>h1.elim λv1 h2=>k h.1 v0 v1 h2.1 h2.2.1 h2.2.2.1 h2.2.2.2
theorem Jc {T0:Type} {p0:T0→Prop} {p1:T0→Prop} {p2:T0→Prop} {p3:T0→Prop} {p4:T0→Prop} {p5:T0→Prop} {C:Prop} (h:∃v0,p0 v0∧p1 v0∧p2 v0∧p3 v0∧p4 v0∧p5 v0) (k:∀v0,p0 v0→p1 v0→p2 v0→p3 v0→p4 v0→p5 v0→C):C:=h.elim λv0 h1=>k v0 h1.1 h1.2.1 h1.2.2.1 h1.2.2.2.1 h1.2.2.2.2.1 h1.2.2.2.2.2
theorem xV {T0 T1:Type} {p0:T0→Prop} {p1:T0→Prop} {p2:T0→Prop} {p3:T0→T1→Prop} {p4:T0→T1→Prop} {C:Prop} (h:∃v0,p0 v0∧p1 v0∧p2 v0∧∃v1,p3 v0 v1∧p4 v0 v1) (k:∀v0,p0 v0→p1 v0→p2 v0→∀v1,p3 v0 v1→p4 v0 v1→C):C:=h.elim λv0 h1=>h1.2.2.2.elim λv1 h2=>k v0 h1.1 h1.2.1 h1.2.2.1 v1 h2.1 h2.2
theorem adh {T0 T1:Type} {p0:T0→Prop} {p1:T0→T1→Prop} {p2:T0→T1→Prop} {p3:T0→T1→Prop} {p4:T0→T1→Prop} {C:Prop} (h:∃v0,p0 v0∧∃v1,p1 v0 v1∧p2 v0 v1∧p3 v0 v1∧p4 v0 v1) (k:∀v0,p0 v0→∀v1,p1 v0 v1→p2 v0 v1→p3 v0 v1→p4 v0 v1→C):C:=h.elim λv0 h1=>h1.2.elim λv1 h2=>k v0 h1.1 v1 h2.1 h2.2.1 h2.2.2.1 h2.2.2.2
theorem tR {T0 T1:Type} {p0:T0→T1→Prop} {p1:T0→T1→Prop} {p2:T0→T1→Prop} {p3:T0→T1→Prop} {p4:T0→T1→Prop} {C:Prop} (h:∃v0,∃v1,p0 v0 v1∧p1 v0 v1∧p2 v0 v1∧p3 v0 v1∧p4 v0 v1) (k:∀v0,∀v1,p0 v0 v1→p1 v0 v1→p2 v0 v1→p3 v0 v1→p4 v0 v1→C):C:=h.elim λv0 h1=>h1.elim λv1 h2=>k v0 v1 h2.1 h2.2.1 h2.2.2.1 h2.2.2.2.1 h2.2.2.2.2
theorem KW {T0 T1:Type} {p0:T0→Prop} {p1:T0→Prop} {p2:T0→T1→Prop} {p3:T0→T1→Prop} {p4:T0→T1→Prop} {p5:T0→T1→Prop} {C:Prop} (h:∃v0,p0 v0∧p1 v0∧∃v1,p2 v0 v1∧p3 v0 v1∧p4 v0 v1∧p5 v0 v1) (k:∀v0,p0 v0→p1 v0→∀v1,p2 v0 v1→p3 v0 v1→p4 v0 v1→p5 v0 v1→C):C:=h.elim λv0 h1=>h1.2.2.elim λv1 h2=>k v0 h1.1 h1.2.1 v1 h2.1 h2.2.1 h2.2.2.1 h2.2.2.2
theorem JP {T0 T1 T2:Type} {p0:T0→T1→Prop} {p1:T0→T1→Prop} {p2:T0→T1→Prop} {p3:T0→T1→T2→Prop} {p4:T0→T1→T2→Prop} {C:Prop} (h:∃v0,∃v1,p0 v0 v1∧p1 v0 v1∧p2 v0 v1∧∃v2,p3 v0 v1 v2∧p4 v0 v1 v2) (k:∀v0,∀v1,p0 v0 v1→p1 v0 v1→p2 v0 v1→∀v2,p3 v0 v1 v2→p4 v0 v1 v2→C):C:=h.elim λv0 h1=>h1.elim λv1 h2=>h2.2.2.2.elim λv2 h3=>k v0 v1 h2.1 h2.2.1 h2.2.2.1 v2 h3.1 h3.2
set_option genSizeOf false
set_option genInjectivity false
local macro_rules |`(tactic|show $t)=>`(tactic|first
 |refine(?_:$t)
 |change $t)
local macro_rules |`(tactic|unfold aZ)=>`(tactic|refine(?_:_≤2^24))
local macro_rules |`(tactic|simpa using $h)=>`(tactic|first|exact $h|simpa [] using $h)
local macro_rules |`(tactic|rewrite[$e:term])=>`(tactic|first
 |with_reducible refine Mine.Internal.YB ?_ $e
 |rewrite[$e:term] at ⊢)
local macro_rules |`(tactic|rewrite[←$e:term])=>`(tactic|first
 |with_reducible refine Mine.Internal.RG ?_ $e
 |rewrite[←$e:term] at ⊢)
local macro_rules |`(tactic|rw[$r:rwRule])=>`(tactic|(rewrite[$r];with_reducible try rfl))
local macro_rules |`(tactic|rw[$r:rwRule,$rs:rwRule,*])=>`(tactic|(rewrite[$r];rw[$rs,*]))
section
open SetTable
def np (xs:List Nat):Prop:=xs.Pairwise (· < ·)
theorem np.lt {xs:Array Nat} (hr:np xs.toList) {i k u v:Nat} (hu:xs[i]? =aa u) (hv:xs[k]? =aa v) (h:i<k):u<v:=
 (nV.mp hu).elim λa e=>(nV.mp hv).elim λc e'=>e▸e'▸Pu.mp hr i k a c h
structure rQ (xs:Array Nat) (j r:Nat):Prop where
 le:r≤xs.size
 lo:∀(i v:Nat),xs[i]? =aa v→i<r→v<j
 hi:∀(i v:Nat),xs[i]? =aa v→r≤i→j≤v
theorem Yd {xs:Array Nat} {j:Nat} (hr:np xs.toList) (fuel:Nat):∀{lo hi:Nat},hi≤lo+fuel→lo≤xs.size→hi≤xs.size→
  (∀(i v:Nat),xs[i]? =aa v→i<lo→v<j)→(∀(i v:Nat),xs[i]? =aa v→hi≤i→j≤v)→rQ xs j (below.go xs j fuel lo hi):=by
 induction fuel with
 |zero=>exact λ{lo hi} h h1 _ a b=>⟨h1,a,λi v e hi=>b i v e (ah h hi)⟩
 |succ fuel ih=>
  intro lo hi h h1 h2 a b;refine if hl:lo<hi then nE (P:=rQ xs j) hl ?_ else nI (P:=rQ xs j) hl ⟨h1,a,λi v e hi=>b i v e (ah (oY hl) hi)⟩
  have m1:(lo+hi) / 2<hi:=aeo (Nat.two_mul hi▸CZ hl hi);have m3:=bK m1 h2;have hg:xs[(lo+hi) / 2]? =aa (xs.getD ((lo+hi) / 2) j):=(jq m3).trans (ay aa (dif_pos m3).symm);exact if q:xs.getD ((lo+hi) / 2) j<j then nE (P:=rQ xs j) q (ih (ah h (ah (eE (nW ((aep wG).mpr (Nat.mul_two lo▸eZ (cj hl) lo):lo≤(lo+hi) / 2) fuel)) (bH (wH _ _).symm))) m3 h2 (λi v e z=>(zw (eQ z)).elim (λy=>i2 (hr.lt e hg y) q) λy=>aU (e.symm.trans ((ay (λk:Nat=>xs[k]?) y).trans hg))▸q) b)
   else nI (P:=rQ xs j) q (ih (eQ (bK m1 h)) h1 (cj m3) a λi v e z=>ah (oY q) ((zw z).elim (λy=>cj (hr.lt hg e y)) λy=>bH (aU (hg.symm.trans ((ay (λk:Nat=>xs[k]?) y).trans e)))))
theorem Bj {xs:Array Nat} (j:Nat) (hr:np xs.toList):rQ xs j (below xs j):=
 Yd hr xs.size (bH (mP _).symm) (cb _) (au _) (λi v _ h=>bd h (mQ i)) λi v hv h=>bd (nV.mp hv).1 (lW h)
theorem rQ.at {xs:Array Nat} {i j r:Nat} (B:rQ xs j r) (hr:np xs.toList) (h:xs[i]? =aa j):r=i:=by
 rcases Hp i r with q|q|q
 ·exact bd (B.lo i j h q) (fo j)
 ·exact q.symm
 ·have g:=jq (i2 q (nV.mp h).1)
  exact bd (hr.lt g h q) (lW (B.hi r _ g (au r)))
theorem OK {t:c8} {j i:Nat} (hr:np t.place.toList) (h:t.place[i]? =aa j):t.slot j=.live i:=
 have e:=(Bj j hr).at hr h
 (aO (by rw[e,h];exact qu _):t.slot j=_).trans (ay Slot.live e)
theorem RF {t:c8} {j:Nat} (hr:np t.place.toList) (hd:t.dummies=#[]) (h:∀i:Nat,t.place[i]? ≠aa j):t.slot j=.empty:=
 (aK λe=>h _ (eq_of_beq e):t.slot j=_).trans (aK (by rw[hd];exact iB))
noncomputable def p9 (mask:Nat) (p:Probe):Probe:=advance {fresh 0 0 ab with mask} p
noncomputable def bo (mask:Nat) (h:Int):Nat→Probe
 |0=>probeStart {fresh 0 0 ab with mask} h
 |k+1=>p9 mask (bo mask h k)
noncomputable def dO (mask:Nat) (h:Int):Nat→Nat×Nat
 |0=>(bits h % (mask+1),bits h)
 |k+1=>leap mask (dO mask h k).1 (dO mask h k).2
noncomputable def rl (mask:Nat) (h:Int) (k:Nat):Nat:=runEnd mask (dO mask h k).1- (dO mask h k).1
noncomputable def Az (mask:Nat) (h:Int) (k:Nat):Probe:={j:=(dO mask h k).1,more:=rl mask h k,i:=(dO mask h k).1,perturb:=(dO mask h k).2,dummy:=af}
theorem Lu (mask i:Nat):i≤runEnd mask i:=if h:i+9≤mask then nE (P:=(i≤·)) h (b7 i 9) else nI (P:=(i≤·)) h (au i)
theorem Tr {mask i:Nat} (hi:i≤mask):runEnd mask i≤mask:=if h:i+9≤mask then nE (P:=(· ≤mask)) h h else nI (P:=(· ≤mask)) h hi
theorem Rh (mask i:Nat):runEnd mask i-i≤9:=if h:i+9≤mask then nE (P:=(· - i≤9)) h (bH (ui i 9)) else nI (P:=(· - i≤9)) h ((zx i).symm▸cb 9)
theorem Gc {mask i:Nat} (hi:i≤mask):i+(runEnd mask i-i)≤mask:=ah (bH (uj (Lu mask i))) (Tr hi)
theorem OD {mask:Nat} {p:Probe} (h:p.more > 0):p9 mask p={p with j:=p.j+1,more:=p.more-1}:=aO h
theorem QW {mask:Nat} {h:Int} {k:Nat} {p:Probe} (h0:p.more=0) (hi:p.i=(dO mask h k).1) (hp:p.perturb=(dO mask h k).2) (hd:p.dummy=af):p9 mask p=Az mask h (k+1):=by
 refine(aK λz=>dF z h0:p9 mask p=_).trans ?_;rw[hi,hp];show Probe.mk _ _ _ _ p.dummy=_;rw[hd];rfl
noncomputable def rs (mask:Nat) (h:Int):Nat→Nat
 |0=>0
 |k+1=>rs mask h k+rl mask h k+1
theorem VH (mask:Nat) (h:Int) (k:Nat):rs mask h k≤10*k:=by
 induction k with
 |zero=>exact au _
 |succ k ih=>exact eE (fp ih (Rh _ _))
theorem M_ {mask:Nat} {h:Int} {k n:Nat} (hn:bo mask h n=Az mask h k) (d:Nat):d≤rl mask h k→bo mask h (n+d)={Az mask h k with j:=(dO mask h k).1+d,more:=rl mask h k-d}:=by
 induction d with
 |zero=>exact λ_=>hn
 |succ d ih=>exact λhd=>(ay (p9 mask) (ih (gd hd))).trans (OD (aeq hd))
theorem La (mask:Nat) (h:Int) (k:Nat):bo mask h (rs mask h k)=Az mask h k:=by
 induction k with
 |zero=>rfl
 |succ k ih=>exact(ay (p9 mask) (M_ ih _ (au _))).trans (QW (zx _) rfl rfl rfl)
theorem DO (mask:Nat) (h:Int) (k d:Nat) (hd:d≤rl mask h k):(bo mask h (rs mask h k+d)).j=(dO mask h k).1+d:=ay Probe.j (M_ (La mask h k) d hd)
noncomputable def vZ (m:Nat) (c a:Nat):Nat:=match c with
 |0=>a
 |c+1=>(vZ m c a*5+1) % m
theorem Tb:∀a<7+1,∀q<7+1,∃c<7+1,vZ (7+1) c a=q:=by decide +kernel
noncomputable def abm:Bool:=(bq 32).all λa=>(bq 32).all λq=>((bq 32).map λc=>vZ 32 c a).contains q
theorem Ι:∀a<31+1,∀q<31+1,∃c<31+1,vZ (31+1) c a=q:=λa ha q hq=>by
 have:abm=ab:=by decide +kernel
 exact aj (bD.mp (e9.mp (db.mp (db.mp this a (dQ.mpr ha)) q (dQ.mpr hq)))) λc hc e=>⟨c,dQ.mp hc,e⟩
theorem U1 (h:Int):bits h<2^64:=(aek (Pt _ aV)).mpr (ael _ aV)
theorem T_ (mask:Nat) (h:Int) (k:Nat):(dO mask h k).2=bits h / 32^k:=by
 induction k with
 |zero=>exact(Nat.div_one _).symm
 |succ k ih=>exact(ay (· / 32) ih).trans (Nat.div_div_eq_div_mul _ _ _)
theorem UV (mask:Nat) (h:Int) (c:Nat):(dO mask h (13+c)).2=0:=
 (T_ mask h (13+c)).trans (Nat.div_eq_of_lt (bK (U1 h) (ah (aJ:2^64≤32^13) (Nat.pow_le_pow_right bj (b7 13 c)))))
theorem FN (mask:Nat) (h:Int) (k:Nat):(dO mask h k).1<mask+1:=by
 cases k with
 |zero=>exact C3 _ (dJ _)
 |succ k=>exact C3 _ (dJ _)
theorem YZ (mask:Nat) (h:Int) (c:Nat):(dO mask h (13+c)).1=vZ (mask+1) c (dO mask h 13).1:=by
 induction c with
 |zero=>rfl
 |succ c ih=>
  show((dO mask h (13+c)).1*5+1+(dO mask h (13+c)).2 / 32) % (mask+1)=_;rw[UV _ _ _,ih];rfl
theorem Kk {mask:Nat} (hm:mask=7∨mask=31) (h:Int) {q:Nat} (hq:q≤mask):∃k,k<turns mask∧(dO mask h k).1=q:=aj ((hm.elim (λe=>e▸Tb) λe=>e▸Ι:∀a<mask+1,∀q<mask+1,∃c<mask+1,vZ (mask+1) c a=q) _ (FN mask h 13) q (kY hq)) λc hc e=>⟨13+c,i2 (aer hc 13) (rZ 13 _▸dm _),(YZ mask h c).trans e⟩
theorem Rb {mask:Nat} (hm:mask=7∨mask=31) (h:Int) {q:Nat} (hq:q≤mask):∃n,n<10*turns mask∧(bo mask h n).j=q:=
 aj (Kk hm h hq) λk hk e=>⟨rs mask h k,bf (VH mask h k) (Nat.mul_lt_mul_of_pos_left hk bj),(ay Probe.j (La mask h k)).trans e⟩
theorem Nh (mask:Nat) (h:Int) (n:Nat):(bo mask h n).dummy=af∧(bo mask h n).j+(bo mask h n).more≤mask:=by
 induction n with
 |zero=>exact⟨rfl,Gc (eQ (FN mask h 0))⟩
 |succ n ih=>
  show(p9 mask (bo mask h n)).dummy=af∧(p9 mask (bo mask h n)).j+(p9 mask (bo mask h n)).more≤mask;exact if hm:(bo mask h n).more > 0 then(OD hm).symm▸⟨ih.1,ah (bH ((aes _ 1 _).trans (ay _ (uj hm)))) ih.2⟩
   else nI (P:=λp:Probe=>p.dummy=af∧p.j+p.more≤mask) hm ⟨ih.1,Gc (eQ (C3 _ (dJ _)))⟩
structure oU (t:c8) (hs:List Int):Prop where
 len:t.place.toList.length=hs.length
 rise:np t.place.toList
 AF:t.dummies=#[]
 mask:t.mask=7∨t.mask=31
 le:∀p∈t.place.toList,p≤t.mask
 path:∀(i:Nat) h,hs[i]? =aa h→∃n,t.place.toList[i]? =aa (bo t.mask h n).j∧∀n',n'<n→(bo t.mask h n').j∈t.place.toList
def gb (t:c8) (hs:List Int):Prop:=oU t hs∧hs.length*5<t.mask*3
theorem aah {t:c8} {hs:List Int} (c5:t.place.toList.length=hs.length) (room:hs.length*5<t.mask*3) (rise:np t.place.toList):∃q,q≤t.mask∧q∉t.place.toList:=
 C4 λhn=>by
  have sub:=fO Hq (l₁:=bq (t.mask+1)) (l₂:=t.place.toList) λq hq=>C4 λfS=>hn ⟨q,eQ (dQ.mp hq),fS⟩;rw[dR,c5] at sub;exact fo _ (bK room (aet (gd sub) aJ))
theorem gb.W0 {t:c8} {hs:List Int} (T:gb t hs) (h:Int):∃n,n<10*turns t.mask∧(bo t.mask h n).j∉t.place.toList:=
 aj (aah T.1.len T.2 T.1.rise) λq hq hf=>aj (Rb T.1.mask h hq) λn hn e=>⟨n,hn,e.symm▸hf⟩
noncomputable def Nk (t:c8) (hashAt:Nat→Int) (h:Int) (fuel:Nat) (p:Probe) (o:Slot):Option Met:=match o with
 |.empty=>aa (.empty p.j p.dummy)
 |.dummy=>probe.go t hashAt h fuel (t.advance {p with dummy:=aa p.j})
 |.live i=>if hashAt i==h then aa (.candidate p.j i (t.advance p)) else probe.go t hashAt h fuel (t.advance p)
theorem J_ {t:c8} {hashAt:Nat→Int} {h:Int} {fuel:Nat} {p:Probe} {o:Slot} (hs:t.slot p.j=o):probe.go t hashAt h (fuel+1) p=Nk t hashAt h fuel p o:=ay (Nk t hashAt h fuel p) hs
theorem XB {t:c8} {hs:List Int} (T:oU t hs) (hashAt:Nat→Int) (h:Int) {I:Nat→Prop} (st:∀n i,I n→t.place.toList[i]? =aa (bo t.mask h n).j→hashAt i≠h→I (n+1)) {N:Nat} (hN:(bo t.mask h N).j∉t.place.toList) {C:Prop} (fuel:Nat):
  ∀(k:Nat),k≤N→N<k+fuel→I k→(∀n,I n→probe.go t hashAt h fuel (bo t.mask h k)=aa (.empty (bo t.mask h n).j af)→(bo t.mask h n).j∉t.place.toList→C)→
  (∀n i,I n→probe.go t hashAt h fuel (bo t.mask h k)=aa (.candidate (bo t.mask h n).j i (bo t.mask h (n+1)))→t.place.toList[i]? =aa (bo t.mask h n).j→hashAt i=h→C)→C:=by
 induction fuel with
 |zero=>exact λk h1 h2 _ _ _=>bd h2 (jr.mpr h1)
 |succ fuel ih=>
  intro k h1 h2 hI k1 k2
  by_cases hk:(bo t.mask h k).j∈t.place.toList
  ·refine xE (qw.mp hk) λi hi=>?_
   have e:=J_ (fuel:=fuel) (hashAt:=hashAt) (h:=h) (OK T.rise (js.symm.trans hi))
   by_cases hh:hashAt i=h
   ·exact k2 k i hI (e.trans (aO (eW.mpr hh))) hi hh
   ·have e':=e.trans (aK λq=>hh (eq_of_beq q))
    exact ih (k+1) (wI h1 λq=>hN (q▸hk)) (wH k fuel▸h2) (st k i hI hi hh) (λn a c=>k1 n a (e'.trans c)) λn i a c=>k2 n i a (e'.trans c)
  ·exact k1 k hI ((J_ (RF T.rise T.AF λi hi=>hk (qw.mpr ⟨i,js.trans hi⟩))).trans (ay (λd=>aa (Met.empty _ d)) (Nh t.mask h k).1)) hk
end
section
open SetTable
noncomputable def kK {α:Type} (l:List α) (p:Nat) (x:α):List α:=l.take p++x::l.drop p
theorem Nr {α:Type} (l:List α) (p:Nat) (x:α) (hp:p≤l.length) (i:Nat):(kK l p x)[i]? =if i<p then l[i]? else if i=p then aa x else l[i-1]? :=by
 unfold kK;rw[List.getElem?_append,jE,r9 hp];refine if h:i<p then(aO h).trans ((aeu h).trans (aO h).symm) else(aK h).trans (Eq.trans ?_ (aK h).symm)
 rcases wJ (oY h) with e|e
 ·rw[←e,zx _,aO rfl];rfl
 ·obtain⟨d,rfl⟩:=Nat.exists_eq_add_of_lt e
  rw[aK (dF e),show p+d+1-p=d+1 from ui p (d+1)];exact Pw
theorem BP {α:Type} {l:List α} {p:Nat} {x y:α}:y∈kK l p x↔y=x∨y∈l:=
 ((du.trans (or_congr_right dA)).trans or_left_comm).trans (or_congr_right (du.symm.trans (iff_of_eq (ay (y∈·) (Px p l)))))
theorem F6 {α:Type} (l:List α) (p:Nat) (x:α):(kK l p x).length=l.length+1:=
 cT.trans (ay Hr (cT.symm.trans (ay nY (Px p l))))
theorem Sf {t:c8} {hs:List Int} (T:oU t hs) {h:Int} {n:Nat} (hf:(bo t.mask h n).j∉t.place.toList) (hb:∀n',n'<n→(bo t.mask h n').j∈t.place.toList) (pl:Bool):
  below t.place (bo t.mask h n).j≤hs.length∧(t.put (bo t.mask h n).j).2=below t.place (bo t.mask h n).j∧(t.put (bo t.mask h n).j).1.mask=t.mask∧
  oU {(t.put (bo t.mask h n).j).1 with plain:=pl} (kK hs (below t.place (bo t.mask h n).j) h):=by
 have B:=Bj (xs:=t.place) (bo t.mask h n).j T.rise;have qn:(t.put (bo t.mask h n).j).1.place.toList=kK t.place.toList (below t.place (bo t.mask h n).j) (bo t.mask h n).j:=aev _ _ _;have bY:below t.place (bo t.mask h n).j≤t.place.toList.length:=B.le;have hp:=ah bY (bH T.len);have hd:(if has t.dummies (bo t.mask h n).j then eraseAt t.dummies (below t.dummies (bo t.mask h n).j) else t.dummies)=#[]:=by rw[T.AF];rfl
 refine oQ hp rfl rfl ⟨(ay nY qn).trans ((F6 _ _ _).trans ((ay Hr T.len).trans (F6 _ _ _).symm)),qn.symm▸?_,hd,T.mask,?_,?_⟩
 ·have at_:∀v∈t.place.toList.drop (below t.place (bo t.mask h n).j),(bo t.mask h n).j<v:=λv hv=>xE (qw.mp hv) λi hi=>
   have hi:=Pw.symm.trans hi
   wI (B.hi _ v (js.symm.trans hi) (b7 _ _)) λe=>hf (e▸bQ hi)
  have Lb:∀v∈t.place.toList.take (below t.place (bo t.mask h n).j),v< (bo t.mask h n).j:=λv hv=>xE (qw.mp hv) λi hi=>
   have hlt:=bK (cU.mp hi).1 (List.length_take_le _ _)
   B.lo i v (js.symm.trans ((aeu hlt).symm.trans hi)) hlt
  exact List.pairwise_append.mpr ⟨T.rise.sublist (Hs _ _),List.pairwise_cons.mpr ⟨at_,T.rise.sublist (List.drop_sublist _ _)⟩,λa ha b hb=>(dA.mp hb).elim (λe=>e▸Lb a ha) λhb=>i2 (Lb a ha) (at_ b hb)⟩
 ·intro p hp
  replace hp:p∈(t.put (bo t.mask h n).j).1.place.toList:=hp
  rw[qn] at hp;exact(BP.mp hp).elim (λe=>ah (bH e) (ah (b7 _ _) (Nh t.mask h n).2)) (T.le p)
 ·intro i h' hi
  show ∃n',(t.put _).1.place.toList[i]? =aa (bo t.mask h' n').j∧∀oA,oA<n'→(bo t.mask h' oA).j∈(t.put _).1.place.toList;rw[qn];have g:=Nr t.place.toList _ (bo t.mask h n).j bY i
  replace hi:=(Nr hs _ h hp i).symm.trans hi
  by_cases h1:i<below t.place (bo t.mask h n).j
  ·exact aj (T.path i h' ((aO h1).symm.trans hi)) λn' q1 q2=>⟨n',g.trans ((aO h1).trans q1),λoA hn=>BP.mpr (.inr (q2 oA hn))⟩
  ·replace hi:=(aK h1).symm.trans hi
   replace g:=g.trans (aK h1)
   by_cases h2:i=below t.place (bo t.mask h n).j
   ·exact aU ((aO h2).symm.trans hi)▸⟨n,g.trans (aO h2),λoA hn=>BP.mpr (.inr (hb oA hn))⟩
   ·exact aj (T.path (i-1) h' ((aK h2).symm.trans hi)) λn' q1 q2=>⟨n',g.trans ((aK h2).trans q1),λoA hn=>BP.mpr (.inr (q2 oA hn))⟩
structure mc (mask:Nat) (owner:Array (Option Nat)) (done:List Int):Prop where
 size:owner.size=mask+1
 at_:∀(j i:Nat),owner[j]? =aa (aa i)→∃h n,done[i]? =aa h∧(bo mask h n).j=j∧∀n',n'<n→∃i',owner[(bo mask h n').j]? =aa (aa i')
 all:∀(i:Nat),i<done.length→∃j:Nat,owner[j]? =aa (aa i)
 inj:∀(j j' i:Nat),owner[j]? =aa (aa i)→owner[j']? =aa (aa i)→j=j'
theorem mc.lt {mask:Nat} {owner:Array (Option Nat)} {done:List Int} (O:mc mask owner done) {j i:Nat} (h:owner[j]? =aa (aa i)):i<done.length:=eA (O.at_ j i h) λ_ _ e _=>(cU.mp e).1
theorem mc.abk {mask:Nat} {owner:Array (Option Nat)} {done:List Int} (O:mc mask owner done) (hk:done.length≤mask):∃q,q≤mask∧owner[q]? =aa af:=by
 refine C4 λhn=>?_;have all:∀q,q∈bq (mask+1)→∃i,owner[q]? =aa (aa i):=λq hq=>by
  have hq:=dQ.mp hq;have g:=jq (O.size.symm▸hq:q<owner.size)
  cases e:owner[q]'(O.size.symm▸hq) with
  |none=>exact bd ⟨q,eQ hq,e▸g⟩ hn
  |some i=>exact⟨i,e▸g⟩
 have f:∀{q i:Nat},owner[q]? =aa (aa i)→((owner[q]?).getD af).getD 0=i:=λe=>ay (λo:Option (Option Nat)=>(o.getD af).getD 0) e;have sub:=fO (l₁:=(bq (mask+1)).map λq=>((owner[q]?).getD af).getD 0) (l₂:=bq done.length)
  (wK.mpr (aew (λ{a b} ha hb hab e=>xE (all a ha) λi e1=>xE (all b hb) λi' e2=>dp hab (O.inj a b i e1 (((f e1).symm.trans (e.trans (f e2)))▸e2))) (aex (n:=mask+1))))
  λx hx=>aj (bD.mp hx) λq hq e=>xE (all q hq) λi e1=>e▸(f e1).symm▸dQ.mpr (O.lt e1)
 rw[aI,dR,dR] at sub;exact fo _ (bK sub hk)
theorem I8 {P:Nat→Prop} {a d:Nat} (h1:∀n,n<a→P n) (h2:∀x,x<d→P (a+x)) (n:Nat) (hn:n<a+d):P n:=
 if h:n<a then h1 n h else uj (oY h)▸h2 _ (Nat.sub_lt_left_of_lt_add (oY h) hn)
theorem TL {mask:Nat} {owner:Array (Option Nat)} {h:Int} (hsz:owner.size=mask+1) {C:Prop} (fuel:Nat):∀(r:Nat) {r':Nat},r≤r'→r'<r+fuel→owner[(dO mask h r').1]? =aa af→
  (∀n',n'<rs mask h r→∃i,owner[(bo mask h n').j]? =aa (aa i))→
  (∀n,layClean.free mask owner fuel (dO mask h r).1 (dO mask h r).2=aa (bo mask h n).j→owner[(bo mask h n).j]? =aa af→(∀n',n'<n→∃i,owner[(bo mask h n').j]? =aa (aa i))→C)→C:=by
 induction fuel with
 |zero=>exact λr r' h1 h2 _ _ _=>bd h2 (lW h1)
 |succ fuel ih=>
  intro r r' h1 h2 h3 hb k;have own:∀d,d≤rl mask h r→owner[(bo mask h (rs mask h r+d)).j]? =aa (owner.getD ((dO mask h r).1+d) (aa 0)):=λd hd=>by
   have hlt:(dO mask h r).1+d<owner.size:=hsz.symm▸kY (ah (eZ hd _) (Gc (eQ (FN mask h r))));rw[DO mask h r d hd,jq hlt];exact ay aa (dif_pos hlt).symm
  have el:runEnd mask (dO mask h r).1+1- (dO mask h r).1=rl mask h r+1:=Nat.succ_sub (Lu mask _);have taken:∀d,d≤rl mask h r→(!(owner.getD ((dO mask h r).1+d) (aa 0)).isNone)=ab→∃i,owner[(bo mask h (rs mask h r+d)).j]? =aa (aa i):=λd hd q=>by
   rw[own d hd]
   cases e:owner.getD ((dO mask h r).1+d) (aa 0) with
   |none=>rw[e] at q;exact cJ q
   |some i=>exact⟨i,rfl⟩
  have st:layClean.free mask owner (fuel+1) (dO mask h r).1 (dO mask h r).2=match (bq (rl mask h r+1)).find? λk=>(owner.getD ((dO mask h r).1+k) (aa 0)).isNone with
   |some k=>aa ((dO mask h r).1+k)
   |none=>layClean.free mask owner fuel (dO mask h (r+1)).1 (dO mask h (r+1)).2:=el▸rfl
  cases hf:(bq (rl mask h r+1)).find? (λk=>(owner.getD ((dO mask h r).1+k) (aa 0)).isNone) with
  |some d=>
   rw[hf] at st;refine jw (List.find?_range_eq_some.mp hf) λf1 f2 f3=>?_;have hd:=eQ (dQ.mp f2);exact k (rs mask h r+d) (st.trans (ay aa (DO mask h r d hd).symm)) ((own d hd).trans (ay aa (Option.isNone_iff_eq_none.mp f1))) (I8 hb λx hx=>taken x (ah (cj hx) hd) (f3 x hx))
  |none=>
   rw[hf] at st;have hn:∀d,d<rl mask h r+1→∃i,owner[(bo mask h (rs mask h r+d)).j]? =aa (aa i):=λd hd=>taken d (eQ hd) (List.find?_range_eq_none.mp hf d hd);refine ih (r+1) (wI h1 λe=>?_) (wH r fuel▸h2) h3 (I8 (a:=rs mask h r) (d:=rl mask h r+1) hb hn) λn a=>k n (st.trans a);exact xE (hn 0 (dJ _)) λi q=>nomatch (h3.symm.trans ((ay (λx:Nat=>owner[x]?) ((ay (λr=>(dO mask h r).1) e).symm.trans (DO mask h r 0 (cb _)).symm)).trans q):aa af=aa (aa i))
noncomputable def Ae (mask:Nat) (acc:Option (Array (Option Nat)×Nat)) (h:Int):Option (Array (Option Nat)×Nat):=do
 let(owner,k) ←acc
 let j ←layClean.free mask owner (turns mask) (bits h % (mask+1)) (bits h)
 pure (owner.setIfInBounds j (aa k),k+1)
theorem mc.step {mask:Nat} {owner:Array (Option Nat)} {done:List Int} {h:Int} {n:Nat} (O:mc mask owner done) (f2:owner[(bo mask h n).j]? =aa af) (f3:∀n',n'<n→∃i,owner[(bo mask h n').j]? =aa (aa i)):
  mc mask (owner.setIfInBounds (bo mask h n).j (aa done.length)) (done++[h]):=by
 have get:∀x,(owner.setIfInBounds (bo mask h n).j (aa done.length))[x]? =if(bo mask h n).j=x then aa (aa done.length) else owner[x]? :=λx=>
  Array.getElem?_setIfInBounds.trans (if e:(bo mask h n).j=x then(aO e).trans ((aO (e▸((nV.mp f2).1))).trans (aO e).symm) else(aK e).trans (aK e).symm)
 have sz:(owner.setIfInBounds (bo mask h n).j (aa done.length)).size=mask+1:=Array.size_setIfInBounds.trans O.size;generalize owner.setIfInBounds (bo mask h n).j (aa done.length)=o' at get sz ⊢;have mono:∀{x},(∃i,owner[x]? =aa (aa i))→∃i,o'[x]? =aa (aa i):=λ{x} q=>if e:(bo mask h n).j=x then⟨_,(get x).trans (aO e)⟩ else xE q λi q=>⟨i,(get x).trans ((aK e).trans q)⟩
 have inv:∀{x i},o'[x]? =aa (aa i)→((bo mask h n).j=x∧done.length=i)∨owner[x]? =aa (aa i):=λ{x i} q=>
  if e:(bo mask h n).j=x then .inl ⟨e,aU (aU ((aO e).symm.trans ((get x).symm.trans q)))⟩ else .inr ((aK e).symm.trans ((get x).symm.trans q))
 refine⟨sz,λj i e=>(inv e).elim (λq=>⟨h,n,q.2▸List.getElem?_concat_length,q.1,λn' hn=>mono (f3 n' hn)⟩) λq=>bC (O.at_ j i q) λh' n' e1 e2 e3=>⟨h',n',(C5 (cU.mp e1).1).trans e1,e2,λoA hn=>mono (e3 oA hn)⟩,
  λi hi=>?_,λj j' i e e'=>(inv e).elim (λq=>(inv e').elim (λq'=>q.1.symm.trans q'.1) λq'=>bd (O.lt q') (q.2▸fo _)) λq=>(inv e').elim (λq'=>bd (O.lt q) (q'.2▸fo _)) (O.inj j j' i q)⟩
 rw[cT] at hi;exact(zw (eQ hi)).elim (λz=>xE (O.all i z) λj e=>⟨j,(get j).trans ((aK λq=>nomatch (f2.symm.trans ((ay (λx:Nat=>owner[x]?) q).trans e):aa af=aa (aa i))).trans e)⟩) λz=>⟨_,(get _).trans ((aO rfl).trans (z▸rfl))⟩
theorem Q7 {mask:Nat} (hm:mask=7∨mask=31) (hs:List Int):∀{done:List Int} {owner:Array (Option Nat)},mc mask owner done→done.length+hs.length≤mask→
  ∃AU,hs.foldl (Ae mask) (aa (owner,done.length))=aa (AU,(done++hs).length)∧mc mask AU (done++hs):=by
 induction hs with
 |nil=>exact λ{done owner} O _=>⟨owner,by rw[gO _];rfl,by rw[gO _];exact O⟩
 |cons h hs ih=>
  intro done owner O hl;refine aj (O.abk (ah (b7 _ _) hl)) λq hq hf=>aj (Kk hm h hq) λr hr er=>?_;refine TL (h:=h) O.size (turns mask) 0 (cb r) ((mP _).symm▸hr) (er.symm▸hf) (λn' hn=>bd hn (mQ _)) λn f1 f2 f3=>?_;have step:Ae mask (aa (owner,done.length)) h=aa (owner.setIfInBounds (bo mask h n).j (aa done.length),(done++[h]).length):=
   (ay (λo:Option Nat=>o.bind λj=>aa (owner.setIfInBounds j (aa done.length),done.length+1)) f1).trans (by rw[cT];rfl)
  have z:=ih (O.step f2 f3) (by rw[cT];exact ah (bH (C6 _ _)) hl);rw[wL] at z;exact aj z λAU g1 g2=>⟨AU,(ay (hs.foldl (Ae mask)) step).trans g1,g2⟩
theorem mc.start (mask:Nat):mc mask (Py (mask+1) af) []:=by
 have:∀(j i:Nat),(Py (mask+1) (af:Option Nat))[j]? ≠aa (aa i):=λj i e=>by
  rw[Array.getElem?_replicate] at e
  split at e
  ·exact nomatch e
  ·exact a8 e
 exact⟨Array.size_replicate,λj i e=>bd e (this j i),λi hi=>bd hi (mQ i),λj j' i e=>bd e (this j i)⟩
theorem getD_some {owner:Array (Option Nat)} {j i:Nat}:owner.getD j af=aa i↔owner[j]? =aa (aa i):=by
 rw[Pz]
 cases owner[j]? with
 |none=>exact⟨λe=>a8 e,λe=>a8 e⟩
 |some o=>exact⟨ay aa,aU⟩
noncomputable def zo (mask:Nat) (owner:Array (Option Nat)):List (Nat×Nat):=(bq (mask+1)).filterMap λj=>(owner.getD j af).map (j,·)
noncomputable def F7 (mask finger moves:Nat) (led plain:Bool) (owner:Array (Option Nat)):c8×Array Nat:=({mask,place:=((zo mask owner).map mR).toArray,dummies:=#[],finger,led,moves,plain},((zo mask owner).map C7).toArray)
theorem So {mask:Nat} (hm:mask=7∨mask=31) (finger moves:Nat) (led plain:Bool) (hs:Array Int) (hl:hs.size≤mask):
  ∃t iU,laid mask finger moves led plain hs=aa (t,iU)∧t.mask=mask∧t.led=led∧iU.toList.Perm (bq hs.size)∧oU t (iU.toList.map λi=>hs.toList.getD i 0):=by
 refine aj (Q7 hm hs.toList (mc.start mask) ((mP _).symm▸hl)) λowner g1 O=>?_;rw[aey] at g1 O;have Ox:layClean mask hs=aa owner:=by
  show(hs.foldl (Ae mask) (aa (Py (mask+1) af,0))).map (·.1)=_;rw[←Array.foldl_toList];exact ay (oZ (·.1)) g1
 have el:laid mask finger moves led plain hs=aa (F7 mask finger moves led plain owner):=ay (λo:Option (Array (Option Nat))=>o.bind λowner=>aa (F7 mask finger moves led plain owner)) Ox;have fm:∀(p:Nat×Nat),p∈zo mask owner↔owner[p.1]? =aa (aa p.2):=λp=>
  gP.trans ⟨λq=>aj q λj _ e=>aj (C8.mp e) λi e1 e2=>e2▸getD_some.mp e1,λe=>⟨p.1,dQ.mpr (O.size▸(nV.mp e).1),ay (oZ (p.1,·)) (getD_some.mpr e)⟩⟩
 have pw:(zo mask owner).Pairwise (λa b=>a.1<b.1):=
  asz _ (λa a' haa b hb b' yC=>aj (C8.mp hb) λ_ _ e=>aj (C8.mp yC) λ_ _ e'=>e▸e'▸haa) (aex (n:=mask+1))
 unfold F7 at el;generalize zo mask owner=L at el fm pw;refine⟨_,_,el,rfl,rfl,(Ht ?_ Hq).mpr λi=>?_,⟨?_,wK.mpr pw,rfl,hm,λp hp=>?_,λi h hi=>?_⟩⟩
 ·exact wK.mpr (aew (λ{a b} ha hb hab e=>dp hab (O.inj a.1 b.1 a.2 ((fm a).mp ha) (e▸(fm b).mp hb))) pw)
 ·exact(bD.trans ⟨λq=>aj q λp hp e=>e▸O.lt ((fm p).mp hp),λhi=>xE (O.all i hi) λj e=>⟨(j,i),(fm (j,i)).mpr e,rfl⟩⟩).trans dQ.symm
 ·exact(aI _).trans ((aI _).trans (aI _)).symm
 ·exact aj (bD.mp hp) λq hq e=>e▸eQ (PA (nV.mp ((fm q).mp hq)).1 O.size)
 ·show ∃n,(L.map mR)[i]? =aa (bo mask h n).j∧∀n',n'<n→(bo mask h n').j∈L.map mR
  change ((L.map C7).map _)[i]? =aa h at hi;rw[o0,dq] at hi;rw[dq];refine aj (C8.mp hi) λp e hh=>bC (O.at_ _ _ ((fm p).mp (bQ e))) λh' n e1 e2 e3=>?_;have:h=h':=hh.symm.trans (o7.trans (ay (PB · 0) e1));exact this▸⟨n,(ay (oZ mR) e).trans (ay aa e2.symm),λn' hn=>xE (e3 n' hn) λi' q=>bD.mpr ⟨(_,i'),(fm (_,i')).mpr q,rfl⟩⟩
end
set_option genInjectivity true in
inductive Nm where
 |mk (k:Nat) (l:List Nat)
deriving DecidableEq
set_option genInjectivity true in
inductive SV where
 |none
 |bool (b:Bool)
 |int (i:Int)
 |str (s:Str)
 |tup (vs:List SV)
 |ref (n:Nm)
 |range (a b:Int)
 |glob (a:ax)
 |bi (id:String)
 |ty (n:String)
inductive cy where
 |list (vs:List SV)
 |dict (es:List (SV×SV))
 |set (vs:List SV)
 |inst (c:ax) (fs:List (Str×SV))
abbrev SH:=Nm→Option cy
abbrev SF:=List (Str×SV)
abbrev aW:=ax→Option Obj
abbrev Mu:=Nm→Option (ax×ax)
mutual
def VR (PR:aW) (μ:Mu):SV→Value→Prop
 |.none,v=>v=.none
 |.bool b,v=>v=.bool b
 |.int i,v=>∃t,v=.int i t
 |.str s,v=>∃t,v=.str s t
 |.tup vs,v=>∃a o items n,v=.ref a∧PR a=aa o∧o.cls=.type "tuple"∧o.data=.seq items n∧aY PR μ vs items.toList
 |.ref n,v=>∃ad,μ n=aa ad∧v=.ref ad.1
 |.range a b,v=>∃r t u w,v=.ref r∧PR r=aa {cls:=.type "range",data:=.fields #[.int a t,.int b u,.int 1 w]}
 |.glob a,v=>v=.ref a
 |.bi id,v=>v=.builtin id
 |.ty n,v=>v=.type n
def aY (PR:aW) (μ:Mu):List SV→List Value→Prop
 |[],l=>l=[]
 |v::vs,l=>∃x r,l=x::r∧VR PR μ v x∧aY PR μ vs r
end
def aW.le (P Q:aW):Prop:=∀a o,P a=aa o→Q a=aa o
def Mu.le (m n:Mu):Prop:=∀a o,m a=aa o→n a=aa o
def jR (o:Obj):Prop:=(o.cls=.type "tuple"∧∃items n,o.data=.seq items n)∨(o.cls=.type "range"∧∃vs,o.data=.fields vs)
theorem zf {o:Obj} {es n} (h:o.data=.dict es n):¬jR o:=λx=>x.elim (λz=>jX z.2 λ_ _ e=>nomatch h.symm.trans e) λz=>z.2.elim λ_ e=>nomatch h.symm.trans e
theorem BF {o:Obj} {v} (h:o.data=.cell v):¬jR o:=λx=>x.elim (λz=>jX z.2 λ_ _ e=>nomatch h.symm.trans e) λz=>z.2.elim λ_ e=>nomatch h.symm.trans e
theorem U8 {o o':Obj} (hc:o'.cls=o.cls) (hd:o'.data=o.data) (h:¬jR o):¬jR o':=λx=>h (x.imp (λz=>⟨hc.symm.trans z.1,jX z.2 λi n e=>⟨i,n,hd.symm.trans e⟩⟩) λz=>⟨hc.symm.trans z.1,z.2.elim λvs e=>⟨vs,hd.symm.trans e⟩⟩)
def aW.fZ (P Q:aW):Prop:=∀a o,P a=aa o→jR o→Q a=aa o
mutual
theorem VR.mono {P P':aW} {m m':Mu} (hP:P.fZ P') (hm:m.le m'):∀(x:SV) {v:Value},VR P m x v→VR P' m' x v
 |.none,_,h=>h
 |.bool _,_,h=>h
 |.int _,_,h=>h
 |.str _,_,h=>h
 |.tup vs,_,h=>by
  obtain⟨a,o,items,n,h1,h2,h3,h4,h5⟩:=h;exact⟨a,o,items,n,h1,hP _ _ h2 (.inl ⟨h3,_,_,h4⟩),h3,h4,aY.mono hP hm vs h5⟩
 |.ref _,_,h=>by refine aj h λad h1 h2=>?_;clear h;exact⟨ad,hm _ _ h1,h2⟩
 |.range _ _,_,h=>by refine od h λr t u w h1 h2=>?_;clear h;exact⟨r,t,u,w,h1,hP _ _ h2 (.inr ⟨rfl,_,rfl⟩)⟩
 |.glob _,_,h=>h
 |.bi _,_,h=>h
 |.ty _,_,h=>h
theorem aY.mono {P P':aW} {m m':Mu} (hP:P.fZ P') (hm:m.le m'):∀(x:List SV) {v:List Value},aY P m x v→aY P' m' x v
 |[],_,h=>h
 |x::xs,_,h=>by
  refine bC h λy r h1 h2 h3=>?_;clear h;exact⟨y,r,h1,VR.mono hP hm x h2,aY.mono hP hm xs h3⟩
end
theorem aW.le.t {P Q:aW} (h:P.le Q):P.fZ Q:=λa o h1 _=>h a o h1
theorem aW.le.rfl {P:aW}:P.le P:=λ_ _ h=>h
theorem Mu.le.rfl {P:Mu}:P.le P:=λ_ _ h=>h
theorem aW.le.trans {P Q R:aW} (h:P.le Q) (g:Q.le R):P.le R:=λa o x=>g a o (h a o x)
theorem Mu.le.trans {P Q R:Mu} (h:P.le Q) (g:Q.le R):P.le R:=λa o x=>g a o (h a o x)
theorem aY.length {P:aW} {m:Mu} {x:List SV}:∀{v:List Value},aY P m x v→x.length=v.length:=by
 induction x with
 |nil=>exact λh=>(ay nY (h:_=[])).symm
 |cons x xs ih=>exact λh=>bC h λy r z _ h3=>z▸ay (· +1) (ih h3)
theorem aY.get {P:aW} {m:Mu} {x:List SV}:∀{v:List Value} {i:Nat} {y:SV},aY P m x v→x[i]? =aa y→∃w,v[i]? =aa w∧VR P m y w:=by
 induction x with
 |nil=>exact λ_ e=>a8 e
 |cons x xs ih=>
  intro v i y h e;refine bC h λw r z h2 h3=>?_;subst z
  cases i with
  |zero=>exact⟨w,rfl,aU e▸h2⟩
  |succ i=>exact ih (i:=i) h3 e
theorem aY.app {P:aW} {m:Mu} {x:List SV}:∀{v:List Value} {x':List SV} {v':List Value},aY P m x v→aY P m x' v'→aY P m (x++x') (v++v'):=by
 induction x with
 |nil=>exact λh h'=>(h:_=[])▸h'
 |cons x xs ih=>exact λh h'=>bC h λw r z h2 h3=>⟨w,r++_,ay (· ++_) z,h2,ih h3 h'⟩
theorem aY.one {P:aW} {m:Mu} {x:SV} {v:Value} (h:VR P m x v):aY P m [x] [v]:=⟨v,[],rfl,h,rfl⟩
noncomputable def Jg (l:List Int):Int:=PC (C9 l)
mutual
noncomputable def bZ (w:cD):SV→Int
 |.int i=>hashInt i
 |.str s=>hashStr w s
 |.tup vs=>Jg (AH w vs)
 |_=>0
noncomputable def AH (w:cD):List SV→List Int
 |[]=>[]
 |v::vs=>bZ w v::AH w vs
end
mutual
noncomputable def SV.key:Nat→SV→Bool
 |_,.int _=>ab
 |_,.str _=>ab
 |n+1,.tup vs=>SV.keys n vs
 |_,_=>an
noncomputable def SV.keys:Nat→List SV→Bool
 |_,[]=>ab
 |n,v::vs=>SV.key n v && SV.keys n vs
end
structure Gl where
 prog:fq
 w:cD
 base:cO
 K:Frag
 mg:Str→Option Value
 mb:Str→Option Value
 os:OsState
 g:base.Ns uk mg
 b:base.Ns zy mb
 blt:∀x:Str,x≠"__name__"→mb x=Hu x
 nolimit:base.NoLimit
 fT:K.In base
 Bu:∃o,base.get? C_=aa o
def gL (w:cD) (P:aW) (m:Mu):List (SV×SV)→List dK→Prop
 |[],l=>l=[]
 |(k,v)::es,l=>∃e r,l=e::r∧e.hash=bZ w k∧VR P m k e.key∧VR P m v e.val∧gL w P m es r
theorem gL.mono {w:cD} {P P':aW} {m m':Mu} (hP:P.fZ P') (hm:m.le m') {x:List (SV×SV)}:∀{v:List dK},gL w P m x v→gL w P' m' x v:=by
 induction x with
 |nil=>exact id
 |cons p es ih=>exact λh=>tR h λe r h1 h2 h3 h4 h5=>⟨e,r,h1,h2,VR.mono hP hm _ h3,VR.mono hP hm _ h4,ih h5⟩
noncomputable def yA (es:Array dK) (n:Nat):Obj:={cls:=.type "dict",data:=.dict es n}
noncomputable def DY (xs:Array Value) (n:Nat):Obj:={cls:=.type "list",data:=.seq xs n}
noncomputable def gA (xs:Array (Int×Value)) (n:Nat) (t:c8):Obj:={cls:=.type "set",data:=.set xs n t}
noncomputable def Bq (c d:ax):Obj:={cls:=.ref c,dict:=aa d,data:=.plain}
def gl (P:aW) (m:Mu):List (Str×SV)→List dK→Prop
 |[],l=>l=[]
 |(x,v)::fs,l=>∃e r,l=e::r∧(∃t,e.key=.str x t)∧VR P m v e.val∧gl P m fs r
theorem gl.mono {P P':aW} {m m':Mu} (hP:P.fZ P') (hm:m.le m') {x:List (Str×SV)}:∀{v:List dK},gl P m x v→gl P' m' x v:=by
 induction x with
 |nil=>exact id
 |cons p es ih=>exact λh=>gC h λe r h1 h2 h3 h4=>⟨e,r,h1,h2,VR.mono hP hm _ h3,ih h4⟩
def cq (w:cD) (P:aW) (m:Mu):List SV→List (Int×Value)→Prop
 |[],l=>l=[]
 |v::vs,l=>∃e r,l=e::r∧e.1=bZ w v∧VR P m v e.2∧cq w P m vs r
theorem cq.mono {w:cD} {P P':aW} {m m':Mu} (hP:P.fZ P') (hm:m.le m') {x:List SV}:∀{v:List (Int×Value)},cq w P m x v→cq w P' m' x v:=by
 induction x with
 |nil=>exact id
 |cons v vs ih=>exact λh=>gC h λe r h1 h2 h3 h4=>⟨e,r,h1,h2,VR.mono hP hm _ h3,ih h4⟩
noncomputable def zS:SV→Bool
 |.int _=>ab
 |.str _=>ab
 |_=>an
noncomputable def fc:SV→Bool
 |.tup vs=>vs.all zS
 |_=>an
def OR (w:cD) (P:aW) (m:Mu) (h:cO) (ad:ax×ax):cy→Prop
 |.list vs=>ad.2=ad.1∧∃xs n,h.get? ad.1=aa (DY xs n)∧aY P m vs xs.toList
 |.dict es=>ad.2=ad.1∧∃xs,h.get? ad.1=aa (yA xs es.length)∧gL w P m es xs.toList∧(es.map (·.1)).Nodup∧∀k∈es.map (·.1),SV.key 6 k=ab
 |.set vs=>ad.2=ad.1∧∃es n t,h.get? ad.1=aa (gA es n t)∧gb t (es.toList.map (·.1))∧cq w P m vs es.toList∧vs.Nodup∧(∀v∈vs,fc v=ab)∧t.led=!(w.params.followText "set-order")
 |.inst c fs=>ad.2≠ad.1∧h.get? ad.1=aa (Bq c ad.2)∧∃xs n,h.get? ad.2=aa (ul xs n)∧gl P m fs xs
theorem OR.mono {w:cD} {P P':aW} {m m':Mu} {h h':cO} {ad:ax×ax} (hP:P.fZ P') (hm:m.le m')
  (hk:∀o,h.get? ad.1=aa o→h'.get? ad.1=aa o) (dX:∀o,h.get? ad.2=aa o→h'.get? ad.2=aa o):
  ∀{x:cy},OR w P m h ad x→OR w P' m' h' ad x:=λ{x} r=>by
 cases x with
 |list vs=>exact⟨r.1,eA r.2 λxs n h1 h2=>⟨xs,n,hk _ h1,aY.mono hP hm _ h2⟩⟩
 |dict es=>exact⟨r.1,bM r.2 λxs h1 h2 h3=>⟨xs,hk _ h1,gL.mono hP hm h2,h3⟩⟩
 |set vs=>exact⟨r.1,th r.2 λes n t z=>⟨es,n,t,hk _ z.1,z.2.1,cq.mono hP hm z.2.2.1,z.2.2.2⟩⟩
 |inst c fs=>exact⟨r.1,hk _ r.2.1,eA r.2.2 λxs n h2 h3=>⟨xs,n,dX _ h2,gl.mono hP hm h3⟩⟩
structure FD where
 sc:cu
 st:List Str
 q:Bool
structure FrR (F:FD) (own:List ax) (ae:Env) (P:aW) (m:Mu) (fr:SF) (h:cO):Prop where
 sc:ae.scope=F.sc
 kind:F.sc.kind=.function
 glob:ae.globals=uk
 blt:ae.builtins=zy
 q8:ae.locals∈own
 ns:∃mm,h.Ns ae.locals mm∧∀x v,fr.lookup x=aa v→F.sc.names.lookup x=aa .local→∃v',mm x=aa v'∧VR P m v v'
 l9:∀x v,fr.lookup x=aa v→(F.sc.names.lookup x=aa .cell∨F.sc.names.lookup x=aa .free)→
  ∃c v',ae.cells.lookup x=aa c∧VR P m v v'∧((c∈own∧c≠ae.locals∧h.IsCell c (aa v'))∨∃o,P c=aa o∧o.data=.cell (aa v'))
 qX:∀x,(F.sc.names.lookup x=aa .cell∨F.sc.names.lookup x=aa .free)→∃c,ae.cells.lookup x=aa c∧((c∈own∧∃v,h.IsCell c v)∨∃o v,P c=aa o∧o.data=.cell v)
 ug:∀x∈F.st,F.sc.names.lookup x=aa .cell∧∃c v,ae.cells.lookup x=aa c∧c∈own∧c≠ae.locals∧h.IsCell c v
 apart:∀x y c,x∈F.st→ae.cells.lookup x=aa c→ae.cells.lookup y=aa c→x=y
 mq:∀a∈own,∃o,h.get? a=aa o∧¬jR o
structure Rel (G:Gl) (F:FD) (b:Nat) (own:List ax) (ae:Env) (A:dP) (P:aW) (m:Mu) (fr:SF) (h:SH) (s:ak):Prop where
 gens:s.gens=#[]
 os:s.os=G.os
 bs:∀a o,G.base.get? a=aa o→s.heap.get? a=aa o
 basePR:∀a o,G.base.get? a=aa o→P a=aa o
 frs:∃l,A.frames=aa l∧s.heap.FunFrames G.base l∧(∃e0 l',l=e0::l'∧e0.frame=ae.frame)∧
  (∀a∈l.filterMap (·.frame),a∈own∨∃o,P a=aa o)∧
  ∀a o,P a=aa o→∃sl,s.heap.get? a=aa {o with slots:=sl}∧(a∉l.filterMap (·.frame)→sl=o.slots)
 obj:∀n so,h n=aa so→∃ad,m n=aa ad∧OR G.w P m s.heap ad so
 dom:∀n,h n=af→m n=af
 inj:∀n n' ad bg,m n=aa ad→m n'=aa bg→n≠n'→ad.1≠bg.1∧ad.1≠bg.2∧ad.2≠bg.1∧ad.2≠bg.2
 sep:∀n ad,m n=aa ad→P ad.1=af∧P ad.2=af∧ad.1∉own∧ad.2∉own
 ownP:∀a∈own,P a=af
 f:FrR F own ae P m fr s.heap
 depth:A.depth+b<Hv
 units:A.units+8*b+8<ew
 guards:A.guards=aa []
 quiet:F.q=ab→A.handled=af
theorem Ip (o:Obj) (sl) (h:sl=o.slots):({o with slots:=sl}:Obj)=o:=h▸rfl
variable{G:Gl} {F:FD} {b:Nat} {own:List ax} {ae:Env} {A:dP} {P:aW} {m:Mu} {fr:SF} {h:SH} {s:ak}
theorem Rel.oh (R:Rel G F b own ae A P m fr h s) {a:ax} {o:Obj} (e:P a=aa o):∃sl,s.heap.get? a=aa {o with slots:=sl}:=jA R.frs λ_ _ _ _ _ h5=>aj (h5 a o e) λsl h6 _=>⟨sl,h6⟩
theorem Rel.rn (R:Rel G F b own ae A P m fr h s) {a:ax} {o:Obj} (e:P a=aa o):∃o',s.heap.get? a=aa o'∧o'.cls=o.cls∧o'.data=o.data:=(R.oh e).elim λsl h6=>⟨_,h6,rfl,rfl⟩
theorem Rel.tok (R:Rel G F b own ae A P m fr h s) (t:Nat):Rel G F b own ae A P m fr h {s with toks:=t}:=
 ⟨R.gens,R.os,R.bs,R.basePR,R.frs,R.obj,R.dom,R.inj,R.sep,R.ownP,R.f,R.depth,R.units,R.guards,R.quiet⟩
theorem FrR.keep {P':aW} {m':Mu} {hp bY:cO} (X:FrR F own ae P m fr hp) (hP:P.le P') (hm:m.le m') (hk:∀a∈own,∀o,hp.get? a=aa o→∃o',bY.get? a=aa o'∧o'.cls=o.cls∧o'.data=o.data):
  FrR F own ae P' m' fr bY:=by
 have cl:∀{c v},c∈own→hp.IsCell c v→bY.IsCell c v:=λ{c v} hc q=>aj q λo q6 q7=>bM (hk _ hc o q6) λo' e1 _ e2=>⟨o',e1,e2.trans q7⟩;exact⟨X.sc,X.kind,X.glob,X.blt,X.q8,aj X.ns λmm z h4=>z.elim λo z=>jX z λes ep z=>bM (hk _ X.q8 o z.1) λo' e1 _ e2=>⟨mm,⟨o',es,ep,e1,e2.trans z.2.1,z.2.2⟩,λx v hx hl=>aj (h4 x v hx hl) λv' q1 q2=>⟨v',q1,q2.mono hP.t hm⟩⟩,
  λx v hx hl=>bC (X.l9 x v hx hl) λc v' q1 q2 q3=>⟨c,v',q1,q2.mono hP.t hm,q3.imp (λq=>⟨q.1,q.2.1,cl q.1 q.2.2⟩) λq=>aj q λo q6 q7=>⟨o,hP _ _ q6,q7⟩⟩,
  λx hx=>aj (X.qX x hx) λc q1 q2=>⟨c,q1,q2.imp (λq=>⟨q.1,q.2.imp λv=>cl q.1⟩) λq=>eA q λo v q2 q3=>⟨o,v,hP _ _ q2,q3⟩⟩,
  λx hx=>ww (X.ug x hx) λq0 c v q1 q2 q3 q4=>⟨q0,c,v,q1,q2,q3,cl q2 q4⟩,X.apart,λa ha=>aj (X.mq a ha) λo e1 e2=>bM (hk a ha o e1) λo' f1 f0 f2=>⟨o',f1,U8 f0 f2 e2⟩⟩
theorem Rel.grow (R:Rel G F b own ae A P m fr h s) {s':ak} (hk:∀a o,s.heap.get? a=aa o→s'.heap.get? a=aa o) (hg:s'.gens=s.gens) (ho:s'.os=s.os):
  Rel G F b own ae A P m fr h s':=
 ⟨hg.trans R.gens,ho.trans R.os,λa o e=>hk _ _ (R.bs a o e),R.basePR,jA R.frs λl h1 h2 h3 h4 h5=>⟨l,h1,h2.of_keeps λb o e _=>⟨o,hk _ _ e,rfl⟩,h3,h4,λa o e=>aj (h5 a o e) λsl q1 q2=>⟨sl,hk _ _ q1,q2⟩⟩,
  λn so e=>aj (R.obj n so e) λad q1 q2=>⟨ad,q1,q2.mono aW.le.rfl.t Mu.le.rfl (λo=>hk _ o) λo=>hk _ o⟩,R.dom,R.inj,R.sep,R.ownP,R.f.keep .rfl .rfl λa _ o e=>⟨o,hk _ _ e,rfl,rfl⟩,R.depth,R.units,R.guards,R.quiet⟩
theorem Rel.Jl (R:Rel G F b own ae A P m fr h s) {a:ax} {o:Obj} (ha:s.heap.get? a=aa o) (hP:P a=af) (hm:∀n ad,m n=aa ad→a≠ad.1∧a≠ad.2) (tK:a∉own) (ajb:G.base.get? a=af):
  Rel G F b own ae A (λx=>if x=a then aa o else P x) m fr h s∧P.le (λx=>if x=a then aa o else P x):=by
 have le:P.le (λx=>if x=a then aa o else P x):=λx o' e=>(aK λz=>a8 (hP.symm.trans (z▸e))).trans e;exact⟨⟨R.gens,R.os,R.bs,λx o' e=>le _ _ (R.basePR x o' e),jA R.frs λl h1 h2 h3 h4 h5=>⟨l,h1,h2,h3,λx hx=>(h4 x hx).imp id λq=>q.elim λo' q=>⟨o',le _ _ q⟩,
   λx o' e=>if hx:x=a then⟨o'.slots,(ay s.heap.get? hx).trans (ha.trans ((aO hx).symm.trans e)),λ_=>rfl⟩ else h5 x o' ((aK hx).symm.trans e)⟩,
  λn so e=>aj (R.obj n so e) λad q1 q2=>⟨ad,q1,q2.mono le.t .rfl (λ_ x=>x) λ_ x=>x⟩,R.dom,R.inj,λn ad e=>have q:=R.sep n ad e;have p:=hm n ad e;⟨(aK p.1.symm).trans q.1,(aK p.2.symm).trans q.2.1,q.2.2⟩,
  λx hx=>(aK λe:x=a=>tK (e▸hx)).trans (R.ownP x hx),R.f.keep le .rfl λa _ o e=>⟨o,e,rfl,rfl⟩,R.depth,R.units,R.guards,R.quiet⟩,le⟩
section
structure An (base:cO) (h:cO) (P:aW) (m:Mu) (own:List ax) (e:ax) (x:String):Prop where
 obj:∃oe vs,h.get? e=aa oe∧oe.cls=.type x∧oe.data=.fields vs∧vs[1]? =aa .none
 base:base.get? e=af
 oh:P e=af
 mu:∀n ad,m n=aa ad→e≠ad.1∧e≠ad.2
 own:e∉own
abbrev QV:=SV→SH→Prop
abbrev QX:=String→SH→Prop
noncomputable def lz:QX:=λ_ _=>False
section
variable(G:Gl) (F:FD) (b:Nat) (fr:SF) (h:SH)
def iK (own:List ax) (ae:Env) (A:dP) (P:aW) (m:Mu) (fr:SF) (X:QX) (E':Value→ak→Prop):Prop:=
 ∀x h' e s' P' m',X x h'→P.le P'→m.le m'→An G.base s'.heap P' m' own e x→Rel G F b own ae A P' m' fr h' s'→E' (.ref e) s'
def m5 (own:List ax) (ae:Env) (A:dP) (P:aW) (m:Mu) (Q:QV) (Q':Value→ak→Prop):Prop:=
 ∀v h' v' s' P' m',Q v h'→P.le P'→m.le m'→VR P' m' v v'→Rel G F b own ae A P' m' fr h' s'→Q' v' s'
structure WV (t:Env→Sem Value) (Q:QV) (X:QX):Prop where
 run:∀own ae A P m s (Q':Value→ak→Prop) (E':Value→ak→Prop),Rel G F b own ae A P m fr h s→
  m5 G F b fr own ae A P m Q Q'→iK G F b own ae A P m fr X E'→aw (aQ G.prog G.w) A (t ae) Q' E' s
def WE (e:Expr) (Q:QV) (X:QX):Prop:=WV G F b fr h (d8 e) Q X
structure WO (vs:List SV) (t:List Value→Sem Value) (Q:QV) (X:QX):Prop where
 run:∀own ae A P m s (Q':Value→ak→Prop) (E':Value→ak→Prop) a6,Rel G F b own ae A P m fr h s→aY P m vs a6→
  m5 G F b fr own ae A P m Q Q'→iK G F b own ae A P m fr X E'→aw (aQ G.prog G.w) A (t a6) Q' E' s
structure WB (e:Expr) (Q:Bool→SH→Prop) (X:QX):Prop where
 run:∀own ae A P m s (Q':Bool→ak→Prop) (E':Value→ak→Prop),Rel G F b own ae A P m fr h s→
  (∀v h' s' P' m',Q v h'→P.le P'→m.le m'→Rel G F b own ae A P' m' fr h' s'→Q' v s')→iK G F b own ae A P m fr X E'→
  aw (aQ G.prog G.w) A (isTrue e ae (d8 e ae)) Q' E' s
structure WT (v:SV) (Q:Bool→SH→Prop) (X:QX):Prop where
 run:∀own ae A P m s (Q':Bool→ak→Prop) (E':Value→ak→Prop) v',Rel G F b own ae A P m fr h s→VR P m v v'→
  (∀c h' s' P' m',Q c h'→P.le P'→m.le m'→Rel G F b own ae A P' m' fr h' s'→Q' c s')→iK G F b own ae A P m fr X E'→
  aw (aQ G.prog G.w) A (zz v') Q' E' s
inductive tX where
 |next|brk|cont
 |ret (v:SV)
def Uy (P:aW) (m:Mu):tX→Flow→Prop
 |.next,f=>f=.next
 |.brk,f=>f=.brk
 |.cont,f=>f=.cont
 |.ret v,f=>∃v',f=.ret v'∧VR P m v v'
abbrev QS:=tX→SF→SH→Prop
abbrev d0:=String→SF→SH→Prop
def A5 (own:List ax) (ae:Env) (A:dP) (P:aW) (m:Mu) (Q:QS) (Q':Flow→ak→Prop):Prop:=
 ∀f fr' h' f' s' P' m',Q f fr' h'→P.le P'→m.le m'→Uy P' m' f f'→Rel G F b own ae A P' m' fr' h' s'→Q' f' s'
def pN (own:List ax) (ae:Env) (A:dP) (P:aW) (m:Mu) (X:d0) (E':Value→ak→Prop):Prop:=
 ∀x fr' h' e s' P' m',X x fr' h'→P.le P'→m.le m'→An G.base s'.heap P' m' own e x→Rel G F b own ae A P' m' fr' h' s'→E' (.ref e) s'
structure iY (t:Env→Sem Flow) (Q:QS) (X:d0):Prop where
 run:∀own ae A P m s (Q':Flow→ak→Prop) (E':Value→ak→Prop),Rel G F b own ae A P m fr h s→
  A5 G F b own ae A P m Q Q'→pN G F b own ae A P m X E'→aw (aQ G.prog G.w) A (t ae) Q' E' s
def WS (st:bI) (Q:QS) (X:d0):Prop:=iY G F b fr h (exec st) Q X
def jN (st:List bI) (Q:QS) (X:d0):Prop:=iY G F b fr h (execs st) Q X
end
variable{P':aW} {m':Mu}
theorem m5.mono {Q:QV} {Q':Value→ak→Prop} (c:m5 G F b fr own ae A P m Q Q') (hP:P.le P') (hm:m.le m'):m5 G F b fr own ae A P' m' Q Q':=
 λv h' v' s' cE cw hq h1 h2=>c v h' v' s' cE cw hq (hP.trans h1) (hm.trans h2)
theorem iK.mono {X:QX} {E':Value→ak→Prop} (c:iK G F b own ae A P m fr X E') (hP:P.le P') (hm:m.le m'):iK G F b own ae A P' m' fr X E':=
 λx h' e s' cE cw hq h1 h2=>c x h' e s' cE cw hq (hP.trans h1) (hm.trans h2)
theorem A5.mono {Q:QS} {Q':Flow→ak→Prop} (c:A5 G F b own ae A P m Q Q') (hP:P.le P') (hm:m.le m'):A5 G F b own ae A P' m' Q Q':=
 λf fr' h' v' s' cE cw hq h1 h2=>c f fr' h' v' s' cE cw hq (hP.trans h1) (hm.trans h2)
theorem pN.mono {X:d0} {E':Value→ak→Prop} (c:pN G F b own ae A P m X E') (hP:P.le P') (hm:m.le m'):pN G F b own ae A P' m' X E':=
 λx fr' h' e s' cE cw hq h1 h2=>c x fr' h' e s' cE cw hq (hP.trans h1) (hm.trans h2)
theorem pN.jW {X:d0} {E':Value→ak→Prop} (c:pN G F b own ae A P m X E'):iK G F b own ae A P m fr (λx h=>X x fr h) E':=
 λx h' e s' cE cw hq h1 h2=>c x fr h' e s' cE cw hq h1 h2
theorem m5.here {Q:QV} {Q':Value→ak→Prop} (c:m5 G F b fr own ae A P m Q Q') {v:SV} {v':Value} (hq:Q v h) (hv:VR P m v v') (R:Rel G F b own ae A P m fr h s):Q' v' s:=
 c v h v' s P m hq .rfl .rfl hv R
theorem WV.imp {t:Env→Sem Value} {Q pD:QV} {X yu:QX} (w:WV G F b fr h t Q X) (hQ:∀v h,Q v h→pD v h) (hX:∀x h,X x h→yu x h):WV G F b fr h t pD yu:=
 .mk λown ae A P m s Q' E' R c d=>w.run own ae A P m s Q' E' R (λv h' v' s' P' m' q=>c v h' v' s' P' m' (hQ _ _ q)) (λx h' e s' P' m' q=>d x h' e s' P' m' (hX _ _ q))
theorem iY.imp {t:Env→Sem Flow} {Q pD:QS} {X yu:d0} (w:iY G F b fr h t Q X) (hQ:∀f fr h,Q f fr h→pD f fr h) (hX:∀x fr h,X x fr h→yu x fr h):iY G F b fr h t pD yu:=
 .mk λown ae A P m s Q' E' R c d=>w.run own ae A P m s Q' E' R (λf fr' h' v' s' P' m' q=>c f fr' h' v' s' P' m' (hQ _ _ _ q)) (λx fr' h' e s' P' m' q=>d x fr' h' e s' P' m' (hX _ _ _ q))
theorem Rel.zj (R:Rel G F b own ae A P m fr h s):s.heap.Ns ae.globals G.mg:=by rw[R.f.glob];exact G.g.keeps R.bs
theorem Rel.IK (R:Rel G F b own ae A P m fr h s):s.heap.Ns ae.builtins G.mb:=by rw[R.f.blt];exact G.b.keeps R.bs
noncomputable def t7 (F:FD) (x:Str):Bool:=match F.sc.names.lookup x with
 |some .local=>ab
 |some .cell=>ab
 |some .free=>x !=("__classdict__":Str)
 |_=>an
theorem MP {x:Str} {v:SV} {Q':Value→ak→Prop} {E':Value→ak→Prop} (R:Rel G F b own ae A P m fr h s) (hx:fr.lookup x=aa v) (hk:t7 F x=ab) (hq:∀v',VR P m v v'→Q' v' s):
  aw (aQ G.prog G.w) A (loadName ae x) Q' E' s:=by
 have rd:ae.scope.kind=.function:=by rw[R.f.sc];exact R.f.kind
 unfold t7 at hk
 cases hl:F.sc.names.lookup x with
 |none=>rw[hl] at hk;exact cJ hk
 |some k=>
  rw[hl] at hk;have jV:ae.kindOf x=aa k:=by unfold PD;rw[R.f.sc];exact hl
  have free:∀{ce},(F.sc.names.lookup x=aa .cell∨F.sc.names.lookup x=aa .free)→ae.cells.lookup x=aa ce→∃v',s.heap.IsCell ce (aa v')∧VR P m v v':=by
   intro ce dX hc;refine bC (R.f.l9 x v hx dX) λc' v' q1 q2 q3=>?_;obtain rfl:c'=ce:=aU (q1.symm.trans hc);refine(aT v' ?_ q2);rcases q3 with⟨_,_,q⟩|⟨o,q5,q6⟩
   ·exact q
   ·refine xE (R.oh q5) λsl q7=>?_
    exact⟨_,q7,q6⟩
  cases k with
  |«local»=>
   obtain⟨mm,q1,q2⟩:=R.f.ns;refine aj (q2 x v hx hl) λv' q3 q4=>?_;exact wpAny_loadName_local rd jV q1 q3 (hq _ q4)
  |cell=>
   refine bC (R.f.l9 x v hx (.inl hl)) λce v' q1 q2 q3=>?_;refine aj (free (.inl hl) q1) λVj q4 q5=>?_;exact wpAny_loadName_cell rd jV q1 q4 (hq _ q5)
  |free=>
   refine bC (R.f.l9 x v hx (.inr hl)) λce v' q1 q2 q3=>?_;refine aj (free (.inr hl) q1) λVj q4 q5=>?_;exact wpAny_loadName_free rd jV q1 q4 (hq _ q5) (by simpa using hk)
  |_=>simp at hk
theorem Nn {x:Str} {pos:Pos} {v:SV} {Q:QV} {X:QX} (hx:fr.lookup x=aa v) (hk:t7 F x=ab) (hd:(x==("__debug__":Str))=an) (hq:Q v h):
  WE G F b fr h (.Name x pos) Q X:=
 .mk λown ae A P m s Q' E' R c d=>wpAny_Name (MP R hx hk λv' hv=>c.here hq hv R) hd
theorem DT {M:i0} {t:Sem Unit} {Q:Value→ak→Prop} {E:Value→ak→Prop} (w:aw M A (do t;pure eG) Q E s):aw M A t (λ_=>Q .none) E s:=λΓ p Cb=>by
 have:=w Γ p Cb;rw[Sem.wp_bind'] at this;exact Sem.wp_mono _ Γ _ (λ_ _ _ x=>x) (λ_ _ _ x=>x) _ _ this
inductive ji (G:Gl) (x:Str):SV→Prop
 |ref {a:ax}:G.mg x=aa (.ref a)→ji G x (.glob a)
 |str {t:Str} {k:Tok}:G.mg x=aa (.str t k)→ji G x (.str t)
 |int {t:Int} {k:Tok}:G.mg x=aa (.int t k)→ji G x (.int t)
 |bi {id:String}:G.mg x=af→G.mb x=aa (.builtin id)→ji G x (.bi id)
 |ty {id:String}:G.mg x=af→G.mb x=aa (.type id)→ji G x (.ty id)
theorem Fu {x:Str} {pos:Pos} {v:SV} {Q:QV} {X:QX} (hg:ji G x v) (hk:F.sc.names.lookup x=aa .globalImplicit) (hd:(x==("__debug__":Str))=an) (hq:Q v h):
  WE G F b fr h (.Name x pos) Q X:=by
 refine .mk ?_;intro own ae A P m s Q' E' R c d;refine wpAny_Name ?_ hd;have rd:ae.scope.kind=.function:=by rw[R.f.sc];exact R.f.kind
 rw[as0 rd (by unfold PD;rw[R.f.sc];exact hk)]
 cases hg with
 |ref e=>exact PE R.zj e (c.here hq rfl R)
 |str e=>exact PE R.zj e (c.here hq ⟨_,rfl⟩ R)
 |int e=>exact PE R.zj e (c.here hq ⟨_,rfl⟩ R)
 |bi e1 e2=>exact aez R.zj e1 R.IK e2 (c.here hq rfl R)
 |ty e1 e2=>exact aez R.zj e1 R.IK e2 (c.here hq rfl R)
theorem const_int {i:Int} {k:Nat} {pos:Pos} {Q:QV} {X:QX} (hq:Q (.int i) h):WE G F b fr h (.Constant (.int i) k pos) Q X:=
 .mk λown ae A P m s Q' E' R c d=>wpAny_Constant_int (c _ _ _ _ _ _ hq .rfl .rfl ⟨_,rfl⟩ (R.tok _))
theorem MC {i:Str} {k:Nat} {pos:Pos} {Q:QV} {X:QX} (hq:Q (.str i) h):WE G F b fr h (.Constant (.str i) k pos) Q X:=
 .mk λown ae A P m s Q' E' R c d=>wpAny_Constant_str (c _ _ _ _ _ _ hq .rfl .rfl ⟨_,rfl⟩ (R.tok _))
theorem Up {i:Bool} {k:Nat} {pos:Pos} {Q:QV} {X:QX} (hq:Q (.bool i) h):WE G F b fr h (.Constant (.bool i) k pos) Q X:=
 .mk λown ae A P m s Q' E' R c d=>wpAny_Constant_bool (c _ _ _ _ _ _ hq .rfl .rfl rfl R)
theorem const_none {k:Nat} {pos:Pos} {Q:QV} {X:QX} (hq:Q .none h):WE G F b fr h (.Constant .none k pos) Q X:=
 .mk λown ae A P m s Q' E' R c d=>wpAny_Constant_none (c _ _ _ _ _ _ hq .rfl .rfl rfl R)
noncomputable def bx (f:Value→Value→Sem Value):List Value→Sem Value
 |[a,b]=>f a b
 |_=>Db "op2"
noncomputable def mF (f:Value→Sem Value):List Value→Sem Value
 |[a]=>f a
 |_=>Db "op1"
noncomputable def FZ (f:Value→Value→Value→Sem Value):List Value→Sem Value
 |[a,b,c]=>f a b c
 |_=>Db "op3"
theorem WV.two {l r:Env→Sem Value} {f:Value→Value→Sem Value} {Q:QV} {X:QX}
  (w:WV G F b fr h l (λv ag=>WV G F b fr ag r (λu aC=>WO G F b fr aC [v,u] (bx f) Q X) X) X):
  ∀own ae A P m s (Q':Value→ak→Prop) (E':Value→ak→Prop),Rel G F b own ae A P m fr h s→
  m5 G F b fr own ae A P m Q Q'→iK G F b own ae A P m fr X E'→
  aw (aQ G.prog G.w) A (l ae) (λx a5=>aw (aQ G.prog G.w) A (r ae) (λy bz=>aw (aQ G.prog G.w) A (f x y) Q' E' bz) E' a5) E' s:=by
 intro own ae A P m s Q' E' R c d;refine w.run own ae A P m s _ _ R (λv ag v' a5 bW bV hq hP hm hv a7=>?_) d;refine hq.run own ae A bW bV a5 _ _ a7 (λu aC u' bz cE cw g0 cQ cK hu bm=>?_) (d.mono hP hm);exact g0.run own ae A cE cw bz Q' E' [v',u'] bm ⟨_,_,rfl,hv.mono cQ.t cK,_,_,rfl,hu,rfl⟩ (c.mono (hP.trans cQ) (hm.trans cK)) (d.mono (hP.trans cQ) (hm.trans cK))
theorem NG {l r:Expr} {op:wM} {pos:Pos} {Q:QV} {X:QX}
  (w:WE G F b fr h l (λv ag=>WE G F b fr ag r (λu aC=>WO G F b fr aC [v,u] (bx (mS op)) Q X) X) X):WE G F b fr h (.BinOp l op r pos) Q X:=
 .mk λown ae A P m s Q' E' R c d=>wpAny_BinOp (WV.two w own ae A P m s Q' E' R c d)
theorem AQ {l r:Expr} {op:CmpOp} {pos:Pos} {Q:QV} {X:QX} (hm:Dc op r=an)
  (w:WE G F b fr h l (λv ag=>WE G F b fr ag r (λu aC=>WO G F b fr aC [v,u] (bx (cZ op)) Q X) X) X):WE G F b fr h (.Compare l [op] [r] pos) Q X:=
 .mk λown ae A P m s Q' E' R c d=>wpAny_Compare1 (WV.two w own ae A P m s Q' E' R c d) hm
end
noncomputable def SH.set (h:SH) (n:Nm) (o:cy):SH:=λx=>if x=n then aa o else h x
noncomputable def Mu.set (m:Mu) (n:Nm) (ad:ax×ax):Mu:=λx=>if x=n then aa ad else m x
noncomputable def aW.set (P:aW) (a:ax) (o:Obj):aW:=λx=>if x=a then aa o else P x
theorem OR.lU {w:cD} {P:aW} {m:Mu} {h:cO} {ad:ax×ax} {so:cy} (r:OR w P m h ad so):∃o,h.get? ad.1=aa o:=by
 cases so with
 |list vs=>exact eA r.2 λxs n h1 _=>⟨_,h1⟩
 |dict es=>exact bM r.2 λxs h1 _ _=>⟨_,h1⟩
 |set vs=>exact th r.2 λes n t z=>⟨_,z.1⟩
 |inst c fs=>exact⟨_,r.2.1⟩
theorem OR.at2 {w:cD} {P:aW} {m:Mu} {h:cO} {ad:ax×ax} {so:cy} (r:OR w P m h ad so):∃o,h.get? ad.2=aa o:=by
 cases so with
 |inst c fs=>exact eA r.2.2 λxs n h1 _=>⟨_,h1⟩
 |_=>exact r.1.symm▸r.lU
theorem OR.lt {w:cD} {P:aW} {m:Mu} {h:cO} {ad:ax×ax} {so:cy} (r:OR w P m h ad so):ad.1<h.objs.size∧ad.2<h.objs.size:=⟨r.lU.elim λ_=>jF,r.at2.elim λ_=>jF⟩
theorem adv {h h' base:cO} (k:∀b o,h.get? b=aa o→(∀vs,o.data≠.fields vs)→∃o',h'.get? b=aa o'∧∀vs,o'.data≠.fields vs) {l:List Env}:h.FunFrames base l→h'.FunFrames base l:=by
 induction l with
 |nil=>exact id
 |cons e r ih=>exact λx=>⟨x.1,gC x.2.1 λL o f2 f3 f4 f5=>aj (k L o f4 f5) λo' q1 q2=>⟨L,o',f2,f3,q1,q2⟩,ih x.2.2⟩
theorem KJ {hp bY base:cO} {p:ax→Prop} {l:List Env} (h2:hp.FunFrames base l) (h4:∀a∈l.filterMap (·.frame),p a) (hk:∀a,p a→∀o,hp.get? a=aa o→bY.get? a=aa o):bY.FunFrames base l:=by
 induction l with
 |nil=>exact trivial
 |cons e0 r ih=>exact⟨h2.1,gC h2.2.1 λL o f2 f3 f4 f5=>⟨L,o,f2,f3,hk L (h4 L (gP.mpr ⟨e0,.head _,f2⟩)) o f4,f5⟩,ih h2.2.2 λa ha=>h4 a (gP.mpr ((gP.mp ha).imp λe z=>⟨.tail _ z.1,z.2⟩))⟩
variable{P':aW} {m':Mu}
theorem Rel.ZK (R:Rel G F b own ae A P m fr h s) {n:Nm} {ad:ax×ax} (e:m n=aa ad):ad.1<s.heap.objs.size∧ad.2<s.heap.objs.size:=by
 cases hn:h n with
 |none=>exact a8 ((R.dom n hn).symm.trans e)
 |some so=>exact aj (R.obj n so hn) λbg e' o=>aU (e'.symm.trans e)▸o.lt
theorem Rel.free (R:Rel G F b own ae A P m fr h s) {a:ax} (ha:s.heap.objs.size≤a):
  P a=af∧(∀n ad,m n=aa ad→a≠ad.1∧a≠ad.2)∧a∉own∧G.base.get? a=af:=
 have no:∀{o},s.heap.get? a≠aa o:=λq=>jr.mpr ha (jF q)
 ⟨wN.mpr λo e=>(R.oh e).elim λsl q=>no q,λn ad e=>have q:=R.ZK e;⟨dF (bK q.1 ha),dF (bK q.2 ha)⟩,λho=>aj (R.f.mq a ho) λo q _=>no q,wN.mpr λo e=>no (R.bs a o e)⟩
theorem Rel.IN (R:Rel G F b own ae A P m fr h s) (o:Obj) (hf:o.isFreed=an):
  Rel G F b own ae A (P.set s.heap.objs.size o) m fr h {s with heap:=s.heap.push o}∧P.le (P.set s.heap.objs.size o):=
 have q:=R.free (au s.heap.objs.size)
 (R.grow (s':={s with heap:=s.heap.push o}) (λa o' e=>dS _ e) rfl rfl).Jl (fP _ hf) q.1 q.2.1 q.2.2.1 q.2.2.2
theorem Rel.Fi (R:Rel G F b own ae A P m fr h s) {vs:List SV} {a6:List Value} (hv:aY P m vs a6):
  ∃P',P.le P'∧Rel G F b own ae A P' m fr h {s with heap:=s.heap.push {cls:=.type "tuple",data:=.seq a6.toArray}}∧VR P' m (.tup vs) (.ref s.heap.objs.size):=
 have q:=R.IN {cls:=.type "tuple",data:=.seq a6.toArray} rfl
 ⟨_,q.2,q.1,_,_,_,_,rfl,show aW.set _ _ _ _=_ from aO rfl,rfl,rfl,aY.mono q.2.t .rfl _ hv⟩
theorem Rel.alloc (R:Rel G F b own ae A P m fr h s) {n:Nm} (hn:h n=af) {so:cy} {ad:ax×ax} {s':ak}
  (hk:∀a o,s.heap.get? a=aa o→s'.heap.get? a=aa o) (hg:s'.gens=s.gens) (ho:s'.os=s.os)
  (h1:s.heap.objs.size≤ad.1) (h2:s.heap.objs.size≤ad.2) (hO:OR G.w P (m.set n ad) s'.heap ad so):
  Rel G F b own ae A P (m.set n ad) fr (h.set n so) s'∧m.le (m.set n ad):=by
 have R':=R.grow hk hg ho;have le:m.le (m.set n ad):=λx o e=>(aK λz=>a8 ((R.dom n hn).symm.trans (z▸e))).trans e;have mu:∀{x a},m.set n ad x=aa a→(x=n∧ad=a)∨m x=aa a:=λ{x a} e=>if hx:x=n then .inl ⟨hx,aU ((aO hx).symm.trans e)⟩ else .inr ((aK hx).symm.trans e)
 have p:=R.free h1;have r:=R.free h2;exact⟨⟨R'.gens,R'.os,R'.bs,R'.basePR,R'.frs,λx Cw e=>if hx:x=n then⟨ad,aO hx,aU ((aO hx).symm.trans e)▸hO⟩ else aj (R'.obj x Cw ((aK hx).symm.trans e)) λbg q1 q2=>⟨bg,le _ _ q1,q2.mono aW.le.rfl.t le (λ_ z=>z) λ_ z=>z⟩,
  λx e=>if hx:x=n then fB ((aO hx).symm.trans e) else(aK hx).trans (R'.dom x ((aK hx).symm.trans e)),
  λx x' a a' e e' dh=>(mu e).elim (λq=>(mu e').elim (λq'=>bd (q.1.trans q'.1.symm) dh) λq'=>have t:=p.2.1 _ _ q';have u:=r.2.1 _ _ q';q.2▸⟨t.1,t.2,u.1,u.2⟩) λq=>(mu e').elim (λq'=>have t:=p.2.1 _ _ q;have u:=r.2.1 _ _ q;q'.2▸⟨t.1.symm,u.1.symm,t.2.symm,u.2.symm⟩) λq'=>R'.inj x x' a a' q q' dh,
  λx a e=>(mu e).elim (λq=>q.2▸⟨p.1,r.1,p.2.2.1,r.2.2.1⟩) (R'.sep x a),R'.ownP,R'.f.keep .rfl le λa _ o e=>⟨o,e,rfl,rfl⟩,R'.depth,R'.units,R'.guards,R'.quiet⟩,le⟩
theorem Rel.upd (R:Rel G F b own ae A P m fr h s) {fr':SF} {h':SH} {s':ak} (kP:∀{a o},P a=aa o→∀{o'},s.heap.get? a=aa o'→s'.heap.get? a=aa o') (hg:s'.gens=s.gens) (ho:s'.os=s.os)
  (kF:∀l,s.heap.FunFrames G.base l→(∀a∈l.filterMap (·.frame),a∈own∨∃o,P a=aa o)→s'.heap.FunFrames G.base l) (obj:∀n so,h' n=aa so→∃ad,m n=aa ad∧OR G.w P m s'.heap ad so) (dom:∀n,h' n=af→m n=af) (f:FrR F own ae P m fr' s'.heap):
  Rel G F b own ae A P m fr' h' s':=
 ⟨hg.trans R.gens,ho.trans R.os,λa o e=>kP (R.basePR a o e) (R.bs a o e),R.basePR,jA R.frs λl h1 h2 h3 h4 h5=>⟨l,h1,kF l h2 h4,h3,h4,λa o e=>aj (h5 a o e) λsl q1 q2=>⟨sl,kP e q1,q2⟩⟩,obj,dom,R.inj,R.sep,R.ownP,f,R.depth,R.units,R.guards,R.quiet⟩
theorem Rel.turn (R:Rel G F b own ae A P m fr h s) {n:Nm} {so Cw:cy} (hn:h n=aa so) {ad:ax×ax} (hm:m n=aa ad) {s':ak}
  (hk:∀a o,a≠ad.1→a≠ad.2→s.heap.get? a=aa o→s'.heap.get? a=aa o) (hg:s'.gens=s.gens) (ho:s'.os=s.os)
  (hO:OR G.w P m s'.heap ad Cw):Rel G F b own ae A P m fr (h.set n Cw) s':=by
 have p:=R.sep n ad hm;have kP:∀{a o},P a=aa o→∀{o'},s.heap.get? a=aa o'→s'.heap.get? a=aa o':=λ{a o} e {o'}=>hk a o' (λq=>a8 (p.1.symm.trans (q▸e))) λq=>a8 (p.2.1.symm.trans (q▸e));have kO:∀{a},a∈own→∀{o},s.heap.get? a=aa o→s'.heap.get? a=aa o:=λ{a} ha {o}=>hk a o (λq=>p.2.2.1 (q▸ha)) λq=>p.2.2.2 (q▸ha);exact R.upd kP hg ho (λl h2 h4=>KJ h2 h4 λa q o=>q.elim (λq=>kO q) λq=>q.elim λo' q=>kP q)
  (λx Ew e=>if hx:x=n then⟨ad,hx▸hm,aU ((aO hx).symm.trans e)▸hO⟩ else aj (R.obj x Ew ((aK hx).symm.trans e)) λbg q1 q2=>have i:=R.inj x n bg ad q1 hm hx;⟨bg,q1,q2.mono aW.le.rfl.t .rfl (λo=>hk _ o i.1 i.2.1) λo=>hk _ o i.2.2.1 i.2.2.2⟩)
  (λx e=>if hx:x=n then fB ((aO hx).symm.trans e) else R.dom x ((aK hx).symm.trans e)) (R.f.keep .rfl .rfl λa ha o e=>⟨o,kO ha e,rfl,rfl⟩)
theorem Rel.No (R:Rel G F b own ae A P m fr h s) {c:ax} (hc:c∈own) {fr':SF} {s':ak} (hs:r_ c s.heap s'.heap)
  (hd:∃o,s'.heap.get? c=aa o∧(∀vs,o.data≠.fields vs)) (hg:s'.gens=s.gens) (ho:s'.os=s.os) (hF:FrR F own ae P m fr' s'.heap):Rel G F b own ae A P m fr' h s':=
 R.upd (λ{a o} e {o'} e'=>(hs.2 a λq=>a8 ((R.ownP c hc).symm.trans (q▸e))).trans e') hg ho (λl h2 _=>adv (λb o e dh=>if hb:b=c then hb▸hd else⟨o,(hs.2 b hb).trans e,dh⟩) h2)
  (λx Ew e=>aj (R.obj x Ew e) λad q1 q2=>have p:=R.sep x ad q1;⟨ad,q1,q2.mono aW.le.rfl.t .rfl (λo z=>(hs.2 _ λq:ad.1=c=>p.2.2.1 (q▸hc)).trans z) λo z=>(hs.2 _ λq:ad.2=c=>p.2.2.2 (q▸hc)).trans z⟩) R.dom hF
theorem Mu.jj {m:Mu} {n:Nm} {ad:ax×ax}:m.set n ad n=aa ad:=aO rfl
theorem zT {m:Mu} {n:Nm} {ad:ax×ax} (hn:m n=af):m.le (m.set n ad):=λx o e=>by
 unfold Mu.set
 by_cases hx:x=n
 ·subst hx;rw[hn] at e;exact a8 e
 ·rw[aK hx];exact e
theorem Tx {op:UnaryOp} {e:Expr} {pos:Pos} {Q:QV} {X:QX} (w:WE G F b fr h e (λv ag=>WO G F b fr ag [v] (mF (unaryOp op)) Q X) X):WE G F b fr h (.UnaryOp op e pos) Q X:=by
 refine .mk ?_;intro own ae A P m s Q' E' R c d;refine as4 (w.run own ae A P m s _ _ R (λv ag v' a5 bW bV hq hP hm hv a7=>?_) d);exact hq.run own ae A bW bV a5 Q' E' [v'] a7 (aY.one hv) (c.mono hP hm) (d.mono hP hm)
theorem Sd {i:Int} {Q:QV} {X:QX} (hq:Q (.int (-i)) h):WO G F b fr h [.int i] (mF (unaryOp .USub)) Q X:=by
 refine .mk ?_;intro own ae A P m s Q' E' a6 R hv c d;obtain⟨v',_,rfl,⟨t,rfl⟩,rfl⟩:=hv;exact as5 (c _ _ _ _ _ _ hq .rfl .rfl ⟨_,rfl⟩ (R.tok _))
theorem NL {t Oa rA:Expr} {pos:Pos} {Q:QV} {X:QX} (w:WB G F b fr h t (λc ag=>if c then WE G F b fr ag Oa Q X else WE G F b fr ag rA Q X) X):WE G F b fr h (.IfExp t Oa rA pos) Q X:=by
 refine .mk ?_;intro own ae A P m s Q' E' R c d;refine as7 (w.run own ae A P m s _ _ R (λv ag a5 bW bV hq hP hm a7=>?_) d)
 cases v with
 |true=>exact hq.run own ae A bW bV a5 Q' E' a7 (c.mono hP hm) (d.mono hP hm)
 |false=>exact hq.run own ae A bW bV a5 Q' E' a7 (c.mono hP hm) (d.mono hP hm)
theorem BV {c:Bool} {Q:Bool→SH→Prop} {X:QX} (hq:Q c h):WT G F b fr h (.bool c) Q X:=by
 refine .mk ?_;intro own ae A P m s Q' E' v' R hv k d;obtain rfl:=hv;exact Hw (k _ _ _ _ _ hq .rfl .rfl R)
theorem V0 {Q:Bool→SH→Prop} {X:QX} (hq:Q an h):WT G F b fr h .none Q X:=by
 refine .mk ?_;intro own ae A P m s Q' E' v' R hv k d;obtain rfl:=hv;exact as8 (k _ _ _ _ _ hq .rfl .rfl R)
theorem Tq {e:Expr} {pos:Pos} {Q:Bool→SH→Prop} {X:QX} (w:WB G F b fr h e (λc ag=>Q (!c) ag) X):WB G F b fr h (.UnaryOp .Not e pos) Q X:=by
 refine .mk ?_;intro own ae A P m s Q' E' R c d;exact as9 (w.run own ae A P m s _ _ R (λv ag a5 bW bV hq hP hm a7=>c _ _ _ _ _ hq hP hm a7) d)
theorem I_ {e:Expr} {es:List Expr} {pos:Pos} {Q:Bool→SH→Prop} {X:QX}
  (w:WB G F b fr h e (λc ag=>if c then WB G F b fr ag (.BoolOp .And es pos) Q X else Q an ag) X):WB G F b fr h (.BoolOp .And (e::es) pos) Q X:=by
 refine .mk ?_;intro own ae A P m s Q' E' R c d;refine ata (w.run own ae A P m s _ _ R (λv ag a5 bW bV hq hP hm a7=>?_) d)
 cases v with
 |true=>exact hq.run own ae A bW bV a5 Q' E' a7 (λv h' s' P' m' q a b=>c v h' s' P' m' q (hP.trans a) (hm.trans b)) (d.mono hP hm)
 |false=>exact c _ _ _ _ _ hq hP hm a7
theorem ED {e:Expr} {es:List Expr} {pos:Pos} {Q:Bool→SH→Prop} {X:QX}
  (w:WB G F b fr h e (λc ag=>if c then Q ab ag else WB G F b fr ag (.BoolOp .Or es pos) Q X) X):WB G F b fr h (.BoolOp .Or (e::es) pos) Q X:=by
 refine .mk ?_;intro own ae A P m s Q' E' R c d;refine atb (w.run own ae A P m s _ _ R (λv ag a5 bW bV hq hP hm a7=>?_) d)
 cases v with
 |true=>exact c _ _ _ _ _ hq hP hm a7
 |false=>exact hq.run own ae A bW bV a5 Q' E' a7 (λv h' s' P' m' q a b=>c v h' s' P' m' q (hP.trans a) (hm.trans b)) (d.mono hP hm)
theorem Sg {pos:Pos} {Q:Bool→SH→Prop} {X:QX} (hq:Q ab h):WB G F b fr h (.BoolOp .And [] pos) Q X:=
 .mk λown ae A P m s Q' E' R c d=>atc (c _ _ _ _ _ hq .rfl .rfl R)
theorem Ω {pos:Pos} {Q:Bool→SH→Prop} {X:QX} (hq:Q an h):WB G F b fr h (.BoolOp .Or [] pos) Q X:=
 .mk λown ae A P m s Q' E' R c d=>atd (c _ _ _ _ _ hq .rfl .rfl R)
theorem Mc {l r:Expr} {op:CmpOp} {pos:Pos} {Q:Bool→SH→Prop} {X:QX} (hm:Dc op r=an)
  (w:WE G F b fr h l (λv ag=>WE G F b fr ag r (λu aC=>WO G F b fr aC [v,u] (bx (cZ op)) (λt cM=>WT G F b fr cM t Q X) X) X) X):WB G F b fr h (.Compare l [op] [r] pos) Q X:=by
 refine .mk ?_;intro own ae A P m s Q' E' R c d;refine wpAny_isTrue_Compare1 (WV.two w own ae A P m s _ E' R (λv ag v' a5 bW bV hq hP hm hv a7=>?_) d) hm;exact hq.run own ae A bW bV a5 Q' E' v' a7 hv (λv h' s' P' m' q a b=>c v h' s' P' m' q (hP.trans a) (hm.trans b)) (d.mono hP hm)
noncomputable def A8 (e:Expr):Bool:=!([0,3,5,15].contains e.ctorIdx)
theorem VF {e:Expr} (h:A8 e=ab) (ae:Env) (AW:Sem Value):isTrue e ae AW=(do let v ←AW;kb e.pos;jt [v] (zz v)):=by
 refine @wO (λe=>A8 e=ab→isTrue e ae AW=(do let v ←AW;kb e.pos;jt [v] (zz v))) e ?_ ?_ ?_ ?_ ?_ ?_ ?_ ?_ ?_ ?_ ?_ ?_ ?_ ?_ ?_ ?_ ?_ ?_ ?_ ?_ ?_ ?_ ?_ ?_ ?_ ?_ ?_ h<;>(intros;first|rfl|exact cJ ‹_›)
theorem abx {e:Expr} {Q:Bool→SH→Prop} {X:QX} (hp:A8 e=ab) (w:WE G F b fr h e (λv ag=>WT G F b fr ag v Q X) X):WB G F b fr h e Q X:=by
 refine .mk ?_;intro own ae A P m s Q' E' R c d;refine ate (w.run own ae A P m s _ _ R (λv ag v' a5 bW bV hq hP hm hv a7=>?_) d) (VF hp ae _);exact hq.run own ae A bW bV a5 Q' E' v' a7 hv (λv h' s' P' m' q a b=>c v h' s' P' m' q (hP.trans a) (hm.trans b)) (d.mono hP hm)
theorem IB {op:BoolOp} {e:Expr} {pos:Pos} {Q:QV} {X:QX} (w:WE G F b fr h e Q X):WE G F b fr h (.BoolOp op [e] pos) Q X:=
 .mk λown ae A P m s Q' E' R c d=>atf (w.run own ae A P m s Q' E' R c d)
theorem ο {e rA:Expr} {es:List Expr} {pos:Pos} {Q:QV} {X:QX}
  (w:WE G F b fr h e (λv ag=>WT G F b fr ag v (λc aC=>if c then WE G F b fr aC (.BoolOp .And (rA::es) pos) Q X else Q v aC) X) X):WE G F b fr h (.BoolOp .And (e::rA::es) pos) Q X:=by
 refine .mk ?_;intro own ae A P m s Q' E' R c d;refine atg (w.run own ae A P m s _ _ R (λv ag v' a5 bW bV hq hP hm hv a7=>?_) d);refine hq.run own ae A bW bV a5 _ _ v' a7 hv (λt aC bz cE cw g0 cQ cK bm=>?_) (d.mono hP hm)
 cases t with
 |true=>exact g0.run own ae A cE cw bz Q' E' bm (c.mono (hP.trans cQ) (hm.trans cK)) (d.mono (hP.trans cQ) (hm.trans cK))
 |false=>exact c _ _ _ _ _ _ g0 (hP.trans cQ) (hm.trans cK) (hv.mono cQ.t cK) bm
theorem Vi {e rA:Expr} {es:List Expr} {pos:Pos} {Q:QV} {X:QX}
  (w:WE G F b fr h e (λv ag=>WT G F b fr ag v (λc aC=>if c then Q v aC else WE G F b fr aC (.BoolOp .Or (rA::es) pos) Q X) X) X):WE G F b fr h (.BoolOp .Or (e::rA::es) pos) Q X:=by
 refine .mk ?_;intro own ae A P m s Q' E' R c d;refine ath (w.run own ae A P m s _ _ R (λv ag v' a5 bW bV hq hP hm hv a7=>?_) d);refine hq.run own ae A bW bV a5 _ _ v' a7 hv (λt aC bz cE cw g0 cQ cK bm=>?_) (d.mono hP hm)
 cases t with
 |false=>exact g0.run own ae A cE cw bz Q' E' bm (c.mono (hP.trans cQ) (hm.trans cK)) (d.mono (hP.trans cQ) (hm.trans cK))
 |true=>exact c _ _ _ _ _ _ g0 (hP.trans cQ) (hm.trans cK) (hv.mono cQ.t cK) bm
structure j5 (G:Gl) (F:FD) (b:Nat) (fr:SF) (h:SH) (es:List Expr) (Q:List SV→SH→Prop) (X:QX):Prop where
 run:∀own ae A P m s pos (Q':List Value→ak→Prop) (E':Value→ak→Prop),Rel G F b own ae A P m fr h s→
  (∀v h' v' s' P' m',Q v h'→P.le P'→m.le m'→aY P' m' v v'→Rel G F b own ae A P' m' fr h' s'→Q' v' s')→iK G F b own ae A P m fr X E'→
  aw (aQ G.prog G.w) A (spliced (ju pos (gg es ae))) Q' E' s
theorem tC {Q:List SV→SH→Prop} {X:QX} (hq:Q [] h):j5 G F b fr h [] Q X:=
 .mk λown ae A P m s pos Q' E' R c d=>wpAny_items_nil (c _ _ _ _ _ _ hq .rfl .rfl rfl R)
theorem Ye {e:Expr} {es:List Expr} {Q:List SV→SH→Prop} {X:QX} (he:∀ae,gg (e::es) ae=(an,d8 e ae)::gg es ae)
  (w:WE G F b fr h e (λv ag=>j5 G F b fr ag es (λvs aC=>Q (v::vs) aC) X) X):j5 G F b fr h (e::es) Q X:=by
 refine .mk ?_;intro own ae A P m s pos Q' E' R c d;refine wpAny_items_cons (w.run own ae A P m s _ _ R (λv ag v' a5 bW bV hq hP hm hv a7=>?_) d) (he ae);exact hq.run own ae A bW bV a5 pos _ E' a7 (λvs aC a6 bz cE cw g0 cQ cK qm bm=>c _ _ _ _ _ _ g0 (hP.trans cQ) (hm.trans cK) ⟨_,_,rfl,hv.mono cQ.t cK,qm⟩ bm) (d.mono hP hm)
theorem tuple {es:List Expr} {k:Nat} {pos:Pos} {Q:QV} {X:QX} (hn:es.length≤aZ)
  (w:j5 G F b fr h es (λvs ag=>vs.length=es.length∧Q (.tup vs) ag) X):WE G F b fr h (.Tuple es k pos) Q X:=by
 refine .mk ?_;intro own ae A P m s Q' E' R c d;refine wpAny_Tuple (w.run own ae A P m s pos _ _ R (λv ag v' a5 bW bV hq hP hm hv a7=>?_) d);refine bM (a7.Fi hv) λcE le bm qm=>?_;exact⟨by rw[←hv.length,hq.1];exact hn,c _ _ _ _ _ _ hq.2 (hP.trans le) hm qm bm⟩
theorem list {es:List Expr} {pos:Pos} {Q:QV} {X:QX} (hn:es.length≤aZ)
  (w:j5 G F b fr h es (λvs ag=>vs.length=es.length∧∃n,ag n=af∧Q (.ref n) (ag.set n (.list vs))) X):WE G F b fr h (.List es pos) Q X:=by
 refine .mk ?_;intro own ae A P m s Q' E' R c d;refine wpAny_List (w.run own ae A P m s pos _ _ R (λv ag v' a5 bW bV hq hP hm hv a7=>?_) d);refine l_ hq λhl n pS hQ=>?_;clear hq;refine⟨by rw[←hv.length,hl];exact hn,?_⟩;obtain⟨bm,le⟩:=a7.alloc pS (so:=.list v) (ad:=(a5.heap.objs.size,a5.heap.objs.size)) (s':={a5 with heap:=a5.heap.push {cls:=.type "list",data:=.seq v'.toArray}})
  (λa o e=>dS _ e) rfl rfl (au _) (au _) ⟨rfl,v'.toArray,0,fP _ rfl,by
   refine aY.mono aW.le.rfl.t (λx o e=>?_) _ (by simpa using hv);exact zT (a7.dom n pS) x o e⟩
 exact c _ _ _ _ _ _ hQ hP (hm.trans le) ⟨_,Mu.jj,rfl⟩ bm
theorem vE {Q:QS} {X:d0} (hq:Q .next fr h):jN G F b fr h [] Q X:=
 .mk λown ae A P m s Q' E' R c d=>wpAny_execs_nil (c _ _ _ _ _ _ _ hq .rfl .rfl rfl R)
theorem xk {st:bI} {rest:List bI} {Q:QS} {X:d0}
  (w:WS G F b fr h st (λf bA ag=>match f with|.next=>jN G F b bA ag rest Q X|f=>Q f bA ag) X):jN G F b fr h (st::rest) Q X:=by
 refine .mk ?_;intro own ae A P m s Q' E' R c d;refine wpAny_execs_cons (w.run own ae A P m s _ _ R (λf bA ag f' a5 bW bV hq hP hm hf a7=>?_) d)
 cases f with
 |next=>obtain rfl:=hf;exact hq.run own ae A bW bV a5 Q' E' a7 (c.mono hP hm) (d.mono hP hm)
 |brk=>obtain rfl:=hf;exact c _ _ _ _ _ _ _ hq hP hm rfl a7
 |cont=>obtain rfl:=hf;exact c _ _ _ _ _ _ _ hq hP hm rfl a7
 |ret v=>refine aj hf λv' bu hv=>?_;clear hf;subst bu;exact c _ _ _ _ _ _ _ hq hP hm ⟨_,rfl,hv⟩ a7
theorem ab4 {pos:Pos} {Q:QS} {X:d0} (hq:Q .next fr h):WS G F b fr h (.Pass pos) Q X:=
 .mk λown ae A P m s Q' E' R c d=>wpAny_Pass (c _ _ _ _ _ _ _ hq .rfl .rfl rfl R)
theorem brk {pos:Pos} {Q:QS} {X:d0} (hq:Q .brk fr h):WS G F b fr h (.Break pos) Q X:=
 .mk λown ae A P m s Q' E' R c d=>wpAny_Break (c _ _ _ _ _ _ _ hq .rfl .rfl rfl R)
theorem cont {pos:Pos} {Q:QS} {X:d0} (hq:Q .cont fr h):WS G F b fr h (.Continue pos) Q X:=
 .mk λown ae A P m s Q' E' R c d=>wpAny_Continue (c _ _ _ _ _ _ _ hq .rfl .rfl rfl R)
theorem ret {e:Expr} {pos:Pos} {Q:QS} {X:d0} (w:WE G F b fr h e (λv ag=>Q (.ret v) fr ag) (λx h=>X x fr h)):WS G F b fr h (.Return (aa e) pos) Q X:=
 .mk λown ae A P m s Q' E' R c d=>wpAny_Return_some (w.run own ae A P m s _ _ R (λv ag v' a5 bW bV hq hP hm hv a7=>c _ _ _ _ _ _ _ hq hP hm ⟨_,rfl,hv⟩ a7) d.jW)
theorem Eb {t:Expr} {body eX:List bI} {pos:Pos} {Q:QS} {X:d0}
  (w:WB G F b fr h t (λc ag=>if c then jN G F b fr ag body Q X else jN G F b fr ag eX Q X) (λx h=>X x fr h)):WS G F b fr h (.If t body eX pos) Q X:=by
 refine .mk ?_;intro own ae A P m s Q' E' R c d;refine wpAny_If (w.run own ae A P m s _ _ R (λv ag a5 bW bV hq hP hm a7=>?_) d.jW)
 cases v with
 |true=>exact hq.run own ae A bW bV a5 Q' E' a7 (c.mono hP hm) (d.mono hP hm)
 |false=>exact hq.run own ae A bW bV a5 Q' E' a7 (c.mono hP hm) (d.mono hP hm)
noncomputable def SF.put:SF→Str→SV→SF
 |[],x,v=>[(x,v)]
 |(y,u)::r,x,v=>if x=y then(y,v)::r else(y,u)::SF.put r x v
theorem gi (fr:SF) (x:Str) (v:SV) (y:Str):(fr.put x v).lookup y=if y=x then aa v else fr.lookup y:=by
 induction fr with
 |nil=>exact if e:y=x then(jg (p:=(x,v)) e).trans (aO e).symm else(gT (p:=(x,v)) e).trans (aK e).symm
 |cons p r ih=>
  by_cases h:x=p.1
  ·rw[show SF.put (p::r) x v=(p.1,v)::r from aO h]
   exact if e:y=x then(jg (p:=(p.1,v)) (e.trans h)).trans (aO e).symm else(gT (p:=(p.1,v)) λz=>e (z.trans h.symm)).trans ((gT λz=>e (z.trans h.symm)).symm.trans (aK e).symm)
  ·rw[show SF.put (p::r) x v=p::SF.put r x v from aK h]
   exact if e:y=p.1 then(jg e).trans ((jg e).symm.trans (aK λz=>h (z.symm.trans e)).symm) else(gT e).trans (ih.trans ((gT (p:=p) (r:=r) e)▸rfl))
noncomputable def pE (F:FD) (x:Str):Bool:=match F.sc.names.lookup x with
 |some .local=>ab
 |some .cell=>F.st.contains x
 |_=>an
abbrev QF:=SF→SH→Prop
theorem adt {hp:cO} {a c:ax} {mm:Str→Option Value} {v:Option Value} (hn:hp.Ns a mm) (hc:hp.IsCell c v):c≠a:=λq=>
 hn.elim λo h=>h.elim λes h=>h.elim λep h=>aj hc λo' z3 z4=>nomatch (h.2.1.symm.trans (aU (h.1.symm.trans (q▸z3))▸z4):Data.dict es ep=.cell v)
theorem B6 {x:Str} {v:SV} {v':Value} {Q':Unit→ak→Prop} {E':Value→ak→Prop} (R:Rel G F b own ae A P m fr h s) (hv:VR P m v v') (hx:pE F x=ab)
  (c:∀s',Rel G F b own ae A P m (fr.put x v) h s'→Q' () s'):aw (aQ G.prog G.w) A (storeName ae x v') Q' E' s:=by
 have rd:ae.scope.kind=.function:=R.f.sc▸R.f.kind;have put:∀{y u},(fr.put x v).lookup y=aa u→(y=x∧v=u)∨(y≠x∧fr.lookup y=aa u):=λ{y u} hy=>
  have hy:=(gi fr x v y).symm.trans hy
  if e:y=x then .inl ⟨e,aU ((aO e).symm.trans hy)⟩ else .inr ⟨e,(aK e).symm.trans hy⟩
 unfold pE at hx
 cases hl:F.sc.names.lookup x with
 |none=>rw[hl] at hx;exact cJ hx
 |some k=>
  rw[hl] at hx;have jV:ae.kindOf x=aa k:=(ay (λsc:cu=>sc.names.lookup x) R.f.sc).trans hl
  cases k with
  |«local»=>
   refine aj R.f.ns λmm q1 q2=>wpAny_storeName_local jV q1 (λhh hn hs=>c _ ((R.tok (s.toks+1)).No (s':={s with heap:=hh,toks:=s.toks+1}) R.f.q8 hs (hn.elim λo h=>h.elim λes h=>h.elim λep h=>⟨o,h.1,λvs e=>nomatch (h.2.1.symm.trans e)⟩) rfl rfl ?_)) (rd▸rfl);have keep:∀{c w},c≠ae.locals→s.heap.IsCell c w→hh.IsCell c w:=λhc e=>e.sameBut hs hc;refine⟨R.f.sc,R.f.kind,R.f.glob,R.f.blt,R.f.q8,⟨_,hn,λy u hy i_=>(put hy).elim (λe=>⟨v',aO e.1,e.2▸hv⟩) λe=>aj (q2 y u e.2 i_) λw a b=>⟨w,(aK e.1).trans a,b⟩⟩,
    λy u hy i_=>(put hy).elim (λe=>?_) λe=>bC (R.f.l9 y u e.2 i_) λce w p1 p2 p3=>⟨ce,w,p1,p2,p3.imp (λp=>⟨p.1,p.2.1,keep p.2.1 p.2.2⟩) id⟩,
    λy i_=>aj (R.f.qX y i_) λce e1 e2=>⟨ce,e1,e2.imp (λp=>xE p.2 λw hw=>⟨p.1,w,keep (adt q1 hw) hw⟩) id⟩,
    λy hy=>ww (R.f.ug y hy) λp0 ce w p1 p2 p3 p4=>⟨p0,ce,w,p1,p2,p3,keep p3 p4⟩,R.f.apart,λa ha=>?_⟩
   ·exact i_.elim (λq=>nomatch (hl.symm.trans (e.1▸q):aa NameKind.local=aa .cell)) λq=>nomatch (hl.symm.trans (e.1▸q):aa NameKind.local=aa .free)
   ·exact if e:a=ae.locals then hn.elim λo h=>h.elim λes h=>h.elim λep h=>⟨o,e▸h.1,zf h.2.1⟩ else aj (R.f.mq a ha) λo e1 e2=>⟨o,(hs.2 a e).trans e1,e2⟩
  |cell=>
   have kL:x∈F.st:=e9.mp hx;refine ww (R.f.ug x kL) λ_ ce w p1 p2 p3 p4=>wpAny_storeName_cell rd jV p1 p4 λhh hn hs=>c _ (R.No (s':={s with heap:=hh}) p2 hs (aj hn λo e1 e2=>⟨o,e1,λvs e=>nomatch (e2.symm.trans e)⟩) rfl rfl ?_);have keep:∀{c w},c≠ce→s.heap.IsCell c w→hh.IsCell c w:=λhc e=>e.sameBut hs hc;have Ps:∀{y sD},y≠x→ae.cells.lookup y=aa sD→sD≠ce:=λ{y sD} e r1 q=>e (R.f.apart x y ce kL p1 (q▸r1)).symm;refine⟨R.f.sc,R.f.kind,R.f.glob,R.f.blt,R.f.q8,aj R.f.ns λmm q1 q2=>⟨mm,q1.sameBut hs p3.symm,λy u hy i_=>(put hy).elim (λe=>?_) λe=>q2 y u e.2 i_⟩,
    λy u hy i_=>(put hy).elim (λe=>⟨ce,v',e.1▸p1,e.2▸hv,.inl ⟨p2,p3,hn⟩⟩) λe=>bC (R.f.l9 y u e.2 i_) λsD w' r1 r2 r3=>⟨sD,w',r1,r2,r3.imp (λr=>⟨r.1,r.2.1,keep (Ps e.1 r1) r.2.2⟩) id⟩,
    λy i_=>aj (R.f.qX y i_) λc' e1 e2=>⟨c',e1,e2.imp (λp=>xE p.2 λw hw=>if q:c'=ce then⟨p.1,_,q▸hn⟩ else⟨p.1,w,keep q hw⟩) id⟩,
    λy hy=>ww (R.f.ug y hy) λr0 sD w' r1 r2 r3 r4=>if e:y=x then⟨r0,ce,aa v',e▸p1,p2,p3,hn⟩ else⟨r0,sD,w',r1,r2,r3,keep (Ps e r1) r4⟩,R.f.apart,λa ha=>?_⟩
   ·exact nomatch (hl.symm.trans (e.1▸i_):aa ae0=aa .local)
   ·exact if e:a=ce then aj hn λo e1 e2=>⟨o,e▸e1,BF e2⟩ else aj (R.f.mq a ha) λo e1 e2=>⟨o,(hs.2 a e).trans e1,e2⟩
  |_=>exact cJ hx
structure WA (G:Gl) (F:FD) (b:Nat) (fr:SF) (h:SH) (t:Expr) (v:SV) (Q:QF) (X:d0):Prop where
 run:∀own ae A P m s (Q':Unit→ak→Prop) (E':Value→ak→Prop) v',Rel G F b own ae A P m fr h s→VR P m v v'→
  (∀fr' h' s' P' m',Q fr' h'→P.le P'→m.le m'→Rel G F b own ae A P' m' fr' h' s'→Q' () s')→pN G F b own ae A P m X E'→
  aw (aQ G.prog G.w) A (o8 t ae v') Q' E' s
theorem MJ {x:Str} {pos:Pos} {v:SV} {Q:QF} {X:d0} (hx:pE F x=ab) (hq:Q (fr.put x v) h):WA G F b fr h (.Name x pos) v Q X:=
 .mk λown ae A P m s Q' E' v' R hv c d=>wpAny_assign_Name (B6 R hv hx λs' R'=>c _ _ _ _ _ hq .rfl .rfl R')
theorem NE {o:Expr} {a:Str} {pos:Pos} {v:SV} {Q:QF} {X:d0}
  (w:WE G F b fr h o (λu ag=>WO G F b fr ag [u,v] (bx λx y=>do Dd x a y;pure .none) (λ_ aC=>Q fr aC) (λx h=>X x fr h)) (λx h=>X x fr h)):WA G F b fr h (.Attribute o a pos) v Q X:=by
 refine .mk ?_;intro own ae A P m s Q' E' v' R hv c d;rw[assign_Attribute];refine wb (dD (w.run own ae A P m s _ _ R (λu ag u' a5 bW bV hq hP hm hu a7=>?_) d.jW));refine wb (jG ?_);have:=hq.run own ae A bW bV a5 (λ_ s'=>Q' () s') E' [u',v'] a7 ⟨_,_,rfl,hu,_,_,rfl,hv.mono hP.t hm,rfl⟩
  (λ_ aC _ bz cE cw q a b _ bm=>c _ _ _ _ _ q (hP.trans a) (hm.trans b) bm) (d.jW.mono hP hm)
 exact wb (dD (nZ (DT this) (λ_ _ x=>PF x) λ_ _ x=>x))
theorem Xe (o i:Expr) (pos:Pos) (ae:Env) (v:Value):∃rl:Value→Value→List Value,o8 (.Subscript o i pos) ae v=(do
  let ov ←jt [v] (d8 o ae)
  let iv ←jt [v,ov] (d8 i ae)
  kb pos
  jt [v,ov,iv] (um ov iv v)
  release (rl ov iv) []):=⟨λ_ _=>_,rfl⟩
theorem Gh {o i:Expr} {pos:Pos} {v:SV} {Q:QF} {X:d0}
  (w:WE G F b fr h o (λu ag=>WE G F b fr ag i (λk aC=>WO G F b fr aC [u,k,v] (FZ λx y z=>do um x y z;pure .none) (λ_ cM=>Q fr cM) (λx h=>X x fr h)) (λx h=>X x fr h)) (λx h=>X x fr h)):
  WA G F b fr h (.Subscript o i pos) v Q X:=by
 refine .mk ?_;intro own ae A P m s Q' E' v' R hv c d;refine xE (Xe o i pos ae v') λrl e=>?_;rw[e];refine wb (dD (w.run own ae A P m s _ _ R (λu ag u' a5 bW bV hq hP hm hu a7=>?_) d.jW));refine wb (dD (hq.run own ae A bW bV a5 _ _ a7 (λk aC k' bz cE cw g0 cQ cK hk bm=>?_) (d.jW.mono hP hm)));refine wb (jG ?_);have:=g0.run own ae A cE cw bz (λ_ s'=>Q' () s') E' [u',k',v'] bm ⟨_,_,rfl,hu.mono cQ.t cK,_,_,rfl,hk,_,_,rfl,hv.mono (hP.trans cQ).t (hm.trans cK),rfl⟩
  (λ_ aC _ bz cE cw q a b _ bm=>c _ _ _ _ _ q ((hP.trans cQ).trans a) ((hm.trans cK).trans b) bm) (d.jW.mono (hP.trans cQ) (hm.trans cK))
 exact wb (dD (nZ (DT this) (λ_ _ x=>PF x) λ_ _ x=>x))
def BM (G:Gl) (F:FD) (b:Nat) (fr:SF) (h:SH) (ts:List Expr) (vs:List SV) (Q:QF) (X:d0):Prop:=
 match ts,vs with
 |[],[]=>Q fr h
 |t::ts,v::vs=>WA G F b fr h t v (λfr' h'=>BM G F b fr' h' ts vs Q X) X
 |_,_=>False
theorem adf (t:Expr) (ts:List Expr) (ae:Env):(qx (t::ts) ae).tail=qx ts ae:=by
 refine @wO (λt=>(qx (t::ts) ae).tail=qx ts ae) t ?_ ?_ ?_ ?_ ?_ ?_ ?_ ?_ ?_ ?_ ?_ ?_ ?_ ?_ ?_ ?_ ?_ ?_ ?_ ?_ ?_ ?_ ?_ ?_ ?_ ?_ ?_<;>(intros;rfl)
theorem acg {ts:List Expr} {X:d0} {Q:QF} {Q':Unit→ak→Prop} {E':Value→ak→Prop} (ht:∀ae,(qx ts ae)=ts.map λt=>(an,o8 t ae)):
  ∀{vs:List SV} {a6:List Value} {fr:SF} {h:SH} {P:aW} {m:Mu} {s:ak},BM G F b fr h ts vs Q X→Rel G F b own ae A P m fr h s→aY P m vs a6→
  (∀fr' h' s' P' m',Q fr' h'→P.le P'→m.le m'→Rel G F b own ae A P' m' fr' h' s'→Q' () s')→pN G F b own ae A P m X E'→aw (aQ G.prog G.w) A (assignInOrder (ts.map λt=>o8 t ae) a6) Q' E' s:=by
 induction ts with
 |nil=>
  intro vs a6 fr h P m s w R hv c d
  cases vs with
  |nil=>exact hv▸ae1 (c _ _ _ _ _ w .rfl .rfl R)
  |cons v vs=>exact w.elim
 |cons t ts ih=>
  intro vs a6 fr h P m s w R hv c d
  cases vs with
  |nil=>exact w.elim
  |cons v vs=>
   refine bC hv λx r e h1 h2=>e▸PG ((show WA G F b fr h t v (λfr' h'=>BM G F b fr' h' ts vs Q X) X from w).run own ae A P m s _ _ x R h1 (λbA ag a5 bW bV hq hP hm a7=>?_) d);exact ih (λae=>(adf t ts ae).symm.trans (ay List.tail (ht ae))) hq a7 (aY.mono hP.t hm _ h2) (λfr' h' s' P' m' q a b=>c fr' h' s' P' m' q (hP.trans a) (hm.trans b)) (d.mono hP hm)
theorem GK {ts:List Expr} {k:Nat} {pos:Pos} {vs:List SV} {Q:QF} {X:d0} (hq:F.q=ab) (ht:∀ae,(qx ts ae)=ts.map λt=>(an,o8 t ae)) (hl:ts.length=vs.length)
  (w:BM G F b fr h ts vs Q X):WA G F b fr h (.Tuple ts k pos) (.tup vs) Q X:=by
 refine .mk λown ae A P m s Q' E' v' R hv c d=>od hv λa o items n ev hh=>mE hh λhp h1 h2 h3=>bM (R.rn hp) λo' e1 e2 e3=>ev▸?_;refine wpAny_assign_Tuple (R.quiet hq) ⟨o',e1,e2.trans h1,n,e3.trans h2⟩ ?_ ?_ (λhh he=>?_)
 ·rw[ht ae,aI _,hl,h3.length];exact fQ
 ·rw[ht ae];exact List.findIdx?_eq_none_iff.mpr λx hx=>aj (bD.mp hx) λt _ e=>e▸rfl
 ·rw[ht ae,o0]
  exact acg ht w (R.grow (s':={s with heap:=hh}) (λa o e=>he a o (dp (jF e)) e) rfl rfl) h3 c d
theorem aa7 {t e:Expr} {pos:Pos} {Q:QS} {X:d0} (hs:∀ae,De [t] e pos.line ae=pure an) (hw:∀ae,wP [t] e ae=pure af) (ha:∀ae,(qx [t] ae).map (·.2)=[o8 t ae])
  (w:WE G F b fr h e (λv ag=>WA G F b fr ag t v (λfr' h'=>Q .next fr' h') X) (λx h=>X x fr h)):WS G F b fr h (.Assign [t] e pos) Q X:=by
 refine .mk ?_;intro own ae A P m s Q' E' R c d;refine ae2 (w.run own ae A P m s _ _ R (λv ag v' a5 bW bV hq hP hm hv a7=>?_) d.jW) (hs ae) (hw ae);rw[ha ae];exact hq.run own ae A bW bV a5 _ _ v' a7 hv (λfr' h' s' P' m' q a b R'=>c _ _ _ _ _ _ _ q (hP.trans a) (hm.trans b) rfl R') (d.mono hP hm)
theorem ad9 {x:Str} {p pos:Pos} {op:wM} {e:Expr} {v:SV} {Q:QS} {X:d0} (hx:fr.lookup x=aa v) (hk:t7 F x=ab) (hs:pE F x=ab) (hd:(x==("__debug__":Str))=an)
  (w:WE G F b fr h e (λu ag=>WO G F b fr ag [v,u] (bx (sd op)) (λr aC=>Q .next (fr.put x r) aC) (λx h=>X x fr h)) (λx h=>X x fr h)):WS G F b fr h (.AugAssign (.Name x p) op e pos) Q X:=by
 refine .mk ?_;intro own ae A P m s Q' E' R c d;refine wpAny_AugAssign_Name (MP R hx hk λv' hv=>?_);refine w.run own ae A P m s _ _ R (λu aC u' bz cE cw g0 cQ cK hu bm=>?_) d.jW;refine g0.run own ae A cE cw bz _ _ [v',u'] bm ⟨_,_,rfl,hv.mono cQ.t cK,_,_,rfl,hu,rfl⟩ (λr cM r' ef lI m_ re f8 ie hr cV=>?_) (d.jW.mono cQ cK);exact B6 cV hr hs λs' R'=>c _ _ _ _ _ _ _ re (cQ.trans f8) (cK.trans ie) rfl R'
theorem gl.find {P:aW} {m:Mu} {x:Str} {fs:List (Str×SV)}:∀{es:List dK},gl P m fs es→
  es.any (·.refKey)=an∧(∀v,fs.lookup x=aa v→∃e,es.find? (·.key.isStr x)=aa e∧VR P m v e.val)∧(fs.lookup x=af→es.find? (·.key.isStr x)=af):=by
 induction fs with
 |nil=>exact λh=>(h:_=[])▸⟨rfl,λ_ e=>a8 e,λ_=>rfl⟩
 |cons p fs ih=>
  intro es h;refine gC h λe r z h2 h3 h4=>h2.elim λt h2=>?_;subst z;have i:=ih h4;have ek:e.key.isStr x=(p.1==x):=ay (·.isStr x) h2;have ne:x≠p.1→¬e.key.isStr x=ab:=λq z=>q (eq_of_beq (ek.symm.trans z)).symm;have er:e.refKey=an:=by unfold ae3;rw[h2]
  exact⟨PH.trans ((ay (· ||_) er).trans i.1),λv ev=>if q:x=p.1 then⟨e,List.find?_cons_of_pos (ek.trans (eW.mpr q.symm)),aU ((jg q).symm.trans ev)▸h3⟩ else aj (i.2.1 v ((gT q).symm.trans ev)) λe' a b=>⟨e',(ae4 (p:=λd:dK=>d.key.isStr x) (ne q)).trans a,b⟩,
   λev=>if q:x=p.1 then fB ((jg q).symm.trans ev) else(ae4 (p:=λd:dK=>d.key.isStr x) (ne q)).trans (i.2.2 ((gT q).symm.trans ev))⟩
theorem gl.SD {P:aW} {m:Mu} {x:Str} {fs:List (Str×SV)} {es:List dK} {v:SV} (h:gl P m fs es) (e:fs.lookup x=aa v):∃v',getL x es=aa (aa v')∧VR P m v v':=aj (h.find.2.1 v e) λen a b=>⟨en.val,by unfold getL;rw[a],b⟩
theorem gl.Ol {P:aW} {m:Mu} {x:Str} {fs:List (Str×SV)} {es:List dK} (h:gl P m fs es) (e:fs.lookup x=af):getL x es=aa af:=by unfold getL;rw[h.find.2.2 e,(h.find (x:=x)).1];rfl
theorem gl.put {P:aW} {m:Mu} {x:Str} {v:SV} {v':Value} (hv:VR P m v v') (rc:Int) (t:Tok) {fs:List (Str×SV)}:∀{es:List dK},gl P m fs es→
  gl P m (SF.put fs x v) (putL x rc (.str x t) v' es):=by
 induction fs with
 |nil=>exact λh=>(h:_=[])▸⟨_,_,rfl,⟨_,rfl⟩,hv,rfl⟩
 |cons p fs ih=>
  intro es h;refine gC h λe r z h2 h3 h4=>h2.elim λk h2=>?_;subst z;have ek:e.key.isStr x=(p.1==x):=ay (·.isStr x) h2;show gl P m (if x=p.1 then(p.1,v)::fs else p::SF.put fs x v) (if e.key.isStr x=ab then⟨e.hash,e.key,v'⟩::r else e::putL x rc (.str x t) v' r);exact if q:x=p.1 then(aO q).symm▸nE (P:=λl:List dK=>gl P m ((p.1,v)::fs) l) (ek.trans (eW.mpr q.symm)) ⟨_,_,rfl,⟨k,h2⟩,hv,h4⟩
   else(aK q).symm▸nI (P:=λl:List dK=>gl P m (p::SF.put fs x v) l) (λz=>q (eq_of_beq (ek.symm.trans z)).symm) ⟨_,_,rfl,⟨k,h2⟩,h3,ih h4⟩
theorem gl.length {P:aW} {m:Mu} {fs:List (Str×SV)}:∀{es:List dK},gl P m fs es→es.length=fs.length:=by
 induction fs with
 |nil=>exact λh=>ay nY (h:_=[])
 |cons p fs ih=>exact λh=>gC h λe r z _ _ h4=>z▸ay (· +1) (ih h4)
theorem Rel.fT (R:Rel G F b own ae A P m fr h s):G.K.In s.heap:=λa o e=>R.bs a o (G.fT a o e)
theorem Rel.uN (R:Rel G F b own ae A P m fr h s) {n:Nm} {C:ax} {fs:SF} (hn:h n=aa (.inst C fs)):
  ∃ad xs k,m n=aa ad∧ad.2≠ad.1∧s.heap.get? ad.1=aa (Bq C ad.2)∧s.heap.get? ad.2=aa (ul xs k)∧gl P m fs xs∧InstAt s.heap ad.1 (Bq C ad.2) C (aa (ul xs k)):=by
 obtain⟨ad,q1,q2,q3,xs,k,q4,q5⟩:=R.obj n _ hn;exact⟨ad,xs,k,q1,q2,q3,q4,q5,⟨q3,rfl,rfl,by show s.heap.get? ad.2=_;exact q4⟩⟩
theorem VR.handed {v:SV} {v':Value} (hv:VR P m v v') (hb:∀id,v≠.bi id):handedIn v'=ab:=by
 cases v with
 |none=>obtain rfl:=hv;rfl
 |bool c=>obtain rfl:=hv;rfl
 |int i=>refine xE hv λt bu=>?_;clear hv;subst bu;rfl
 |str i=>refine xE hv λt bu=>?_;clear hv;subst bu;rfl
 |tup vs=>refine od hv λa o items n e7 _=>?_;clear hv;subst e7;rfl
 |ref n=>refine aj hv λad _ ar=>?_;clear hv;subst ar;rfl
 |range a c=>refine od hv λr t u w e7 _=>?_;clear hv;subst e7;rfl
 |glob a=>obtain rfl:=hv;rfl
 |bi id=>exact bd rfl (hb id)
 |ty n=>obtain rfl:=hv;rfl
theorem Ya {n:Nm} {C:ax} {fs:SF} {a:Str} {v:SV} {Q:QV} {X:QX} (hn:h n=aa (.inst C fs)) (hg:zA G.K C a=ab) (hd:Df G.K C=ab) {z9:Option Value} (ha:h_ G.K (.ref C) a=aa z9) (qp:noGet G.K z9=ab)
  (hf:fs.lookup a=aa v) (hb:∀id,v≠.bi id) (hq:Q v h):WO G F b fr h [.ref n] (mF λx=>mT x a ab) Q X:=by
 refine .mk ?_;intro own ae A P m s Q' E' a6 R hv c d;obtain⟨_,_,rfl,⟨ad,h1,rfl⟩,rfl⟩:=hv;obtain⟨bg,xs,k,q1,q2,q3,q4,q5,I⟩:=R.uN hn;obtain rfl:bg=ad:=aU (q1.symm.trans h1);exact aj (q5.SD hf) λv' g1 g2=>get_value R.fT I (Hx hg).1 (findObj_own hd ha qp g1) (g2.handed hb) (c _ _ _ _ _ _ hq .rfl .rfl g2 (R.tok _))
theorem Tn {n:Nm} {C:ax} {fs:SF} {a:Str} {v':Value} {v:SV} {Q:QV} {X:QX} (hn:h n=aa (.inst C fs)) (hg:zA G.K C a=ab) (hd:Df G.K C=ab) (ha:h_ G.K (.ref C) a=aa (aa v'))
  (qp:specialIn G.K v' "__get__"=aa af) (hh:handedIn v'=ab) (hc:copiedNames.contains a=an) (hf:fs.lookup a=af) (fA:∀P m,VR P m v v') (hq:Q v h):WO G F b fr h [.ref n] (mF λx=>mT x a ab) Q X:=by
 refine .mk ?_;intro own ae A P m s Q' E' a6 R hv c d;obtain⟨_,_,rfl,⟨ad,h1,rfl⟩,rfl⟩:=hv;obtain⟨bg,xs,k,q1,q2,q3,q4,q5,I⟩:=R.uN hn;obtain rfl:bg=ad:=aU (q1.symm.trans h1);exact get_value R.fT I (Hx hg).1 (findObj_cls hd ha qp hh hc (q5.Ol hf)) hh (c _ _ _ _ _ _ hq .rfl .rfl (fA _ _) (R.tok _))
theorem Ys (e:Expr) (a:Str) (pos:Pos) (ae:Env) (hb:uo e a ae (d8 e ae)=d8 e ae):d8 (.Attribute e a pos) ae=(do
  let o ←d8 e ae
  kb pos.atName
  let r ←jt [o] (mT o a ab)
  PJ e o r
  pure r):=by
 have:d8 (.Attribute e a pos) ae=(do
  let o ←uo e a ae (d8 e ae)
  kb pos.atName
  let r ←jt [o] (mT o a ab)
  PJ e o r
  pure r):=rfl
 rw[this,hb]
theorem z9 {e:Expr} {a:Str} {pos:Pos} {Q:QV} {X:QX} (hb:∀ae w,uo e a ae w=w)
  (w:WE G F b fr h e (λv ag=>WO G F b fr ag [v] (mF λx=>mT x a ab) Q X) X):WE G F b fr h (.Attribute e a pos) Q X:=by
 refine .mk ?_;intro own ae A P m s Q' E' R c d;rw[Ys e a pos ae (hb _ _)];refine wb (w.run own ae A P m s _ _ R (λv ag v' a5 bW bV hq hP hm hv a7=>?_) d);refine wb (jG (wb (dD ?_)));exact hq.run own ae A bW bV a5 _ _ [v'] a7 (aY.one hv) (λr aC r' bz cE cw q a b hr bm=>wb (PL (aD (c _ _ _ _ _ _ q (hP.trans a) (hm.trans b) hr bm)))) (d.mono hP hm)
theorem π (name:Str) (rc:Int) (key v:Value) (es:List dK):(putL name rc key v es).length≤es.length+1:=by
 induction es with
 |nil=>exact au _
 |cons e r ih=>exact CH (P:=λl:List dK=>l.length≤r.length+1+1) (λ_=>bT _) λ_=>eE ih
theorem Tv {x C dx:ax} {name:Str} {tk:Tok} {v:Value} {es:List dK} {n:Nat} {r:wQ→ak→Prop} (K:G.K.In s.heap)
  (I:InstAt s.heap x (Bq C dx) C (aa (ul es n))) (hp:Hy G.K C=ab) (ht:takerIn G.K C name=aa af) (hh:(clsIn G.K C).any (·.hasDict)=ab)
  (hl:es.any (·.refKey)=an) (hz:es.length≤1000)
  (k:r (.ok (.ret .none)) {s with heap:=s.heap.update dx (PM name (PN G.w.params name) (.str name s.toks) v),toks:=s.toks+1}):
  kc (aQ G.prog G.w) A (.call (.builtin "object.__setattr__") ⟨[.ref x,.str name tk,v],[]⟩) r s:=by
 refine osa_open K I hp ht λbb=>?_;refine aj (any_some hh) λcd hc vM=>?_;have D:s.heap.get? dx=aa (ul es n):=I.dict;refine wb (aD (wb (wb (wpAny_loadPart I.at_ (wb ((looks_clsIn K hc).here ?_))))));rw[vM];refine aD (a:=aa dx) (wb (aD (wb ?_)));unfold nsSet;refine wb (wb (zB (aD (wb (wpAny_mkText (wb (wpAny_loadPart D ?_)))))));dsimp only;have cc:(!(es.toArray).any (·.key.isStr name) && (es.toArray).any (·.refKey))=an:=by
  rw[←ae5 (p:=ae3),hl,Bool.and_false _]
 rw[aRefKeyMayBeTheName_at _ _,cc];refine wpAny_updatePart D ?_;have D':∀rc,(s.heap.update dx (PM name rc (.str name s.toks) v)).get? dx=aa (ul (putL name rc (.str name s.toks) v es) (putN name es n)):=λrc=>by
  rw[←Hz];exact kZ _ D (by rw[Hz];rfl)
 refine wb (wpAny_lookBehind (D' _) (pastItsLine_dict ?_) (aD k));rw[ae6,sizeLine_eq];exact ah (π _ _ _ _ es) (ah (eE hz) aJ)
theorem Τ {n:Nm} {C:ax} {fs:SF} {a:Str} {v:SV} {Q:QV} {X:QX} (hn:h n=aa (.inst C fs)) (hs:h_ G.K (.ref C) "__setattr__"=aa (aa (.builtin "object.__setattr__"))) (hp:Hy G.K C=ab)
  (ht:takerIn G.K C a=aa af) (hd:Df G.K C=ab) (hz:fs.length≤1000) (hq:Q .none (h.set n (.inst C (fs.put a v)))):
  WO G F b fr h [.ref n,v] (bx λx y=>do Dd x a y;pure .none) Q X:=by
 refine .mk ?_;intro own ae A P m s Q' E' a6 R hv c d;obtain⟨_,_,rfl,⟨ad,h1,rfl⟩,v',_,rfl,fA,rfl⟩:=hv;obtain⟨bg,xs,k,q1,q2,q3,q4,q5,I⟩:=R.uN hn;obtain rfl:bg=ad:=aU (q1.symm.trans h1);refine wb (set_plain R.fT I hs (Tv (s:={s with toks:=s.toks+1}) R.fT I hp ht hd (q5.find (x:=a)).1 (q5.length.symm▸hz) ?_));have q6:(s.heap.update bg.2 (PM a (PN G.w.params a) (.str a (s.toks+1)) v')).get? bg.2=aa (ul (putL a (PN G.w.params a) (.str a (s.toks+1)) v' xs) (putN a xs k)):=by
  rw[←Hz];exact kZ _ q4 (by rw[Hz];rfl)
 refine aD (c _ _ _ _ _ _ hq .rfl .rfl rfl ?_);refine R.turn hn h1 (λx o n1 n2 e=>?_) rfl rfl ⟨q2,?_,_,_,q6,gl.put fA _ _ q5⟩
 ·show(s.heap.update bg.2 _).get? x=_
  rw[zC _ _ (Ne.symm n2)];exact e
 ·show(s.heap.update bg.2 _).get? bg.1=_
  rw[zC _ _ q2];exact q3
structure WC (G:Gl) (F:FD) (b:Nat) (fr:SF) (h:SH) (f:SV) (vs:List SV) (Q:QV) (X:QX):Prop where
 run:∀own ae A P m s (Q':Value→ak→Prop) (E':Value→ak→Prop) f' a6,Rel G F b own ae A P m fr h s→VR P m f f'→aY P m vs a6→
  m5 G F b fr own ae A P m Q Q'→iK G F b own ae A P m fr X E'→aw (aQ G.prog G.w) A (call f' a6) Q' E' s
noncomputable def callable (G:Gl):SV→Bool
 |.glob a=>keepIn G.K (.ref a)
 |.bi _=>ab
 |.ty _=>ab
 |_=>an
theorem Lm {f:SV} {f':Value} (hf:callable G f=ab) (hv:VR P m f f') (hp:cO) (K:G.K.In hp):∃k,(k=Keeper.frame∨k=Keeper.machine∨k=Keeper.boundFrame)∧Looks (aQ G.prog G.w) hp (keeperOf f') k:=by
 cases f with
 |glob a=>obtain rfl:=hv;exact keeps_K (f:=.ref a) hf hp K
 |bi id=>obtain rfl:=hv;exact(aT .machine (.inr (.inl rfl)) .now)
 |ty id=>obtain rfl:=hv;exact(aT .machine (.inr (.inl rfl)) .now)
 |_=>exact cJ hf
theorem Ml {M:i0} {E:Value→ak→Prop} {f:Value} {args:List (Bool×Sem Value)} {Q:Args→ak→Prop} (ha:args.any (·.1)=an)
  (w:aw M A (spliced args) (λvs s'=>Q ⟨vs,[]⟩ s') E s):aw M A (evalArgs f ab args []) Q E s:=by
 cases args with
 |nil=>exact λΓ p Cb=>PySem.evalArgs_none (w Γ p Cb) Γ p Cb
 |cons x r=>
  obtain⟨c,t⟩:=x
  cases c with
  |false=>exact Calls.evalArgs_plain w
  |true=>simp at ha
theorem JV {f:SV} {f':Value} {first:List SV} {first':List Value} {args:List Expr} {pos:Pos} {Q:QV} {X:QX} {Q':Value→ak→Prop} {E':Value→ak→Prop} (hf:callable G f=ab) (hs:∀ae,(ju pos (gg args ae)).any (·.1)=an)
  (w:j5 G F b fr h args (λvs aC=>WC G F b fr aC f (first++vs) Q X) X) (R:Rel G F b own ae A P m fr h s) (hv:VR P m f f') (Yv:aY P m first first')
  (c:m5 G F b fr own ae A P m Q Q') (d:iK G F b own ae A P m fr X E'):
  aw (aQ G.prog G.w) A (wR pos f' first' (ju pos (gg args ae)) []) Q' E' s:=by
 refine callWith_of (P:=λhp=>G.K.In hp) (by rw[hs ae];rfl) (λhp K=>Lm hf hv hp K) ?_;have body:=w.run own ae A P m s pos (λvs s'=>G.K.In s'.heap∧aw (aQ G.prog G.w) A (call f' (first'++vs) []) Q' E' s') E' R (λvs aC a6 bz cE cw hq hP hm qm bm=>
  ⟨bm.fT,hq.run own ae A cE cw bz Q' E' f' _ bm (hv.mono hP.t hm) ((aY.mono hP.t hm _ Yv).app qm) (c.mono hP hm) (d.mono hP hm)⟩) d
 exact Ml (hs ae) body
open Classical in
noncomputable def aW.under (P:aW) (own:List ax) (hp:cO):aW:=λx=>if x∈own then hp.get? x else P x
open Classical in
noncomputable def aW.less (P:aW) (own:List ax):aW:=λx=>if x∈own then af else P x
variable{F':FD} {b':Nat} {mJ:List ax} {b6:Env} {A':dP} {fr':SF} {h':SH} {s':ak}
theorem uH {a:ax} (ha:a∈own) (hp:cO):P.under own hp a=hp.get? a:=aO ha
theorem l8 {a:ax} (ha:a∉own) (hp:cO):P.under own hp a=P a:=aK ha
theorem DB {a:ax} (ha:a∈own):P.less own a=af:=aO ha
theorem mY {a:ax} (ha:a∉own):P.less own a=P a:=aK ha
theorem Rel.out (R:Rel G F b own ae A P m fr h s) {a:ax} {o:Obj} (e:P a=aa o):a∉own:=λha=>fB (e.symm.trans (R.ownP a ha))
theorem Rel.tI (R:Rel G F b own ae A P m fr h s):P.le (P.under own s.heap):=λa o e=>(l8 (R.out e) _).trans e
theorem Rel.OM (R:Rel G F b own ae A P m fr h s) {a:ax} (e:s.heap.get? a=af):a∉own:=λha=>aj (R.f.mq a ha) λo z _=>fB (z.symm.trans e)
theorem Rel.X1 (R:Rel G F b own ae A P m fr h s) {a:ax} (e:s.heap.get? a=af):P a=af:=wN.mpr λo q=>xE (R.oh q) λsl z=>fB (z.symm.trans e)
theorem Rel.U7 (R:Rel G F b own ae A P m fr h s) {n:Nm} {ad:ax×ax} (e:m n=aa ad):s.heap.get? ad.1≠af∧s.heap.get? ad.2≠af:=by
 cases hn:h n with
 |none=>exact a8 ((R.dom n hn).symm.trans e)
 |some so=>exact aj (R.obj n so hn) λbg e' oo=>aU (e'.symm.trans e)▸⟨λz=>xE oo.lU λo q=>fB (q.symm.trans z),λz=>xE oo.at2 λo q=>fB (q.symm.trans z)⟩
theorem abg {hp bY:cO} {l:List Env} (eN:List Env) (x:hp.FunFrames bY (eN++l)):hp.FunFrames bY l:=by
 induction eN with
 |nil=>exact x
 |cons e r ih=>exact ih x.2.2
theorem Rel.leave (R:Rel G F b own ae A P m fr h s) (R':Rel G F' b' mJ b6 A' P' m' fr' h' s') (hP:(P.under own s.heap).le P') (hm:m.le m')
  (hA:∀l l',A.frames=aa l→A'.frames=aa l'→∃eN,l'=eN++l∧∀a∈eN.filterMap (·.frame),a∈mJ):
  P.le (P'.less own)∧(P'.fZ (P'.less own))∧Rel G F b own ae A (P'.less own) m' fr h' s':=by
 have le:P.le (P'.less own):=λa o e=>(mY (R.out e)).trans (hP a o ((l8 (R.out e) _).trans e));have rP:∀a∈own,∀o,s.heap.get? a=aa o→P' a=aa o:=λa ha o e=>hP a o ((uH ha _).trans e);have fZ:P'.fZ (P'.less own):=λa o e hd=>(mY λha=>aj (R.f.mq a ha) λo' e1 e2=>e2 (aU (e.symm.trans (rP a ha o' e1))▸hd)).trans e;have sub:∀{a o},P'.less own a=aa o→P' a=aa o:=λ{a o} e=>if ha:a∈own then a8 ((DB ha).symm.trans e) else(mY ha).symm.trans e
 have nn:∀{a},P' a=af→P'.less own a=af∧a∉own:=λ{a} ea=>
  have hn:a∉own:=λha=>aj (R.f.mq a ha) λo' e1 _=>fB ((rP a ha o' e1).symm.trans ea)
  ⟨(mY hn).trans ea,hn⟩
 refine cI le fZ ⟨R'.gens,R'.os,R'.bs,λa o e=>le _ _ (R.basePR a o e),jA R.frs λl h1 _ h3 h4 _=>jA R'.frs λl' g1 g2 _ _ g5=>aj (hA l l' h1 g1) λeN z ZE=>?_,
  λn so e=>aj (R'.obj n so e) λad q1 q2=>⟨ad,q1,q2.mono fZ .rfl (λ_ x=>x) λ_ x=>x⟩,R'.dom,R'.inj,λn ad e=>have q:=R'.sep n ad e;⟨(nn q.1).1,(nn q.2.1).1,(nn q.1).2,(nn q.2.1).2⟩,λa ha=>DB ha,
  R.f.keep le hm λa ha o e=>xE (R'.oh (rP a ha o e)) λsl q=>⟨_,q,rfl,rfl⟩,R.depth,R.units,R.guards,R.quiet⟩
 subst z;refine⟨l,h1,abg eN g2,h3,λa ha=>(h4 a ha).imp id λq=>xE q λo q=>⟨o,le _ _ q⟩,λa o e=>aj (g5 a o (sub e)) λsl q1 q2=>⟨sl,q1,λhl=>q2 λjV=>?_⟩⟩;rw[se,du] at jV;exact jV.elim (λq=>fB ((sub e).symm.trans (R'.ownP a (ZE a q)))) hl
theorem Rel.enter (R:Rel G F b own ae A P m fr h s) (hk:∀a o,s.heap.get? a=aa o→s'.heap.get? a=aa o) (hg:s'.gens=s.gens) (ho:s'.os=s.os)
  (xT:∀a∈mJ,s.heap.get? a=af) (hF:FrR F' mJ b6 (P.under own s.heap) m fr' s'.heap)
  (hA:∀l,A.frames=aa l→∃eN,A'.frames=aa (eN++l)∧(∃e0 r,eN++l=e0::r∧e0.frame=b6.frame)∧
   ∀e∈eN,e.scope.kind≠.module∧∃L o,e.frame=aa L∧L∈mJ∧s'.heap.get? L=aa o∧∀vs,o.data≠.fields vs)
  (hd:A'.depth+b'<Hv) (hu:A'.units+8*b'+8<ew) (Q4:A'.guards=A.guards) (hq:F'.q=ab→A'.handled=af):
  Rel G F' b' mJ b6 A' (P.under own s.heap) m fr' h s':=by
 have a7:=R.grow hk hg ho;have le:=R.tI;refine⟨a7.gens,a7.os,a7.bs,λa o e=>le _ _ (R.basePR a o e),jA a7.frs λl h1 h2 h3 h4 h5=>bM (hA l h1) λeN p1 p2 p3=>⟨eN++l,p1,?_,p2,λa ha=>?_,λa o e=>?_⟩,
  λn so e=>aj (a7.obj n so e) λad q1 q2=>⟨ad,q1,q2.mono le.t .rfl (λ_ x=>x) λ_ x=>x⟩,R.dom,R.inj,λn ad e=>have q:=R.sep n ad e;have z:=R.U7 e;⟨(l8 q.2.2.1 _).trans q.1,(l8 q.2.2.2 _).trans q.2.1,λha=>z.1 (xT _ ha),λha=>z.2 (xT _ ha)⟩,
  λa ha=>(l8 (R.OM (xT a ha)) _).trans (R.X1 (xT a ha)),hF,hd,hu,Q4.trans R.guards,hq⟩
 ·clear p1 p2
  induction eN with
  |nil=>exact h2
  |cons e r ih=>exact ww (p3 e (.head _)) λk1 L o k2 k3 k4 k5=>⟨k1,⟨L,o,k2,wN.mpr λo' q=>fB ((R.bs L o' q).symm.trans (xT L k3)),k4,k5⟩,ih λe he=>p3 e (.tail _ he)⟩
 ·rw[se,du] at ha
  refine ha.elim (λha=>aj (gP.mp ha) λe he hf=>ww (p3 e he) λ_ L o k2 k3 _ _=>.inl (aU (k2.symm.trans hf)▸k3)) λha=>.inr ((h4 a ha).elim (λq=>aj (R.f.mq a q) λo z _=>⟨o,(uH q _).trans z⟩) λq=>xE q λo q=>⟨o,le _ _ q⟩)
 ·exact if Ms:a∈own then⟨o.slots,hk _ _ ((uH Ms _).symm.trans e),λ_=>rfl⟩ else aj (h5 a o ((l8 Ms _).symm.trans e)) λsl q1 q2=>⟨sl,q1,λhl=>q2 λjV=>hl (se▸kd _ jV)⟩
noncomputable def Ci (sc:cu) (ps:List Str):Bool:=
 decide (sc.kind=.function) && (sc.names.all λp=>p.2 !=.free) && !sc.isCoroutine && !sc.isGenerator && decide ((sc.names.map (·.1)).Nodup) && decide (ps.Nodup) &&
 ps.all λx=>match sc.names.lookup x with|some .local=>ab|some .cell=>ab|_=>an
structure UM (G:Gl) (a:ax) (k:Nat) (ps:List Str) (ez:List SV) (body:List bI) (sc:cu) (o:Obj) (fd:HA) (ds:List Value):Prop where
 lk:G.K.lookup a=aa o
 data:o.data=.func fd
 scope:fd.scope=sc
 body:fd.body=.stmts body
 glob:fd.globals=uk
 blt:fd.builtins=zy
 clo:fd.closure=[]
 code:G.base.CodeRec fd.code fd.qualname
 bind:∀S (vals:List Value),vals.length=k→peek G.K S (uq fd ⟨vals,[]⟩)=aa (ps.zip (vals++ds))
 ds:∀(P:aW) (m:Mu),(∀a o,G.base.get? a=aa o→P a=aa o)→aY P m ez ds
structure dZ (G:Gl) (a:ax) (k:Nat) (ps:List Str) (ez:List SV) (body:List bI) (sc:cu):Prop where
 at_:∃o fd ds,UM G a k ps ez body sc o fd ds
 ok:Ci sc ps=ab
 len:ps.length=k+ez.length
theorem Np {P:aW} {m:Mu} {ps:List Str}:∀{vs:List SV} {a6:List Value},aY P m vs a6→∀{x:Str} {v:SV},(ps.zip vs).lookup x=aa v→∃v',(ps.zip a6).lookup x=aa v'∧VR P m v v':=by
 induction ps with
 |nil=>exact λ_ _ _ e=>a8 e
 |cons p ps ih=>
  intro vs a6 hv x v e
  cases vs with
  |nil=>exact a8 e
  |cons y vs=>
   refine bC hv λy' r z h1 h2=>z▸?_;rw[List.zip_cons_cons,kX] at e ⊢
   cases q:x==p with
   |true=>rw[q] at e;exact⟨y',rfl,aU e▸h1⟩
   |false=>rw[q] at e;exact ih h2 e
theorem Vf {kind:Str→Option k7} {x:Str} {v:Value} (hk:kind x=aa .local) {bs:List (Str×Value)}:∀{m:Str→Option Value},(m x=aa v∧x∉bs.map (·.1))∨((bs.map (·.1)).Nodup∧bs.lookup x=aa v)→bindL kind bs m x=aa v:=by
 induction bs with
 |nil=>exact λh=>h.elim (·.1) λh=>a8 h.2
 |cons p r ih=>
  refine λ{m} h=>ih (h.elim (λh=>.inl ⟨?_,λz=>h.2 (.tail _ z)⟩) λh=>?_)
  ·exact if q:kind p.1=aa .local then nE (P:=λf:Str→Option Value=>f x=aa v) q ((aK λe:x=p.1=>h.2 (e▸.head _)).trans h.1) else nI (P:=λf:Str→Option Value=>f x=aa v) q h.1
  ·have n:=k8.mp h.1
   have e:=h.2;rw[kX] at e
   cases q:x==p.1 with
   |true=>
    rw[q] at e;have z:=eW.mp q;exact .inl ⟨nE (P:=λf:Str→Option Value=>f x=aa v) (z▸hk) ((aO z).trans e),z.symm▸n.1⟩
   |false=>rw[q] at e;exact .inr ⟨n.2,e⟩
theorem Β {kind:Str→Option k7} {x:Str} {v:Value} (hk:kind x≠aa .local) {bs:List (Str×Value)}:∀{m:Str→Option Value},(m x=aa v∧x∉bs.map (·.1))∨((bs.map (·.1)).Nodup∧bs.lookup x=aa v)→bindC kind bs m x=aa v:=by
 induction bs with
 |nil=>exact λh=>h.elim (·.1) λh=>a8 h.2
 |cons p r ih=>
  refine λ{m} h=>ih (h.elim (λh=>.inl ⟨?_,λz=>h.2 (.tail _ z)⟩) λh=>?_)
  ·exact if q:kind p.1=aa .local then nE (P:=λf:Str→Option Value=>f x=aa v) q h.1 else nI (P:=λf:Str→Option Value=>f x=aa v) q ((aK λe:x=p.1=>h.2 (e▸.head _)).trans h.1)
  ·have n:=k8.mp h.1
   have e:=h.2;rw[kX] at e
   cases q:x==p.1 with
   |true=>
    rw[q] at e;have z:=eW.mp q;exact .inl ⟨nI (P:=λf:Str→Option Value=>f x=aa v) (z▸hk) ((aO z).trans e),z.symm▸n.1⟩
   |false=>rw[q] at e;exact .inr ⟨n.2,e⟩
theorem D9 {x:Str} {names:List (Str×k7)}:∀{n:Nat} {acc:List (Str×ax)},(names.lookup x=aa .cell∨(acc.lookup x).isSome=ab)→((gu n names acc).lookup x).isSome=ab:=by
 induction names with
 |nil=>exact λh=>h.elim (λe=>a8 e) id
 |cons p r ih=>
  intro n acc h;rw[kX] at h;show((if p.2==.cell then gu (n+1) r ((p.1,n)::acc) else gu n r acc).lookup x).isSome=ab
  cases q:x==p.1 with
  |true=>
   rw[q] at h;exact if z:(p.2==.cell)=ab then(aO z).symm▸ih (.inr (by rw[kX,q];rfl)) else(aK z).symm▸ih (.inr (h.elim (λe=>bd (eW.mpr (aU e)) z) id))
  |false=>
   rw[q] at h;exact if z:(p.2==.cell)=ab then(aO z).symm▸ih (h.imp id λe=>by rw[kX,q];exact e) else(aK z).symm▸ih h
theorem HB {α:Type} {p:Str×α} {l:List (Str×α)} (hn:(l.map (·.1)).Nodup) (hm:p∈l):l.lookup p.1=aa p.2:=by
 induction l with
 |nil=>exact cS hm
 |cons q r ih=>
  have n:=k8.mp hn;rw[kX];exact(dA.mp hm).elim (λe=>e▸by rw[qu _]) λhm=>by
   rw[kW.mpr λe:p.1=q.1=>n.1 (bD.mpr ⟨p,hm,e⟩)];exact ih n.2 hm
noncomputable def tX.val:tX→SV
 |.ret v=>v
 |_=>.none
noncomputable def iT (sc:cu):List Str:=(sc.names.filter (·.2==.cell)).map (·.1)
structure CC (G:Gl) (F:FD) (b:Nat) (fr:SF) (h:SH) (f:SV) (vs:List SV) (Q:QV):Prop where
 run:∀own ae A P m s (R':wQ→ak→Prop) f' a6,Rel G F b own ae A P m fr h s→VR P m f f'→aY P m vs a6→
  (∀v h' v' s' P' m',Q v h'→P.le P'→m.le m'→VR P' m' v v'→Rel G F b own ae A P' m' fr h' s'→R' (.ok (.ret v')) s')→kc (aQ G.prog G.w) A (.call f' ⟨a6,[]⟩) R' s
theorem RI {f:SV} {vs:List SV} {Q:QV} {X:QX} (w:CC G F b fr h f vs Q):WC G F b fr h f vs Q X:=
 .mk λown ae A P m s Q' E' f' a6 R hf hv c d=>PO (w.run own ae A P m s _ f' a6 R hf hv λv h' v' s' P' m'=>c v h' v' s' P' m')
structure Cu (sc:cu) (ps:List Str):Prop where
 fn:sc.kind=.function
 VL:∀p∈sc.names,p.2≠.free
 co:sc.isCoroutine=an
 gen:sc.isGenerator=an
 nd:(sc.names.map (·.1)).Nodup
 VI:ps.Nodup
 kinds:∀x∈ps,sc.names.lookup x=aa .local∨sc.names.lookup x=aa .cell
theorem Cu.of {sc:cu} {ps:List Str} (ok:Ci sc ps=ab):Cu sc ps:=by
 have q1:=(bR _ _).mp ok;have q2:=(bR _ _).mp q1.1;have q3:=(bR _ _).mp q2.1;have q4:=(bR _ _).mp q3.1;have q5:=(bR _ _).mp q4.1;have q6:=(bR _ _).mp q5.1;have nt:∀{c:Bool},(!c)=ab→c=an:=λ{c} h=>by cases c with|true=>exact cJ h|false=>rfl
 refine⟨fD q6.1,λp hp=>bne_iff_ne.mp (db.mp q6.2 p hp),nt q5.2,nt q4.2,fD q3.2,fD q2.2,λx hx=>?_⟩;have:=db.mp q1.2 x hx
 cases q:sc.names.lookup x with
 |none=>rw[q] at this;exact cJ this
 |some k=>rw[q] at this;cases k<;>first|exact .inl rfl|exact .inr rfl|exact cJ this
theorem Kl {sc:cu} {y:Str} (hc:sc.names.lookup y=aa .cell):y∈iT sc:=bD.mpr ⟨(y,.cell),mU.mpr ⟨mV hc,rfl⟩,rfl⟩
theorem aac {sc:cu} {ps:List Str} {q:Bool} {vs:List SV} {a6:List Value} {dG:ak} {qual:Str} {fa:Option ax} {code:Value} (ok:Cu sc ps) (c5:a6.length=ps.length) (hv:aY P m vs a6)
  (he:b6=newEnv sc dG.heap.objs.size uk (gu (dG.heap.objs.size+1) sc.names []) qual fa code af zy)
  (x:InCallC dG b6.locals (bindL b6.kindOf (ps.zip a6) λ_=>af) b6.cells (bindC b6.kindOf (ps.zip a6) λ_=>af) s):
  FrR ⟨sc,iT sc,q⟩ (b6.locals::(iT sc).filterMap (b6.cells.lookup ·)) b6 P m (ps.zip vs) s.heap:=by
 have wC:b6.scope=sc:=he▸rfl;have OI:∀y,b6.kindOf y=sc.names.lookup y:=λy=>ay (λsc:cu=>sc.names.lookup y) wC;have nd:((ps.zip a6).map (·.1)).Nodup:=(ae7 (bH c5.symm):(ps.zip a6).map (·.1)=ps).symm▸ok.VI;have cell:∀{y},sc.names.lookup y=aa .cell→∃c,b6.cells.lookup y=aa c∧c∈b6.locals::(iT sc).filterMap (b6.cells.lookup ·)∧c≠b6.locals∧s.heap.IsCell c (bindC b6.kindOf (ps.zip a6) (λ_=>af) y):=λ{y} hc=>
  xE (zD.mp (D9 (n:=dG.heap.objs.size+1) (acc:=[]) (.inl hc))) λc vd=>by
   have vd:b6.cells.lookup y=aa c:=he▸vd;exact⟨c,vd,.tail _ (gP.mpr ⟨y,Kl hc,vd⟩),dF (x.above y c (mV vd)),x.cell y c vd⟩
 have Iw:∀{y},sc.names.lookup y≠aa .free:=λe=>ok.VL _ (mV e) rfl;refine⟨wC,ok.fn,he▸rfl,he▸rfl,.head _,⟨_,x.toInCall.ns,λy v hy i_=>aj (Np hv hy) λv' q1 q2=>⟨v',Vf ((OI y).trans i_) (.inr ⟨nd,q1⟩),q2⟩⟩,λy v hy i_=>aj (Np hv hy) λv' q1 q2=>?_,
  λy hy=>g9 (cell (hy.elim id λe=>bd e Iw)) λc h1 h2 _ h4=>⟨c,h1,.inl ⟨h2,_,h4⟩⟩,λy hy=>?_,λy z c hy h1 h2=>name_of_addr x.apart (mV h1) (mV h2),λa ha=>?_⟩
 ·have hc:=i_.elim id λe=>bd e Iw
  exact g9 (cell hc) λc h1 h2 h3 h4=>⟨c,v',h1,q2,.inl ⟨h2,h3,Β (λe=>nomatch (((OI y).trans hc).symm.trans e:aa ae0=aa .local)) (.inr ⟨nd,q1⟩)▸h4⟩⟩
 ·refine aj (bD.mp hy) λp hp e=>?_
  have hp:=mU.mp hp;have hc:sc.names.lookup y=aa .cell:=e▸(HB ok.nd hp.1).trans (ay aa (eq_of_beq hp.2));exact⟨hc,g9 (cell hc) λc h1 h2 h3 h4=>⟨c,_,h1,h2,h3,h4⟩⟩
 ·exact(dA.mp ha).elim (λe=>x.toInCall.ns.elim λo h=>h.elim λes h=>h.elim λep h=>⟨o,e▸h.1,zf h.2.1⟩) λha=>aj (gP.mp ha) λy _ hy=>aj (x.cell y a hy) λo q1 q2=>⟨o,q1,BF q2⟩
theorem Q_ {a:ax} {k:Nat} {ps:List Str} {ez vs:List SV} {body:List bI} {sc:cu} {Q:QV} (H:dZ G a k ps ez body sc) (hk:vs.length=k)
  (w:jN G ⟨sc,iT sc,F.q⟩ b (ps.zip (vs++ez)) h body (λf _ h'=>Q f.val h') (λ_ _ _=>False)):CC G F (b+1) fr h (.glob a) vs Q:=by
 refine .mk λown ae A P m s R' f' a6 R hf hv c=>hf▸th H.at_ λo fd ds f=>?_;have ok:=Cu.of H.ok;have JE:=hv.app (f.ds P m R.basePR);have c5:(a6++ds).length=ps.length:=JE.length.symm.trans (cT.trans ((ay (· +ez.length) hk).trans H.len.symm));have hb:BindsTo s fd ⟨a6,[]⟩ (ps.zip (a6++ds)):=kp_binds R.fT λS=>f.bind S a6 (hv.length.symm.trans hk);have J7:=R.depth;refine codeAny_call_function (bf (b7 _ _) J7) (R.fT a o f.lk) f.data (f.scope▸ok.co) (f.scope▸ok.gen) f.body (f.code.keeps R.bs) (hb _ _ _ _ ?_);rw[f.scope,f.glob,f.blt,f.clo];refine wpAny_newFunctionEnv_cells ok.fn (λy hy=>(ok.kinds y.1 ((ae7 (bH c5.symm):(ps.zip (a6++ds)).map (·.1)=ps)▸ae8 (f:=(·.1)) hy)).imp id λq=>⟨q,D9 (.inl q)⟩) λb6 he s' x=>⟨(G.nolimit.keeps R.bs).keeps x.toInCall.keep,codeAny_func ?_⟩;clear hb;have KL:b6.frame=aa b6.locals:=he▸rfl;refine jX x.toInCall.same λhh tk es=>?_;have Rn:=R.enter (b':=b) (A':=A.deeper b6) (s':=s') x.toInCall.keep (es▸rfl) (es▸rfl) (λa ha=>zE ((dA.mp ha).elim (λe=>e▸x.toInCall.fresh) λha=>aj (gP.mp ha) λy _ hy=>cj (bf x.toInCall.fresh (x.above y a (mV hy)))):∀a∈b6.locals::(iT sc).filterMap (b6.cells.lookup ·),s.heap.get? a=af) (aac (q:=F.q) ok c5 (JE.mono R.tI.t .rfl) he x) (λl hl=>⟨[b6],ay (oZ (b6::·)) hl,⟨b6,l,rfl,rfl⟩,λe qU=>?_⟩)
  (bf (bH (ur A.depth 1 b)) J7) (bf (show A.units+3+8*b+8≤A.units+8*(b+1)+8 from nW (ah (bH (ur A.units 3 (8*b))) (eZ (aJ:3≤8) _)) 8) R.units) rfl R.quiet
 ·refine nZ (w.run _ _ _ _ _ _ _ (λ_ _=>False) Rn (λfl et aC f' bz cE cw hq hP hm hf bm=>?_) (λ_ _ _ _ _ _ _ q=>q.elim)) (λ_ _ q=>q) (λ_ _ q=>q.elim)
  refine jw (R.leave bm hP hm λl l' hl jV=>⟨[b6],aU (jV.symm.trans (ay (oZ (b6::·)) hl)),λa ha=>aj (gP.mp ha) λe qU hf=>aU (KL.symm.trans (bU.mp qU▸hf))▸.head _⟩) λl1 l2 cV=>?_
  cases fl with
  |ret v=>exact aj hf λv' z q=>z▸c _ _ _ _ _ _ hq l1 hm (q.mono l2 .rfl) cV
  |_=>exact hf▸c _ _ _ _ _ _ hq l1 hm rfl cV
 ·have p:b6.scope.kind≠.module∧∃L o,b6.frame=aa L∧L∈b6.locals::(iT sc).filterMap (b6.cells.lookup ·)∧s'.heap.get? L=aa o∧∀vs,o.data≠.fields vs:=
   ⟨λz=>(nomatch (ok.fn.symm.trans ((ay Scope.kind (he▸rfl:b6.scope=sc)).symm.trans z):ScopeKind.function=.module)),x.toInCall.ns.elim λo h=>h.elim λes h=>h.elim λep h=>⟨b6.locals,o,KL,.head _,h.1,λvs e=>nomatch (h.2.1.symm.trans e)⟩⟩
  exact bU.mp qU▸p
theorem Rel.lower (R:Rel G F (b+1) own ae A P m fr h s) (A':dP) (h1:A'.handled=A.handled) (h2:A'.depth≤A.depth+1) (h3:A'.frames=A.frames) (h4:A'.guards=A.guards) (h5:A'.units≤A.units+8):Rel G F b own ae A' P m fr h s:=
 ⟨R.gens,R.os,R.bs,R.basePR,h3.symm▸R.frs,R.obj,R.dom,R.inj,R.sep,R.ownP,R.f,bf (ah (nW h2 b) (bH (ur A.depth 1 b))) R.depth,
  bf (nW (ah (nW h5 (8*b)) (bH (ur A.units 8 (8*b)))) 8) R.units,h4.trans R.guards,λq=>h1.trans (R.quiet q)⟩
theorem Rel.K7 {A':dP} (R:Rel G F (b+1) own ae A P m fr h s) {P':aW} {m':Mu} {h':SH} {s':ak} (R':Rel G F b own ae A' P' m' fr h' s') (h3:A'.frames=A.frames):Rel G F (b+1) own ae A P' m' fr h' s':=
 ⟨R'.gens,R'.os,R'.bs,R'.basePR,h3▸R'.frs,R'.obj,R'.dom,R'.inj,R'.sep,R'.ownP,R'.f,R.depth,R.units,R.guards,R.quiet⟩
theorem call_cls {C fI:ax} {n:Nm} {vs:List SV} {Q:QV} (hm:makesIn G.K C=ab) (hi:h_ G.K (.ref C) "__init__"=aa (aa (.ref fI))) (hf:typeIn G.K (.ref fI)=aa (.type "function")) (hn:h n=af)
  (w:CC G F b fr (h.set n (.inst C [])) (.glob fI) (.ref n::vs) (λv h'=>v=.none∧Q (.ref n) h')):CC G F (b+1) fr h (.glob C) vs Q:=by
 refine .mk ?_;intro own ae A P m s R' f' a6 R jL hv c;obtain rfl:=jL;obtain⟨a7,le⟩:=R.alloc hn (so:=.inst C []) (ad:=(s.heap.objs.size+1,s.heap.objs.size)) (s':={s with heap:=(s.heap.push emptyDict).push (instObj C s.heap.objs.size)})
  (λa o e=>dS _ (dS _ e)) rfl rfl (bT _) (au _)
  ⟨dp (dm _),by
   show((s.heap.push emptyDict).push (instObj C s.heap.objs.size)).get? (s.heap.objs.size+1)=_;have:=fP (s.heap.push emptyDict) (o:=instObj C s.heap.objs.size) rfl;rw[lX] at this;exact this,[],0,dS _ (fP _ rfl),rfl⟩
 have hu:∀args,(HC "type.__call__" args).cUnits≤8:=λargs=>by
  have:(HC "type.__call__" args).frames=0:=rfl;show 1+3*(HC "type.__call__" args).frames≤8;exact dJ _
 have bm:=a7.lower (A.under (.builtin "type.__call__" ⟨.ref C::a6,[]⟩)) rfl (by
   show A.depth+_≤_;have:(HC "type.__call__" ⟨.ref C::a6,[]⟩).weight=1:=by rfl
   exact au _) rfl rfl (by show A.units+_≤_;have:=hu ⟨.ref C::a6,[]⟩;exact eZ this _)
 obtain⟨hh,g,d,t,os⟩:=s;refine make_core (makes_of R.fT hm) (PP R.fT hi) (λself=>bind_fn R.fT self hf) (.inl rfl) ?_;refine w.run own ae _ P _ _ _ _ (.ref (hh.objs.size+1)::a6) bm rfl ⟨_,_,rfl,⟨_,Mu.jj,rfl⟩,aY.mono aW.le.rfl.t le _ hv⟩ (λv h' v' s' P' m' q hP hm fA cV=>?_);obtain⟨rfl,q⟩:=q;obtain rfl:=fA;exact⟨rfl,c _ _ _ _ _ _ q hP (le.trans hm) ⟨_,hm _ _ Mu.jj,rfl⟩ (a7.K7 cV rfl)⟩
theorem call {func:Expr} {args:List Expr} {pos:Pos} {Q:QV} {X:QX}
  (uc:∀ae,d8 (.Call func args [] pos) ae=(do wR pos (←d8 func ae) [] (ju pos (gg args ae)) []))
  (hs:∀ae,(ju pos (gg args ae)).any (·.1)=an)
  (w:WE G F b fr h func (λf ag=>callable G f=ab∧j5 G F b fr ag args (λvs aC=>WC G F b fr aC f vs Q X) X) X):WE G F b fr h (.Call func args [] pos) Q X:=by
 refine .mk ?_;intro own ae A P m s Q' E' R c d;rw[uc ae];refine wb (w.run own ae A P m s _ _ R (λf ag f' a5 bW bV hq hP hm hf a7=>?_) d);exact JV (first:=[]) (first':=[]) hq.1 hs hq.2 a7 hf rfl (c.mono hP hm) (d.mono hP hm)
structure GM (G:Gl) (F:FD) (b:Nat) (fr:SF) (h:SH) (u:SV) (name:Str) (f:SV):Prop where
 run:∀own ae A P m s (Q':Value×List Value→ak→Prop) (E':Value→ak→Prop) u' pl,Rel G F b own ae A P m fr h s→VR P m u u'→
  (∀f' t,VR P m f f'→Q' (f',[u']) {s with toks:=t})→aw (aQ G.prog G.w) A (getMethod u' name pl) Q' E' s
theorem adi {n:Nm} {C f:ax} {fs:SF} {name:Str} (hn:h n=aa (.inst C fs)) (hg:zA G.K C name=ab) (hf:h_ G.K (.ref C) name=aa (aa (.ref f))) (ht:isFn G.K (.ref f)=ab)
  (hl:fs.lookup name=af):GM G F b fr h (.ref n) name (.glob f):=by
 refine .mk ?_;intro own ae A P m s Q' E' u' pl R hu c;refine aj hu λad h1 ar=>?_;clear hu;subst ar;obtain⟨bg,xs,k,q1,q2,q3,q4,q5,I⟩:=R.uN hn;obtain rfl:bg=ad:=aU (q1.symm.trans h1);exact method_fn R.fT I (Hx hg).1 (Hx hg).2 hf (eW.mp ht) (by show(lookIn name (ul xs k)).map _=_;rw[lookIn_dict _ _ _,q5.Ol hl];rfl) (c _ s.toks rfl)
theorem RZ {o:Expr} {name:Str} {gI pos:Pos} {args:List Expr} {Q:QV} {X:QX}
  (uc:∀ae,∃pl,d8 (.Call (.Attribute o name gI) args [] pos) ae=(do
   let ov ←d8 o ae
   kb gI.atName
   let(f,first) ←jt [ov] (getMethod ov name pl)
   wR pos f first (ju pos (gg args ae)) []))
  (hs:∀ae,(ju pos (gg args ae)).any (·.1)=an)
  (w:WE G F b fr h o (λu ag=>∃f,callable G f=ab∧GM G F b fr ag u name f∧j5 G F b fr ag args (λvs aC=>WC G F b fr aC f (u::vs) Q X) X) X):
  WE G F b fr h (.Call (.Attribute o name gI) args [] pos) Q X:=by
 refine .mk ?_;intro own ae A P m s Q' E' R c d;refine xE (uc ae) λpl hf=>?_;rw[hf];refine wb (w.run own ae A P m s _ _ R (λu ag u' a5 bW bV hq hP hm hu a7=>?_) d);refine bM hq λf hc hg hw=>?_;clear hq;refine wb (jG (wb (dD (hg.run own ae A bW bV a5 _ _ u' pl a7 hu (λf' t jL=>?_)))));exact JV (first:=[u]) (first':=[u']) hc hs hw (a7.tok t) jL (aY.one hu) (c.mono hP hm) (d.mono hP hm)
theorem NY {e:Expr} {pos:Pos} {Q:QS} {X:d0} (hs:∀ae:Env,Dg e af pos.line ae=pure an)
  (w:WE G F b fr h e (λ_ ag=>Q .next fr ag) (λx h=>X x fr h)):WS G F b fr h (.Expr e pos) Q X:=by
 refine .mk ?_;intro own ae A P m s Q' E' R c d;have hi:interactive ae=an:=by
  unfold interactive;rw[R.f.sc,R.f.kind];rfl
 rw[exec_Expr ae e pos hi (hs ae)];refine wb (jG (wb (w.run own ae A P m s _ _ R (λu ag u' a5 bW bV hq hP hm hu a7=>?_) d.jW)));exact wpAny_dropValue (c _ _ _ _ _ _ _ hq hP hm rfl a7)
structure fJ (G:Gl) (own:List ax) (P:aW) (m:Mu) (hp:cO) (T:List ax):Prop where
 all:∀a∈T,P a=af∧a∉own∧(∀n ad,m n=aa ad→a≠ad.1∧a≠ad.2)∧G.base.get? a=af∧∃o,hp.get? a=aa o∧¬jR o∧∀v,o.data≠.cell v
variable{T:List ax}
theorem Rel.oH (R:Rel G F b own ae A P m fr h s) (hT:fJ G own P m s.heap T) (hk:∀a o,a∉T→s.heap.get? a=aa o→s'.heap.get? a=aa o) (hg:s'.gens=s.gens) (ho:s'.os=s.os):
  Rel G F b own ae A P m fr h s':=by
 have nP:∀{a o},P a=aa o→a∉T:=λ{a o} e ha=>a8 ((hT.all a ha).1.symm.trans e);have nO:∀{a},a∈own→a∉T:=λ{a} h1 ha=>(hT.all a ha).2.1 h1;exact R.upd (λe=>hk _ _ (nP e)) hg ho (λl h2 h4=>KJ h2 h4 λa q o=>q.elim (λq=>hk _ _ (nO q)) λq=>q.elim λo' q=>hk _ _ (nP q))
  (λn so e=>aj (R.obj n so e) λad q1 q2=>⟨ad,q1,q2.mono aW.le.rfl.t .rfl (λo=>hk _ o λha=>((hT.all _ ha).2.2.1 n ad q1).1 rfl) λo=>hk _ o λha=>((hT.all _ ha).2.2.1 n ad q1).2 rfl⟩) R.dom (R.f.keep .rfl .rfl λa ha o e=>⟨o,hk _ _ (nO ha) e,rfl,rfl⟩)
theorem Rel.hold (R:Rel G F b own ae A P m fr h s) (hT:fJ G own P m s.heap T):Rel G F b own ae A (P.under T s.heap) m fr h s∧P.le (P.under T s.heap):=by
 have le:P.le (P.under T s.heap):=λa o e=>(l8 (λha=>a8 ((hT.all a ha).1.symm.trans e)) _).trans e;exact⟨⟨R.gens,R.os,R.bs,λa o e=>le _ _ (R.basePR a o e),jA R.frs λl h1 h2 h3 h4 h5=>⟨l,h1,h2,h3,λa ha=>(h4 a ha).imp id λq=>q.elim λo q=>⟨o,le _ _ q⟩,λa o e=>if ha:a∈T then⟨o.slots,(uH ha _).symm.trans e,λ_=>rfl⟩ else h5 a o ((l8 ha _).symm.trans e)⟩,
  λn so e=>aj (R.obj n so e) λad q1 q2=>⟨ad,q1,q2.mono le.t .rfl (λ_ x=>x) λ_ x=>x⟩,R.dom,R.inj,λn ad e=>have q:=R.sep n ad e;⟨(l8 (λha=>((hT.all _ ha).2.2.1 n ad e).1 rfl) _).trans q.1,(l8 (λha=>((hT.all _ ha).2.2.1 n ad e).2 rfl) _).trans q.2.1,q.2.2⟩,
  λa ha=>(l8 (λCQ=>(hT.all _ CQ).2.1 ha) _).trans (R.ownP a ha),R.f.keep le .rfl λa _ o e=>⟨o,e,rfl,rfl⟩,R.depth,R.units,R.guards,R.quiet⟩,le⟩
theorem Rel.drop (R:Rel G F b own ae A P m fr h s) (hT:fJ G own P m s.heap T) (R':Rel G F b own ae A P' m' fr' h' s') (hP:(P.under T s.heap).le P') (hm:m.le m'):
  P.le (P'.less T)∧P'.fZ (P'.less T)∧Rel G F b own ae A (P'.less T) m' fr' h' s'∧fJ G own (P'.less T) m' s'.heap T∧∀a∈T,s'.heap.get? a=s.heap.get? a:=by
 have nT:∀{a o},P a=aa o→a∉T:=λ{a o} e ha=>a8 ((hT.all a ha).1.symm.trans e);have rP:∀{a},a∈T→∃o,s.heap.get? a=aa o∧P' a=aa o∧¬jR o∧∀v,o.data≠.cell v:=λ{a} ha=>aj (hT.all a ha).2.2.2.2 λo e1 e2=>⟨o,e1,hP a o ((uH ha _).trans e1),e2⟩;have le:P.le (P'.less T):=λa o e=>(mY (nT e)).trans (hP a o ((l8 (nT e) _).trans e));have fZ:P'.fZ (P'.less T):=λa o e hd=>(mY λha=>g9 (rP ha) λo' _ e1 e2 _=>e2 (aU (e.symm.trans e1)▸hd)).trans e;have JY:∀{a o v},P' a=aa o→o.data=.cell v→P'.less T a=aa o:=λ{a o v} e hd=>(mY λha=>g9 (rP ha) λo' _ e1 _ e2=>e2 v (aU (e.symm.trans e1)▸hd)).trans e;have nn:∀{a},P' a=af→a∉T:=λ{a} ea ha=>g9 (rP ha) λo' _ e1 _ _=>fB (e1.symm.trans ea);have frs:=jA R'.frs λl h1 h2 h3 h4 h5=>jA R.frs λAc g1 _ _ g4 _=>(⟨l,h1,h2,h3,λa ha=>g4 a (aU (h1.symm.trans g1)▸ha),h5⟩:∃l,A.frames=aa l∧s'.heap.FunFrames G.base l∧(∃e0 r,l=e0::r∧e0.frame=ae.frame)∧(∀a∈l.filterMap (·.frame),a∈own∨∃o,P a=aa o)∧∀a o,P' a=aa o→∃sl,s'.heap.get? a=aa {o with slots:=sl}∧(a∉l.filterMap (·.frame)→sl=o.slots));have ex:∀a∈T,s'.heap.get? a=s.heap.get? a:=λa ha=>jA frs λl _ _ _ h4 h5=>g9 (rP ha) λo q5 q6 _ _=>aj (h5 a o q6) λsl e1 e2=>
  e1.trans ((ay aa (Ip o sl (e2 λhl=>(h4 a hl).elim (hT.all a ha).2.1 λz=>z.elim λo' z=>a8 ((hT.all a ha).1.symm.trans z)))).trans q5.symm)
 have X:=R'.f;exact t8 le fZ ⟨R'.gens,R'.os,R'.bs,λa o e=>le _ _ (R.basePR a o e),jA frs λl h1 h2 h3 h4 h5=>⟨l,h1,h2,h3,λa ha=>(h4 a ha).imp id λq=>q.elim λo q=>⟨o,le _ _ q⟩,λa o e=>h5 a o ((λ{a o} e=>if ha:a∈T then a8 ((DB ha).symm.trans e) else(mY ha).symm.trans e:∀{a o},P'.less T a=aa o→P' a=aa o) e)⟩,
  λn so e=>aj (R'.obj n so e) λad q1 q2=>⟨ad,q1,q2.mono fZ .rfl (λ_ x=>x) λ_ x=>x⟩,R'.dom,R'.inj,λn ad e=>have q:=R'.sep n ad e;⟨(mY (nn q.1)).trans q.1,(mY (nn q.2.1)).trans q.2.1,q.2.2⟩,λa ha=>have q:=R'.ownP a ha;(mY (nn q)).trans q,
  ⟨X.sc,X.kind,X.glob,X.blt,X.q8,aj X.ns λmm q1 q2=>⟨mm,q1,λx v hx hl=>aj (q2 x v hx hl) λv' z1 z2=>⟨v',z1,z2.mono fZ .rfl⟩⟩,λx v hx hl=>bC (X.l9 x v hx hl) λc v' q1 q2 q3=>⟨c,v',q1,q2.mono fZ .rfl,q3.imp id λq=>aj q λo z1 z2=>⟨o,JY z1 z2,z2⟩⟩,
   λx hx=>aj (X.qX x hx) λc q1 q2=>⟨c,q1,q2.imp id λq=>eA q λo v z1 z2=>⟨o,v,JY z1 z2,z2⟩⟩,X.ug,X.apart,X.mq⟩,R'.depth,R'.units,R'.guards,R'.quiet⟩
  ⟨λa ha=>have z:=hT.all a ha;⟨DB ha,z.2.1,λn ad e=>have y:=R'.sep n ad e;⟨λq=>nn y.1 (q▸ha),λq=>nn y.2.1 (q▸ha)⟩,z.2.2.2.1,(ex a ha).symm▸z.2.2.2.2⟩⟩ ex
section
open AutoSeq1 (wpAny_loadPart')
variable{prog:fq} {w:cD} {E:Value→ak→Prop}
theorem adw {it t:ax} {i:Nat} {items:Array Value} {x:Value} {Q:Value→ak→Prop} (hit:s.heap.IsTupleIter it t i) (ht:s.heap.IsTuple t items) (hx:items[i]? =aa x)
  (hQ:∀h',h'.IsTupleIter it t (i+1)→r_ it s.heap h'→Q x {s with heap:=h'}):aw (aQ prog w) A (HE (.ref it)) Q E s:=by
 refine bM (id hit) λo ho hc hd=>?_;refine vU ht λol lu _ nl vv=>?_;clear ht;unfold HE;refine wb (qy (name:=dL "__next__") hit.typeIs F.slot_tuple_iterator_next
  (i4 F.slot_tuple_iterator_next hit.typeIs F.entry_tuple_iterator_next ?_ (F.args_tuple_iterator_next_1 _)))
 show aw _ _ (field (.ref it) 0 >>=_) _ _ s;refine wb (ut ho hd (x:=.ref t) rfl ?_);show aw _ _ (if(Dh t==eG)=ab then _ else _) _ _ s;rw[aK (show ¬((Dh t==eG)=ab) from iB)];show aw _ _ (field (.ref it) 1 >>=_) _ _ s;refine wb (ut ho hd (x:=.int i 0) rfl ?_);show aw _ _ (seqItems? (.ref t) >>=_) _ _ s;refine wb (uu lu vv ?_);simp only[HF,hx];refine wb (sf ho hd aJ (aD (aT x rfl (aD (hQ _ ?_ (o9 ..))))));exact⟨_,kZ _ ho (PQ (HG hd _)),(Di ..).trans hc,by
  rw[HG hd _];simp[e_]⟩
theorem IH {it t:ax} {i:Nat} {items:Array Value} {Q:Value→ak→Prop} (hh:A.handled=af) (hit:s.heap.IsTupleIter it t i) (ht:s.heap.IsTuple t items) (hx:items[i]? =af)
  (hE:∀h' e,PS it s.heap h'→(∃o,h'.get? e=aa o∧o.cls=.type "StopIteration")→E (.ref e) {s with heap:=h'}):aw (aQ prog w) A (HE (.ref it)) Q E s:=by
 refine bM (id hit) λo ho hc hd=>?_;refine vU ht λol lu _ nl vv=>?_;clear ht;unfold HE;refine wb (qy (name:=dL "__next__") hit.typeIs F.slot_tuple_iterator_next
  (i4 F.slot_tuple_iterator_next hit.typeIs F.entry_tuple_iterator_next ?_ (F.args_tuple_iterator_next_1 _)))
 show aw _ _ (field (.ref it) 0 >>=_) _ _ s;refine wb (ut ho hd (x:=.ref t) rfl ?_);show aw _ _ (if(Dh t==eG)=ab then _ else _) _ _ s;rw[aK (show ¬((Dh t==eG)=ab) from iB)];show aw _ _ (field (.ref it) 1 >>=_) _ _ s;refine wb (ut ho hd (x:=.int i 0) rfl ?_);show aw _ _ (seqItems? (.ref t) >>=_) _ _ s;refine wb (uu lu vv ?_);simp only[HF,hx];refine wb (jH (wb (sf ho hd aJ ?_)));show aw _ _ (newExc (.type "StopIteration") [] >>=_) _ _ _;refine wb ?_;simp only[newExc,newTuple];refine wb (si ?_ (by size_fits));refine wb (m:=PT _ _) (mW (a:=eG) (by first|rfl|(simp only[PT];rfl)) ?_);refine si ?_ (by size_fits);simp only[HH];refine wb (wpAny_handled ?_)
 first|rw[show A.in1.handled=af from hh]|rw[hh]
 refine wb (aD (wpAny_throw ?_));exact hE _ _ (((o9 ..).extBut.push _).push _) (aT _ (fP _ rfl) rfl)
theorem Η (hh:A.handled=af) (it t:ax) (dh:t≠it) (items:Array Value):
  Draws prog w A it [it,t] items.size (λi v=>items[i]? =aa v) (λi h=>h.IsTupleIter it t i∧h.IsTuple t items) where
 live:=λ_ _ st=>let⟨o,ho,_⟩:=st.1;⟨o,ho⟩
 frame:=λ_ _ _ st hk=>⟨st.1.at λo e=>hk it (.head _) o e,let⟨o,ho,r⟩:=st.2;⟨o,hk t (.tail _ (.head _)) o ho,r⟩⟩
 item:=λi s Q E hi st hQ=>
  adw st.1 st.2 (jq hi) λh' f9 gU=>hQ _ h' s.toks (jq hi) ⟨f9,let⟨o,ho,r⟩:=st.2;⟨o,(gU.2 t dh).trans ho,r⟩⟩ gU
 done:=λs Q E st hE=>IH hh st.1 st.2 (Array.getElem?_size ..) hE
theorem abf {i:Nat} {it t:ax} {items:Array Value} (hh:A.handled=af) (hx:items[i]? =af):
  Draws prog w A it [it,t] 0 (λ_ _=>True) (λ_ h=>h.IsTupleIter it t i∧h.IsTuple t items) where
 live:=λ_ _ st=>let⟨o,ho,_⟩:=st.1;⟨o,ho⟩
 frame:=λ_ _ _ st hk=>⟨st.1.at λo e=>hk it (.head _) o e,let⟨o,ho,r⟩:=st.2;⟨o,hk t (.tail _ (.head _)) o ho,r⟩⟩
 item:=λi s Q E hi=>nomatch hi
 done:=λs Q E st hE=>IH hh st.1 st.2 hx hE
theorem Ss (l:ax) (items:Array Value) (n:Nat) (dct:Option ax) (sl:Array (Option Value)):
  Meets (Builtin.«enumerate.__new__» ⟨[.type "enumerate",.ref l],[]⟩) (λ_ R s=>s.heap.get? l=aa {cls:=.type "tuple",dict:=dct,data:=.seq items n,slots:=sl}∧
   R (.ok (.ret (.ref (s.heap.push {cls:=.type "tuple_iterator",data:=.fields #[.ref l,.int 0 0]}).objs.size)))
    {s with heap:=(s.heap.push {cls:=.type "tuple_iterator",data:=.fields #[.ref l,.int 0 0]}).push {cls:=.type "enumerate",data:=.fields #[.none,.bool an,.ref s.heap.objs.size,e_ 0,.none,.none]}}):=
 .of_wp λprog w A R s h=>by
  obtain⟨hp,g,d,tk,os⟩:=s;refine xA h λhl h=>?_;have tQ:=sub_enumerate;have hL:Heap.IsTuple (Shared.heap ⟨hp,g,d,tk,os⟩) l items:=⟨_,hl,rfl,n,rfl⟩
  wp_walk using HD hl
  refine wpAny_stack_any λst=>aD ?_;generalize ati _ _ _ _=b
  cases b
  ·wp_walk using HD hl,PU hL
   exact(aT _ rfl h)
  ·wp_walk using HD hl,PU hL
   exact(aT _ rfl h)
theorem R2 {l:ax} {items:Array Value} {Q:Value→ak→Prop} (hL:s.heap.IsTuple l items)
  (h:∀h',IsEnum h' (s.heap.objs.size+1) s.heap.objs.size 0 .none→h'.IsTupleIter s.heap.objs.size l 0→h'.objs.size=s.heap.objs.size+2→
   (∀b o,s.heap.get? b=aa o→h'.get? b=aa o)→Q (.ref (s.heap.objs.size+1)) {s with heap:=h'}):
  aw (aQ prog w) A (o_ (.type "enumerate") [.ref l]) Q E s:=by
 obtain⟨⟨c,dct,dt,sl⟩,hl,hc,n,hd⟩:=hL
 replace hc:c=.type "tuple":=hc
 replace hd:dt=.seq items n:=hd
 subst hc hd;refine callType_new F.called_enumerate aV (F.typeCall_enumerate_1 _) (F.newCall_enumerate_1 _) (λobj=>F.args_object_init_2 obj _) F.entry_enumerate_new
  (Ss l items n dct sl) ⟨hl,?_⟩
 have hz:(s.heap.push {cls:=.type "tuple_iterator",data:=.fields #[.ref l,.int 0 0]}).objs.size=s.heap.objs.size+1:=lX ..;show _∧_;rw[hz];have he:IsEnum ((s.heap.push {cls:=.type "tuple_iterator",data:=.fields #[.ref l,.int 0 0]}).push
   {cls:=.type "enumerate",data:=.fields #[.none,.bool an,.ref s.heap.objs.size,e_ 0,.none,.none]}) (s.heap.objs.size+1) s.heap.objs.size 0 .none:=by
  have:=fP (s.heap.push {cls:=.type "tuple_iterator",data:=.fields #[.ref l,.int 0 0]})
   (o:={cls:=.type "enumerate",data:=.fields #[.none,.bool an,.ref s.heap.objs.size,e_ 0,.none,.none]}) rfl
  rw[hz] at this;exact this
 refine⟨⟨_,he,rfl⟩,h _ he ⟨_,dS _ (fP _ rfl),rfl,rfl⟩ (by rw[lX _ _,hz]) λb o x=>dS _ (dS _ x)⟩
end
inductive dB where
 |list (n:Nm)
 |tup (vs:List SV)
 |range (a:Int) (c:Nat)
 |keys (n:Nm) (len:Nat)
 |enumL (n:Nm)
 |enumT (vs:List SV)
 |str (x:Str)
def to (hp:cO) (J:ax) (P:aW) (m:Mu) (i:Nat):dB→Prop
 |.list n=>∃ad,m n=aa ad∧hp.IsListIter J ad.1 i
 |.tup vs=>∃t,VR P m (.tup vs) (.ref t)∧hp.IsTupleIter J t i
 |_=>False
def qq (k:dB) (i:Nat) (P:aW) (m:Mu) (hp:cO) (I:ax) (T:List ax):Prop:=∃J old,T=[I,J]∧I≠J∧IsEnum hp I J i old∧to hp J P m i k
def kH (k:dB) (i:Nat) (P:aW) (m:Mu) (hp:cO) (I:ax) (T:List ax):Prop:=
 match k with
 |.list n=>T=[I]∧to hp I P m i (.list n)
 |.tup vs=>T=[I]∧to hp I P m i (.tup vs)
 |.range a c=>T=[I]∧IsRangeIter hp I (a+i) ((c:Int) - i) 1
 |.keys n len=>T=[I]∧∃ad,m n=aa ad∧hp.IsKeyIter I ad.1 i len len
 |.enumL n=>qq (.list n) i P m hp I T
 |.enumT vs=>qq (.tup vs) i P m hp I T
 |.str x=>T=[I]∧∃t,hp.IsStrIter I "str_ascii_iterator" x t i
noncomputable def oK (es:List (SV×SV)):Bool:=es.all λp=>match p.1 with|.str _=>ab|_=>an
theorem gL.strs {w:cD} {prog:fq} {P:aW} {m:Mu}:∀{es:List (SV×SV)} {xs:List dK},gL w P m es xs→oK es=ab→
  ∃kU:List (Str×Value),uv (Dj prog w) xs kU∧es.map (·.1)=kU.map (λp=>SV.str p.1)∧(∀e∈xs,∃k,(Dj prog w).is k e.key=ab∧e.hash=(Dj prog w).hash k):=by
 intro es
 induction es with
 |nil=>intro xs h _;cases h;exact(cL ([]) .nil rfl (λe he=>nomatch he))
 |cons p es ih=>
  intro xs h ha;obtain⟨k,v⟩:=p;refine tR h λe r ar h1 h2 h3 h4=>?_;clear h;subst ar;refine bM (ih h4 (Dk.mp ha).2) λkU q1 q2 q3=>?_;have hx:∃x,k=.str x:=by
   replace ha:=(Dk.mp ha).1
   cases k with
   |str x=>exact⟨x,rfl⟩
   |_=>exact cJ ha
  refine xE hx λx bu=>?_;clear hx;subst bu;refine xE h2 λt ht=>?_;clear h2;have hk:(Dj prog w).is x e.key=ab:=ht▸qu x;exact(cL ((x,e.val)::kU) (.cons hk rfl q1) (ay (SV.str x::·) q2) (PV.mpr ⟨(aT x hk h1),q3⟩))
theorem gL.length {w:cD} {P:aW} {m:Mu} {es:List (SV×SV)}:∀{xs:List dK},gL w P m es xs→es.length=xs.length:=by
 induction es with
 |nil=>intro xs h;cases h;rfl
 |cons p es ih=>intro xs h;refine tR h λe r ar _ _ _ h4=>?_;clear h;subst ar;exact ay (· +1) (ih h4)
noncomputable def yV (o:Option cy) (f:List SV→Option SV):Option (Option SV):=match o with|some (.list vs)=>aa (f vs)|_=>af
noncomputable def D4 (o:Option cy) (f:List (SV×SV)→Option (Option SV)):Option (Option SV):=match o with|some (.dict es)=>f es|_=>af
def jx (A:Prop) (B:SV→Prop):Option (Option SV)→Prop
 |none=>False
 |some af=>A
 |some (aa v)=>B v
theorem jx.imp {A A':Prop} {B B':SV→Prop} (a:A→A') (c:∀v,B v→B' v):∀{o:Option (Option SV)},jx A B o→jx A' B' o
 |some af,w=>a w
 |some (aa v),w=>c v w
theorem L8 {A:Prop} {B:SV→Prop} {o:Option cy} {f:List SV→Option SV} (w:jx A B (yV o f)):∃vs,o=aa (.list vs)∧jx A B (aa (f vs)):=
 match o,w with
 |some (.list vs),w=>(aT vs rfl w)
theorem acw {A:Prop} {B:SV→Prop} {o:Option cy} {f:List (SV×SV)→Option (Option SV)} (w:jx A B (D4 o f)):∃es,o=aa (.dict es)∧jx A B (f es):=
 match o,w with
 |some (.dict es),w=>(aT es rfl w)
theorem D1 {A:Prop} {B:SV→Prop} {C:Prop} {P:aW} {m:Mu} {vs:List SV} {xs:Array Value} {i:Nat} {f:SV→SV} (q:aY P m vs xs.toList) {o:Option SV} (ho:o=vs[i]?.map f) (w:jx A B (aa o)) (e:xs[i]? =af→A→C)
  (c:∀v v',xs[i]? =aa v'→VR P m v v'→B (f v)→C):C:=by
 subst ho
 cases hv:vs[i]? with
 |none=>
  rw[hv] at w;exact e (Array.getElem?_eq_none (by rw[←fQ,←q.length];exact ke.mp hv)) w
 |some v=>
  rw[hv] at w;refine aj (q.get hv) λv' hx s8=>?_;exact c v v' (js.symm.trans hx) s8 w
noncomputable def jo (k:dB) (i:Nat) (h:SH):Option (Option SV):=
 match k with
 |.list n=>yV (h n) (λvs=>vs[i]?)
 |.tup vs=>aa vs[i]?
 |.range a c=>aa (if i<c then aa (.int (a+i)) else af)
 |.keys n len=>D4 (h n) (λes=>if es.length=len∧oK es=ab then aa (es[i]?.map (·.1)) else af)
 |.enumL n=>yV (h n) (λvs=>vs[i]?.map λv=>.tup [.int i,v])
 |.enumT vs=>aa (vs[i]?.map λv=>.tup [.int i,v])
 |.str x=>aa (x.cps[i]?.map λc=>.str ⟨#[c]⟩)
noncomputable def DX:dB→Bool
 |.enumL _=>ab
 |.enumT _=>ab
 |_=>an
inductive mC (k:dB):Expr→Prop where
 |name {x:Str} {p:Pos} (h:DX k=an):mC k (.Name x p)
 |tup {es:List Expr} {n:Nat} {p:Pos}:mC k (.Tuple es n p)
theorem to.move {k:dB} {i:Nat} {P P':aW} {m m':Mu} {hp bY:cO} {J:ax} (hP:P.fZ P') (hm:m.le m') (hJ:∀o,hp.get? J=aa o→bY.get? J=aa o) (x:to hp J P m i k):to bY J P' m' i k:=by
 cases k with
 |list n=>obtain⟨ad,h1,o,h2,h3⟩:=x;exact⟨ad,hm _ _ h1,o,hJ _ h2,h3⟩
 |tup vs=>obtain⟨t,h1,o,h2,h3⟩:=x;exact⟨t,h1.mono hP hm,o,hJ _ h2,h3⟩
 |_=>exact x
theorem qq.move {k:dB} {i:Nat} {P P':aW} {m m':Mu} {hp bY:cO} {I:ax} {T:List ax} (hP:P.fZ P') (hm:m.le m') (hT:∀a∈T,bY.get? a=hp.get? a) (x:qq k i P m hp I T):qq k i P' m' bY I T:=by
 refine gC x λJ old ar h0 h2 h3=>?_;clear x;subst ar;exact⟨J,old,rfl,h0,(hT I (.head _)).trans h2,h3.move hP hm λo e=>(hT J (.tail _ (.head _))).trans e⟩
theorem kH.move {k:dB} {i:Nat} {P P':aW} {m m':Mu} {hp bY:cO} {I:ax} {T:List ax} (hP:P.fZ P') (hm:m.le m') (hT:∀a∈T,bY.get? a=hp.get? a) (x:kH k i P m hp I T):kH k i P' m' bY I T:=by
 have hI {o} (e:T=[I]):hp.get? I=aa o→bY.get? I=aa o:=(hT I (e▸.head _)).trans
 cases k with
 |list n=>exact⟨x.1,x.2.move hP hm λo=>hI x.1⟩
 |tup vs=>exact⟨x.1,x.2.move hP hm λo=>hI x.1⟩
 |range a c=>exact⟨x.1,hI x.1 x.2⟩
 |keys n len=>obtain⟨e,ad,h1,o,h2,h3⟩:=x;exact⟨e,ad,hm _ _ h1,o,hI e h2,h3⟩
 |enumL n=>exact qq.move hP hm hT x
 |enumT vs=>exact qq.move hP hm hT x
 |str x'=>obtain⟨e,t,o,h2,h3⟩:=x;exact⟨e,t,o,hI e h2,h3⟩
variable{I:ax}
theorem Rel.listAt (R:Rel G F b own ae A P m fr h s) {n:Nm} {vs:List SV} (hn:h n=aa (.list vs)):∃ad xs k,m n=aa ad∧s.heap.get? ad.1=aa (DY xs k)∧aY P m vs xs.toList:=by
 obtain⟨ad,q1,_,xs,k,q2,q3⟩:=R.obj n _ hn;exact⟨ad,xs,k,q1,q2,q3⟩
theorem Rel.L_ (R:Rel G F b own ae A P m fr h s) (hT:fJ G own P m s.heap T) {vs:List SV} {t:ax} (sP:VR P m (.tup vs) (.ref t)):∃xs,s.heap.IsTuple t xs∧aY P m vs xs.toList∧∀a∈T,t≠a:=by
 obtain⟨a,o,items,n,e,q1,q2,q3,q4⟩:=sP;obtain rfl:=PW e;refine bM (R.rn q1) λo' z1 z2 z3=>?_;exact⟨items,⟨o',z1,z2.trans q2,n,z3.trans q3⟩,q4,λa ha e=>by subst e;exact nomatch ((hT.all t ha).1.symm.trans q1)⟩
theorem Ε {M:i0} {E:Value→ak→Prop} {k:dB} {t:Expr} {v:Value} {Q:Unit→ak→Prop} (ht:mC k t) {o:Obj} {T:String} {fs:Array Value} (ho:s.heap.get? I=aa o) (hc:o.cls=.type T) (hd:o.data=.fields fs) (hp:(["enumerate","zip","dict_itemiterator","dict_reverseitemiterator","odict_iterator","itertools.zip_longest","itertools.pairwise"]:List String).contains T=an)
  (hq:Q () s):aw M A (Dl t (.ref I) v) Q E s:=by
 cases ht with
 |name _=>exact aD hq
 |tup=>
  cases v with
  |ref a=>
   refine wb (wpAny_load ho ?_);rw[hc,hd];refine(?_:aw M A (if(_ && _)=ab then _ else _) Q E s);rw[hp];exact aD hq
  |_=>exact aD hq
def ER (G:Gl) (F:FD) (b:Nat) (own:List ax) (ae:Env) (A:dP) (P:aW) (m:Mu) (fr:SF) (h:SH) (k:dB) (i:Nat) (I:ax) (T:List ax) (v:SV) (Q':Value→ak→Prop):Prop:=
 ∀v' s' P',P.le P'→Rel G F b own ae A P' m fr h s'→VR P' m v v'→kH k (i+1) P' m s'.heap I T→fJ G own P' m s'.heap T→Q' v' s'
theorem fJ.same {P:aW} (hT:fJ G own P m s.heap T) {hp:cO} (x:∀a∈T,∃o,hp.get? a=aa o∧¬jR o∧∀v,o.data≠.cell v):fJ G own P m hp T:=
 ⟨λa ha=>(t8 ((hT.all a ha).1) ((hT.all a ha).2.1) ((hT.all a ha).2.2.1) ((hT.all a ha).2.2.2.1) (x a ha))⟩
theorem pt {o:Obj} {vs:Array Value} (h:o.data=.fields vs):∀v,o.data≠.cell v:=λv e=>by rw[h] at e;cases e
theorem wc {T:String} {o:Obj} (hc:o.cls=.type T) (h1:T≠"tuple") (h2:T≠"range"):¬jR o:=by
 rintro(⟨e,_⟩|⟨e,_⟩)<;>rw[hc] at e<;>cases e
 ·exact h1 rfl
 ·exact h2 rfl
theorem Rel.KY (R:Rel G F b own ae A P m fr h s) {n:Nm} {es:List (SV×SV)} {ad:ax×ax} (hn:h n=aa (.dict es)) (h1:m n=aa ad) (ha:oK es=ab):
  ∃kU,kU.length=es.length∧es.map (·.1)=kU.map (λp=>SV.str p.1)∧s.heap.DictAt (Dj G.prog G.w) ad.1 kU es.length:=by
 refine KW (R.obj n _ hn) λbg q1 _ xs q2 q3 q4 _=>?_;have e:=aU (q1.symm.trans h1);subst e;refine bM (q3.strs (prog:=G.prog) ha) λkU z1 z2 z3=>?_;exact⟨kU,(aI ..).symm.trans ((ay nY z2.symm).trans (aI ..)),z2,_,xs,q2,⟨rfl,rfl,rfl⟩,rfl,λe he=>z3 e (Array.mem_toList_iff.mpr he),z1,
  wK.mpr (atj (λhab e=>hab (ay SV.str e)) (wK.mp (z2▸q4)))⟩
noncomputable def zV (T:String):Bool:=!((["enumerate","zip","dict_itemiterator","dict_reverseitemiterator","odict_iterator","itertools.zip_longest","itertools.pairwise"]:List String).contains T||T=="tuple"||T=="range")
theorem xo {hp:cO} {T:String} {fs:Array Value} (p:zV T=ab) (x:∃o,hp.get? I=aa o∧o.cls=.type T∧o.data=.fields fs):∃o,hp.get? I=aa o∧¬jR o∧∀v,o.data≠.cell v:=by
 refine bM x λo ho hc hd=>?_;clear x;refine xA (Dm.mp ((jI _).mp p)) λp1 p3=>?_;exact(cL o ho (wc hc (λe=>bd (eW.mpr e) ((Dm.mp p1).2▸iB)) (λe=>bd (eW.mpr e) (p3▸iB))) (pt hd))
theorem xt {k:dB} {i:Nat} {t:Expr} {v:SV} {v':Value} {Q':Value→ak→Prop} {E':Value→ak→Prop} {h':cO} {tk:Tok} {T:String} {fs:Array Value} (ht:mC k t) (R:Rel G F b own ae A P m fr h s) (hT:fJ G own P m s.heap [I])
  (hs:r_ I s.heap h') (x:∃o,h'.get? I=aa o∧o.cls=.type T∧o.data=.fields fs) (hp:zV T=ab) (w:ER G F b own ae A P m fr h k i I [I] v Q') (hv:VR P m v v') (hI:kH k (i+1) P m h' I [I]):
  aw (aQ G.prog G.w) A (Dl t (.ref I) v') (λ_ bz=>Q' v' bz) E' {s with heap:=h',toks:=tk}:=by
 have y:=xo hp x;refine bM x λo ho hc hd=>?_;clear x;exact Ε (s:={s with heap:=h',toks:=tk}) ht ho hc hd (Dm.mp (Dm.mp ((jI _).mp hp)).1).1
  (w v' _ P .rfl (R.oH hT (λa o ha e=>(hs.2 a λq=>ha (q▸.head _)).trans e) rfl rfl) hv hI (hT.same λa ha=>bU.mp ha▸y))
theorem v9 {Qe:ak→Prop} {h':cO} {J:ax} (R:Rel G F b own ae A P m fr h s) (hT:fJ G own P m s.heap T) (hJ:J∈T) (w:∀s',Rel G F b own ae A P m fr h s'→Qe s') (he:PS J s.heap h'):Qe {s with heap:=h'}:=
 w _ (R.oH hT (λa o ha e=>he a o (λq=>ha (q▸hJ)) e) rfl rfl)
theorem NH {kk k:dB} {i:Nat} {J t:ax} {old:Value} {St:Nat→cO→Prop} {vs:List SV} {xs:Array Value} {QZ:List Expr} {kt:Nat} {pos:Pos} {Qe:ak→Prop} {Q':Value→ak→Prop} {E':Value→ak→Prop} (D:Draws G.prog G.w A.in1 J [J,t] xs.size (λi v=>xs[i]? =aa v) St)
  (R:Rel G F b own ae A P m fr h s) (hT:fJ G own P m s.heap [I,J]) (qa:I≠J) (Xw:I≠t) (hE:IsEnum s.heap I J i old) (kL:St i s.heap) (en:xs[i]? =af→∀Q:Option Value→ak→Prop,(∀h',PS J s.heap h'→Q af {s with heap:=h'})→aw (aQ G.prog G.w) A (uw (.ref I)) Q E' s) (q:aY P m vs xs.toList)
  (src:∀{P' h'},P.fZ P'→St (i+1) h'→to h' J P' m (i+1) k) (ob:∀{j h'},St j h'→∃o,h'.get? J=aa o∧¬jR o∧∀v,o.data≠.cell v)
  (ZZ:∀{P' h'},qq k (i+1) P' m h' I [I,J]→kH kk (i+1) P' m h' I [I,J])
  (w:jx (∀s',Rel G F b own ae A P m fr h s'→Qe s') (λv=>ER G F b own ae A P m fr h kk i I [I,J] v Q') (aa (vs[i]?.map λv=>.tup [.int i,v]))):
  aw (aQ G.prog G.w) A (uw (.ref I)) (λr a5=>match r with
   |none=>Qe a5
   |some v'=>aw (aQ G.prog G.w) A (Dl (.Tuple QZ kt pos) (.ref I) v') (λ_ bz=>Q' v' bz) E' a5) E' s:=by
 refine D1 q rfl w (λhx w=>?_) λv v' hx s8 w=>?_
 ·exact en hx _ λh' he=>v9 R hT (.tail _ (.head _)) w he
 ·refine wpAny_pyNext_enum_itemD D hE kL (nV.mp hx).1 qa (λe=>(dA.mp e).elim qa λe=>Xw (bU.mp e)) λx h' tk hxx Oh LR Yj hsz hk=>?_
  cases aU (hx.symm.trans hxx)
  have bm:=R.oH (s':={s with heap:=h',toks:=tk+1}) hT (λa o ha e=>hk a o (λq=>ha (q▸.head _)) (λq=>ha (q▸.tail _ (.head _))) e) rfl rfl;refine mE (R.free (au s.heap.objs.size)) λf1 f2 f3 f4=>?_;refine xA (bm.Jl (s:={s with heap:=h',toks:=tk+1}) Yj f1 f2 f3 f4) λcV le=>?_;refine wpAny_letOwnedTupleGo_enum (s:={s with heap:=h',toks:=tk+1}) Oh λaC I1 Fm=>?_;have wj {hp:cO} (x:∃o,hp.get? I=aa o∧¬jR o∧∀v,o.data≠.cell v) (y:∃o,hp.get? J=aa o∧¬jR o∧∀v,o.data≠.cell v):fJ G own (P.set s.heap.objs.size {cls:=.type "tuple",data:=.seq #[.int i tk,v']}) m hp [I,J]:=by
   refine⟨λa ha=>?_⟩;refine Ck (hT.all a ha) λp1 p2 p3 p4 o ho _=>?_;refine(t8 ((aK (dp (jF ho))).trans p1) p2 p3 p4 ?_);rcases dA.mp ha with rfl|ha
   ·exact x
   ·cases bU.mp ha;exact y
  refine aj (ob LR) λo ho IY=>?_;have Vp:aC.get? J=aa o:=(Fm.2 J qa.symm).trans ho;exact w _ _ _ le (cV.oH (s':={s with heap:=aC,toks:=tk+1}) (wj (cL _ Oh (wc rfl aV aV) (pt rfl)) (aT o ho IY)) (λa o ha e=>(Fm.2 a (λq=>ha (q▸.head _))).trans e) rfl rfl)
   ⟨s.heap.objs.size,_,_,_,rfl,aO rfl,rfl,rfl,⟨_,_,rfl,⟨_,rfl⟩,_,_,rfl,s8.mono le.t .rfl,rfl⟩⟩ (ZZ ⟨J,v',rfl,qa,I1,(src le.t LR).move (λ_ _ e _=>e) .rfl λo e=>(Fm.2 J qa.symm).trans e⟩) (wj ⟨_,I1,wc rfl aV aV,pt rfl⟩ ⟨o,Vp,IY⟩)
theorem JW {k:dB} {i:Nat} {t:Expr} {Qe:ak→Prop} {Q':Value→ak→Prop} {E':Value→ak→Prop} (hq:F.q=ab) (ht:mC k t) (R:Rel G F b own ae A P m fr h s) (hI:kH k i P m s.heap I T) (hT:fJ G own P m s.heap T)
  (w:jx (∀s',Rel G F b own ae A P m fr h s'→Qe s') (λv=>ER G F b own ae A P m fr h k i I T v Q') (jo k i h)):
  aw (aQ G.prog G.w) A (uw (.ref I)) (λr a5=>match r with
   |none=>Qe a5
   |some v'=>aw (aQ G.prog G.w) A (Dl t (.ref I) v') (λ_ bz=>Q' v' bz) E' a5) E' s:=by
 have hh:=R.quiet hq
 cases k with
 |list n=>
  refine l_ hI λcP ad h1 hit=>?_;clear hI;subst cP;refine aj (L8 w) λvs hn w=>?_;refine ky (R.listAt hn) λbg xs kk q1 q2 q3=>?_
  cases aU (q1.symm.trans h1)
  refine D1 q3 (ae9 ..).symm w (λhx w=>wpAny_pyNext_list_end hh hit ⟨_,q2,rfl,kk,rfl⟩ hx λh' he=>v9 R hT (.head _) w he) λv v' hx s8 w=>?_;refine wpAny_pyNext_list_item hit ⟨_,q2,rfl,kk,rfl⟩ hx λh' f9 hs=>?_;exact xt ht R hT hs f9 rfl w s8 ⟨rfl,ad,h1,f9⟩
 |tup vs=>
  refine l_ hI λcP tt sP hit=>?_;clear hI;subst cP;refine bM (R.L_ hT sP) λxs hl q _=>?_;refine D1 q (ae9 ..).symm w (λhx w=>wpAny_pyNext_tuple_end hh hit hl hx λh' he=>v9 R hT (.head _) w he) λv v' hx s8 w=>?_;refine wpAny_pyNext_tuple_item hit hl hx λh' f9 hs=>?_;exact xt ht R hT hs f9 rfl w s8 ⟨rfl,tt,sP,f9⟩
 |range a c=>
  refine xA hI λcP hit=>?_;clear hI;subst cP
  by_cases Bi:i<c
  ·replace w:jx _ _ (aa (if i<c then _ else _)):=w
   rw[aO Bi] at w;refine wpAny_pyNext_range_item hit (Int.sub_pos_of_lt (h9.mpr Bi)) λh' f9 hs=>?_;have e2:(c:Int) - (i:Int) - 1=(c:Int) - ((i+1:Nat):Int):=Int.sub_sub ..;have vA:IsRangeIter h' I (a+((i+1:Nat):Int)) ((c:Int) - ((i+1:Nat):Int)) 1:=e2▸Int.add_assoc a i 1▸f9;exact xt ht R hT hs (cL _ vA rfl rfl) rfl w ⟨_,rfl⟩ ⟨rfl,vA⟩
  ·replace w:jx _ _ (aa (if i<c then _ else _)):=w
   rw[aK Bi] at w;exact wpAny_pyNext_range_end hh hit (Int.sub_nonpos_of_le (wS.mpr (jr.mp Bi))) λh' he=>v9 R hT (.head _) w he
 |keys n len=>
  refine l_ hI λcP ad h1 hit=>?_;clear hI;subst cP;refine aj (acw w) λes hn w=>?_
  by_cases hc:es.length=len∧oK es=ab
  ·rw[aO hc] at w
   refine bM (R.KY hn h1 hc.2) λkU c5 z2 hD=>?_;have Sp:=hc.1;subst Sp;have hv:es[i]?.map (·.1)=kU[i]?.map (λp=>SV.str p.1):=dq.symm.trans ((ay (·[i]?) z2).trans dq);rw[hv] at w
   cases hx:kU[i]? with
   |none=>
    rw[hx] at w;exact wpAny_pyNext_dict_end hh (c5.symm▸hit) hD hx λh' he=>v9 R hT (.head _) w he
   |some kv=>
    rw[hx] at w;refine wpAny_pyNext_dict_item (c5.symm▸hit) hD (k:=kv.1) (v:=kv.2) hx λkey h' hk vA hs=>?_;refine xE (Value.isStrOf_shape hk) λtk bu=>?_;subst bu;rw[c5] at vA;exact xt ht R hT hs vA rfl w ⟨_,rfl⟩ ⟨rfl,ad,h1,vA⟩
  ·rw[aK hc] at w;exact w.elim
 |enumL n=>
  cases ht with
  |name e=>exact iQ e
  |tup=>
   refine JP hI λJ old ar qa hE ad h1 hit=>?_;clear hI;subst ar;refine aj (L8 w) λvs hn w=>?_;refine ky (R.listAt hn) λbg xs kk q1 q2 q3=>?_
   cases aU (q1.symm.trans h1)
   have ne {a} (ha:a∈[I,J]):a≠ad.1:=((hT.all a ha).2.2.1 n ad h1).1;exact NH (k:=.list n) (Draws.list (A:=A.in1) hh J ad.1 (ne (.tail _ (.head _))).symm xs) R hT qa (ne (.head _)) hE ⟨hit,_,q2,rfl,kk,rfl⟩ (λhx Q w=>wpAny_pyNext_enum_end hh hE hit ⟨_,q2,rfl,kk,rfl⟩ hx w) q3 (λ_ st=>⟨ad,h1,st.1⟩) (λst=>xo rfl st.1) id w
 |enumT vs=>
  cases ht with
  |name e=>exact iQ e
  |tup=>
   refine JP hI λJ old ar qa hE tt sP hit=>?_;clear hI;subst ar;refine bM (R.L_ hT sP) λxs hl q hp=>?_;exact NH (k:=.tup vs) (Η (A:=A.in1) hh J tt (hp J (.tail _ (.head _))) xs) R hT qa (hp I (.head _)).symm hE ⟨hit,hl⟩ (λhx Q w=>wpAny_pyNext_enum_endD (abf (A:=A.in1) hh hx) hE ⟨hit,hl⟩ w) q (λle st=>⟨tt,sP.mono le .rfl,st.1⟩) (λst=>xo rfl st.1) id w
 |str x=>
  refine BC hI λcP tt hit=>?_;clear hI;subst cP
  cases hv:x.cps[i]? with
  |none=>
   replace w:jx _ _ (aa (x.cps[i]?.map _)):=w
   rw[hv] at w;exact wpAny_pyNext_ascii_end hh hit hv λh' he=>v9 R hT (.head _) w he
  |some c=>
   replace w:jx _ _ (aa (x.cps[i]?.map _)):=w
   rw[hv] at w;refine wpAny_pyNext_ascii_item hit hv λh' f9 hs=>?_;exact xt ht R hT hs f9 rfl w ⟨_,rfl⟩ ⟨rfl,tt,f9⟩
inductive zd (G:Gl) (F:FD) (b:Nat) (own:List ax) (ae:Env) (A:dP) (P:aW) (m:Mu) (k:dB) (I:ax) (T:List ax) (J:Nat→Nat→SF→SH→Prop) (n:Nat) (s:ak):Prop
 |mk (P':aW) (m':Mu) (fr:SF) (h:SH) (i:Nat) (hJ:J n i fr h) (hP:P.le P') (hm:m.le m') (R:Rel G F b own ae A P' m' fr h s) (hI:kH k i P' m' s.heap I T) (hT:fJ G own P' m' s.heap T)
noncomputable def nX:d0:=λ_ _ _=>False
theorem s9 {E':Value→ak→Prop}:pN G F b own ae A P m nX E':=λ_ _ _ _ _ _ _ q=>q.elim
theorem Vs {Kn:Expr} {body eX:List bI} {pos:Pos} {Q:QS} {X:d0} (J:Nat→SF→SH→Prop) (n:Nat) (h0:J n fr h)
  (turn:∀n fr h,J n fr h→WB G F b fr h Kn (λc ag=>if c then jN G F b fr ag body (λf et aC=>match f with
    |.next=>∃k,k<n∧J k et aC
    |.cont=>∃k,k<n∧J k et aC
    |.brk=>Q .next et aC
    |.ret v=>Q (.ret v) et aC) nX
   else jN G F b fr ag eX Q nX) lz):WS G F b fr h (.While Kn body eX pos) Q X:=by
 refine .mk ?_;intro own ae A P m s Q' E' R c d;refine wpAny_While ?_;refine codeAny_whileLoop (λn s'=>∃P' m' fr' h',J n fr' h'∧P.le P'∧m.le m'∧Rel G F b own ae A P' m' fr' h' s') ?_ n ⟨P,m,fr,h,h0,.rfl,.rfl,R⟩;rintro n a5 ⟨bW,bV,bA,ag,hJ,hP,hm,a7⟩;refine(turn n bA ag hJ).run own ae A bW bV a5 _ _ a7 (λt aC bz cE cw hq cQ cK bm=>?_) (λ_ _ _ _ _ _ q=>q.elim)
 cases t with
 |true=>
  refine hq.run own ae A cE cw bz _ _ bm (λf j8 cM f' ef lI m_ q f8 ie hf cV=>?_) s9
  cases f with
  |next=>obtain rfl:=hf;refine aj q λk hk q=>?_;exact⟨k,hk,lI,m_,j8,cM,q,(hP.trans cQ).trans f8,(hm.trans cK).trans ie,cV⟩
  |cont=>obtain rfl:=hf;refine aj q λk hk q=>?_;exact⟨k,hk,lI,m_,j8,cM,q,(hP.trans cQ).trans f8,(hm.trans cK).trans ie,cV⟩
  |brk=>obtain rfl:=hf;exact c _ _ _ _ _ _ _ q ((hP.trans cQ).trans f8) ((hm.trans cK).trans ie) rfl cV
  |ret v=>refine aj hf λv' bu hv=>?_;clear hf;subst bu;exact c _ _ _ _ _ _ _ q ((hP.trans cQ).trans f8) ((hm.trans cK).trans ie) ⟨_,rfl,hv⟩ cV
 |false=>
  exact hq.run own ae A cE cw bz _ _ bm (λf j8 cM f' ef lI m_ q f8 ie hf cV=>c _ _ _ _ _ _ _ q ((hP.trans cQ).trans f8) ((hm.trans cK).trans ie) hf cV) s9
structure WI (G:Gl) (F:FD) (b:Nat) (fr:SF) (h:SH) (e:Expr) (Q:dB→SH→Prop) (X:QX):Prop where
 run:∀own ae A P m s (Q':Value→ak→Prop) (E':Value→ak→Prop),Rel G F b own ae A P m fr h s→
  (∀k h' I T s' P' m',Q k h'→P.le P'→m.le m'→Rel G F b own ae A P' m' fr h' s'→kH k 0 P' m' s'.heap I T→fJ G own P' m' s'.heap T→Q' (.ref I) s')→
  iK G F b own ae A P m fr X E'→aw (aQ G.prog G.w) A (d8 e ae) (λx a5=>aw (aQ G.prog G.w) A (qz x) Q' E' a5) E' s
inductive rC (h:SH):SV→dB→Prop
 |lst {n:Nm} {vs:List SV} (hn:h n=aa (.list vs)):rC h (.ref n) (.list n)
 |dct {n:Nm} {es:List (SV×SV)} (hn:h n=aa (.dict es)) (ha:oK es=ab):rC h (.ref n) (.keys n es.length)
 |tup {vs:List SV}:rC h (.tup vs) (.tup vs)
 |str {x:Str} (hx:x.cps.all (· <128)=ab):rC h (.str x) (.str x)
 |rng {n:Nat} (hn:n<2^40):rC h (.range 0 n) (.range 0 n)
theorem abe {n:Nat} (hn:n<2^40):afa 0 n 1=n∧afb 0 n 1=ab:=by
 have hsz:afa 0 n 1=n:=by
  show(if(0:Int) <1 then if(0:Int) <n then((n:Int) - 0-1) / 1+1 else 0 else _)=_;rw[aO aV,afc _]
  split<;>lia
 refine⟨hsz,?_⟩;have f {x:Int} (a:0≤x) (c:x≤2^40):atk x=ab:=Dk.mpr ⟨eP (Dn aV a),eP (afd c aV)⟩;have Ke:=jp n;have CG:(n:Int)≤2^40:=wS.mpr (cj hn);unfold afb;rw[hsz,f (x:=n) Ke CG];rw[aO (show(1:Int) > 0 by exact aV),show(n:Int)+(1-1)=n from afe _,f Ke CG];exact HI _
theorem Rel.aa1 (R:Rel G F b own ae A P m fr h s) {a:ax} {o:Obj} (e:P a=aa o) {vs:Array Value} (hd:o.data=.fields vs):s.heap.get? a=aa o:=by
 obtain⟨l,h1,h2,h3,h4,h5⟩:=R.frs;refine aj (h5 a o e) λsl e1 e2=>?_;have:a∉l.filterMap (·.frame):=λhl=>by
  refine l_ (h2.mem hl) λ_ o' g1 g2=>?_;rw[e1] at g1;obtain rfl:=aU g1;exact g2 vs hd
 rw[e1,Ip o sl (e2 this)]
theorem WX {v:SV} {k:dB} {v':Value} {Q':Value→ak→Prop} {E':Value→ak→Prop} (R:Rel G F b own ae A P m fr h s) (hv:VR P m v v') (hk:rC h v k)
  (c:∀I T s',Rel G F b own ae A P m fr h s'→kH k 0 P m s'.heap I T→fJ G own P m s'.heap T→Q' (.ref I) s'):aw (aQ G.prog G.w) A (qz v') Q' E' s:=by
 have push {o:Obj} {T:String} {fs:Array Value} (hp:zV T=ab) (hc:o.cls=.type T) (hd:o.data=.fields fs) (hf:o.isFreed=an) (hI:(∃o',(s.heap.push o).get? s.heap.objs.size=aa o'∧o'.cls=.type T∧o'.data=.fields fs)→kH k 0 P m (s.heap.push o) s.heap.objs.size [s.heap.objs.size]):
   Q' (.ref s.heap.objs.size) {s with heap:=s.heap.push o}:=by
  refine mE (R.free (au s.heap.objs.size)) λf1 f2 f3 f4=>?_;have x:∃o',(s.heap.push o).get? s.heap.objs.size=aa o'∧o'.cls=.type T∧o'.data=.fields fs:=(cL o (fP _ hf) hc hd);exact c _ _ {s with heap:=s.heap.push o} (R.grow (λa o' e=>dS _ e) rfl rfl) (hI x) ⟨λa ha=>bU.mp ha▸(t8 f1 f3 f2 f4 (xo hp x))⟩
 cases hk with
 |lst hn=>
  refine aj hv λad h1 e=>?_;clear hv;subst e;refine ky (R.listAt hn) λbg xs kk q1 q2 q3=>?_;have e:=aU (q1.symm.trans h1);subst e;exact PX ⟨_,q2,rfl,kk,rfl⟩ (push (T:="list_iterator") rfl rfl rfl rfl λx=>⟨rfl,bg,h1,x⟩)
 |dct hn ha=>
  refine aj hv λad h1 e=>?_;clear hv;subst e;refine bM (R.KY hn h1 ha) λkU c5 _ hD=>?_;have ZC:(ad.1==C_)=an:=kW.mpr λe=>by
   obtain⟨o,ho⟩:=G.Bu;have h2:=R.basePR _ _ ho;rw[←e,(R.sep _ _ h1).1] at h2;exact a8 h2
  exact wpAny_pyIter_dict ZC hD (push (T:="dict_keyiterator") rfl rfl rfl rfl λx=>⟨rfl,ad,h1,c5▸x⟩)
 |tup=>
  have fA:=hv;obtain⟨a,o,items,n,e,q1,q2,q3,q4⟩:=hv;subst e;refine bM (R.rn q1) λo' z1 z2 z3=>?_;exact PU ⟨o',z1,z2.trans q2,n,z3.trans q3⟩ (push (T:="tuple_iterator") rfl rfl rfl rfl λx=>⟨rfl,a,fA,x⟩)
 |str hx=>
  refine xE hv λt e=>?_;clear hv;subst e;exact wpAny_pyIter_ascii hx (push (T:="str_ascii_iterator") rfl rfl rfl rfl λx=>⟨rfl,t,x⟩)
 |rng hn=>
  refine od hv λr t u w e q1=>?_;clear hv;subst e;refine xA (abe hn) λhsz Ξ=>?_;refine wpAny_pyIter_range (R.aa1 q1 rfl) Ξ (push (T:="range_iterator") rfl rfl rfl rfl λx=>⟨rfl,?_⟩);rw[hsz];exact fP s.heap (o:={cls:=.type "range_iterator",data:=.fields #[e_ 0,e_ _,e_ 1]}) rfl
theorem ac8 {e:Expr} {Q:dB→SH→Prop} {X:QX} (w:WE G F b fr h e (λv ag=>∃k,rC ag v k∧Q k ag) X):WI G F b fr h e Q X:=by
 refine .mk ?_;intro own ae A P m s Q' E' R c d;refine w.run own ae A P m s _ _ R (λv ag v' a5 bW bV hq hP hm hv a7=>?_) d;refine aj hq λk hk hq=>?_;exact WX a7 hv hk λI T s' bm hI hT=>c k ag I T s' bW bV hq hP hm bm hI hT
theorem ad4 {t iter:Expr} {body eX:List bI} {pos:Pos} {Q:QS} {X:d0} (hq:F.q=ab) (oV:∀ae x,wT iter ae x=pure x)
  (w:WI G F b fr h iter (λk ag=>mC k t∧∃J:Nat→Nat→SF→SH→Prop,(∃n,J n 0 fr ag)∧
   ∀n i et aC,J n i et aC→jx (jN G F b et aC eX Q nX) (λv=>
    WA G F b et aC t v (λj8 cM=>jN G F b j8 cM body (λf x9 j1=>match f with
     |.next=>∃k,k<n∧J k (i+1) x9 j1
     |.cont=>∃k,k<n∧J k (i+1) x9 j1
     |.brk=>Q .next x9 j1
     |.ret v=>Q (.ret v) x9 j1) nX) nX) (jo k i aC)) (λx h=>X x fr h)):WS G F b fr h (.For t iter body eX pos) Q X:=by
 refine .mk ?_;intro own ae A P m s Q' E' R c d;refine wpAny_For (w.run own ae A P m s _ _ R (λk ag I T a5 bW bV hw hP hm a7 hI hT=>?_) d.jW) (oV ae);obtain⟨qh,J,⟨n,h0⟩,turn⟩:=hw;refine codeAny_forLoop_any (zd G F b own ae A P m k I T J) ?_ n ⟨bW,bV,fr,ag,0,h0,hP,hm,a7,hI,hT⟩;intro n bz ⟨cE,cw,et,aC,i,hJ,cQ,cK,bm,GH,wj⟩;refine JW (T:=T) hq qh bm GH wj ((turn n i et aC hJ).imp (λtn ef cV=>?_) λv tn v' ef lI f8 cV fA DU xw=>?_)
 ·exact tn.run own ae A cE cw ef _ _ cV (λf j8 cM f' ef lI m_ q f8 ie hf cV=>c _ _ _ _ _ _ _ q (cQ.trans f8) (cK.trans ie) hf cV) s9
 ·refine xA (cV.hold xw) λfY le=>?_
  refine tn.run own ae A _ cw ef _ _ v' fY (fA.mono le.t .rfl) (λGp uY yz y_ vn q sG lS ko=>?_) s9;refine q.run own ae A y_ vn yz _ _ ko (λf vg ri f' tF vR ro nG qO lj hf oR=>?_) s9;refine xD (cV.drop xw oR (sG.trans qO) (lS.trans lj)) λl1 l2 rq Ek hex=>?_;have lP:=(cQ.trans f8).trans l1;have lm:=(cK.trans lS).trans lj;have on {k'} (q:J k' (i+1) vg ri):zd G F b own ae A P m k I T J k' tF:=⟨_,ro,vg,ri,i+1,q,lP,lm,rq,DU.move l1.t (lS.trans lj) hex,Ek⟩
  cases f with
  |next=>cases hf;refine aj nG λkk gm Gn=>?_;clear nG;exact(aT kk gm (on Gn))
  |cont=>cases hf;refine aj nG λkk gm Gn=>?_;clear nG;exact(aT kk gm (on Gn))
  |brk=>cases hf;exact c _ _ _ _ _ _ _ nG lP lm rfl rq
  |ret v=>refine aj hf λv' bu hv=>?_;clear hf;subst bu;exact c _ _ _ _ _ _ _ nG lP lm ⟨_,rfl,hv.mono l2 .rfl⟩ rq
theorem OC {names:List (Str×k7)}:∀{n:Nat} {acc:List (Str×ax)},gu n names acc=gu n names []++acc:=by
 induction names with
 |nil=>exact rfl
 |cons p r ih=>
  intro n acc;show(if p.2==.cell then gu (n+1) r ((p.1,n)::acc) else gu n r acc)=(if p.2==.cell then gu (n+1) r [(p.1,n)] else gu n r [])++acc;exact if z:(p.2==.cell)=ab then(aO z).trans (ih.trans ((List.append_cons ..).trans (ih (acc:=[(p.1,n)])▸(aO z).symm▸rfl))) else(aK z).trans (ih.trans (ay (· ++acc) (aK z).symm))
noncomputable def j9 (cells:List (Str×ax)):List (Str×k7)→List (Str×ax)→List (Str×ax)
 |[],acc=>acc
 |(n,k)::r,acc=>if k==.free then j9 cells r ((n,(cells.lookup n).getD 0)::acc) else j9 cells r acc
theorem Tp {ae:Env} {f:Str×k7→List (Str×ax)→Sem (ForInStep (List (Str×ax)))}
  (hf:∀n k cs,f (n,k) cs=if k==.free then(do let a ←cellOf ae n;pure (.yield ((n,a)::cs))) else pure (.yield cs)) {names:List (Str×k7)}:∀{acc:List (Str×ax)},
  (∀p∈names,p.2=.free→∃c,ae.cells.lookup p.1=aa c)→forIn names acc f=pure (j9 ae.cells names acc):=by
 induction names with
 |nil=>exact λ_=>rfl
 |cons p r ih=>
  intro acc h;show _=pure (if p.2==.free then j9 ae.cells r ((p.1,(ae.cells.lookup p.1).getD 0)::acc) else j9 ae.cells r acc);rw[pb,hf _ _ _];have ih {acc}:=ih (acc:=acc) λp hp=>h p (.tail _ hp)
  by_cases hk:(p.2==.free)=ab
  ·rw[aO hk,aO hk]
   refine xE (h p (.head _) (eW.mp hk)) λc hc=>?_;have e:cellOf ae p.1=pure c:=by unfold cellOf;rw[hc]
   rw[e,hc,pure_bind _ _,pure_bind _ _];exact ih
  ·rw[aK hk,aK hk,pure_bind _ _]
   exact ih
theorem Wq {ae:Env} {scope:cu} (h:∀p∈scope.names,p.2=.free→∃c,ae.cells.lookup p.1=aa c):closureFor scope ae=pure (j9 ae.cells scope.names []):=
 (ay (· >>=λcs=>pure cs) (Tp (λ_ _ _=>rfl) h)).trans (pure_bind ..)
theorem Yx {cells:List (Str×ax)} {x:Str} {names:List (Str×k7)}:∀{acc:List (Str×ax)},(names.lookup x=aa .free∨acc.lookup x=aa ((cells.lookup x).getD 0))→(j9 cells names acc).lookup x=aa ((cells.lookup x).getD 0):=by
 induction names with
 |nil=>exact λh=>h.elim (λe=>a8 e) id
 |cons p r ih=>
  intro acc h;show((if p.2==.free then j9 cells r ((p.1,(cells.lookup p.1).getD 0)::acc) else j9 cells r acc).lookup x)=_;exact if e:x=p.1 then if z:(p.2==.free)=ab then(aO z).symm▸ih (.inr ((jg (p:=(p.1,(cells.lookup p.1).getD 0)) e).trans (ay (λx=>aa ((cells.lookup x).getD 0)) e.symm))) else(aK z).symm▸ih (.inr (h.elim (λq=>bd (eW.mpr (aU ((jg e).symm.trans q))) z) id))
   else have h:=h.imp (gT e).symm.trans id;if z:(p.2==.free)=ab then(aO z).symm▸ih (h.imp id (gT (p:=(p.1,(cells.lookup p.1).getD 0)) e).trans) else(aK z).symm▸ih h
theorem Zp {cells:List (Str×ax)} {y:Str} {c:ax} {names:List (Str×k7)}:∀{acc:List (Str×ax)},(y,c)∈j9 cells names acc→(y,c)∈acc∨(y,.free)∈names∧c=(cells.lookup y).getD 0:=by
 induction names with
 |nil=>exact .inl
 |cons p r ih=>
  intro acc h
  replace h:(y,c)∈(if p.2==.free then j9 cells r ((p.1,(cells.lookup p.1).getD 0)::acc) else j9 cells r acc):=h
  exact if z:(p.2==.free)=ab then(ih ((ay (λl:List (Str×ax)=>(y,c)∈l) (aO z)).mp h)).elim (λq=>(dA.mp q).elim (λe=>have ee:=ay mR e;.inr ⟨dA.mpr (.inl (jv ee (eW.mp z).symm)),(ay C7 e).trans (ay (λy=>(cells.lookup y).getD 0) ee.symm)⟩) .inl) λq=>.inr ⟨.tail _ q.1,q.2⟩
   else(ih ((ay (λl:List (Str×ax)=>(y,c)∈l) (aK z)).mp h)).imp id λq=>⟨.tail _ q.1,q.2⟩
theorem aao {x:Str} {names:List (Str×k7)}:∀{n:Nat} {acc:List (Str×ax)},(∀p∈names,x=p.1→p.2≠.cell)→(gu n names acc).lookup x=acc.lookup x:=by
 induction names with
 |nil=>exact λ_=>rfl
 |cons p r ih=>
  intro n acc h;show((if p.2==.cell then gu (n+1) r ((p.1,n)::acc) else gu n r acc).lookup x)=_;have ih {n acc}:=ih (n:=n) (acc:=acc) λp hp=>h p (.tail _ hp);exact if z:(p.2==.cell)=ab then(aO z).symm▸ih.trans (gT λe=>h p (.head _) e (eW.mp z)) else(aK z).symm▸ih
noncomputable def tG (sc:cu):Str×k7→Str×k7:=λ(n,k)=>if(k==.free && sc.kind==.function && sc.names.lookup n==aa .cell) then(n,.cell) else(n,k)
noncomputable def BR (scope sc:cu):cu:={scope with names:=scope.names.map (tG sc)}
noncomputable def da (scope:cu) (F:FD):FD:=⟨BR scope F.sc,iT scope,F.q⟩
noncomputable def g6 (scope:cu) (fr:SF):SF:=fr.filter λp=>scope.names.lookup p.1==aa .free
noncomputable def py (scope:cu) (F:FD):Bool:=
 decide (scope.kind=.function) && decide ((scope.names.map (·.1)).Nodup) &&
 scope.names.all λp=>p.2 !=.free||(match F.sc.names.lookup p.1 with|some .cell=>ab|some .free=>ab|_=>an)
structure CR (scope:cu) (F:FD):Prop where
 fn:scope.kind=.function
 nd:(scope.names.map (·.1)).Nodup
 fr:∀p∈scope.names,p.2=.free→F.sc.names.lookup p.1=aa .cell∨F.sc.names.lookup p.1=aa .free
theorem CR.of {scope:cu} {F:FD} (ok:py scope F=ab):CR scope F:=by
 have q:=(bR _ _).mp ok;have q1:=(bR _ _).mp q.1;refine⟨fD q1.1,fD q1.2,λp hp e=>?_⟩;have:=(Bool.or_eq_true_iff.mp (db.mp q.2 p hp)).resolve_left λz=>bne_iff_ne.mp z e
 cases q:F.sc.names.lookup p.1 with
 |none=>rw[q] at this;exact cJ this
 |some k=>rw[q] at this;cases k<;>first|exact .inl rfl|exact .inr rfl|exact cJ this
theorem ado (sc:cu) (p:Str×k7):(tG sc p).1=p.1∧((tG sc p).2=p.2∨p.2=.free∧(tG sc p).2=.cell):=
 match p with
 |(n,k)=>CH (P:=λq:Str×k7=>q.1=n∧(q.2=k∨k=.free∧q.2=.cell)) (λz=>⟨rfl,.inr ⟨eW.mp ((bR _ _).mp ((bR _ _).mp z).1).1,rfl⟩⟩) λ_=>⟨rfl,.inl rfl⟩
theorem Op {sc:cu} {x:Str} {names:List (Str×k7)}:(names.map (tG sc)).lookup x=names.lookup x∨names.lookup x=aa .free∧(names.map (tG sc)).lookup x=aa .cell:=by
 induction names with
 |nil=>exact .inl rfl
 |cons p r ih=>
  have k:=ado sc p;exact if h:x=p.1 then have e:=h.trans k.1.symm;k.2.imp (λq=>(jg e).trans ((ay aa q).trans (jg h).symm)) λq=>⟨(jg h).trans (ay aa q.1),(jg e).trans (ay aa q.2)⟩
   else have e:x≠(tG sc p).1:=λe=>h (e.trans k.1);ih.imp (λq=>(gT e).trans (q.trans (gT h).symm)) λq=>⟨(gT h).trans q.1,(gT e).trans q.2⟩
theorem E6 {scope:cu} {x:Str} {v:SV} (hx:(g6 scope fr).lookup x=aa v):scope.names.lookup x=aa .free∧fr.lookup x=aa v:=by
 induction fr with
 |nil=>exact a8 hx
 |cons p r ih=>
  replace hx:wU x (List.filter (λp=>scope.names.lookup p.1==aa .free) (p::r))=aa v:=hx
  rw[HJ] at hx;exact if hp:(scope.names.lookup p.1==aa .free)=ab then
    have hx:=(ay (wU x) (aO hp)).symm.trans hx
    if e:x=p.1 then⟨(ay (scope.names.lookup ·) e).trans (eq_of_beq hp),(jg e).trans ((jg e).symm.trans hx)⟩ else have q:=ih ((gT e).symm.trans hx);⟨q.1,(gT e).trans q.2⟩
   else
    have q:=ih ((ay (wU x) (aK hp)).symm.trans hx)
    ⟨q.1,(gT λe=>hp (eW.mpr (e▸q.1))).trans q.2⟩
theorem Vq {M:i0} {E:Value→ak→Prop} {scope:cu} {cl:List (Str×ax)} {e:Expr} {it acc:Value} {wk:Option (Value→Sem Unit)} {Q:Value→ak→Prop}
  (h:∀b6,b6=({scope:=relabel scope ae,locals:=s.heap.objs.size,globals:=ae.globals,cells:=gu (s.heap.objs.size+1) scope.names cl,qual:=ae.qual,func:=af,code:=ae.code,frame:=ae.frame,builtins:=ae.builtins}:Env)→
   kc M A (.compStart e 0 it acc b6) (HK M A E wk Q acc b6.locals) {s with heap:=HL (s.heap.push {cls:=.type "dict",data:=.dict #[]}) scope.names}):
  aw M A (newFunctionEnv scope ae.globals cl [] ae.qual af .none (aa ae)) (λMA nr=>kc M A (.compStart e 0 it acc {MA with scope:=relabel scope ae}) (HK M A E wk Q acc MA.locals) nr) E s:=by
 have k:=h _ rfl;rw[←lX s.heap {cls:=.type "dict",data:=.dict #[]}] at k;exact wb (PY (wb (wpAny_layCells _ (λ_ _ _=>rfl) _ _ _ _ (wb (aD (aD k))))))
theorem Rel.Wc (R:Rel G F b own ae A P m fr h s) {scope:cu} (ok:CR scope F)
  (he:b6={scope:=relabel scope ae,locals:=s.heap.objs.size,globals:=ae.globals,cells:=gu (s.heap.objs.size+1) scope.names (j9 ae.cells scope.names []),qual:=ae.qual,func:=af,code:=ae.code,frame:=ae.frame,builtins:=ae.builtins}):
  ∃mJ,Rel G (da scope F) b mJ b6 A (P.under own s.heap) m (g6 scope fr) h {s with heap:=HL (s.heap.push {cls:=.type "dict",data:=.dict #[]}) scope.names}∧
   (∀a∈mJ,s.heap.get? a=af)∧b6.locals∈mJ:=by
 have hL:b6.locals=s.heap.objs.size:=he▸rfl;have cs:=cellsFrom_ok scope.names (s.heap.push {cls:=.type "dict",data:=.dict #[]}) (s.heap.objs.size+1) [] ⟨λ_ _ hm=>cS hm,.nil⟩ (bH (lX ..).symm);rw[lX] at cs;have lJ:=(Heap.Ns.new s.heap (.type "dict")).keeps (PZ scope.names _);have cells:b6.cells=gu (s.heap.objs.size+1) scope.names (j9 ae.cells scope.names []):=he▸rfl;have kn:∀{p},p∈scope.names→scope.names.lookup p.1=aa p.2:=λhp=>HB ok.nd hp;have cN:∀{y},y∈iT scope→scope.names.lookup y=aa .cell:=λhy=>aj (bD.mp hy) λp hp e=>have hp:=mU.mp hp;e▸(kn hp.1).trans (ay aa (eq_of_beq hp.2));have cA:∀{x},scope.names.lookup x=aa .cell→∃c,b6.cells.lookup x=aa c∧(x,c)∈gu (s.heap.objs.size+1) scope.names []:=λ{x} e=>xE (zD.mp (D9 (n:=s.heap.objs.size+1) (acc:=[]) (.inl e))) λc hc=>
  ⟨c,(ay (wU x) (cells.trans OC)).trans (List.lookup_append.trans (ay (λo:Option ax=>o.or (wU x (j9 ae.cells scope.names []))) hc)),mV hc⟩
 have cB:∀{x},scope.names.lookup x=aa .free→b6.cells.lookup x=aa ((ae.cells.lookup x).getD 0):=λ{x} e=>
  (ay (wU x) cells).trans ((aao λp hp z q=>nomatch (aU (e.symm.trans ((ay (scope.names.lookup ·) z).trans (kn hp)))).trans q).trans (Yx (.inl e)))
 have cC:∀{y c},b6.cells.lookup y=aa c→(y,c)∈gu (s.heap.objs.size+1) scope.names []∨(scope.names.lookup y=aa .free∧c=(ae.cells.lookup y).getD 0):=λ{y c} e=>
  (du.mp (cells.trans OC▸mV e)).imp id λq=>(Zp q).elim (λq=>cS q) λq=>⟨kn q.1,q.2⟩
 have ou:∀{x},scope.names.lookup x=aa .free→∃c,ae.cells.lookup x=aa c∧c<s.heap.objs.size∧∃o v,P.under own s.heap c=aa o∧o.data=.cell v:=λ{x} e=>aj (R.f.qX x (ok.fr _ (mV e) rfl)) λc hc k=>⟨c,hc,
  k.elim (λk=>k.2.elim λv q=>aj q λo q1 q2=>⟨jF q1,o,v,(uH k.1 _).trans q1,q2⟩) λk=>eA k λo v q1 q2=>⟨xE (R.oh q1) λsl z=>jF z,o,v,R.tI _ _ q1,q2⟩⟩
 have iw:∀{x c},scope.names.lookup x=aa .cell→b6.cells.lookup x=aa c→(x,c)∈gu (s.heap.objs.size+1) scope.names []:=λ{x c} e h=>aj (cA e) λc' h1 h2=>aU (h1.symm.trans h)▸h2;have ow:∀{a},a∈b6.locals::(iT scope).filterMap (b6.cells.lookup ·)→a=s.heap.objs.size∨∃y,(y,a)∈gu (s.heap.objs.size+1) scope.names []:=λha=>(dA.mp ha).imp (·.trans hL) λha=>aj (gP.mp ha) λy hy e=>⟨y,iw (cN hy) e⟩;have hf:∀a∈b6.locals::(iT scope).filterMap (b6.cells.lookup ·),s.heap.get? a=af:=λa ha=>zE ((ow ha).elim (λe=>bH e.symm) λha=>ha.elim λy hy=>gd (cs.empty y a hy).2);have mo:∀{x c},scope.names.lookup x=aa .cell→b6.cells.lookup x=aa c→c∈b6.locals::(iT scope).filterMap (b6.cells.lookup ·):=λ{x c} e h=>.tail _ (gP.mpr ⟨x,Kl e,h⟩);have rb:∀{x k},scope.names.lookup x=aa k→(BR scope F.sc).names.lookup x=aa k∨k=.free∧(BR scope F.sc).names.lookup x=aa .cell:=λe=>Op.imp (·.trans e) λq=>⟨aU (e.symm.trans q.1),q.2⟩;refine⟨_,R.enter (λa o e=>PZ _ _ a o (dS _ e)) rfl rfl hf
  ⟨(ay Env.scope he).trans (ay (BR scope) R.f.sc),ok.fn,(ay Env.globals he).trans R.f.glob,(ay Env.builtins he).trans R.f.blt,.head _,⟨_,hL▸lJ,λx v hx hl=>xA (E6 hx) λq1 _=>?_⟩,λx v hx hl=>xA (E6 hx) λq1 q2=>?_,λx hx=>?_,λx hx=>?_,λx y c hx h1 h2=>?_,λa ha=>?_⟩
  (λl hl=>⟨[],hl,jA R.frs λl0 g1 _ g3 _ _=>aU (g1.symm.trans hl)▸eA g3 λe0 l' z q=>⟨e0,l',z,q.trans (ay Env.frame he).symm⟩,λe qU=>cS qU⟩) R.depth R.units rfl R.quiet,hf,.head _⟩
 ·exact(rb q1).elim (λe=>nomatch e.symm.trans hl) λe=>nomatch e.2.symm.trans hl
 ·exact bC (R.f.l9 x v q2 (ok.fr _ (mV q1) rfl)) λc v' z1 z2 z3=>⟨c,v',(cB q1).trans (ay (λo:Option ax=>aa (o.getD 0)) z1),z2.mono R.tI.t .rfl,.inr (z3.elim (λy=>aj y.2.2 λo y1 y2=>⟨o,(uH y.1 _).trans y1,y2⟩) λy=>aj y λo y1 y2=>⟨o,R.tI _ _ y1,y2⟩)⟩
 ·have p8:=λq:scope.names.lookup x=aa .free=>bM (ou q) λc hc _ k=>(⟨c,(cB q).trans (ay (λo:Option ax=>aa (o.getD 0)) hc),.inr k⟩:∃c,b6.cells.lookup x=aa c∧((c∈b6.locals::(iT scope).filterMap (b6.cells.lookup ·)∧∃v,(HL (s.heap.push {cls:=.type "dict",data:=.dict #[]}) scope.names).IsCell c v)∨∃o v,P.under own s.heap c=aa o∧o.data=.cell v))
  have l9:=λq:scope.names.lookup x=aa .cell=>aj (cA q) λc hc k=>(⟨c,hc,.inl ⟨mo q hc,af,(cs.empty _ _ k).1⟩⟩:∃c,b6.cells.lookup x=aa c∧((c∈b6.locals::(iT scope).filterMap (b6.cells.lookup ·)∧∃v,(HL (s.heap.push {cls:=.type "dict",data:=.dict #[]}) scope.names).IsCell c v)∨∃o v,P.under own s.heap c=aa o∧o.data=.cell v));exact(Op (sc:=F.sc) (x:=x) (names:=scope.names)).elim (λe=>hx.elim (λq=>l9 (e.symm.trans q)) λq=>p8 (e.symm.trans q)) λe=>p8 e.1
 ·have e:=cN hx
  exact⟨(rb e).elim id λe=>e.2,aj (cA e) λc h1 h2=>xA (cs.empty _ _ h2) λq1 q2=>⟨c,af,h1,mo e h1,hL▸dF q2,q1⟩⟩
 ·have m1:=iw (cN hx) h1
  exact(cC h2).elim (λm2=>name_of_addr cs.apart m1 m2) λq=>bM (ou q.1) λaru hc lt _=>bd (bK (q.2.trans (ay (λo:Option ax=>o.getD 0) hc)▸lt) (gd (cs.empty _ _ m1).2)) (fo _)
 ·exact(ow ha).elim (λe=>ky lJ λo es ep q1 q2 _=>⟨o,e▸q1,zf q2⟩) λq=>q.elim λy hy=>aj (cs.empty y a hy).1 λo q1 q2=>⟨o,q1,BF q2⟩
noncomputable def z7 (elt:Expr) (gens:List dT) (scope:cu) (pos:Pos) (d:Nat) (acc:Value) (ae:Env) (K:Sem k9):Sem k9:=
 match gens[d+1]? with
 |some g'=>do
  let x ←d8 g'.iter ae
  kb g'.iter.pos
  let x ←if g'.is_async !=0 then foldedIterable g'.iter x else wT g'.iter ae x
  let _ ←runOwn (.compStart (.ListComp elt gens scope pos) (d+1) (←jt [x] (if g'.is_async !=0 then asyncIter x else qz x)) acc ae) ae
  K
 |none=>do
  (do let _ ←o_ (.builtin "list.append") [acc,←d8 elt ae])
  K
noncomputable def lR (gens:List dT):Bool:=gens.all λg=>g.is_async==0
theorem K9 {gens:List dT} {d:Nat} {g:dT} (hg:gens[d]? =aa g) (ho:lR gens=ab):g.is_async=0:=eq_of_beq (db.mp ho g (bQ hg))
theorem wp_turn {M:i0} {A:dP} {E:Value→ak→Prop} {s:ak} {elt:Expr} {gens:List dT} {scope:cu} {pos:Pos} {d:Nat} {g:dT} {it acc:Value} {ae:Env} {Q:k9→ak→Prop} (hg:gens[d]? =aa g) (ho:lR gens=ab)
  (h:aw M A (uw it) (λr a5=>match r with
   |none=>Q (.done .next) a5
   |some v=>aw M A (Dl g.target it v) (λ_ bz=>aw M A (o8 g.target ae v) (λ_ ef=>aw M A (forIn g.ifs ab (λc r=>if r=ab then do let ok ←isTrue c ae (d8 c ae);pure (HM ok) else pure (HM r)))
     (λok nr=>aw M A (if ok=ab then z7 elt gens scope pos d acc ae (again (.compLoop (.ListComp elt gens scope pos) d it acc ae)) else again (.compLoop (.ListComp elt gens scope pos) d it acc ae)) Q E nr) E ef) E bz) E a5) E s):
  aw M A (compTurn (.ListComp elt gens scope pos) d it acc ae) Q E s:=by
 obtain⟨t,i,ifs,a⟩:=g;obtain rfl:a=0:=(K9 hg ho)
 delta compTurn
 dsimp only;rw[hg];refine wb (jG (wb (nZ h (λr a5 ag=>?_) λ_ _ x=>x)))
 cases r with
 |none=>exact aD ag
 |some v=>exact wb (nZ ag (λ_ bz aC=>wb (nZ aC (λ_ ef cM=>wb (nZ cM (λok nr j1=>j1) λ_ _ x=>x)) λ_ _ x=>x)) λ_ _ x=>x)
variable{elt:Expr} {gens:List dT} {scope:cu} {pos:Pos} {acc:Nm} {d:Nat}
structure Aq (G:Gl) (F:FD) (b:Nat) (fr:SF) (h:SH) (elt:Expr) (gens:List dT) (scope:cu) (pos:Pos) (acc:Nm) (d:Nat) (k:dB) (i:Nat) (Q:QF):Prop where
 run:∀own ae A P m s I T (R':wQ→ak→Prop) ad,Rel G F b own ae A P m fr h s→kH k i P m s.heap I T→fJ G own P m s.heap T→m acc=aa ad→
  (∀fr' h' s' P' m',Q fr' h'→P.le P'→m.le m'→Rel G F b own ae A P' m' fr' h' s'→R' (.ok .next) s')→kc (aQ G.prog G.w) A (.compLoop (.ListComp elt gens scope pos) d (.ref I) (.ref ad.1) ae) R' s
structure zb (G:Gl) (F:FD) (b:Nat) (fr:SF) (h:SH) (elt:Expr) (gens:List dT) (scope:cu) (pos:Pos) (acc:Nm) (d:Nat) (Q:QF):Prop where
 run:∀own ae A P m s (K:Sem k9) (Q':k9→ak→Prop) (E':Value→ak→Prop) ad,Rel G F b own ae A P m fr h s→m acc=aa ad→
  (∀fr' h' s' P' m',Q fr' h'→P.le P'→m.le m'→Rel G F b own ae A P' m' fr' h' s'→aw (aQ G.prog G.w) A K Q' E' s')→aw (aQ G.prog G.w) A (z7 elt gens scope pos d (.ref ad.1) ae K) Q' E' s
def Fh (G:Gl) (F:FD) (b:Nat) (fr:SF) (h:SH) (ifs:List Expr) (Q:Bool→SH→Prop):Prop:=match ifs with
 |[]=>Q ab h
 |[c]=>WB G F b fr h c Q lz
 |_=>False
theorem pA {E':Value→ak→Prop}:iK G F b own ae A P m fr lz E':=λ_ _ _ _ _ _ q=>q.elim
theorem IG {n:Nm} {vs:List SV} {v:SV} {v':Value} {ad:ax×ax} {Q':Value→ak→Prop} {E':Value→ak→Prop} (R:Rel G F b own ae A P m fr h s) (hn:h n=aa (.list vs)) (hm:m n=aa ad) (hv:VR P m v v') (hz:vs.length≤aZ)
  (c:∀s',Rel G F b own ae A P m fr (h.set n (.list (vs++[v]))) s'→Q' .none s'):aw (aQ G.prog G.w) A (o_ (.builtin "list.append") [.ref ad.1,v']) Q' E' s:=by
 refine ky (R.listAt hn) λbg xs kk q1 q2 q3=>?_
 replace q2:=aU (q1.symm.trans hm)▸q2
 refine wpAny_list_append_plain (items:=xs) ⟨kk,q2⟩ (λh' hl hs=>c _ (hl.elim λΡ jV=>aj (R.obj n _ hn) λKZ z1 z2=>
  R.turn hn hm (λa o n1 n2 e=>(hs.2 a n1).trans e) rfl rfl ⟨aU (z1.symm.trans hm)▸z2.1,xs.push v',Ρ,jV,(HN (xs:=xs) (x:=v')).symm▸q3.app (aY.one hv)⟩)) (fQ▸q3.length▸hz)
theorem NB {k:dB} {i:Nat} {Q':Value→ak→Prop} {E':Value→ak→Prop} (R:Rel G F b own ae A P m fr h s) (hI:kH k i P m s.heap I T) (hq:Q' (.ref I) s):aw (aQ G.prog G.w) A (qz (.ref I)) Q' E' s:=by
 have en {k} (hI:qq k i P m s.heap I T):aw (aQ G.prog G.w) A (qz (.ref I)) Q' E' s:=by
  refine gC hI λJ old _ _ hE _=>?_;clear hI;exact aff hE hq
 cases k with
 |list n=>refine l_ hI λ_ ad _ hit=>?_;clear hI;exact wpAny_pyIter_listiter hit hq
 |tup vs=>refine l_ hI λ_ t _ hit=>?_;clear hI;exact wpAny_pyIter_tupleiter hit hq
 |range a c=>exact wpAny_pyIter_rangeiter hI.2 hq
 |keys n len=>refine l_ hI λ_ ad _ hit=>?_;clear hI;exact wpAny_pyIter_keyiter hit hq
 |enumL n=>exact en hI
 |enumT n=>exact en hI
 |str x=>refine BC hI λ_ t hit=>?_;clear hI;exact wpAny_pyIter_striter_ascii hit hq
theorem KX {g:dT} (hg:gens[d]? =aa g) (ho:lR gens=ab) {it qi:Value} {R':wQ→ak→Prop}
  (h0:kc (aQ G.prog G.w) A (.compLoop (.ListComp elt gens scope pos) d it qi ae) R' s)
  (h1:aw (aQ G.prog G.w) A (qz it) (λyb s'=>kc (aQ G.prog G.w) A (.compLoop (.ListComp elt gens scope pos) d yb qi ae) R' s') (notedBy (aQ G.prog G.w) A ae λx s'=>R' (.error x) s') s):
  kc (aQ G.prog G.w) A (.compStart (.ListComp elt gens scope pos) d it qi ae) R' s:=by
 have ha:g.is_async=0:=by
  have:=db.mp ho g (bQ hg)
  simpa using this
 refine P0 ?_;have e:(aQ G.prog G.w).den (.compStart (.ListComp elt gens scope pos) d it qi ae)=((compStart (.ListComp elt gens scope pos) d it qi ae).onRaise (λx=>do HO x ae;kb theWindowsPlace)):=by
  cases d<;>rfl
 rw[e];show aw _ A _ _ _ s;refine wpAny_notedAt ?_;unfold compStart clausesOf;rw[hg];simp only[Option.elim_some,ha,show((0:Int) !=0)=an from rfl,Bool.false_eq_true,if_false];refine wb (zB (wpAny_ite ?_))
 split
 ·exact wb (aD (aD (P4 rfl h0)))
 ·exact wb (jH (wb (jG (wb (nZ h1 (λyb s' h'=>aD (P4 rfl h')) λ_ _ x=>x)))))
theorem RK {Q:QF} (hd:gens[d+1]? =af) (w:WE G F b fr h elt (λv ag=>∃vs,ag acc=aa (.list vs)∧vs.length≤aZ∧Q fr (ag.set acc (.list (vs++[v])))) lz):zb G F b fr h elt gens scope pos acc d Q:=by
 refine .mk λown ae A P m s K Q' E' ad R hm c=>?_;unfold z7;rw[hd];exact wb (wb (w.run own ae A P m s _ _ R (λv ag v' a5 bW bV hq hP y4 hv a7=>bM hq λvs h1 h2 h3=>wb (IG a7 h1 (y4 _ _ hm) hv h2 λs' R'=>aD (c _ _ _ _ _ h3 hP y4 R'))) pA))
theorem ab0 {g':dT} {Q:QF} (hd:gens[d+1]? =aa g') (ho:lR gens=ab) (oV:∀ae x,wT g'.iter ae x=pure x)
  (w:WI G F b fr h g'.iter (λk ag=>Aq G F b fr ag elt gens scope pos acc (d+1) k 0 Q) lz):zb G F b fr h elt gens scope pos acc d Q:=by
 refine .mk λown ae A P m s K Q' E' ad R hm c=>?_;unfold z7;rw[hd];obtain⟨t,it,ifs,a⟩:=g';obtain rfl:a=0:=(K9 hd ho);refine wb (nZ (w.run own ae A P m s (λit a5=>aw (aQ G.prog G.w) A (runOwn (.compStart (.ListComp elt gens scope pos) (d+1) it (.ref ad.1) ae) ae) (λ_ bz=>aw (aQ G.prog G.w) A K Q' E' bz) E' a5) E' R (λk ag I T a5 bW bV hq hP y4 a7 hI hT=>?_) pA) (λx a5 ag=>?_) λ_ _ x=>x)
 ·have rk:kc (aQ G.prog G.w) A (.compLoop (.ListComp elt gens scope pos) (d+1) (.ref I) (.ref ad.1) ae) (λr s'=>match r with|.ok f=>aw (aQ G.prog G.w) A K Q' E' s'|.error e=>cameBackBy (aQ G.prog G.w) A ae E' e s') a5:=
   hq.run own ae A bW bV a5 I T _ ad a7 hI hT (y4 _ _ hm) λfr' h' s' P' m' q a b R'=>c _ _ _ _ _ q (hP.trans a) (y4.trans b) R'
  exact wpAny_runOwn (KX hd ho rk (NB a7 hI rk))
 ·exact wb (jG (wb (mW (oV ae x) (wb (dD (nZ ag (λit bz aC=>wb aC) λ_ _ x=>x))))))
theorem Us {ifs:List Expr} {Qt:Bool→SH→Prop} {Q':Bool→ak→Prop} {E':Value→ak→Prop} (q:Fh G F b fr h ifs Qt) (R:Rel G F b own ae A P m fr h s)
  (c:∀t h' s' P' m',Qt t h'→P.le P'→m.le m'→Rel G F b own ae A P' m' fr h' s'→Q' t s'):
  aw (aQ G.prog G.w) A (forIn ifs ab (λc r=>if r=ab then do let ok ←PySem.isTrue c ae (d8 c ae);pure (HM ok) else pure (HM r))) Q' E' s:=
 match ifs,q with
 |[],q=>wpAny_tests_nil (c _ _ _ _ _ q .rfl .rfl R)
 |[_],q=>wpAny_tests_one (q.run own ae A P m s _ _ R (λt ri tF vR ro nG qO lj oR=>c _ _ _ _ _ nG qO lj oR) pA)
theorem YO {g:dT} {k:dB} {i:Nat} {Q:QF} (hg:gens[d]? =aa g) (ho:lR gens=ab) (hq:F.q=ab) (qh:mC k g.target) (J:Nat→Nat→SF→SH→Prop) (n:Nat) (h0:J n i fr h)
  (turn:∀n i et aC,J n i et aC→jx (Q et aC) (λv=>
    WA G F b et aC g.target v (λj8 cM=>Fh G F b j8 cM g.ifs (λc j1=>if c then zb G F b j8 j1 elt gens scope pos acc d (λGp uY=>∃k,k<n∧J k (i+1) Gp uY)
      else ∃k,k<n∧J k (i+1) j8 j1)) nX) (jo k i aC)):Aq G F b fr h elt gens scope pos acc d k i Q:=by
 refine .mk ?_;intro own ae A P m s I T R' ad R hI hT hm c;have e:∀it qi,(aQ G.prog G.w).den (.compLoop (.ListComp elt gens scope pos) d it qi ae)=((compTurn (.ListComp elt gens scope pos) d it qi ae).onRaise (λx=>do HO x ae;theTreesLotGoes x)):=λit qi=>by
  cases d<;>rfl
 refine codeAny_loop rfl (zd G F b own ae A P m k I T J) (λn bz=>?_) n ⟨P,m,fr,h,i,h0,.rfl,.rfl,R,hI,hT⟩;intro⟨cE,cw,et,aC,i,hJ,cQ,cK,bm,GH,wj⟩;rw[e _ _];show aw _ A _ _ _ bz;refine wpAny_noted ?_;have stop:∀{s'},(∃k',k'<n∧zd G F b own ae A P m k I T J k' s')→aw (aQ G.prog G.w) A (again (.compLoop (.ListComp elt gens scope pos) d (.ref I) (.ref ad.1) ae)) (λfin s'=>match fin with
   |.done f=>R' (.ok f) s'
   |.again c'=>c'=.compLoop (.ListComp elt gens scope pos) d (.ref I) (.ref ad.1) ae∧∃k',k'<n∧zd G F b own ae A P m k I T J k' s') (notedBy (aQ G.prog G.w) A ae λe s'=>R' (.error e) s') s':=λq=>aD ⟨rfl,q⟩
 refine wp_turn hg ho (JW (T:=T) hq qh bm GH wj ((turn n i et aC hJ).imp (λtn ef cV=>c _ _ _ _ _ tn cQ cK cV) λv tn v' ef lI f8 cV fA DU xw=>?_));refine xA (cV.hold xw) λfY le=>tn.run own ae A _ cw ef _ _ v' fY (fA.mono le.t .rfl) (λGp uY yz y_ vn q sG lS ko=>?_) s9;have fin {vg ri tF vR ro} (q:∃k',k'<n∧J k' (i+1) vg ri) (qO:y_.le vR) (lj:vn.le ro) (oR:Rel G F b own ae A vR ro vg ri tF):=stop (s':=tF)
  (aj q λkk hk YW=>xD (cV.drop xw oR (sG.trans qO) (lS.trans lj)) λl1 l2 rq Ek hex=>⟨kk,hk,_,ro,vg,ri,i+1,YW,(cQ.trans f8).trans l1,(cK.trans lS).trans lj,rq,DU.move l1.t (lS.trans lj) hex,Ek⟩)
 refine Us q ko λt ri tF vR ro nG qO lj oR=>?_
 cases t with
 |true=>exact(show zb G F b _ _ _ _ _ _ _ _ _ from nG).run own ae A vR ro tF _ _ _ ad oR (lj _ _ (lS _ _ (cK _ _ hm))) λfr' h' s' P' m' q a b aco=>fin q (qO.trans a) (lj.trans b) aco
 |false=>exact fin nG qO lj oR
noncomputable instance:DecidableEq SV
 |.str x,.str y=>decidable_of_iff (x=y) ⟨ay _,SV.str.inj⟩
 |_,_=>Classical.propDecidable _
mutual
noncomputable def SV.data:Nat→SV→Bool
 |_,.none=>ab
 |_,.int _=>ab
 |_,.str _=>ab
 |n+1,.tup vs=>eH n vs
 |_,_=>an
noncomputable def eH:Nat→List SV→Bool
 |_,[]=>ab
 |n,v::vs=>SV.data n v && eH n vs
end
theorem sB {n:Nat}:∀{vs:List SV},eH n vs=ab↔∀v∈vs,SV.data n v=ab
 |[]=>⟨λ_=>nofun,λ_=>rfl⟩
 |v::vs=>(bR _ _▸Iff.rfl:(SV.data n v && eH n vs)=ab↔_).trans ((and_congr_right λ_=>sB (vs:=vs)).trans PV.symm)
theorem DC {n:Nat}:∀{vs:List SV},SV.keys n vs=ab↔∀v∈vs,SV.key n v=ab
 |[]=>⟨λ_=>nofun,λ_=>rfl⟩
 |v::vs=>(bR _ _▸Iff.rfl:(SV.key n v && SV.keys n vs)=ab↔_).trans ((and_congr_right λ_=>DC (vs:=vs)).trans PV.symm)
theorem pv {n:Nat} {k:SV} {C:Prop} (h:SV.key n k=ab) (ci:∀i,k=.int i→C) (cs:∀i,k=.str i→C) (ct:∀vs q,n=q+1→k=.tup vs→(∀v∈vs,SV.key q v=ab)→C):C:=by
 cases k with
 |int i=>exact ci i rfl
 |str i=>exact cs i rfl
 |tup vs=>
  cases n with
  |zero=>exact cJ h
  |succ n=>exact ct vs n rfl rfl (DC.mp h)
 |_=>cases n<;>exact cJ h
theorem sC {n:Nat}:∀{v:SV},SV.key n v=ab→SV.data n v=ab:=by
 induction n with
 |zero=>intro v h;exact pv h (λi e=>e▸rfl) (λi e=>e▸rfl) λ_ _ e=>nomatch e
 |succ n ih=>intro v h;exact pv h (λi e=>e▸rfl) (λi e=>e▸rfl) λvs q e e' k=>by cases e;subst e';exact sB.mpr λv hv=>ih (k v hv)
theorem VR.kinds {x:SV} {v:Value} {n:Nat} {C:SV→Value→Prop} (hx:VR P m x v) (dx:SV.data n x=ab) (c0:C .none .none) (ci:∀i t,C (.int i) (.int i t)) (cs:∀i t,C (.str i) (.str i t))
  (ct:∀xs a o items k q,n=q+1→(∀v∈xs,SV.data q v=ab)→P a=aa o→o.cls=.type "tuple"→o.data=.seq items k→aY P m xs items.toList→C (.tup xs) (.ref a)):C x v:=by
 cases x with
 |none=>cases hx;exact c0
 |int i=>refine xE hx λt bu=>?_;clear hx;subst bu;exact ci i t
 |str i=>refine xE hx λt bu=>?_;clear hx;subst bu;exact cs i t
 |tup xs=>
  obtain⟨a,o,items,k,rfl,h1,h2,h3,h4⟩:=hx
  cases n with
  |zero=>exact cJ dx
  |succ n=>exact ct xs a o items k n rfl (sB.mp dx) h1 h2 h3 h4
 |_=>cases n<;>exact cJ dx
theorem Rel.m7 (R:Rel G F b own ae A P m fr h s) {vs:List SV} {v:Value} (hv:VR P m (.tup vs) v):∃a items,v=.ref a∧s.heap.IsTuple a items∧aY P m vs items.toList:=by
 obtain⟨a,o,items,n,rfl,h2,h3,h4,h5⟩:=hv;refine bM (R.rn h2) λo' q1 q2 q3=>?_;exact⟨a,items,rfl,⟨o',q1,q2.trans h3,n,q3.trans h4⟩,h5⟩
theorem aY.size {vs:List SV} {xs:Array Value} (h:aY P m vs xs.toList):vs.length=xs.size:=by rw[h.length,fQ]
theorem aY.at {vs:List SV} {xs:Array Value} (h:aY P m vs xs.toList) {j:Nat} (hj:j<xs.size):∃x,vs[j]? =aa x∧VR P m x xs[j]:=by
 have hl:j<vs.length:=h.size▸hj;refine aj (h.get (fb hl)) λw q1 q2=>?_
 cases q1.symm.trans (js.trans (jq hj))
 exact(aT (vs[j]) (fb hl) q2)
theorem Ff (x y:List SV):decide (x=y)=((bq (min x.length y.length)).all (λj=>decide (x[j]? =y[j]?)) && x.length==y.length):=by
 by_cases h:x=y
 ·subst h
  exact(eP rfl).trans (Dk.mpr ⟨db.mpr λj _=>eP rfl,qu _⟩).symm
 ·refine(iZ h).trans (Do.mpr λe=>h ?_).symm
  refine xA (Dk.mp e) λe1 e2=>?_;have e2:=eq_of_beq e2;refine afg λj=>?_;rcases P5 j x.length with hj|hj
  ·exact fD (db.mp e1 j (dQ.mpr (Nat.lt_min.mpr ⟨hj,e2▸hj⟩)))
  ·exact(lY hj).trans (lY (e2▸hj)).symm
theorem aY.inj {xs:List SV} (ih:∀x∈xs,∀y v,VR P m x v→VR P m y v→∀k,SV.data k y=ab→x=y) {k:Nat}:∀{ys:List SV} {vs:List Value},aY P m xs vs→aY P m ys vs→(∀y∈ys,SV.data k y=ab)→xs=ys:=by
 induction xs with
 |nil=>
  intro ys vs hx hy _
  cases hx
  cases ys with
  |nil=>rfl
  |cons y ys=>refine eA hy λ_ _ e _=>?_;clear hy;exact vS e
 |cons x xs il=>
  intro ys vs hx hy dy;refine bC hx λv r ar h1 h2=>?_;clear hx;subst ar
  cases ys with
  |nil=>cases hy
  |cons y ys=>
   refine bC hy λ_ _ e h3 h4=>?_;clear hy
   cases e
   rw[ih x dv y v h1 h3 k (dy y dv),il (λx hx=>ih x (eS _ hx)) h2 h4 λy hy=>dy y (eS _ hy)]
theorem VR.ρ (n:Nat):∀{x:SV} {v:Value},VR P m x v→SV.data n x=ab→∀y,VR P m y v→∀k,SV.data k y=ab→x=y:=by
 have base {n:Nat} {x:SV} {v:Value} (hx:VR P m x v) (dx:SV.data n x=ab) (ct:∀xs a o items k q,n=q+1→(∀v∈xs,SV.data q v=ab)→P a=aa o→o.data=.seq items k→aY P m xs items.toList→
   ∀ys rp l k,P a=aa o→(∀v∈ys,SV.data k v=ab)→o.data=.seq rp l→aY P m ys rp.toList→xs=ys):∀y,VR P m y v→∀k,SV.data k y=ab→x=y:=by
  refine hx.kinds (C:=λx v=>∀y,VR P m y v→∀k,SV.data k y=ab→x=y) dx ?_ (λi t=>?_) (λi t=>?_) λxs a o items k q e d h1 _ h3 h4=>?_<;>intro y hy j dy
  ·exact hy.kinds (C:=λy v=>v=.none→.none=y) dy (λ_=>rfl) (λ_ _=>nofun) (λ_ _=>nofun) (λ_ _ _ _ _ _ _ _ _ _ _ _=>nofun) rfl
  ·exact hy.kinds (C:=λy v=>v=.int i t→.int i=y) dy nofun (λ_ _ e=>by cases e;rfl) (λ_ _=>nofun) (λ_ _ _ _ _ _ _ _ _ _ _ _=>nofun) rfl
  ·exact hy.kinds (C:=λy v=>v=.str i t→.str i=y) dy nofun (λ_ _=>nofun) (λ_ _ e=>by cases e;rfl) (λ_ _ _ _ _ _ _ _ _ _ _ _=>nofun) rfl
  ·refine hy.kinds (C:=λy v=>v=.ref a→.tup xs=y) dy nofun (λ_ _=>nofun) (λ_ _=>nofun) (λys a' o' rp l q' _ dy p1 _ p3 p4 e'=>?_) rfl
   cases e'
   cases h1.symm.trans p1
   exact ay SV.tup (ct xs a o items k q e d h1 h3 h4 ys rp l q' h1 dy p3 p4)
 induction n with
 |zero=>intro x v hx dx;exact base hx dx λ_ _ _ _ _ _ e=>nomatch e
 |succ n il=>
  intro x v hx dx;refine base hx dx λxs a o items k q e d _ h3 h4 ys rp l j _ dy p3 p4=>?_
  cases e
  cases h3.symm.trans p3
  exact h4.inj (λx hx y v h1 h2 k dk=>il h1 (d x hx) y h2 k dk) p4 dy
theorem VR.inj (x:SV) {y:SV} {v:Value} {n k:Nat} (hx:VR P m x v) (hy:VR P m y v) (dx:SV.data n x=ab) (dy:SV.data k y=ab):x=y:=hx.ρ n dx y hy k dy
open PySem.SeqAt in
theorem Rel.wv (R:Rel G F b own ae A P m fr h s) (n:Nat):∀{A':dP} {x y:SV} {v u:Value},VR P m x v→VR P m y u→SV.data n x=ab→SV.data n y=ab→A'.units+n<ew→EqAt A' s v u (decide (x=y)):=by
 have no {A':dP} {x y:SV} {v u:Value} (e:EqAt A' s v u an) (ne:x≠y):EqAt A' s v u (decide (x=y)):=by rw[iZ ne];exact e
 have fh {A':dP} {x y:SV} {v u:Value} (e:EqAt A' s v u ab) (ne:x=y):EqAt A' s v u (decide (x=y)):=by rw[eP ne];exact e
 have tu {a:ax} {o:Obj} {items:Array Value} {k:Nat} (h1:P a=aa o) (h2:o.cls=.type "tuple") (h3:o.data=.seq items k):s.heap.IsTuple a items:=by
  refine bM (R.rn h1) λo' q1 q2 q3=>?_;exact⟨o',q1,q2.trans h2,k,q3.trans h3⟩
 have Ot {n:Nat} {A':dP} {x y:SV} {v u:Value} (hx:VR P m x v) (hy:VR P m y u) (dx:SV.data n x=ab) (dy:SV.data n y=ab) (hu:A'.units<ew)
   (tt:∀xs ys a c ia ic q,n=q+1→(∀v∈xs,SV.data q v=ab)→(∀v∈ys,SV.data q v=ab)→VR P m (.tup xs) (.ref a)→VR P m (.tup ys) (.ref c)→s.heap.IsTuple a ia→s.heap.IsTuple c ic→aY P m xs ia.toList→aY P m ys ic.toList→
    EqAt A' s (.ref a) (.ref c) (decide (SV.tup xs=SV.tup ys))):EqAt A' s v u (decide (x=y)):=by
  refine hx.kinds (C:=λx v=>EqAt A' s v u (decide (x=y))) dx ?_ (λi t=>?_) (λi t=>?_) λxs a o items k q e d h1 h2 h3 h4=>?_
  ·exact hy.kinds (C:=λy u=>EqAt A' s .none u (decide (.none=y))) dy (fh (.same _) rfl) (λj t'=>no (.none_int j t') (nomatch ·)) (λj t'=>no (.none_str j t') (nomatch ·)) λys c o items k q e d h1 h2 h3 h4=>no (.none_tuple (tu h1 h2 h3) hu) (nomatch ·)
  ·refine hy.kinds (C:=λy u=>EqAt A' s (.int i t) u (decide (.int i=y))) dy (no (.int_none i t) (nomatch ·)) (λj t'=>?_) (λj t'=>no (.int_str i t j t') (nomatch ·)) λys c o items k q e d h1 h2 h3 h4=>no (.int_tuple i t (tu h1 h2 h3) hu) (nomatch ·)
   have e:=EqAt.int_int (A:=A') (s:=s) i t j t'
   by_cases z:i=j
   ·exact fh (eW.mpr z▸e) (z▸rfl)
   ·exact no (kW.mpr z▸e) λw=>z (by cases w;rfl)
  ·refine hy.kinds (C:=λy u=>EqAt A' s (.str i t) u (decide (.str i=y))) dy (no (.str_none i t) (nomatch ·)) (λj t'=>no (.str_int i t j t') (nomatch ·)) (λj t'=>?_) λys c o items k q e d h1 h2 h3 h4=>no (.str_tuple i t (tu h1 h2 h3) hu) (nomatch ·)
   have e:=EqAt.str_str (A:=A') (s:=s) i t j t'
   by_cases z:i=j
   ·exact fh (eW.mpr z▸e) (z▸rfl)
   ·exact no (kW.mpr z▸e) λw=>z (by obtain rfl:=Mine.Internal.SV.str.inj w;rfl)
  ·exact hy.kinds (C:=λy u=>EqAt A' s (.ref a) u (decide (.tup xs=y))) dy (no (.tuple_none (tu h1 h2 h3) hu) (nomatch ·)) (λj t'=>no (.tuple_int j t' (tu h1 h2 h3) hu) (nomatch ·)) (λj t'=>no (.tuple_str j t' (tu h1 h2 h3) hu) (nomatch ·))
    λys c o' rp k' q' e' d' p1 p2 p3 p4=>tt xs ys a c items rp q e d (by cases e.symm.trans e';exact d') ⟨a,o,items,k,rfl,h1,h2,h3,h4⟩ ⟨c,o',rp,k',rfl,p1,p2,p3,p4⟩ (tu h1 h2 h3) (tu p1 p2 p3) h4 p4
 induction n with
 |zero=>intro A' x y v u hx hy dx dy hu;exact Ot hx hy dx dy hu λ_ _ _ _ _ _ _ e=>nomatch e
 |succ n ih=>
  intro A' x y v u hx hy dx dy hu;refine Ot hx hy dx dy (bf (b7 _ _) hu) λxs ys a c ia ic q e dx dy vx vy ha hc nJ nc=>?_
  cases e
  by_cases O5:a=c
  ·subst O5
   exact fh (.same _) (vx.inj _ vy (n:=n+1) (k:=n+1) (sB.mpr dx) (sB.mpr dy))
  ·have e:decide (SV.tup xs=SV.tup ys)=((bq (min ia.size ic.size)).all (λj=>decide (xs[j]? =ys[j]?)) && ia.size==ic.size):=by
    rw[←nJ.size,←nc.size,←Ff];exact mO.mpr ⟨λh=>by cases h;rfl,ay _⟩
   rw[e];refine EqAt.of_refs O5 (RcAt.tuples ha hc (bf (b7 _ _) hu) λj h1 h2=>?_);refine aj (nJ.at h1) λx q1 q2=>?_;refine aj (nc.at h2) λy p1 p2=>?_;rw[(mO.mpr (by rw[q1,p1];exact⟨aU,ay _⟩):decide (xs[j]? =ys[j]?)=decide (x=y))];exact ih q2 p2 (dx x (bQ q1)) (dy y (bQ p1)) (by show A'.units+1+n<ew;exact bf (bH (wH _ _)) ‹_›)
section
section
theorem Rel.room (R:Rel G F b own ae A P m fr h s):A.units+8<ew:=bf (nW (b7 _ _) 8) R.units
theorem Cr {α:Type} {M:i0} {A:dP} {E:Value→ak→Prop} {Q:α→ak→Prop} {s:ak} {c:Bool} {x y:Sem α} (e:c=ab) (w:aw M A x Q E s):aw M A (if c=ab then x else y) Q E s:=by subst e;exact w
theorem mH {α:Type} {M:i0} {A:dP} {E:Value→ak→Prop} {Q:α→ak→Prop} {s:ak} {c:Bool} {x y:Sem α} (e:c=an) (w:aw M A y Q E s):aw M A (if c=ab then x else y) Q E s:=by subst e;exact w
theorem Xk (w:cD) (l:List SV):AH w l=l.map (bZ w):=by
 induction l with
 |nil=>rfl
 |cons x r ih=>exact ay (bZ w x::·) ih
theorem Y4 {E:Value→ak→Prop} {A:dP} {Q:Array Int→ak→Prop} {f:Value→Array Int→Sem (ForInStep (Array Int))} (hf:∀v r,f v r=(do let y ←pyHash v;pure (.yield (r.push y)))) {left:List SV}:
  ∀{rest:List Value} {r:Array Int} {s:ak},aY P m left rest→(∀k∈left,∀{v:Value} {s':ak} {Q':Int→ak→Prop},s'.heap=s.heap→VR P m k v→(∀t,Q' (bZ G.w k) {s' with toks:=t})→aw (aQ G.prog G.w) A (pyHash v) Q' E s')→
  (∀r' t,r'.toList=r.toList++left.map (bZ G.w)→Q r' {s with toks:=t})→aw (aQ G.prog G.w) A (forIn rest r f) Q E s:=by
 induction left with
 |nil=>exact λ{_ r s} h _ hq=>h▸aD (hq r s.toks (gO _).symm)
 |cons k left ih=>
  intro rest r s h hk hq;refine bC h λv rest e h1 h2=>e▸?_;rw[pb,hf _ _];exact wb (wb (hk k (.head _) rfl h1 λt=>aD (ih h2 (λk' dX=>hk k' (.tail _ dX)) λr' t' e=>hq r' t' (e.trans (by rw[HN,wL _ _ _];rfl)))))
theorem Rel.hash (E:Value→ak→Prop) (n:Nat):∀{A:dP} {s:ak} {k:SV} {v:Value} {Q:Int→ak→Prop},A.units+n<ew→VR P m k v→
  (∀a o,P a=aa o→∃o',s.heap.get? a=aa o'∧o'.cls=o.cls∧o'.data=o.data)→SV.key n k=ab→(∀t,Q (bZ G.w k) {s with toks:=t})→aw (aQ G.prog G.w) A (pyHash v) Q E s:=by
 induction n with
 |zero=>
  exact λ{A s k v Q} hu hv hP hk hq=>pv hk (λi e=>xE (e▸hv:VR P m (.int i) v) λt z=>z▸afh ((e▸hq:∀t,Q (bZ G.w (.int i)) {s with toks:=t}) _)) (λi e=>xE (e▸hv:VR P m (.str i) v) λt z=>z▸afi ((e▸hq:∀t,Q (bZ G.w (.str i)) {s with toks:=t}) _)) λvs q e=>nomatch e
 |succ n ih=>
  refine λ{A s k v Q} hu hv hP hk hq=>pv hk (λi e=>xE (e▸hv:VR P m (.int i) v) λt z=>z▸afh ((e▸hq:∀t,Q (bZ G.w (.int i)) {s with toks:=t}) _)) (λi e=>xE (e▸hv:VR P m (.str i) v) λt z=>z▸afi ((e▸hq:∀t,Q (bZ G.w (.str i)) {s with toks:=t}) _)) λvs q e e' Fb=>?_;subst e';refine od hv λa o items q' ev h=>mE h λh2 h3 h4 h5=>bM (hP a o h2) λo' ho hc hd=>ev▸?_;have hT:s.TypeIs (.ref a) "tuple":=⟨o',ho,hc.trans h3⟩;unfold pyHash;unfold pyHashByItsType;refine wb (wpAny_cRoomFor_or (.inr (bf (b7 _ _) hu)) (wb (qA hT F.slot_tuple_hash.lookup ?_)));show aw _ _ (if(aa (HP "tuple.__hash__")==aa eG)=ab then _ else _) Q E s;refine dU (by rw[afj _];rfl) (wb (qA hT F.slot_tuple_hash.lookup ?_));show aw _ _ (callSpecialIfBoundUnlessNone? (.ref a) "__hash__" _ >>=_) Q E s;refine wb (wpAny_callSpecialIfBoundUnlessNone?_slot hT F.slot_tuple_hash (i4 F.slot_tuple_hash hT F.entry_tuple_hash ?_ (F.args_tuple_hash_1 _)));show aw _ _ (P6 (.ref a) >>=_) _ _ s;refine wb (wpAny_tupleItemsOf ho (hd.trans h4) (wb ?_));rw[←HQ];refine Y4 (λ_ _=>rfl) h5 (λk dX v s' Q' hs hv hq=>ih (A:=A.in1) (bf (bH (C6 _ _)) hu) hv (hs▸hP) ((Dp e).symm▸Fb k dX) hq) λr t e=>?_;show aw _ _ (retInt (C9 r.toList)) _ _ _;refine wpAny_ret_mkInt ?_;rw[e];show aw _ _ (if(decide (-(2:Int)^63≤C9 (vs.map (bZ G.w))) && decide (C9 (vs.map (bZ G.w)) <2^63))=ab then _ else _) Q E _;have hq:∀t,Q (PC (C9 (vs.map (bZ G.w)))) {s with toks:=t}:=Xk G.w vs▸(show ∀t,Q (Jg (AH G.w vs)) {s with toks:=t} from hq);unfold PC at hq;exact jJ (λhr=>aD (by have:=hq;rw[aO hr] at this;exact this _)) λhr=>wb (jH (aD (by have:=hq;rw[aK hr] at this;exact this _)))
theorem FE {α β:Type} {A:dP} {E:Value→ak→Prop} {Q:β→ak→Prop} {b:β} {f:α→β→Sem (ForInStep β)} {rest:List α}
  (h:∀v∈rest,∀{Q':ForInStep β→ak→Prop},Q' (.yield b) s→aw (aQ G.prog G.w) A (f v b) Q' E s) (hq:Q b s):aw (aQ G.prog G.w) A (forIn rest b f) Q E s:=by
 induction rest with
 |nil=>exact aD hq
 |cons v rest ih=>
  rw[pb];exact wb (h v dv (ih λw hw=>h w (eS _ hw)))
theorem aY.back {l:List SV}:∀{rest:List Value},aY P m l rest→∀v∈rest,∃k∈l,VR P m k v:=by
 induction l with
 |nil=>exact λh v hv=>cS (h▸hv)
 |cons k l ih=>exact λh v hv=>bC h λx r e h1 h2=>(dA.mp (e▸hv:v∈x::r)).elim (λz=>⟨k,.head _,z.symm▸h1⟩) λz=>aj (ih h2 v z) λk' a b=>⟨k',.tail _ a,b⟩
theorem Ce {E:Value→ak→Prop} {A:dP} {n:Nat} {v:Value} {Q:Bool→ak→Prop} (h:carriedByValue v=ab) (hq:Q ab s):aw (aQ G.prog G.w) A (HR n v) Q E s:=(eqIsQuiet_byValue _ h).symm▸aD hq
theorem Iq (E:Value→ak→Prop) (R:Rel G F b own ae A P m fr h s) (n:Nat):∀{A:dP} {k:SV} {v:Value} {Q:Bool→ak→Prop},VR P m k v→
  SV.key n k=ab→Q ab s→aw (aQ G.prog G.w) A (HR n v) Q E s:=by
 induction n with
 |zero=>exact λ{A k v Q} hv hk hq=>pv hk (λi e=>xE (e▸hv:VR P m (.int i) v) λt z=>Ce (z▸rfl) hq) (λi e=>xE (e▸hv:VR P m (.str i) v) λt z=>Ce (z▸rfl) hq) λvs q e=>nomatch e
 |succ n ih=>
  refine λ{A k v Q} hv hk hq=>pv hk (λi e=>xE (e▸hv:VR P m (.int i) v) λt z=>Ce (z▸rfl) hq) (λi e=>xE (e▸hv:VR P m (.str i) v) λt z=>Ce (z▸rfl) hq) λvs q e e' Fb=>?_;subst e';refine bC (R.m7 hv) λa items ev hT h5=>ev▸vU hT λo ho hc q hd=>?_;have hT:s.TypeIs (.ref a) "tuple":=⟨o,ho,hc⟩;unfold HR;refine wb (qA hT PySem.F.slot_tuple_eq.lookup ?_);show aw _ _ (HS (.ref a) (.type "tuple") >>=_) _ _ s;refine wb (ux hT afk (wb (uu ho hd (wb ?_))));show aw _ _ (forIn items _ _) _ _ s;rw[←HQ];exact FE (λv hv Q' fS=>aj (h5.back v hv) λk' dX fA=>wb (ih fA ((Dp e).symm▸Fb k' dX) (aD fS))) (aD hq)
theorem aib {n:Nat}:∀{k:Nat} {v:SV},n≤k→SV.key n v=ab→SV.key k v=ab:=by
 induction n with
 |zero=>exact λ{k v} _ h=>pv h (λi e=>e▸rfl) (λi e=>e▸rfl) λvs q e=>nomatch e
 |succ n ih=>
  refine λ{k v} hl h=>pv h (λi e=>e▸rfl) (λi e=>e▸rfl) λvs q e e' hk=>e'▸?_
  cases k with
  |zero=>exact bd hl (afl _)
  |succ k=>
   exact DC.mpr λv hv=>ih (HT hl) ((Dp e).symm▸hk v hv)
theorem gL.at {w:cD} {es:List (SV×SV)}:∀{xs:List dK} {j:Nat} {e:dK},gL w P m es xs→xs[j]? =aa e→∃k v,es[j]? =aa (k,v)∧e.hash=bZ w k∧VR P m k e.key∧VR P m v e.val:=by
 induction es with
 |nil=>exact λh q=>a8 (h▸q)
 |cons p es ih=>
  intro xs j e h q;refine tR h λe' r z h1 h2 h3 h4=>?_;subst z
  cases j with
  |zero=>exact aU q▸⟨p.1,p.2,rfl,h1,h2,h3⟩
  |succ j=>exact ih h4 q
theorem V8 {es:List (SV×SV)} (hn:(es.map (·.1)).Nodup) {i j:Nat} {k v v':SV} (hi:es[i]? =aa (k,v)) (hj:es[j]? =aa (k,v')):i=j:=
 (P7 (by rw[aI _];exact(cU.mp hi).1) hn).mp ((dq.trans (ay (oZ mR) hi)).trans (dq.trans (ay (oZ mR) hj)).symm)
theorem Ji {β:Type} {A:dP} {E:Value→ak→Prop} {Q:β→ak→Prop} (c:Prop) {hit:Nat→Prop} {f:Nat→β→Sem (ForInStep β)} {b:β} {d b':Nat→β} {rest:List Nat} (nd:rest.Nodup)
  (step:∀x∈rest,∀{Q':ForInStep β→ak→Prop},(¬hit x→Q' (.yield b) s)→(hit x→Q' (.done (d x)) s∧(c→Q' (.yield (b' x)) s))→aw (aQ G.prog G.w) A (f x b) Q' E s)
  (Jr:c→∀x∈rest,∀y∈rest,y≠x→hit x→∀{Q':ForInStep β→ak→Prop},Q' (.yield (b' x)) s→aw (aQ G.prog G.w) A (f y (b' x)) Q' E s)
  (no:(∀x∈rest,¬hit x)→Q b s) (fh:∀x∈rest,hit x→Q (d x) s∧(c→Q (b' x) s)):aw (aQ G.prog G.w) A (forIn rest b f) Q E s:=by
 induction rest with
 |nil=>exact aD (no nofun)
 |cons x rest ih=>
  rw[pb];have m {y}:y∈rest→y∈x::rest:=eS _;refine wb (step x dv (λh=>ih nd.of_cons (λy hy=>step y (m hy)) (λcc y hy z hz=>Jr cc y (m hy) z (m hz)) (λhn=>no λy hy=>?_) λy hy=>fh y (m hy)) λh=>⟨aD (fh x dv h).1,λcc=>?_⟩)
  ·rcases dA.mp hy with rfl|hy
   ·exact h
   ·exact hn y hy
  ·exact FE (λy hy Q' hq=>Jr cc x dv y (m hy) (λe=>(k8.mp nd).1 (e▸hy)) h hq) ((fh x dv h).2 cc)
theorem VY {α:Type} {A:dP} {E:Value→ak→Prop} {Q:α→ak→Prop} {v:Value} {c:Bool} {u:Str→Sem α} {r:Sem α} (h:∀i t,v=.str i t→c=ab→aw (aQ G.prog G.w) A (u i) Q E s) (hr:aw (aQ G.prog G.w) A r Q E s):
  aw (aQ G.prog G.w) A (match v with|.str i _=>if c=ab then u i else r|_=>r) Q E s:=by
 cases v with
 |str i t=>exact jJ (h i t rfl) λ_=>hr
 |_=>exact hr
theorem Yb {α:Type} {A:dP} {E:Value→ak→Prop} {Q:α→ak→Prop} {v:Value} {c:Bool} {u r:Sem α} (h:¬c=ab) (hr:aw (aQ G.prog G.w) A r Q E s):
  aw (aQ G.prog G.w) A (match v with|.ref _=>if c=ab then u else r|_=>r) Q E s:=by
 cases v with
 |ref a=>exact jJ (λe=>bd e h) λ_=>hr
 |_=>exact hr
theorem ac9 (R:Rel G F b own ae A P m fr h s) {α:Type} {A':dP} {E:Value→ak→Prop} {Q:α→ak→Prop} {f:Bool→Sem α} {c:Bool} {k:SV} {v:Value} {stored:List Value} (hv:VR P m k v) (hk:SV.key 6 k=ab) (hs:∀v'∈stored,∃k',VR P m k' v'∧SV.key 6 k'=ab)
  (hq:aw (aQ G.prog G.w) A' (f an) Q E s):aw (aQ G.prog G.w) A' (if c=ab then pure an >>=f else tableMayTell v stored >>=f) Q E s:=by
 have quiet {E:Value→ak→Prop} {v':Value} {k':SV} {Q:Bool→ak→Prop} (fA:VR P m k' v') (dX:SV.key 6 k'=ab) (hq:Q ab s):aw (aQ G.prog G.w) A' (HR 8 v') Q E s:=Iq E R 8 fA (aib aJ dX) hq;refine jJ (λ_=>wb (aD hq)) λ_=>wb ?_;unfold tableMayTell;refine jJ (λ_=>aD hq) λ_=>wb (quiet hv hk (wb (FE (λv' fA Q' fS=>?_) (aD hq))));refine aj (hs v' fA) λk' z1 z2=>?_;exact wb (quiet z1 z2 (aD fS))
structure DA (w:cD) (P:aW) (m:Mu) (s:ak) (n:Nm) (es:List (SV×SV)) (ad:ax×ax) (xs:Array dK):Prop where
 mn:m n=aa ad
 e:ad.2=ad.1
 o:s.heap.get? ad.1=aa (yA xs es.length)
 ent:gL w P m es xs.toList
 nd:(es.map (·.1)).Nodup
 keys:∀k∈es.map (·.1),SV.key 6 k=ab
 sys:(ad.1==C_)=an
variable{w:cD} {n:Nm} {es:List (SV×SV)} {ad:ax×ax} {xs:Array dK} {k:SV} {v:Value}
theorem DA.size (D:DA w P m s n es ad xs):es.length=xs.size:=by
 have:=D.ent.length
 rwa [fQ] at this
theorem DA.tok (D:DA w P m s n es ad xs) (t:Nat):DA w P m {s with toks:=t} n es ad xs:=⟨D.mn,D.e,D.o,D.ent,D.nd,D.keys,D.sys⟩
theorem DA.at (D:DA w P m s n es ad xs) {j:Nat} {e:dK} (q:xs[j]? =aa e) {C:Prop} (c:∀k' v',es[j]? =aa (k',v')→e.hash=bZ w k'→VR P m k' e.key→SV.key 6 k'=ab→C):C:=
 gC (D.ent.at (js.trans q)) λk' v' q1 q2 q3 _=>c k' v' q1 q2 q3 (D.keys k' (bD.mpr ⟨_,bQ q1,rfl⟩))
theorem DA.of (D:DA w P m s n es ad xs) {j:Nat} {p:SV} (q:es[j]? =aa (k,p)) {C:Prop} (c:∀e,xs[j]? =aa e→e.hash=bZ w k→VR P m k e.key→C):C:=by
 have g:=jq (D.size▸(cU.mp q).1:j<xs.size);exact D.at g λk' v' q1 q2 q3 _=>have z:=(gh (aU (q.symm.trans q1))).1;c _ g (q2.trans (ay (bZ w) z.symm)) (z.symm▸q3)
noncomputable abbrev AX (xs:Array dK) (h:Int):List Nat:=placesWithHash xs.size (λi=>xs[i]?.map (·.hash)) h
theorem z0 {h:Int} {x:Nat} (hx:x∈AX xs h) {C:Prop} (c:∀e,xs[x]? =aa e→(e.hash==h)=ab→C):C:=by
 have z:=mU.mp hx;have g:=jq (dQ.mp z.1);exact c _ g ((ay (λo:Option dK=>o.map (·.hash)==aa h) g).symm.trans z.2)
theorem DA.pl (D:DA w P m s n es ad xs) {j:Nat} {p:SV} (q:es[j]? =aa (k,p)):j∈AX xs (bZ w k):=
 D.of q λe q1 q2 _=>mU.mpr ⟨dQ.mpr (nV.mp q1).1,(ay (λo:Option dK=>o.map (·.hash)==aa (bZ w k)) q1).trans (eW.mpr (ay aa q2))⟩
theorem IQ {h:Int}:(AX xs h).Nodup:=atl _ Hq
theorem KE {i:Str} {t:Tok} (hv:VR P m k (.str i t)) (hk:SV.key 6 k=ab):k=.str i:=
 pv hk (λj e=>xE (e▸hv:VR P m (.int j) _) λt' (z:Value.str i t=.int j t')=>nomatch z) (λj e=>xE (e▸hv:VR P m (.str j) _) λ_ z=>e.trans (ay SV.str (Value.str.inj z).1.symm)) λvs q _ e _=>od (e▸hv:VR P m (.tup vs) _) λa _ _ _ (z:Value.str i t=.ref a) _=>nomatch z
theorem Wl {i:Str} (hv:VR P m (.str i) v):v.isStr i=ab:=xE hv λt e=>e▸qu i
theorem Rf {i:Str} (hv:VR P m k v) (hk:SV.key 6 k=ab) (hi:v.isStr i=ab):k=.str i:=by
 cases v with
 |str x t=>exact(KE hv hk).trans (ay SV.str (eW.mp hi))
 |_=>exact cJ hi
section
variable{E:Value→ak→Prop} {Q:Option Nat→ak→Prop} (R:Rel G F b own ae A P m fr h s) (hu:A'.units+7<ew) (D:DA G.w P m s n es ad xs) (hv:VR P m k v) (gm:SV.key 6 k=ab)
include R hu D hv gm
theorem CJ {x:Nat} {e:dK} (q:xs[x]? =aa e) {Q:Bool→ak→Prop} (fh:∀p,es[x]? =aa (k,p)→Q ab s) (no:(¬∃p,es[x]? =aa (k,p))→Q an s):aw (aQ G.prog G.w) A' (eqBool e.key v) Q E s:=
 D.at q λk' p q1 _ q3 q5=>R.wv 6 q3 hv (sC q5) (sC gm) (n8 hu) _ _ _ _ (if z:k'=k then(eP z).symm▸fh p (z▸q1) else(iZ z).symm▸no λw=>xE w λp' w=>z (gh (aU (q1.symm.trans w))).1)
theorem YE (sU:(∀(j:Nat) (p:SV),es[j]? ≠aa (k,p))→Q af s) (qJ:∀(j:Nat) (p:SV),es[j]? =aa (k,p)→Q (aa j) s) {i:Str} {t:Tok} (ev:v=.str i t):aw (aQ G.prog G.w) A' (foundByValue ad.1 v xs i) Q E s:=by
 have ks:=KE (ev▸hv) gm;unfold foundByValue
 cases hf:xs.findIdx? (λe=>e.key.isStr i) with
 |none=>exact aD (sU λj p hj=>D.of hj λe q1 _ q3=>bd (Wl (ks▸q3)) (Do.mp (Array.findIdx?_eq_none_iff.mp hf e (afm q1))))
 |some j=>
  refine(Array.findIdx?_eq_some_iff_getElem.mp hf).elim λhlt hi=>?_;have q:=jq hlt;dsimp only;rw[q];refine wb (qB D.o rfl (wb (CJ R hu D hv gm q (λp y=>wb (qB D.o rfl (mH (mN _) (wb (jH (aD (qJ j p y))))))) λn=>(n ?_).elim)));exact D.at q λk' v' q1 _ q3 q5=>⟨v',(Rf q3 q5 hi.1).trans ks.symm▸q1⟩
theorem Rc (sU:(∀(j:Nat) (p:SV),es[j]? ≠aa (k,p))→Q af s) (qJ:∀(j:Nat) (p:SV),es[j]? =aa (k,p)→Q (aa j) s):aw (aQ G.prog G.w) A' (dictWalkPlain ad.1 v (bZ G.w k) xs (AX xs (bZ G.w k))) Q E s:=by
 unfold dictWalkPlain;refine wb (Ji False (hit:=λx=>∃p,es[x]? =aa (k,p)) (d:=λx=>(aa (aa x),())) (b':=λx=>(aa (aa x),())) IQ (λx hx Q' no fh=>z0 hx λe q hh=>?_) nofun (λhz=>aD (sU λj p q=>hz j (D.pl q) ⟨p,q⟩)) λx hx w=>xE w λp hp=>⟨aD (qJ x p hp),nofun⟩);rw[q];exact(Cr hh (wb (qB D.o rfl (wb (CJ R hu D hv gm q (λp y=>wb (qB D.o rfl (mH (mN _) (wb (jH (aD (fh ⟨p,y⟩).1)))))) λn=>wb (qB D.o rfl (mH (mN _) (wb (jH (aD (no n)))))))))))
theorem OO (sU:(∀(j:Nat) (p:SV),es[j]? ≠aa (k,p))→Q af s) (qJ:∀(j:Nat) (p:SV),es[j]? =aa (k,p)→Q (aa j) s):aw (aQ G.prog G.w) A' (dictFind ad.1 v (bZ G.w k)) Q E s:=by
 unfold dictFind;refine dD (wb (HU D.o rfl (VY (λi t ev aq7=>YE R hu D hv gm sU qJ ev) (jJ (λ_=>Rc R hu D hv gm sU qJ) λ_=>Yb ?_ (ac9 R hv gm ?_ ?_)))))
 ·rw[←ae5,propext afn]
  exact λw=>aj w λe i8 hc=>xE (uy i8) λj hj=>D.at (js.symm.trans hj) λk' _ _ q2 q3 q5=>
   have hc:=(bR _ _).mp hc
   bne_iff_ne.mp hc.2 (VR.inj k' (eq_of_beq hc.1▸q3) hv (sC q5) (sC gm)▸q2)
 ·exact λv' fA=>aj (gP.mp fA) λx hx hi=>z0 hx λe q _=>D.at q λk' _ _ _ q3 q5=>⟨k',aU ((ay (oZ (·.key)) q).symm.trans hi)▸q3,q5⟩
 ·refine mH rfl (wb (Ji True (hit:=λx=>∃p,es[x]? =aa (k,p)) (d:=λx=>(aa (aa x),af)) (b':=λx=>(af,aa x)) IQ (λx hx Q' no fh=>z0 hx λe q hh=>?_) (λ_ x hx y hy ne hz Q' hq=>z0 hy λe q hh=>?_) (λhz=>aD (sU λj p q=>hz j (D.pl q) ⟨p,q⟩)) λx hx w=>xE w λp hp=>⟨aD (qJ x p hp),λ_=>aD (qJ x p hp)⟩))
  ·rw[q]
   exact(Cr hh (wb (qB D.o rfl (wb (CJ R hu D hv gm q (λp y=>wb (qB D.o rfl (mH (mN _) (Cr rfl (mH rfl (wb (jH (jJ (λ_=>aD (fh ⟨p,y⟩).1) λ_=>aD ((fh ⟨p,y⟩).2 trivial))))))))) λn=>wb (qB D.o rfl (mH (mN _) (mH rfl (wb (jH (mH rfl (aD (no n)))))))))))))
  ·rw[q]
   exact(Cr hh (wb (qB D.o rfl (wb (CJ R hu D hv gm q (λp' bY=>xE hz λp hp=>bd (V8 D.nd bY hp) ne) λn=>wb (qB D.o rfl (mH (mN _) (mH rfl (wb (jH (mH rfl (aD hq))))))))))))
end
end
end
noncomputable def bl:List (SV×SV)→SV→SV→List (SV×SV)
 |[],k,v=>[(k,v)]
 |(k',v')::r,k,v=>if k'=k then(k',v)::r else(k',v')::bl r k v
theorem Oq (p:SV×SV) (r:List (SV×SV)) (k v:SV):bl (p::r) k v=if p.1=k then(p.1,v)::r else p::bl r k v:=rfl
theorem wE {p:SV×SV} {r:List (SV×SV)} {x:SV} (e:x=p.1):(p::r).lookup x=aa p.2:=e▸aen
theorem tS {p:SV×SV} {r:List (SV×SV)} {x:SV} (e:x≠p.1):(p::r).lookup x=r.lookup x:=by
 rw[kX,kW.mpr e]
theorem VQ {es:List (SV×SV)} {k v p:SV}:∀{j:Nat},(es.map (·.1)).Nodup→es[j]? =aa (k,p)→bl es k v=es.set j (k,v):=by
 induction es with
 |nil=>exact λ_ h=>a8 h
 |cons q r ih=>
  intro j hn h
  cases j with
  |zero=>
   obtain rfl:q=(k,p):=aU h;exact aO rfl
  |succ j=>exact(aK λe:q.1=k=>(k8.mp hn).1 (bD.mpr ⟨_,bQ (show r[j]? =_ from h),e.symm⟩)).trans (ay (q::·) (ih (k8.mp hn).2 h))
theorem N7 {es:List (SV×SV)} {k v:SV} (hn:k∉es.map (·.1)):bl es k v=es++[(k,v)]:=by
 induction es with
 |nil=>rfl
 |cons q r ih=>exact(aK λe:q.1=k=>hn (e▸.head _)).trans (ay (q::·) (ih λz=>hn (.tail _ z)))
theorem Jn {es:List (SV×SV)} {k v:SV}:(bl es k v).map (·.1)=if k∈es.map (·.1) then es.map (·.1) else es.map (·.1)++[k]:=by
 induction es with
 |nil=>exact(aK sj).symm
 |cons q r ih=>
  rw[Oq]
  by_cases e:q.1=k
  ·rw[aO e]
   exact(aO (e▸.head _)).symm
  ·rw[aK e]
   refine(ay (q.1::·) ih).trans ?_;exact if z:k∈r.map (·.1) then(ay (q.1::·) (aO z)).trans (aO (.tail _ z)).symm else(ay (q.1::·) (aK z)).trans (aK λy=>(dA.mp y).elim (λy=>e y.symm) z).symm
theorem wD {es:List (SV×SV)} {k v:SV} (x:SV):x∈(bl es k v).map (·.1)↔x=k∨x∈es.map (·.1):=by
 rw[Jn];exact if z:k∈es.map (·.1) then(aO z).symm▸⟨.inr,λy=>y.elim (λy=>y▸z) id⟩ else(aK z).symm▸du.trans ((or_congr_right bU).trans or_comm)
theorem oq {es:List (SV×SV)} {k v:SV} (hn:(es.map (·.1)).Nodup):((bl es k v).map (·.1)).Nodup:=by
 rw[Jn];exact if z:k∈es.map (·.1) then(aO z).symm▸hn else(aK z).symm▸k_.mpr ⟨hn,kf _ _,λa ha c hc e=>z (bU.mp hc▸e▸ha)⟩
theorem ft {es:List (SV×SV)} {k v:SV} (x:SV):(bl es k v).lookup x=if x=k then aa v else es.lookup x:=by
 induction es with
 |nil=>exact if e:x=k then(wE (p:=(k,v)) e).trans (aO e).symm else(tS (p:=(k,v)) e).trans (aK e).symm
 |cons q r ih=>
  rw[Oq]
  by_cases e:q.1=k
  ·rw[aO e]
   exact if y:x=q.1 then(wE (p:=(q.1,v)) y).trans (aO (y.trans e)).symm else(tS (p:=(q.1,v)) y).trans ((tS y).symm.trans (aK λz=>y (z.trans e.symm)).symm)
  ·rw[aK e]
   exact if y:x=q.1 then(wE y).trans ((wE y).symm.trans (aK λz=>e (y.symm.trans z)).symm) else(tS y).trans (ih.trans ((tS (p:=q) (r:=r) y)▸rfl))
theorem lB {es:List (SV×SV)} {k:SV}:es.lookup k=af↔k∉es.map (·.1):=by
 induction es with
 |nil=>exact⟨λ_ z=>cS z,λ_=>rfl⟩
 |cons q r ih=>exact if y:k=q.1 then⟨λz=>fB ((wE y).symm.trans z),λz=>bd (y▸.head _) z⟩ else(tS (p:=q) (r:=r) y)▸ih.trans ⟨λz w=>(dA.mp w).elim y z,λz w=>z (.tail _ w)⟩
theorem aaw {es:List (SV×SV)} {k p:SV}:∀{j:Nat},(es.map (·.1)).Nodup→es[j]? =aa (k,p)→es.lookup k=aa p:=by
 induction es with
 |nil=>exact λ_ h=>a8 h
 |cons q r ih=>
  intro j hn h
  cases j with
  |zero=>
   obtain rfl:q=(k,p):=aU h;exact wE rfl
  |succ j=>exact(tS λe:k=q.1=>(k8.mp hn).1 (bD.mpr ⟨_,bQ (show r[j]? =_ from h),e⟩)).trans (ih (k8.mp hn).2 h)
@[elab_as_elim] theorem QN {P:aW} {m:Mu} {x:SV} {l:List Value} {C:List Value→Prop} (hv:aY P m [x] l) (k:∀x',VR P m x x'→C [x']):C l:=
 bC hv λx' r e hx e'=>e▸e'▸k x' hx
@[elab_as_elim] theorem qH {P:aW} {m:Mu} {x y:SV} {l:List Value} {C:List Value→Prop} (hv:aY P m [x,y] l) (k:∀x' y',VR P m x x'→VR P m y y'→C [x',y']):C l:=
 bC hv λx' r e hx hr=>e▸QN (C:=λr=>C (x'::r)) hr λy' hy=>k x' y' hx hy
@[elab_as_elim] theorem QO {P:aW} {m:Mu} {x y z:SV} {l:List Value} {C:List Value→Prop} (hv:aY P m [x,y,z] l) (k:∀x' y' z',VR P m x x'→VR P m y y'→VR P m z z'→C [x',y',z']):C l:=
 bC hv λx' r e hx hr=>e▸qH (C:=λr=>C (x'::r)) hr λy' z' hy hz=>k x' y' z' hx hy hz
theorem DA.ty {w:cD} {n:Nm} {es:List (SV×SV)} {ad:ax×ax} {xs:Array dK} (D:DA w P m s n es ad xs):s.TypeIs (.ref ad.1) "dict":=⟨_,D.o,rfl⟩
theorem Rel.dictAt (R:Rel G F b own ae A P m fr h s) {n:Nm} {es:List (SV×SV)} (hn:h n=aa (.dict es)):
  ∃ad xs,DA G.w P m s n es ad xs:=
 KW (R.obj n _ hn) λad h1 h2 xs h3 h4 h5 h6=>⟨ad,xs,h1,h2,h3,h4,h5,h6,kW.mpr λe=>xE G.Bu λo ho=>fB ((R.basePR _ _ ho).symm.trans (e▸(R.sep _ _ h1).1))⟩
@[elab_as_elim] theorem qI {n:Nm} {u:Value} {C:Value→Prop} (hu:VR P m (.ref n) u) (R:Rel G F b own ae A P m fr h s) {es:List (SV×SV)} (hn:h n=aa (.dict es)) (k:∀ad xs,DA G.w P m s n es ad xs→C (.ref ad.1)):C u:=
 jX (R.dictAt hn) λad xs D=>aj hu λbg hm e=>e▸aU (D.mn.symm.trans hm)▸k ad xs D
theorem Rel.LV (R:Rel G F b own ae A P m fr h s) (t:Nat):∀a o,P a=aa o→∃o',({s with toks:=t}:ak).heap.get? a=aa o'∧o'.cls=o.cls∧o'.data=o.data:=
 λa o e=>R.rn e
theorem Lr {es:List (SV×SV)} {k:SV} (qp:∀(j:Nat) p,es[j]? ≠aa (k,p)):k∉es.map (·.1):=λhx=>
 aj (bD.mp hx) λp hp hk=>xE (uy hp) λj hj=>qp j p.2 (hj.trans (ay aa (jv hk rfl)))
theorem xS {E:Value→ak→Prop} {n:Nm} {es:List (SV×SV)} {k:SV} {v:Value} {ad:ax×ax} {xs:Array dK} {Q:Option Value→ak→Prop} (R:Rel G F b own ae A P m fr h s) (hu:A'.units+7<ew)
  (D:DA G.w P m s n es ad xs) (hv:VR P m k v) (gm:SV.key 6 k=ab) (c1:∀x y t,es.lookup k=aa x→VR P m x y→Q (aa y) {s with toks:=t}) (c2:∀t,es.lookup k=af→Q af {s with toks:=t}):aw (aQ G.prog G.w) A' (sk ad.1 v) Q E s:=by
 unfold sk;refine dD (wb (Rel.hash E 6 (n8 hu) hv (R.LV s.toks) gm λt=>wb (OO (R.tok t) hu (D.tok t) hv gm (λqp=>aD (c2 _ (lB.mpr (Lr qp)))) λj p hj=>?_)));refine wb (HU (s:={s with toks:=t}) D.o rfl (aD ?_));have hlt:j<xs.size:=D.size▸(cU.mp hj).1;have g:=jq hlt;rw[g];exact gC (D.ent.at (js.trans g)) λk' v' q1 q2 q3 q4=>c1 p _ t (aaw D.nd hj) ((gh (aU (hj.symm.trans q1))).2▸q4)
theorem gL.set {w:cD} {es:List (SV×SV)} {k p x:SV} {y:Value}:∀{xs:List dK} {j:Nat},gL w P m es xs→es[j]? =aa (k,p)→VR P m x y→gL w P m (es.set j (k,x)) (xs.modify j λe=>{e with val:=y}):=by
 induction es with
 |nil=>exact λ_ q=>a8 q
 |cons q es ih=>
  intro xs j h z hv;refine tR h λe' r e h1 h2 h3 h4=>?_
  cases j with
  |zero=>exact(gh (aU z)).1▸e▸⟨_,_,rfl,h1,h2,hv,h4⟩
  |succ j=>exact e▸⟨_,_,rfl,h1,h2,h3,ih h4 z hv⟩
theorem gL.snoc {w:cD} {es:List (SV×SV)} {k x:SV} {e:dK} (h1:e.hash=bZ w k) (h2:VR P m k e.key) (h3:VR P m x e.val):∀{xs:List dK},gL w P m es xs→gL w P m (es++[(k,x)]) (xs++[e]):=by
 induction es with
 |nil=>exact λh=>by obtain rfl:=h;exact⟨_,_,rfl,h1,h2,h3,rfl⟩
 |cons q es ih=>exact λh=>tR h λe' r z g1 g2 g3 g4=>z▸⟨_,_,rfl,g1,g2,g3,ih g4⟩
theorem Z1 {E:Value→ak→Prop} {n:Nm} {es:List (SV×SV)} {k x:SV} {v y:Value} {ad:ax×ax} {xs:Array dK} {Q:Unit→ak→Prop} (R:Rel G F b own ae A P m fr h s) (hu:A'.units+7<ew)
  (hn:h n=aa (.dict es)) (D:DA G.w P m s n es ad xs) (hv:VR P m k v) (gm:SV.key 6 k=ab) (hx:VR P m x y) (hz:es.length≤aZ)
  (c:∀s',Rel G F b own ae A P m fr (h.set n (.dict (bl es k x))) s'→Q () s'):aw (aQ G.prog G.w) A' (dictSet ad.1 v y) Q E s:=by
 have go:∀(s':ak) {DL:Array dK} {es':List (SV×SV)},r_ ad.1 s.heap s'.heap→s'.gens=s.gens→s'.os=s.os→bl es k x=es'→s'.heap.get? ad.1=aa (yA DL es'.length)→gL G.w P m es' DL.toList→Q () s':=λs' _ _ hs hg ho e g E=>
  c s' (R.turn hn D.mn (λa o n1 n2 q=>(hs.2 a n1).trans q) hg ho ⟨D.e,_,e▸g,e▸E,(oq D.nd:((bl es k x).map (·.1)).Nodup),(λz hz=>((wD z).mp hz).elim (λe=>e▸gm) (D.keys z):∀z∈(bl es k x).map (·.1),SV.key 6 z=ab)⟩)
 unfold dictSet;refine dD (wb (Rel.hash E 6 (n8 hu) hv (R.LV s.toks) gm λt=>?_));unfold dictSetHashed;refine dD (wb (OO (R.tok t) hu (D.tok t) hv gm (λqp=>?_) λj p hj=>?_))
 ·refine wb (jH (wpAny_updateDictKeys (s:={s with toks:=t}) (hz:=D.size▸hz) D.o rfl (go _ (o9 ..) rfl rfl (N7 (Lr qp)) ((kZ _ D.o (afo (Obj.data_mapDictKeys (o:=yA xs es.length) rfl _))).trans ?_) (by rw[HN];exact gL.snoc (e:=⟨bZ G.w k,v,y⟩) rfl hv hx D.ent))))
  rw[cT];rfl
 ·exact wb (jH (wb (wpAny_updateDict (s:={s with toks:=t}) D.o rfl (wpAny_point (go _ (o9 ..) rfl rfl (VQ D.nd hj) ((kZ _ D.o (afo (Obj.data_mapDict (o:=yA xs es.length) rfl _))).trans (by rw[List.length_set];rfl)) (by rw[Array.toList_modify];exact D.ent.set hj hx))))))
theorem Rel.fresh (R:Rel G F b own ae A P m fr h s) {a:ax} (ha:s.heap.get? a=af):
  P a=af∧(∀n ad,m n=aa ad→a≠ad.1∧a≠ad.2)∧a∉own∧G.base.get? a=af:=by
 have no:∀{o},s.heap.get? a≠aa o:=λe=>fB (e.symm.trans ha);refine oQ (wN.mpr λo e=>xE (R.oh e) λ_ q=>no q) (λn ad e=>?_) (λho=>aj (R.f.mq a ho) λo q _=>no q) (wN.mpr λo e=>no (R.bs a o e))
 cases q:h n with
 |none=>exact a8 ((R.dom n q).symm.trans e)
 |some so=>
  refine aj (R.obj n so q) λbg z1 z2=>?_;have:=aU (z1.symm.trans e);exact xE z2.lU λo1 p1=>xE z2.at2 λo2 p2=>⟨λz=>no ((z.trans (ay mR this.symm))▸p1),λz=>no ((z.trans (ay C7 this.symm))▸p2)⟩
theorem Rel.newExc (R:Rel G F b own ae A P m fr h s) {hp:cO} {e:ax} {cls:String} (N:afp s.heap hp e cls) (t:Nat):
  Rel G F b own ae A P m fr h {s with heap:=hp,toks:=t}∧An G.base hp P m own e cls:=
 mE (R.fresh N.new) λq1 q2 q3 q4=>bC N.there λob t' p1 p2 p3=>⟨R.grow N.keeps rfl rfl,⟨ob,_,p1,p2,p3,rfl⟩,q4,q1,q2,q3⟩
theorem Wk {n:Nm} {es:List (SV×SV)} {k v:SV} {Q:QV} {X:QX} (hn:h n=aa (.dict es)) (hk:SV.key 6 k=ab) (hl:es.lookup k=aa v) (hq:Q v h):WO G F b fr h [.ref n,k] (bx i5) Q X:=by
 refine .mk λown ae A P m s Q' E' a6 R hv c d=>qH hv λu kv hu jc=>qI hu R hn λad xs D=>?_;show aw _ _ (i5 (.ref ad.1) kv) _ _ _;unfold i5;refine dD (wb (zF D.ty aV (wb (qy (name:=dL "__getitem__") D.ty Dq (i4 Dq D.ty afq ?_ (afr _ _))))));show aw _ _ (sk ad.1 kv >>=_) _ _ s;exact wb (xS R (show A.units+1+7<ew from R.room) D jc hk (λx y t e hy=>aD ⟨y,rfl,aD (c.here hq (aU (e.symm.trans hl)▸hy) (R.tok t))⟩) λt e=>a8 (e.symm.trans hl))
theorem Zw {n:Nm} {es:List (SV×SV)} {k:SV} {Q:QV} {X:QX} (hF:F.q=ab) (hn:h n=aa (.dict es)) (hk:SV.key 6 k=ab) (hl:es.lookup k=af) (hx:X "KeyError" h):WO G F b fr h [.ref n,k] (bx i5) Q X:=by
 refine .mk λown ae A P m s Q' E' a6 R hv c d=>qH hv λu kv hu jc=>qI hu R hn λad xs D=>?_;show aw _ _ (i5 (.ref ad.1) kv) _ _ _;unfold i5;refine dD (wb (zF D.ty aV (wb (qy (name:=dL "__getitem__") D.ty Dq (i4 Dq D.ty afq ?_ (afr _ _))))));show aw _ _ (sk ad.1 kv >>=_) _ _ s;refine wb (xS R (show A.units+1+7<ew from R.room) D jc hk (λx y t e hy=>fB (e.symm.trans hl)) λt e=>?_);show aw _ _ (HV ad.1 kv >>=_) _ _ _;refine wb (HW D.sys (wb (uz (s:={s with toks:=t}) D.ty ?_)));show aw _ _ (if(zG "dict" !=zG "dict")=ab then _ else _) _ _ _;exact dU rfl (wb (jH (wpAny_raise_newExc (A:=A.in1) plainExc_KeyError (R.quiet hF) λh' e N=>xA (R.newExc N t) λR' x=>d _ _ e _ P m hx .rfl .rfl x R')))
theorem EC {u:SV} {T:String} {name:Str} {id:String} (pa:PlainAttrs T) (slot:Slot T name id) (tg:uA (.builtin id)=pure (.type "method_descriptor"))
  (hT:∀own ae A P m s u',Rel G F b own ae A P m fr h s→VR P m u u'→s.TypeIs u' T∧∀a,u'=.ref a→∃o,s.heap.get? a=aa o∧o.dict=af):GM G F b fr h u name (.bi id):=
 .mk λown ae A P m s Q' E' u' pl R hu c=>xA (hT own ae A P m s u' R hu) λt1 t2=>getMethod_builtin t1 pa slot tg t2 (c _ s.toks rfl)
theorem UJ {n:Nm} {es:List (SV×SV)} {name:Str} {id:String} (hn:h n=aa (.dict es)) (slot:Slot "dict" name id) (tg:uA (.builtin id)=pure (.type "method_descriptor")):GM G F b fr h (.ref n) name (.bi id):=
 EC PySem.F.plainAttrs_dict slot tg λown ae A P m s u' R hu=>qI hu R hn λad xs D=>⟨D.ty,λa e=>PW e▸⟨_,D.o,rfl⟩⟩
theorem E9 {n:Nm} {vs:List SV} {name:Str} {id:String} (hn:h n=aa (.list vs)) (slot:Slot "list" name id) (tg:uA (.builtin id)=pure (.type "method_descriptor")):GM G F b fr h (.ref n) name (.bi id):=
 EC PySem.F.plainAttrs_list slot tg λown ae A P m s u' R hu=>aj hu λad hm e=>ky (R.listAt hn) λbg xs k h1 h3 h4=>
  have h3:=aU (h1.symm.trans hm)▸h3
  e▸⟨⟨_,h3,rfl⟩,λa e=>PW e▸⟨_,h3,rfl⟩⟩
theorem RC {x:Str} {name:Str} {id:String} (slot:Slot "str" name id) (tg:uA (.builtin id)=pure (.type "method_descriptor")):GM G F b fr h (.str x) name (.bi id):=
 EC PySem.F.plainAttrs_str slot tg λown ae A P m s u' R hu=>xE hu λt e=>e▸⟨rfl,λa e=>nomatch e⟩
theorem Ou {n:Nm} {es:List (SV×SV)} {k:SV} {Q:QV} {X:QX} (hn:h n=aa (.dict es)) (hk:SV.key 6 k=ab) (hq:Q ((es.lookup k).getD .none) h):WC G F b fr h (.bi "dict.get") [.ref n,k] Q X:=by
 have hq:∀r,es.lookup k=r→Q (r.getD .none) h:=λr e=>e▸hq;refine .mk λown ae A P m s Q' E' f' a6 R hf hv c d=>hf▸qH hv λu kv hu jc=>qI hu R hn λad xs D=>i4 HX D.ty P8 ?_ (PySem.F.args_dict_get_2 _ _);show aw _ _ (sk ad.1 kv >>=_) _ _ s;refine wb (xS R (show A.units+1+7<ew from R.room) D jc hk (λx y t e hy=>aD ⟨y,rfl,c.here (hq _ e) hy (R.tok t)⟩) λt e=>?_);show aw _ _ (HV ad.1 kv >>=_) _ _ _;exact wb (HW D.sys (aD ⟨.none,rfl,c.here (hq _ e) rfl (R.tok t)⟩))
theorem TD {n:Nm} {es:List (SV×SV)} {k z:SV} {Q:QV} {X:QX} (hn:h n=aa (.dict es)) (hk:SV.key 6 k=ab) (hq:Q ((es.lookup k).getD z) h):WC G F b fr h (.bi "dict.get") [.ref n,k,z] Q X:=by
 have hq:∀r,es.lookup k=r→Q (r.getD z) h:=λr e=>e▸hq;refine .mk λown ae A P m s Q' E' f' a6 R hf hv c d=>hf▸QO hv λu kv zv hu jc hz=>qI hu R hn λad xs D=>i4 HX D.ty P8 ?_ (afs _ _ _);show aw _ _ (sk ad.1 kv >>=_) _ _ s;refine wb (xS R (show A.units+1+7<ew from R.room) D jc hk (λx y t e hy=>aD ⟨y,rfl,c.here (hq _ e) hy (R.tok t)⟩) λt e=>?_);show aw _ _ (HV ad.1 kv >>=_) _ _ _;exact wb (HW D.sys (aD ⟨zv,rfl,c.here (hq _ e) hz (R.tok t)⟩))
theorem LU {E:Value→ak→Prop} {n:Nm} {es:List (SV×SV)} {k:SV} {v:Value} {ad:ax×ax} {xs:Array dK} {Q:Bool→ak→Prop} (R:Rel G F b own ae A P m fr h s)
  (D:DA G.w P m s n es ad xs) (jc:VR P m k v) (hk:SV.key 6 k=ab) (c:∀t,Q (es.lookup k).isSome {s with toks:=t}):aw (aQ G.prog G.w) A (contains (.ref ad.1) v) Q E s:=by
 unfold contains;refine dD (wb (qA D.ty slot_dict_contains.lookup ?_));show aw _ _ (if(aa (HP "dict.__contains__")==aa eG)=ab then _ else _) _ E s;refine dU (by rw[afj _];rfl) (wb (wpAny_callSpecialUnlessNone?_slot (name:=dL "__contains__") D.ty afu
  (i4 afu D.ty entry_dict_contains ?_ (args_dict_contains _ _))))
 show aw _ _ (sk ad.1 v >>=_) _ _ s;refine wb (xS R (show A.units+1+7<ew from R.room) D jc hk (λx y t e hy=>?_) λt e=>?_)
 ·show aw _ _ (HY (.bool ab)) _ _ _
  exact aD ⟨_,rfl,Hw (by have:=c t;rw[e] at this;exact this)⟩
 ·show aw _ _ (atm ad.1 v >>=_) _ _ _
  exact wb (wpAny_pendingKey_other D.sys (aD ⟨_,rfl,Hw (by have:=c t;rw[e] at this;exact this)⟩))
theorem aa3 {n:Nm} {es:List (SV×SV)} {k:SV} {Q:QV} {X:QX} (hn:h n=aa (.dict es)) (hk:SV.key 6 k=ab) (hq:Q (.bool (es.lookup k).isSome) h):WO G F b fr h [k,.ref n] (bx (cZ .In)) Q X:=by
 refine .mk λown ae A P m s Q' E' a6 R hv c d=>qH hv λkv u jc hu=>qI hu R hn λad xs D=>?_;show aw _ _ (do return afv (←contains (.ref ad.1) kv)) _ _ s;exact wb (LU R D jc hk λt=>aD (c.here hq rfl (R.tok t)))
theorem η {n:Nm} {es:List (SV×SV)} {k:SV} {Q:QV} {X:QX} (hn:h n=aa (.dict es)) (hk:SV.key 6 k=ab) (hq:Q (.bool (!(es.lookup k).isSome)) h):WO G F b fr h [k,.ref n] (bx (cZ .NotIn)) Q X:=by
 refine .mk λown ae A P m s Q' E' a6 R hv c d=>qH hv λkv u jc hu=>qI hu R hn λad xs D=>?_;show aw _ _ (do return afv (!(←contains (.ref ad.1) kv))) _ _ s;exact wb (LU R D jc hk λt=>aD (c.here hq rfl (R.tok t)))
theorem N9 {n:Nm} {es:List (SV×SV)} {k v:SV} {Q:QV} {X:QX} (hn:h n=aa (.dict es)) (hk:SV.key 6 k=ab) (hz:es.length≤aZ) (hq:Q .none (h.set n (.dict (bl es k v)))):
  WO G F b fr h [.ref n,k,v] (FZ λx y z=>do um x y z;pure .none) Q X:=by
 refine .mk λown ae A P m s Q' E' a6 R hv c d=>QO hv λu kv xv hu jc E7=>qI hu R hn λad xs D=>?_;show aw _ _ (do um (.ref ad.1) kv xv;pure eG) _ _ _;refine wb ?_;unfold um;refine dD (wb (zF D.ty aV (wb (qy (name:=dL "__setitem__") D.ty afw
  (i4 afw D.ty entry_dict_setitem ?_ (args_dict_setitem _ _ _))))))
 show aw _ _ (atn "__setitem__" ⟨[.ref ad.1,kv,xv],[]⟩ >>=_) _ _ s;refine wb (wpAny_notOrdered_dict D.ty ?_);show aw _ _ (dictSet ad.1 kv xv >>=_) _ _ s;exact wb (Z1 R (show A.units+1+7<ew from R.room) hn D jc hk E7 hz λs' R'=>aD ⟨.none,rfl,aD (aD (c.here hq rfl R'))⟩)
theorem U5 {E:Value→ak→Prop} {Q:Value→ak→Prop} {n:Nm} {es:List (SV×SV)} {ad:ax×ax} {xs:Array dK} (D:DA G.w P m s n es ad xs) (hz:es.length<2^62) (k:∀t u,Q (.int es.length t) {s with toks:=u}):
  aw (aQ G.prog G.w) A (runValue (.builtin "len" ⟨[.ref ad.1],[]⟩)) Q E s:=by
 refine P9 (wV entry_len ?_);rw[zH plain_len _];unfold Builtin.«len»;refine wb (m:=oneArg "len" _) (aD (wb (m:=P_ (.ref ad.1) (dL "__len__")) (qy (name:=dL "__len__") D.ty afx
  (i4 afx D.ty PySem.F.entry_dict_len ?_ (PySem.F.args_dict_len_1 _)))))
 show aw _ _ (dictSize ad.1 >>=_) _ _ s;unfold dictSize;refine wb (wb (HU D.o rfl (aD ?_)));show aw _ _ (ato ad.1 >>=_) _ _ s;refine wb (wpAny_pendingCount_other D.sys (wpAny_ret_mkInt (wb (dD (aD (wb (wpAny_letGo ?_)))))));have e0:((xs.size:Nat):Int)+((0:Nat):Int)=(es.length:Int):=(afe _).trans (ay Nat.cast D.size.symm);rw[e0];show aw _ _ (if(es.length:Int) <0 then _ else _) _ _ _;refine dU (iZ (qv.mpr (jp _))) ?_;show aw _ _ (if(es.length:Int)≥2^63 then _ else _) _ _ _;exact dU (iZ (Int.not_le.mpr (r8 (h9.mpr hz) aV))) (wb (wpAny_mkInt (aD (k _ _))))
theorem Zc {n:Nm} {es:List (SV×SV)} {Q:Bool→SH→Prop} {X:QX} (hn:h n=aa (.dict es)) (m4:es.length<2^62) (hq:Q (!es.isEmpty) h):WT G F b fr h (.ref n) Q X:=by
 refine .mk λown ae A P m s Q' E' v' R hv c d=>qI hv R hn λad xs D=>?_;have dh:((es.length:Int) !=0)=!es.isEmpty:=by cases es<;>rfl
 unfold zz;refine wb (wpAny_callSpecial?_none (name:=dL "__bool__") D.ty noBool_dict (wb (qA (name:=dL "__len__") D.ty PySem.F.slot_dict_len.lookup ?_)));exact wb (U5 D m4 λt u=>aD (dh▸c _ _ _ P m hq .rfl .rfl (R.tok u)))
theorem Zo {pos:Pos} {Q:QV} {X:QX} {n:Nm} (hn:h n=af) (hq:Q (.ref n) (h.set n (.dict []))):WE G F b fr h (.Dict [] [] pos) Q X:=by
 refine .mk λown ae A P m s Q' E' R c d=>?_;show aw _ _ (do kb pos;newDict) _ _ _;refine wb (jG (wb (PY (aD ?_))));refine xA (R.alloc hn (so:=.dict []) (ad:=(s.heap.objs.size,s.heap.objs.size)) (s':={s with heap:=s.heap.push {cls:=.type "dict",data:=.dict #[]}})
  (λa o e=>dS _ e) rfl rfl (au _) (au _) ⟨rfl,#[],fP _ rfl,rfl,.nil,λ_ h=>cS h⟩) λbm le=>?_
 exact c _ _ _ _ _ _ hq .rfl le ⟨_,Mu.jj,rfl⟩ bm
section
open PyProof.Rows (IsTup)
def BL (G:Gl) (a:ax) (vs:List SV):Prop:=∃xs,G.base.IsList a xs∧∀(P:aW) (m:Mu),(∀a o,G.base.get? a=aa o→P a=aa o)→aY P m vs xs.toList
inductive dc (G:Gl) (h:SH):SV→List SV→Prop
 |own {n:Nm} {vs:List SV} (hn:h n=aa (.list vs)):dc G h (.ref n) vs
 |base {a:ax} {vs:List SV} (hb:BL G a vs):dc G h (.glob a) vs
inductive GI (G:Gl) (h:SH):SV→Prop
 |lst {u:SV} {vs:List SV} (hl:dc G h u vs):GI G h u
 |dict {n:Nm} {es:List (SV×SV)} (hn:h n=aa (.dict es)):GI G h (.ref n)
 |tup {vs:List SV}:GI G h (.tup vs)
 |str {x:Str}:GI G h (.str x)
theorem Rel.i7 (R:Rel G F b own ae A P m fr h s) {u:SV} {vs:List SV} (hl:dc G h u vs) {u':Value} (hu:VR P m u u'):∃a xs,u'=.ref a∧s.heap.IsList a xs∧aY P m vs xs.toList:=by
 cases hl with
 |own hn=>
  refine aj hu λad hm ar=>?_;clear hu;subst ar;refine ky (R.listAt hn) λbg xs k h1 h3 h4=>?_;obtain rfl:bg=ad:=aU (h1.symm.trans hm);exact⟨_,xs,rfl,⟨_,h3,rfl,_,rfl⟩,h4⟩
 |base hb=>
  obtain rfl:=hu;obtain⟨xs,⟨o,h1,h2,k,h3⟩,h4⟩:=hb;exact⟨_,xs,rfl,⟨o,R.bs _ _ h1,h2,k,h3⟩,h4 P m R.basePR⟩
theorem Rel.rL (R:Rel G F b own ae A P m fr h s) {vs:List SV} {u':Value} (hu:VR P m (.tup vs) u'):∃a xs,u'=.ref a∧IsTup s.heap a xs∧aY P m vs xs.toList:=by
 obtain⟨a,xs,rfl,⟨o,h1,h2,k,h3⟩,h4⟩:=R.m7 hu;exact⟨a,xs,rfl,⟨o,h1,h2,k,h3⟩,h4⟩
theorem JC (R:Rel G F b own ae A P m fr h s) {u:SV} {u':Value} (hg:GI G h u) (hu:VR P m u u') {Q:Bool→ak→Prop} {E:Value→ak→Prop} (hq:Q an s):aw (aQ G.prog G.w) A (getitemInPython u') Q E s:=by
 have go:∀{T id:String},s.TypeIs u' T→Slot T "__getitem__" id→aw (aQ G.prog G.w) A (getitemInPython u') Q E s:=λhT sl=>by
  rw[getitemInPython_of_ne hT.not_modules];exact wb (qA hT sl.lookup (aD hq))
 cases hg with
 |lst hl=>refine bC (R.i7 hl hu) λa xs ar hl _=>?_;subst ar;exact go hl.typeIs slot_list_getitem
 |dict hn=>
  exact jX (R.dictAt hn) λad xs D=>aj hu λbg hm e=>go (e▸aU (D.mn.symm.trans hm)▸D.ty) Dq
 |tup=>refine bC (R.rL hu) λa xs ar ht _=>?_;subst ar;exact go ht.typeIs Dr
 |str=>refine xE hu λt bu=>?_;clear hu;subst bu;exact go (T:="str") rfl PySem.F.slot_str_getitem
theorem B7 {vh slice:Expr} {pos:Pos} {Q:QV} {X:QX} (hs:∀o i,subscripted slice an o i=operate [o,i] (i5 o i))
  (w:WE G F b fr h vh (λu ag=>WE G F b fr ag slice (λk aC=>GI G aC u∧WO G F b fr aC [u,k] (bx i5) Q X) X) X):WE G F b fr h (.Subscript vh slice pos) Q X:=by
 refine .mk ?_;intro own ae A P m s Q' E' R c d;rw[eval_Subscript _ _ _];refine wb (w.run own ae A P m s _ _ R (λu ag u' a5 bW bV hq hP hm hu a7=>?_) d);refine wb (dD (hq.run own ae A bW bV a5 _ _ a7 (λk aC k' bz cE cw g0 cQ cK hk bm=>?_) (d.mono hP hm)));refine xA g0 λg Κ=>?_;clear g0;refine wb (jG (wb (JC bm g (hu.mono cQ.t cK) ?_)));rw[hs _ _];refine wb (Qa (Κ.run own ae A cE cw bz _ _ [u',k'] bm ⟨_,_,rfl,hu.mono cQ.t cK,_,_,rfl,hk,rfl⟩ (λv cM v' ef lI m_ re f8 ie hv cV=>?_) (d.mono (hP.trans cQ) (hm.trans cK))));exact wb (PL (aD (c _ _ _ _ _ _ re ((hP.trans cQ).trans f8) ((hm.trans cK).trans ie) hv cV)))
theorem Eg {j n:Nat} (h:j<n):n9 (j:Int) n=aa j:=by
 show(if(decide (0≤(if(j:Int) <0 then(j:Int)+n else j)) && decide ((if(j:Int) <0 then(j:Int)+n else j) <n))=ab then aa (if(j:Int) <0 then(j:Int)+n else j).toNat else af)=aa j;rw[show(if(j:Int) <0 then(j:Int)+n else j)=j from aK (qv.mpr (jp j))];exact aO ((bR _ _).mpr ⟨eP (jp j),eP (h9.mpr h)⟩)
theorem X9 {n:Nat}:n9 (-1) (n+1)=aa n:=by
 show(if(decide (0≤(-1+((n+1:Nat):Int))) && decide ((-1+((n+1:Nat):Int)) < ((n+1:Nat):Int)))=ab then aa (-1+((n+1:Nat):Int)).toNat else af)=aa n;rw[show(-1+((n+1:Nat):Int))=n from(ay (-1+·) (Int.add_comm (n:Int) 1)).trans (Int.neg_add_cancel_left 1 (n:Int))];exact aO ((bR _ _).mpr ⟨eP (jp n),eP (h9.mpr (dm n))⟩)
theorem Y' {k:Int} {n j:Nat} (hj:n9 k n=aa j):(0≤k∧k.toNat=j∧k<n)∨(k<0∧-(n:Int)≤k∧(k+n).toNat=j):=by
 unfold n9 at hj;simp only at hj
 by_cases hk:k<0
 ·rw[aO hk] at hj
  split at hj
  ·rename_i q
   simp only[bR,decide_eq_true_eq] at q;exact .inr (cI hk (Int.sub_nonneg.mp (by rw[Int.sub_neg _ _];exact q.1)) (aU hj))
  ·exact a8 hj
 ·rw[aK hk] at hj
  split at hj
  ·rename_i q
   simp only[bR,decide_eq_true_eq] at q;exact .inl (cI q.1 (aU hj) q.2)
  ·exact a8 hj
theorem Tf {u:SV} {vs:List SV} {i:Int} {j:Nat} {v:SV} {Q:QV} {X:QX} (hl:dc G h u vs) (Al:-(2^63)≤i) (yQ:i<2^63) (hj:n9 i vs.length=aa j) (hv:vs[j]? =aa v) (hq:Q v h):
  WO G F b fr h [u,.int i] (bx i5) Q X:=by
 refine .mk ?_;intro own ae A P m s Q' E' a6 R d5 c d;obtain⟨u',r,rfl,hu,i',r',rfl,⟨t,rfl⟩,rfl⟩:=d5;refine bC (R.i7 hl hu) λa xs ar hL hX=>?_;subst ar;refine aj (hX.get hv) λx hx Ca=>?_;rw[hX.size] at hj;have sK:xs[j]? =aa x:=by simpa using hx
 show aw _ _ (i5 (.ref a) (.int i t)) _ _ _;rcases Y' hj with⟨h1,h2,h3⟩|⟨h1,h2,h3⟩
 ·exact wpAny_getItem_list hL h1 yQ (by rw[h2];exact sK) (c.here hq Ca R)
 ·exact wpAny_getItem_list_neg hL h1 h2 Al (by rw[h3];exact sK) (c.here hq Ca R)
theorem LD {vs:List SV} {i:Int} {j:Nat} {v:SV} {Q:QV} {X:QX} (Al:-(2^63)≤i) (yQ:i<2^63) (hj:n9 i vs.length=aa j) (hv:vs[j]? =aa v) (hq:Q v h):
  WO G F b fr h [.tup vs,.int i] (bx i5) Q X:=by
 refine .mk ?_;intro own ae A P m s Q' E' a6 R d5 c d;obtain⟨u',r,rfl,hu,i',r',rfl,⟨t,rfl⟩,rfl⟩:=d5;refine bC (R.rL hu) λa xs ar hL hX=>?_;subst ar;refine aj (hX.get hv) λx hx Ca=>?_;rw[hX.size] at hj;exact atp hL Al yQ hj (by simpa using hx) (c.here hq Ca R)
theorem Α {u:SV} {vs:List SV} {Q:Bool→SH→Prop} {X:QX} (hl:dc G h u vs) (m4:vs.length<2^62) (hq:Q (!vs.isEmpty) h):WT G F b fr h u Q X:=by
 refine .mk ?_;intro own ae A P m s Q' E' v' R hv c d;refine bC (R.i7 hl hv) λa xs ar hL hX=>?_;subst ar;have e:(!xs.isEmpty)=!vs.isEmpty:=by
  unfold afy;rw[←hX.size]
  cases vs<;>simp
 refine wpAny_truthy_list hL (by rw[←hX.size];exact u8 m4) ?_;rw[e];exact c _ _ _ P m hq .rfl .rfl (R.tok _)
theorem acf {vs:List SV} {Q:Bool→SH→Prop} {X:QX} (m4:vs.length<2^62) (hq:Q (!vs.isEmpty) h):WT G F b fr h (.tup vs) Q X:=by
 refine .mk ?_;intro own ae A P m s Q' E' v' R hv c d;refine bC (R.rL hv) λa xs ar hL hX=>?_;subst ar;have e:(!xs.isEmpty)=!vs.isEmpty:=by
  unfold afy;rw[←hX.size]
  cases vs<;>simp
 refine atq hL (by rw[←hX.size];exact u8 m4) ?_;rw[e];exact c _ _ _ P m hq .rfl .rfl (R.tok _)
theorem U6 {u:SV} {vs:List SV} {Q:QV} {X:QX} (hl:dc G h u vs) (m4:vs.length<2^62) (hq:Q (.int vs.length) h):WC G F b fr h (.bi "len") [u] Q X:=by
 refine .mk ?_;intro own ae A P m s Q' E' f' a6 R hf hv c d;obtain rfl:=hf;refine bC hv λu' r ar hu e7=>?_;clear hv;subst ar;subst e7;refine bC (R.i7 hl hu) λa xs ar hL hX=>?_;subst ar;refine Calls.call_len_list hL (by rw[←hX.size];exact u8 m4) ?_;rw[←hX.size];exact c.here hq ⟨_,rfl⟩ (R.tok _)
theorem ZQ {vs:List SV} {Q:QV} {X:QX} (m4:vs.length<2^62) (hq:Q (.int vs.length) h):WC G F b fr h (.bi "len") [.tup vs] Q X:=by
 refine .mk ?_;intro own ae A P m s Q' E' f' a6 R hf hv c d;obtain rfl:=hf;refine bC hv λu' r ar hu e7=>?_;clear hv;subst ar;subst e7;refine bC (R.rL hu) λa xs ar hL hX=>?_;subst ar;refine atr hL (by rw[←hX.size];exact u8 m4) ?_;rw[←hX.size];exact c.here hq ⟨_,rfl⟩ (R.tok _)
theorem Xx {vs:List SV} {xs:Array Value} (hX:aY P m vs xs.toList) (x:SV) (e:Value→Bool) (he:∀(j:Nat) (v:SV) (y:Value),vs[j]? =aa v→xs[j]? =aa y→e y=decide (v=x)):xs.any e=decide (x∈vs):=by
 rw[propext Qb,decide_eq_true_eq,propext Array.any_eq_true]
 constructor
 ·rintro⟨i,hi,hq⟩
  refine aj (hX.at hi) λv q1 q2=>?_;rw[he i v _ q1 (jq hi),decide_eq_true_eq] at hq;exact hq▸bQ q1
 ·intro hm
  refine xE (uy hm) λj hj=>?_;refine aj (hX.get hj) λy q1 q2=>?_;have q1:xs[j]? =aa y:=by simpa using q1
  obtain⟨fj,e'⟩:=nV.mp q1;refine⟨j,fj,?_⟩;rw[e',he j x y hj q1];simp
theorem Rel.IW (R:Rel G F b own ae A P m fr h s) {vs:List SV} {xs:Array Value} {x:SV} {x':Value} (hX:aY P m vs xs.toList) (hx:VR P m x x') (hd:eH 6 vs=ab) (za:SV.data 6 x=ab):
  ∃e:Value→Bool,(∀y,y∈xs→SeqAt.EqAt A.in1 s y x' (e y))∧xs.any e=decide (x∈vs):=by
 classical
 rw[sB] at hd;have key:∀y,y∈xs→∃v,v∈vs∧VR P m v y:=λy hy=>by
  obtain⟨j,hj,rfl⟩:=Array.mem_iff_getElem.mp hy;refine aj (hX.at hj) λv q1 q2=>?_;exact(aT v (bQ q1) q2)
 refine(aT (λy=>if hy:y∈xs then decide (afz (key y hy)=x) else an) (λy hy=>?_) ?_)
 ·refine xA (Qc (key y hy)) λk1 k2=>?_
  simp only[hy,dif_pos];exact R.wv 6 k2 hx (hd _ k1) za (by show A.units+1+6<ew;have:=R.room;exact cj ‹_›)
 ·refine Xx hX x _ λj v y hv hy=>?_
  have hm:y∈xs:=afm hy;refine xA (Qc (key y hm)) λk1 k2=>?_;simp only[hm,dif_pos];refine aj (hX.get hv) λy' q1 q2=>?_;have q1:xs[j]? =aa y':=by simpa using q1
  rw[hy] at q1;obtain rfl:=aU q1;rw[VR.inj _ k2 q2 (hd _ k1) (hd _ (bQ hv))]
theorem Sr {u:SV} {vs:List SV} {x:SV} {Q:QV} {X:QX} (hl:dc G h u vs) (hd:eH 6 vs=ab) (za:SV.data 6 x=ab) (hq:Q (.bool (decide (x∈vs))) h):WO G F b fr h [x,u] (bx (cZ .In)) Q X:=by
 refine .mk ?_;intro own ae A P m s Q' E' a6 R d5 c d;obtain⟨x',r,rfl,hx,u',r',rfl,hu,rfl⟩:=d5;refine bC (R.i7 hl hu) λa xs ar hL hX=>?_;subst ar;refine aj (R.IW hX hx hd za) λe he ha=>?_;refine SeqAt.in_listAt e hL he ?_;rw[ha];exact c.here hq rfl R
theorem Xl {u:SV} {vs:List SV} {x:SV} {Q:QV} {X:QX} (hl:dc G h u vs) (hd:eH 6 vs=ab) (za:SV.data 6 x=ab) (hq:Q (.bool (!decide (x∈vs))) h):WO G F b fr h [x,u] (bx (cZ .NotIn)) Q X:=by
 refine .mk ?_;intro own ae A P m s Q' E' a6 R d5 c d;obtain⟨x',r,rfl,hx,u',r',rfl,hu,rfl⟩:=d5;refine bC (R.i7 hl hu) λa xs ar hL hX=>?_;subst ar;refine aj (R.IW hX hx hd za) λe he ha=>?_;refine SeqAt.notIn_listAt e hL he ?_;rw[ha];exact c.here hq rfl R
end
section
open PyProof.Rows (IsTup)
theorem aY.drop {P:aW} {m:Mu}:∀{x:List SV} {v:List Value} (k:Nat),aY P m x v→aY P m (x.drop k) (v.drop k)
 |x,v,0,h=>h
 |[],_,k+1,h=>by obtain rfl:=h;exact rfl
 |x::xs,_,k+1,h=>by refine bC h λw r ar h2 h3=>?_;clear h;subst ar;exact aY.drop k h3
theorem aY.take {P:aW} {m:Mu}:∀{x:List SV} {v:List Value} (k:Nat),aY P m x v→aY P m (x.take k) (v.take k)
 |x,v,0,h=>rfl
 |[],_,k+1,h=>by obtain rfl:=h;exact rfl
 |x::xs,_,k+1,h=>by refine bC h λw r ar h2 h3=>?_;clear h;subst ar;exact⟨w,_,rfl,h2,aY.take k h3⟩
theorem aY.set {P:aW} {m:Mu} {y:SV} {z:Value} (hy:VR P m y z):∀{x:List SV} {v:List Value} (k:Nat),aY P m x v→aY P m (x.set k y) (v.set k z)
 |[],_,k,h=>by obtain rfl:=h;exact rfl
 |x::xs,_,0,h=>by refine bC h λw r ar h2 h3=>?_;clear h;subst ar;exact⟨z,r,rfl,hy,h3⟩
 |x::xs,_,k+1,h=>by refine bC h λw r ar h2 h3=>?_;clear h;subst ar;exact⟨w,_,rfl,h2,aY.set hy k h3⟩
theorem aY.erase {P:aW} {m:Mu}:∀{x:List SV} {v:List Value} (k:Nat),aY P m x v→aY P m (x.eraseIdx k) (v.eraseIdx k)
 |[],_,k,h=>by obtain rfl:=h;exact rfl
 |x::xs,_,0,h=>by refine bC h λw r ar h2 h3=>?_;clear h;subst ar;exact h3
 |x::xs,_,k+1,h=>by refine bC h λw r ar h2 h3=>?_;clear h;subst ar;exact⟨w,_,rfl,h2,aY.erase k h3⟩
theorem aY.insert {P:aW} {m:Mu} {y:SV} {z:Value} (hy:VR P m y z) {x:List SV} {v:List Value} (k:Nat) (h:aY P m x v):aY P m (x.take k++y::x.drop k) (v.take k++z::v.drop k):=
 aY.app (aY.take k h) ⟨z,_,rfl,hy,aY.drop k h⟩
theorem Zm {n:Nm} {vs:List SV} {v:SV} {Q:QV} {X:QX} (hn:h n=aa (.list vs)) (hz:vs.length≤aZ) (hq:Q .none (h.set n (.list (vs++[v])))):WC G F b fr h (.bi "list.append") [.ref n,v] Q X:=by
 refine .mk ?_;intro own ae A P m s Q' E' f' a6 R hf hv c d;obtain rfl:=hf;obtain⟨u,r,rfl,⟨ad,hm,rfl⟩,v',r',rfl,fA,rfl⟩:=hv;exact IG R hn hm fA hz λs' R'=>c.here hq rfl R'
theorem Rel.Cy (R:Rel G F b own ae A P m fr h s) {n:Nm} {vs gK:List SV} {ad:ax×ax} {xs:Array Value} {k:Nat} (hn:h n=aa (.list vs)) (hm:m n=aa ad) (hx:s.heap.get? ad.1=aa (DY xs k)) (f:Array Value→Array Value)
  (hv:aY P m gK (f xs).toList) (t:Nat):Rel G F b own ae A P m fr (h.set n (.list gK)) {s with heap:=s.heap.update ad.1 (lZ f),toks:=t}:=by
 have hs:r_ ad.1 s.heap (s.heap.update ad.1 (lZ f)):=o9 ..;refine ky (R.listAt hn) λbg DL k' h1 h3 h4=>?_;obtain rfl:bg=ad:=aU (h1.symm.trans hm);have he:bg.2=bg.1:=by
  refine bM (R.obj n _ hn) λKZ z1 z2 _=>?_;obtain rfl:KZ=bg:=aU (z1.symm.trans hm);exact z2
 refine R.turn (s':={s with heap:=s.heap.update bg.1 (lZ f),toks:=t}) hn hm (λa o n1 n2 e=>(hs.2 a n1).trans e) rfl rfl ⟨he,f xs,_,IsL.update hx f,hv⟩
theorem Uz {n:Nm} {vs:List SV} {v:SV} {Q:QV} {X:QX} (hn:h n=aa (.list (vs++[v]))) (hz:vs.length<aZ) (hq:Q v (h.set n (.list vs))):WC G F b fr h (.bi "list.pop") [.ref n] Q X:=by
 refine .mk ?_;intro own ae A P m s Q' E' f' a6 R hf hv c d;obtain rfl:=hf;obtain⟨u,r,rfl,⟨ad,hm,rfl⟩,rfl⟩:=hv;refine ky (R.listAt hn) λbg xs k h1 h3 h4=>?_;obtain rfl:bg=ad:=aU (h1.symm.trans hm);have hsz:=h4.size;rw[cT,zI] at hsz;refine aj (h4.get (i:=vs.length) (y:=v) (by simp)) λy q1 q2=>?_;have hy:xs[xs.size-1]? =aa y:=by rw[←hsz,Qd _ _];simpa using q1
 refine Qf Qg ⟨_,h3,rfl⟩ af0 (PySem.F.args_list_pop_1 _) (ats bg.1 xs k y hy (ah (bH hsz.symm) (sn hz))) ⟨h3,c.here hq q2 (R.Cy hn hm h3 _ ?_ _)⟩;rw[←hsz,Qd _ _,af1,dif_pos (lb (bH hsz)),af2];have:=h4.erase vs.length
 rwa [show(vs++[v]).eraseIdx vs.length=vs by rw[List.eraseIdx_append_of_length_le (au _) _];simp] at this
theorem ach {n:Nm} {vs:List SV} {v:SV} {Q:QV} {X:QX} (hn:h n=aa (.list (v::vs))) (hz:vs.length<aZ) (hq:Q v (h.set n (.list vs))):WC G F b fr h (.bi "list.pop") [.ref n,.int 0] Q X:=by
 refine .mk ?_;intro own ae A P m s Q' E' f' a6 R hf hv c d;obtain rfl:=hf;obtain⟨u,r,rfl,⟨ad,hm,rfl⟩,z,r',rfl,⟨t,rfl⟩,rfl⟩:=hv;refine ky (R.listAt hn) λbg xs k h1 h3 h4=>?_;obtain rfl:bg=ad:=aU (h1.symm.trans hm);have hsz:=h4.size;rw[iC] at hsz;refine aj (h4.get (i:=0) (y:=v) (by simp)) λy q1 q2=>?_;refine Qf Qg ⟨_,h3,rfl⟩ af0 (PySem.F.args_list_pop_2 _ _) (att bg.1 xs k 0 t 0 y (Qh aV aV) (seqIndex_of aV (hsz▸h9.mpr (dJ _))) (by simpa using q1) (ah (bH hsz.symm) (sn hz))) ⟨h3,c.here hq q2 (R.Cy hn hm h3 _ ?_ _)⟩;rw[af1,dif_pos (lb (ah (lf _ _) (bH hsz))),af2];exact h4.erase 0
theorem Ua {n:Nm} {vs:List SV} {v:SV} {i:Nat} {Q:QV} {X:QX} (hn:h n=aa (.list vs)) (hz:vs.length≤aZ) (hi:i≤vs.length) (hq:Q .none (h.set n (.list (vs.take i++v::vs.drop i)))):
  WC G F b fr h (.bi "list.insert") [.ref n,.int i,v] Q X:=by
 refine .mk ?_;intro own ae A P m s Q' E' f' a6 R hf hv c d;obtain rfl:=hf;obtain⟨u,r,rfl,⟨ad,hm,rfl⟩,z,r',rfl,⟨t,rfl⟩,v',Gv,rfl,fA,rfl⟩:=hv;refine ky (R.listAt hn) λbg xs k h1 h3 h4=>?_;obtain rfl:bg=ad:=aU (h1.symm.trans hm);have hsz:=h4.size;have hL:aZ<2^60:=bj;obtain⟨x,hx⟩:∃x:Int,x=(i:Int):=⟨_,rfl⟩;rw[←hx];have Wr:af3 x=ab:=Qh (hx▸jp i) (hx▸u8 (bf hi (bf hz bj)));have h0:¬(!af3 x)=ab:=by rw[Wr];exact iB
 have uf:xs.size≤aZ:=by rw[←hsz];exact hz
 refine Qf af4 ⟨_,h3,rfl⟩ PySem.F.entry_list_insert (PySem.F.args_list_insert_3 _ _ _) (atu bg.1 xs k x t v' h0 uf) ⟨h3,?_⟩;refine c.here hq rfl (R.Cy hn hm h3 _ ?_ _);have e:(if x<0 then(x+(xs.size:Int)).toNat else min x.toNat xs.size)=i:=by
  rw[aK (hx▸qv.mpr (jp i)),hx];exact r9 (ah hi (bH hsz))
 rw[e];have:=h4.insert fA i
 simpa [(mX (by simp):List.take (xs.size-i) (List.drop i xs.toList)=List.drop i xs.toList)] using this
theorem ad8 {u w:SV} {vs ws:List SV} {n:Nm} {Q:QV} {X:QX} (hu:dc G h u vs) (hw:dc G h w ws) (hz:vs.length+ws.length≤aZ) (hn:h n=af) (hq:Q (.ref n) (h.set n (.list (vs++ws)))):
  WO G F b fr h [u,w] (bx (mS .Add)) Q X:=by
 refine .mk ?_;intro own ae A P m s Q' E' a6 R d5 c d;obtain⟨u',r,rfl,kG,w',r',rfl,GC,rfl⟩:=d5;refine bC (R.i7 hu kG) λa xs ar hl hX=>?_;subst ar;refine bC (R.i7 hw GC) λAD ys ar hb hY=>?_;subst ar;obtain⟨⟨cls,dd,data,sl⟩,ho,hc,k,hd⟩:=id hl;obtain⟨⟨apw,U3,data2,Yk⟩,qQ,qV,k2,xH⟩:=id hb;simp only at hc hd qV xH;subst hc hd qV xH;refine concat_meets ⟨_,ho,rfl⟩ ⟨_,qQ,rfl⟩ noFill_list_add seq_list_add PySem.F.slot_list_add PySem.F.entry_list_add (PySem.F.args_list_add_2 _ _) (atv a AD xs ys k k2 dd U3 sl Yk (by rw[←hX.size,←hY.size];exact hz)) (cI ho qQ ?_);obtain⟨bm,le⟩:=R.alloc hn (so:=.list (vs++ws)) (ad:=(s.heap.objs.size,s.heap.objs.size)) (s':={s with heap:=s.heap.push {cls:=.type "list",data:=.seq (xs++ys)}})
  (λa o e=>dS _ e) rfl rfl (au _) (au _) ⟨rfl,_,0,fP _ rfl,by
   rw[af5];exact aY.mono aW.le.rfl.t (zT (R.dom n hn)) _ (hX.app hY)⟩
 exact c _ _ _ _ _ _ hq .rfl le ⟨_,Mu.jj,rfl⟩ bm
theorem XV {u:SV} {vs:List SV} {n:Nm} {Q:QV} {X:QX} (hu:dc G h u vs∨u=.tup vs) (hz:vs.length≤aZ) (hn:h n=af) (hq:Q (.ref n) (h.set n (.list vs))):WC G F b fr h (.ty "list") [u] Q X:=by
 refine .mk ?_;intro own ae A P m s Q' E' f' a6 R hf hv c d;obtain rfl:=hf;refine bC hv λu' r ar kG e7=>?_;clear hv;subst ar;subst e7;have fin:∀{a:ax} {o:Obj} {T:String} {xs:Array Value} {k:Nat},T="list"∨T="tuple"→s.heap.get? a=aa o→o.cls=.type T→o.data=.seq xs k→aY P m vs xs.toList→aw (aQ G.prog G.w) A (o_ (.type "list") [.ref a]) Q' E' s:=by
  intro a o T xs k hT ho hc hd hX;refine call_list_seq (hsz:=by rw[←hX.size];exact hz) a hT ho hc hd λh' c' hk hg=>?_;obtain⟨bm,le⟩:=R.alloc hn (so:=.list vs) (ad:=(s.heap.objs.size,s.heap.objs.size)) (s':={s with heap:=h'})
   hk rfl rfl (au _) (au _) ⟨rfl,xs,c',hg,aY.mono aW.le.rfl.t (zT (R.dom n hn)) _ hX⟩
  exact c _ _ _ _ _ _ hq .rfl le ⟨_,Mu.jj,rfl⟩ bm
 rcases hu with hu|rfl
 ·obtain⟨a,xs,rfl,⟨o,ho,hc,k,hd⟩,hX⟩:=R.i7 hu kG
  exact fin (.inl rfl) ho hc hd hX
 ·obtain⟨a,xs,rfl,⟨o,ho,hc,k,hd⟩,hX⟩:=R.rL kG
  exact fin (.inr rfl) ho hc hd hX
end
section
open PyProof.Rows (IsTup)
open PySem.SeqAt (EqAt RcAt)
open PySem.SeqAt (RcNeAt)
theorem Rel.Ny (R:Rel G F b own ae A P m fr h s) {n:Nat} {xs ys:List SV} {ia ic:Array Value} (nJ:aY P m xs ia.toList) (nc:aY P m ys ic.toList) (dx:eH n xs=ab) (dy:eH n ys=ab) (hu:A'.units+n<ew):
  ∀j (h1:j<ia.size) (h2:j<ic.size),EqAt A' s ia[j] ic[j] (decide (xs[j]? =ys[j]?)):=λj h1 h2=>
 aj (nJ.at h1) λx q1 q2=>aj (nc.at h2) λy p1 p2=>
  (mO.mpr (by rw[q1,p1,Option.some.injEq _ _]):decide (xs[j]? =ys[j]?)=decide (x=y)).symm▸R.wv n q2 p2 ((sB.mp dx) x (bQ q1)) ((sB.mp dy) y (bQ p1)) hu
theorem zk {n:Nat} {k:SV} {C:Prop} (h:SV.data (n+1) k=ab) (c0:k=.none→C) (ci:∀i,k=.int i→C) (cs:∀i,k=.str i→C) (ct:∀vs,k=.tup vs→eH n vs=ab→C):C:=by
 cases k with
 |none=>exact c0 rfl
 |int i=>exact ci i rfl
 |str i=>exact cs i rfl
 |tup vs=>exact ct vs rfl h
 |_=>exact bd h iB
theorem Rel.NZ (R:Rel G F b own ae A P m fr h s) {x y:SV} {v u:Value} (hx:VR P m x v) (hy:VR P m y u) (dx:SV.data 6 x=ab) (dy:SV.data 6 y=ab):
  RcAt A s v u (decide (x=y))∧RcNeAt A s v u (!decide (x=y)):=by
 have hu:A.units<ew:=bf (b7 _ _) R.room;have no:∀{x y:SV} {v u:Value},RcAt A s v u an→RcNeAt A s v u ab→x≠y→RcAt A s v u (decide (x=y))∧RcNeAt A s v u (!decide (x=y)):=λ{x y v u} a b ne=>(iZ ne).symm▸⟨a,b⟩;have fh:∀{t:Bool} {x y:SV} {v u:Value},RcAt A s v u t→RcNeAt A s v u (!t)→(t=ab↔x=y)→RcAt A s v u (decide (x=y))∧RcNeAt A s v u (!decide (x=y)):=λ{t x y v u} a b ne=>(show t=decide (x=y) from Qb.mpr (ne.trans hH.symm))▸⟨a,b⟩;refine zk dx (λe=>?_) (λi e=>?_) (λi e=>?_) λxs e ZW=>?_<;>subst e
 ·obtain rfl:=hx
  refine zk dy (λe=>?_) (λj e=>?_) (λj e=>?_) λys e CM=>?_<;>subst e
  ·obtain rfl:=hy;exact fh (t:=ab) .none_none .none_none ⟨λ_=>rfl,λ_=>rfl⟩
  ·exact xE hy λt' e=>e▸no (.none_int j t') (.none_int j t') nofun
  ·exact xE hy λt' e=>e▸no (.none_str j t') (.none_str j t') nofun
  ·exact bC (R.m7 hy) λa items e hb _=>e▸no (.none_tuple hb hu) (.none_tuple hb hu) nofun
 ·refine xE hx λt e=>e▸?_
  refine zk dy (λe=>?_) (λj e=>?_) (λj e=>?_) λys e CM=>?_<;>subst e
  ·obtain rfl:=hy;exact no (.int_none i t) (.int_none i t) nofun
  ·exact xE hy λt' e=>e▸fh (.int_int i t j t') (.int_int i t j t') (eW.trans ⟨ay SV.int,SV.int.inj⟩)
  ·exact xE hy λt' e=>e▸no (.int_str i t j t') (.int_str i t j t') nofun
  ·exact bC (R.m7 hy) λa items e hb _=>e▸no (.int_tuple i t hb hu) (.int_tuple i t hb hu) nofun
 ·refine xE hx λt e=>e▸?_
  refine zk dy (λe=>?_) (λj e=>?_) (λj e=>?_) λys e CM=>?_<;>subst e
  ·obtain rfl:=hy;exact no (.str_none i t) (.str_none i t) nofun
  ·exact xE hy λt' e=>e▸no (.str_int i t j t') (.str_int i t j t') nofun
  ·exact xE hy λt' e=>e▸fh (.str_str i t j t') (.str_str i t j t') (eW.trans ⟨ay SV.str,SV.str.inj⟩)
  ·exact bC (R.m7 hy) λa items e hb _=>e▸no (.str_tuple i t hb hu) (.str_tuple i t hb hu) nofun
 ·refine bC (R.m7 hx) λa ia e ha nJ=>e▸?_
  refine zk dy (λe=>?_) (λj e=>?_) (λj e=>?_) λys e CM=>?_<;>subst e
  ·obtain rfl:=hy;exact no (.tuple_none ha hu) (.tuple_none ha hu) nofun
  ·exact xE hy λt' e=>e▸no (.tuple_int j t' ha hu) (.tuple_int j t' ha hu) nofun
  ·exact xE hy λt' e=>e▸no (.tuple_str j t' ha hu) (.tuple_str j t' ha hu) nofun
  ·refine bC (R.m7 hy) λc ic e hc nc=>e▸?_
   have z:=R.Ny (A':=A.in1) nJ nc ZW CM (bf (eZ (aJ:1+5≤8) A.units) R.room);refine fh (RcAt.tuples ha hc hu z) (RcNeAt.tuples ha hc hu z) ?_;rw[←nJ.size,←nc.size,←Ff,propext hH];exact⟨ay SV.tup,SV.tup.inj⟩
theorem Wm {x y:SV} {Q:QV} {X:QX} (dx:SV.data 6 x=ab) (dy:SV.data 6 y=ab) (hq:Q (.bool (decide (x=y))) h):WO G F b fr h [x,y] (bx (cZ .Eq)) Q X:=.mk λown ae A P m s Q' E' a6 R d5 c d=>qH d5 λv u hx hy=>(R.NZ hx hy dx dy).1 _ _ _ _ (c.here hq rfl R)
theorem ac3 {x y:SV} {Q:QV} {X:QX} (dx:SV.data 6 x=ab) (dy:SV.data 6 y=ab) (hq:Q (.bool (!decide (x=y))) h):WO G F b fr h [x,y] (bx (cZ .NotEq)) Q X:=.mk λown ae A P m s Q' E' a6 R d5 c d=>qH d5 λv u hx hy=>(R.NZ hx hy dx dy).2 _ _ _ _ (c.here hq rfl R)
theorem Rel.Yi (R:Rel G F b own ae A P m fr h s) {u w:SV} {vs ws:List SV} {u' w':Value} (hu:dc G h u vs) (hw:dc G h w ws) (kG:VR P m u u') (GC:VR P m w w') (dx:eH 6 vs=ab) (dy:eH 6 ws=ab):
  RcAt A s u' w' (decide (vs=ws))∧RcNeAt A s u' w' (!decide (vs=ws)):=by
 have BN:A.units<ew:=bf (b7 _ _) R.room;refine bC (R.i7 hu kG) λa ia e ha nJ=>e▸bC (R.i7 hw GC) λc ic e hc nc=>e▸?_
 by_cases hsz:ia.size=ic.size
 ·have z:=R.Ny (A':=A.in1) nJ nc dx dy (bf (eZ (aJ:1+6≤8) A.units) R.room)
  have e:decide (vs=ws)=(bq ia.size).all (λj=>decide (vs[j]? =ws[j]?)):=by
   rw[Ff _ _,nJ.size,nc.size,←hsz,Nat.min_self _,qu _,HZ _]
  rw[e];exact⟨RcAt.lists ha hc hsz BN z,RcNeAt.lists ha hc hsz BN z⟩
 ·have hb:(ia.size !=ic.size)=ab:=bne_iff_ne.mpr hsz
  rw[iZ λe=>hsz (nJ.size.symm.trans ((ay nY e).trans nc.size))];exact⟨RcAt.lists_lengths ha hc hb BN,RcNeAt.lists_lengths ha hc hb BN⟩
theorem ac5 {u w:SV} {vs ws:List SV} {Q:QV} {X:QX} (hu:dc G h u vs) (hw:dc G h w ws) (dx:eH 6 vs=ab) (dy:eH 6 ws=ab) (hq:Q (.bool (!decide (vs=ws))) h):WO G F b fr h [u,w] (bx (cZ .NotEq)) Q X:=.mk λown ae A P m s Q' E' a6 R d5 c d=>qH d5 λv u hx hy=>(R.Yi hu hw hx hy dx dy).2 _ _ _ _ (c.here hq rfl R)
theorem R_ {u:SV} {vs:List SV} {Q:QV} {X:QX} (hu:dc G h u vs) (hz:vs.length≤aZ) (hq:Q (.tup vs) h):WC G F b fr h (.ty "tuple") [u] Q X:=by
 refine .mk λown ae A P m s Q' E' f' a6 R hf hv c d=>hf▸QN hv λu' kG=>bC (R.i7 hu kG) λa xs e hL hX=>e▸call_tuple_list (hsz:=hX.size▸hz) hL λh' hk=>?_;refine bM ((R.grow hk rfl rfl:Rel G F b own ae A P m fr h {s with heap:=h'}).Fi hX) λP' le bm hv=>?_;rw[af6] at bm;exact c _ _ _ _ P' m hq le .rfl hv bm
noncomputable def fg (vs:List SV) (lo hi:Option Int):List SV:=(vs.drop (lo.elim 0 (fE vs.length))).take (hi.elim vs.length (fE vs.length) - lo.elim 0 (fE vs.length))
theorem AM {n j:Nat}:fE n (j:Int)=min j n:=by
 unfold fE;rw[show(if(j:Int) <0 then(j:Int)+n else j)=j from aK (qv.mpr (jp j))];exact if h:j≤n then(ay (λz:Int=>(max 0 z).toNat) (af7 (wS.mpr h))).trans ((ay H0 (Qi (jp j))).trans (r9 h).symm)
  else(ay (λz:Int=>(max 0 z).toNat) (Int.min_eq_right (wS.mpr (H3 h)))).trans ((ay H0 (Qi (jp n))).trans (H4 (H3 h)).symm)
def ya (G:Gl) (F:FD) (b:Nat) (fr:SF) (h:SH) (e:Option Expr) (Q:Option Int→SH→Prop) (X:QX):Prop:=match e with
 |none=>Q af h
 |some e=>WE G F b fr h e (λv h'=>∃i,v=.int i∧Q (aa i) h') X
theorem aY.slice {vs:List SV} {xs:Array Value} (hX:aY P m vs xs.toList) (lo hi:Option Int):aY P m (fg vs lo hi) (slicePick xs lo hi af).toList:=by
 rw[slicePick_plain _ _ _,fg,hX.size]
 simpa using (hX.drop _).take _
theorem Mg {e:Option Expr} {Q:Option Int→SH→Prop} {X:QX} {Q':Value→ak→Prop} {E':Value→ak→Prop} (w:ya G F b fr h e Q X) (R:Rel G F b own ae A P m fr h s) (d:iK G F b own ae A P m fr X E')
  (c:∀i h' v' s' P' m',Q i h'→P.le P'→m.le m'→zJ v' i→Rel G F b own ae A P' m' fr h' s'→Q' v' s'):aw (aQ G.prog G.w) A (evalPart e ae) Q' E' s:=by
 cases e with
 |none=>rw[evalPart_none _];exact aD (c _ _ _ _ _ _ w .rfl .rfl .none R)
 |some e=>
  refine w.run own ae A P m s _ _ R (λv ag v' a5 bW bV hq hP hm hv a7=>?_) d;obtain⟨i,rfl,hq⟩:=hq;obtain⟨t,rfl⟩:=hv;exact c _ _ _ _ _ _ hq hP hm (.int ..) a7
theorem Bk (i:Int) (n:Nat):(if i<0 then max (i+(n:Int)) 0 else min i (n:Int))=((fE n i:Nat):Int):=by
 rw[clipAt_cast _ _];exact if h:i<0 then(aO h).trans ((Int.max_comm _ _).trans (ay (max 0) (((ay (min · (n:Int)) (aO h)).trans (af7 (Int.add_le_of_le_sub_right ((Int.sub_self (n:Int)).symm▸af8 h)))).symm)))
  else(aK h).trans (((Qi (Int.le_min.mpr ⟨qv.mp h,jp n⟩)).symm).trans (ay (λx=>max 0 (min x (n:Int))) (aK h).symm))
theorem Yw (lo hi:Option Int) (n:Nat):H5 lo hi 1 (n:Int)=(((lo.elim 0 (fE n):Nat):Int),((hi.elim n (fE n):Nat):Int)):=by
 cases lo with
 |none=>cases hi with
  |none=>rfl
  |some i=>exact jv rfl (Bk i n)
 |some j=>cases hi with
  |none=>exact jv (Bk j n) rfl
  |some i=>exact jv (Bk j n) (Bk i n)
theorem Um (a c:Nat):af9 (a:Int) (c:Int) 1=c-a:=by
 show(if(a:Int) <c then((c:Int) - a-1) / 1+1 else 0:Int).toNat=_;exact if h:(a:Int) <c then(ay H0 ((aO h).trans ((ay (· +1) (afc _)).trans (aga _ _)))).trans (Int.toNat_sub c a)
  else(ay H0 (aK h)).trans (Nat.sub_eq_zero_of_le (wS.mp (qv.mp h))).symm
theorem MW {E:Value→ak→Prop} {v:Value} {k:Option Int} {Q:Option Int→ak→Prop} (hp:zJ v k) (hq:Q k s):aw (aQ G.prog G.w) A (atw v) Q E s:=by
 cases hp with
 |none=>exact agb hq
 |int i t=>exact atx hq
theorem TC {E:Value→ak→Prop} {sl:ax} {n:Nat} {vl vu:Value} {lo hi:Option Int} {Q:Int×Int×Nat→ak→Prop} (hs:s.heap.IsSliceOf sl vl vu .none) (pl:zJ vl lo) (pu:zJ vu hi)
  (hq:Q (((lo.elim 0 (fE n):Nat):Int),1,hi.elim n (fE n) - lo.elim 0 (fE n)) s):aw (aQ G.prog G.w) A (agc (.ref sl) (pure (n:Int))) Q E s:=by
 refine bM (id hs) λos sR Ju kC=>?_;unfold agc aty;refine wb (wb (ut sR kC (x:=vl) rfl (wb (ut sR kC (x:=vu) rfl (wb (ut sR kC (x:=.none) rfl (aD (wb (agb ?_)))))))));show aw _ _ (if((1:Int)==0)=ab then _ else _) _ _ s;refine dU rfl (wb (MW pl (wb (MW pu (wb (aD ?_))))));show aw _ _ (pure ((H5 lo hi 1 (n:Int)).1,(1:Int),af9 (H5 lo hi 1 (n:Int)).1 (H5 lo hi 1 (n:Int)).2 1)) _ _ s;rw[Yw _ _ _];exact aD ((Um _ _).symm▸hq)
theorem Se (xs:Array Value) (a c:Nat):((bq (c-a)).filterMap λ(k:Nat)=>xs[((a:Int)+(k:Int)*1).toNat]?).toArray=((xs.toList.drop a).take (c-a)).toArray:=by
 have e:(λ(k:Nat)=>xs[((a:Int)+(k:Int)*1).toNat]?)=λk=>xs[a+k]? :=funext λk=>ay (λi:Nat=>xs[i]?) ((ay (λz:Int=>((a:Int)+z).toNat) (Int.mul_one _)).trans (HF (a+k)));have:=pick_run xs a (c-a);rw[List.filterMap_map] at this;rw[e];exact ay List.toArray this
theorem XZ {E:Value→ak→Prop} {t sl:ax} {xs:Array Value} {vs:List SV} {vl vu:Value} {lo hi:Option Int} {Q:Value→ak→Prop} (R:Rel G F b own ae A P m fr h s) (ht:IsTup s.heap t xs) (hX:aY P m vs xs.toList) (hs:s.heap.IsSliceOf sl vl vu .none) (pl:zJ vl lo) (pu:zJ vu hi) (hz:vs.length≤aZ)
  (hv:VR P m (.tup vs) (.ref t)) (c:∀v' s' P',P.le P'→VR P' m (.tup (fg vs lo hi)) v'→Rel G F b own ae A P' m fr h s'→Q v' s'):aw (aQ G.prog G.w) A (i5 (.ref t) (.ref sl)) Q E s:=by
 refine bM (id hs) λos sR Ju kC=>?_;have hp:fg vs lo hi=(vs.drop (lo.elim 0 (fE xs.size))).take (hi.elim xs.size (fE xs.size) - lo.elim 0 (fE xs.size)):=hX.size▸rfl;rw[hp] at c;unfold i5;refine dD (wb (zF ht.typeIs aV (wb (qy (name:=dL "__getitem__") ht.typeIs Dr
  (i4 Dr ht.typeIs agd ?_ (age _ _))))))
 show aw _ _ (P6 (.ref t) >>=_) _ _ s;refine wb (atz ht (wb (uz ⟨os,sR,Ju⟩ (pd rfl (wb (TC hs pl pu ?_))))));generalize lo.elim 0 (fE xs.size)=a at c ⊢;generalize hi.elim xs.size (fE xs.size)=e at c ⊢;clear pl pu hp;show aw _ _ (if((a:Int)==0 && (1:Int)==1 && (e-a)==xs.size)=ab then _ else _) _ _ s;refine jJ (λhw=>?_) λhw=>?_
 ·have hw:=(bR _ _).mp hw
  have ha:a=0:=wW (eq_of_beq ((bR _ _).mp hw.1).1);have ev:(vs.drop a).take (e-a)=vs:=by rw[eq_of_beq hw.2,ha,←hX.size];exact zK
  rw[ev] at c;exact wb (wb (uz ht.typeIs (aD (wb (jH (aD ⟨_,rfl,aD (c (.ref t) s P .rfl hv R)⟩))))))
 ·rw[Se _ _ _]
  refine wb (m:=at0 _) (si (aD ⟨_,rfl,aD ?_⟩) ?_)
  ·refine bM (R.Fi ((hX.drop a).take (e-a))) λP' le bm qm=>?_
   exact c _ _ P' le qm bm
  ·show Array.size _≤aZ
   rw[ae6];exact ah (List.length_take_le' _ _) (ah (bH zL) (ah (kh _ _) (ah (bH (fQ.trans hX.size.symm)) hz)))
def SL (G:Gl) (h:SH) (u:SV) (lo hi:Option Int) (Q:QV):Prop:=
 (∃vs,u=.tup vs∧vs.length≤aZ∧Q (.tup (fg vs lo hi)) h)∨∃vs,dc G h u vs∧vs.length≤aZ∧∃n,h n=af∧Q (.ref n) (h.set n (.list (fg vs lo hi)))
theorem xJ {vh:Expr} {lo hi:Option Expr} {p pos:Pos} {Q:QV} {X:QX}
  (w:WE G F b fr h vh (λu ag=>ya G F b fr ag lo (λi aC=>ya G F b fr aC hi (λj cM=>SL G cM u i j Q) X) X) X):
  WE G F b fr h (.Subscript vh (.Slice lo hi af p) pos) Q X:=by
 refine .mk ?_;intro own ae A P m s Q' E' R c d;rw[eval_Subscript _ _ _];refine wb (w.run own ae A P m s _ _ R (λu ag u' a5 bW bV hq hP hm hu a7=>?_) d);refine wb (dD (wpAny_Slice (Mg hq a7 (d.mono hP hm) λi aC vl bz cE cw g0 cQ cK pl bm=>Mg g0 bm (d.mono (hP.trans cQ) (hm.trans cK)) λj cM vu ef lI m_ re f8 ie pu cV=>?_)));rw[evalPart_none _];refine aD ?_;have Be:=hu.mono (cQ.trans f8).t (cK.trans ie);have fY:Rel G F b own ae A lI m_ fr cM {ef with heap:=ef.heap.push {cls:=.type "slice",data:=.fields #[vl,vu,.none]}}:=cV.grow (λa o e=>dS _ e) rfl rfl;have g:GI G cM u:=by
  rcases re with⟨vs,rfl,_⟩|⟨vs,hl,_⟩
  ·exact .tup
  ·exact .lst hl
 have fin:∀{v':Value} {s':ak} {P' m'} {v:SV} {h':SH},Q v h'→lI.le P'→m_.le m'→VR P' m' v v'→Rel G F b own ae A P' m' fr h' s'→aw (aQ G.prog G.w) A (do PJ vh u' v';pure v') Q' E' s':=λhq a e hv R'=>
  wb (PL (aD (c _ _ _ _ _ _ hq (((hP.trans cQ).trans f8).trans a) (((hm.trans cK).trans ie).trans e) hv R')))
 refine wb (jG (wb (JC fY g Be (wb (Qa ?_)))));rcases re with⟨vs,rfl,hz,hq⟩|⟨vs,hl,hz,n,hn,hq⟩
 ·refine bC (fY.rL Be) λt xs ar ht hX=>?_;subst ar
  exact XZ fY ht hX (agf ..) pl pu hz Be λv' s' P' le hv R'=>fin hq le .rfl hv R'
 ·refine bC (fY.i7 hl Be) λa xs ar hL hX=>?_;subst ar
  refine wpAny_getItem_list_slice hL (agf ..) pl pu .none (by simp) ?_ (by rw[←hX.size];exact hz);obtain⟨ko,le⟩:=fY.alloc hn (so:=.list (fg vs i j)) (ad:=(ef.heap.objs.size+1,ef.heap.objs.size+1)) (s':={ef with heap:=(ef.heap.push {cls:=.type "slice",data:=.fields #[vl,vu,.none]}).push {cls:=.type "list",data:=.seq (slicePick xs i j af)}})
   (λa o e=>dS _ e) rfl rfl (by rw[lX _ _];exact au _) (by rw[lX _ _];exact au _) ⟨rfl,_,0,by rw[←lX ef.heap _];exact fP _ rfl,by
    exact aY.mono aW.le.rfl.t (zT (fY.dom n hn)) _ (hX.slice i j)⟩
  rw[lX _ _];exact fin hq .rfl le ⟨_,Mu.jj,rfl⟩ ko
end
noncomputable def Cz (y x:Str):Bool:=!(Builtin.Str.occurrences x y 0 x.length 1).isEmpty
variable{Q:QV} {X:QX}
theorem ym {f:Value→Value→Sem Value} {x y r:Int} (hf:∀(M:fq) (w:cD) (A:dP) (E:Value→ak→Prop) (s:ak) (t u:Tok) (Q:Value→ak→Prop),(∀t' k,Q (.int r t') {s with toks:=k})→aw (aQ M w) A (f (.int x t) (.int y u)) Q E s)
  (hq:Q (.int r) h):WO G F b fr h [.int x,.int y] (bx f) Q X:=by
 refine .mk ?_;intro own ae A P m s Q' E' a6 R d5 c d;obtain⟨v,r,rfl,⟨t,rfl⟩,u,r',rfl,⟨t',rfl⟩,rfl⟩:=d5;exact hf _ _ _ _ _ _ _ _ λt' k=>c.here hq ⟨_,rfl⟩ (R.tok k)
theorem adz {x y:Int} (hq:Q (.int (x+y)) h):WO G F b fr h [.int x,.int y] (bx (mS .Add)) Q X:=ym (λ_ _ _ _ _ _ _ _ k=>P.add_int (k _ _)) hq
theorem aay {x y:Int} (hq:Q (.int (x+y)) h):WO G F b fr h [.int x,.int y] (bx (sd .Add)) Q X:=ym (λ_ _ _ _ _ _ _ _ k=>P.iadd_int (k _ _)) hq
theorem acs {x y:Int} (hq:Q (.int (x-y)) h):WO G F b fr h [.int x,.int y] (bx (mS .Sub)) Q X:=ym (λ_ _ _ _ _ _ _ _ k=>P.sub_int (k _ _)) hq
theorem ZO {x y:Int} (hq:Q (.int (x-y)) h):WO G F b fr h [.int x,.int y] (bx (sd .Sub)) Q X:=ym (λ_ _ _ _ _ _ _ _ k=>P.isub_int (k _ _)) hq
theorem ac7 {x y:Int} (hy:0<y) (hq:Q (.int (x % y)) h):WO G F b fr h [.int x,.int y] (bx (mS .Mod)) Q X:=by
 refine ym (λ_ _ _ _ _ _ _ _ k=>AutoIntOps.mod_1 (by simp;exact agg hy) ?_) hq;rw[Int.fmod_eq_emod_of_nonneg _ (af8 hy)];exact k _ _
theorem Fe {f:Value→Value→Sem Value} {x y:Int} {r:Bool} (hf:∀(M:fq) (w:cD) (A:dP) (E:Value→ak→Prop) (s:ak) (t u:Tok) (Q:Value→ak→Prop),Q (.bool r) s→aw (aQ M w) A (f (.int x t) (.int y u)) Q E s)
  (hq:Q (.bool r) h):WO G F b fr h [.int x,.int y] (bx f) Q X:=by
 refine .mk ?_;intro own ae A P m s Q' E' a6 R d5 c d;obtain⟨v,r,rfl,⟨t,rfl⟩,u,r',rfl,⟨t',rfl⟩,rfl⟩:=d5;exact hf _ _ _ _ _ _ _ _ (c.here hq rfl R)
theorem To {x y:Int} (hq:Q (.bool (decide (x<y))) h):WO G F b fr h [.int x,.int y] (bx (cZ .Lt)) Q X:=Fe (λ_ _ _ _ _ _ _ _ k=>P.lt_int k) hq
theorem US {x y:Int} (hq:Q (.bool (decide (x > y))) h):WO G F b fr h [.int x,.int y] (bx (cZ .Gt)) Q X:=Fe (λ_ _ _ _ _ _ _ _ k=>P.gt_int k) hq
theorem Rr {x y:Int} (hq:Q (.bool (decide (x≥y))) h):WO G F b fr h [.int x,.int y] (bx (cZ .GtE)) Q X:=Fe (λ_ _ _ _ _ _ _ _ k=>P.ge_int k) hq
noncomputable def isNone:SV→Bool
 |.none=>ab
 |_=>an
noncomputable def lG:SV→Bool
 |.bi _=>an
 |_=>ab
theorem XK {v:SV} {v':Value} (hv:VR P m v v') (hb:lG v=ab):plainIs v' .none=ab∧(v'==eG)=isNone v:=by
 cases v with
 |none=>obtain rfl:=hv;exact⟨rfl,rfl⟩
 |bool c=>obtain rfl:=hv;exact⟨rfl,rfl⟩
 |int i=>refine xE hv λt bu=>?_;clear hv;subst bu;exact⟨rfl,rfl⟩
 |str i=>refine xE hv λt bu=>?_;clear hv;subst bu;exact⟨rfl,rfl⟩
 |tup vs=>refine od hv λa _ _ _ e7 _=>?_;clear hv;subst e7;exact⟨rfl,rfl⟩
 |ref n=>refine aj hv λa _ ar=>?_;clear hv;subst ar;exact⟨rfl,rfl⟩
 |range a c=>refine od hv λr _ _ _ e7 _=>?_;clear hv;subst e7;exact⟨rfl,rfl⟩
 |glob a=>obtain rfl:=hv;exact⟨rfl,rfl⟩
 |bi id=>exact cJ hb
 |ty n=>obtain rfl:=hv;exact⟨rfl,rfl⟩
theorem adn {v:SV} (hb:lG v=ab) (hq:Q (.bool (!isNone v)) h):WO G F b fr h [v,.none] (bx (cZ .IsNot)) Q X:=by
 refine .mk ?_;intro own ae A P m s Q' E' a6 R d5 c d;obtain⟨v',r,rfl,hv,u,r',rfl,hu,rfl⟩:=d5;obtain rfl:=hu;refine xA (XK hv hb) λh1 h2=>?_;refine wpAny_isNot_plain h1 ?_;rw[h2];exact c.here hq rfl R
theorem Uj {x y:Str} (hq:Q (.bool (Cz y x)) h):WO G F b fr h [.str y,.str x] (bx (cZ .In)) Q X:=by
 refine .mk ?_;intro own ae A P m s Q' E' a6 R d5 c d;obtain⟨v,r,rfl,⟨t,rfl⟩,u,r',rfl,⟨t',rfl⟩,rfl⟩:=d5;exact PySem.P.in_str (c.here hq rfl R)
theorem Ry {x:Str} (m4:x.length<2^62) (hq:Q (.int x.length) h):WC G F b fr h (.bi "len") [.str x] Q X:=by
 refine .mk ?_;intro own ae A P m s Q' E' f' a6 R hf hv c d;obtain rfl:=hf;obtain⟨u',r,rfl,⟨t,rfl⟩,rfl⟩:=hv;exact PySem.P.len_str (Jm m4) (c.here hq ⟨_,rfl⟩ (R.tok _))
theorem W_ {x:Str} {i:Int} {ch:Nat} (Al:-(2^63)≤i) (yQ:i<2^63) (hc:(n9 i x.length).bind (x.cps[·]?)=aa ch) (hq:Q (.str ⟨#[ch]⟩) h):WO G F b fr h [.str x,.int i] (bx i5) Q X:=by
 refine .mk ?_;intro own ae A P m s Q' E' a6 R d5 c d;obtain⟨v,r,rfl,⟨t,rfl⟩,u,r',rfl,⟨t',rfl⟩,rfl⟩:=d5;refine PySem.P.getItem_str (by simp;lia) hc (c.here hq ⟨_,rfl⟩ (R.tok _))
theorem VB {i:Int} {Q:Bool→SH→Prop} (hq:Q (i !=0) h):WT G F b fr h (.int i) Q X:=by
 refine .mk ?_;intro own ae A P m s Q' E' v' R hv c d;refine xE hv λt bu=>?_;clear hv;subst bu;exact agh (c _ _ _ P m hq .rfl .rfl R)
theorem Y_ {prog:fq} {w:cD} {A:dP} {E:Value→ak→Prop} {s:ak} {n:Int} {t:Tok} {Q:Value→ak→Prop}
  (h:Q (.ref s.heap.objs.size) {s with heap:=s.heap.push {cls:=.type "range",data:=.fields #[.int 0 s.toks,.int n t,.int 1 (s.toks+1)]},toks:=s.toks+1+1}):
  aw (aQ prog w) A (o_ (.type "range") [.int n t]) Q E s:=
 callType_new F.called_range aV (F.typeCall_range_1 _) (F.newCall_range_1 _) (λobj=>F.initArgs_range_1 obj _) F.entry_range_new
  (AutoRange.range___new___type_int_0 n t (by rw[pf _ _];kernel_rfl)) ⟨⟨_,fP _ rfl,rfl⟩,h⟩
theorem Zt {n:Int} (hq:Q (.range 0 n) h):WC G F b fr h (.ty "range") [.int n] Q X:=by
 refine .mk ?_;intro own ae A P m s Q' E' f' a6 R hf hv c d;obtain rfl:=hf;obtain⟨u',r,rfl,⟨t,rfl⟩,rfl⟩:=hv;refine Y_ ?_;refine xA (R.IN {cls:=.type "range",data:=.fields #[.int 0 s.toks,.int n t,.int 1 (s.toks+1)]} rfl) λbm le=>?_;exact c _ _ _ _ _ m hq le .rfl ⟨_,s.toks,t,s.toks+1,rfl,aO rfl⟩ (bm.tok _)
noncomputable def rW:SV→Option Bool
 |.none=>aa an
 |.bool c=>aa c
 |.int i=>aa (i !=0)
 |_=>af
theorem SN {prog:fq} {w:cD} {E:Value→ak→Prop} {v:SV} {v':Value} {c:Bool} {Q:Bool→ak→Prop} (hv:VR P m v v') (hc:rW v=aa c) (hq:Q c s):aw (aQ prog w) A (zz v') Q E s:=by
 cases v with
 |none=>obtain rfl:=hv;(first|exact a8 hc|obtain rfl:=aU hc);exact aD hq
 |bool c=>obtain rfl:=hv;(first|exact a8 hc|obtain rfl:=aU hc);exact Hw hq
 |int i=>refine xE hv λt bu=>?_;clear hv;subst bu;(first|exact a8 hc|obtain rfl:=aU hc);exact agh hq
 |_=>(first|exact a8 hc|obtain rfl:=aU hc)
theorem Yl {vs:List SV} {ts:List Bool} {xs:Array Value} (hX:aY P m vs xs.toList) (ht:vs.map rW=ts.map aa):
  TruthOf G.prog G.w A' (λi v=>xs[i]? =aa v) (λi=>ts.getD i an):=by
 intro i v s Q E hi hq;obtain⟨hj,e⟩:=nV.mp hi;refine aj (hX.at hj) λx q1 q2=>?_;rw[e] at q2;have h1:(vs.map rW)[i]? =aa (rW x):=by simp[q1]
 rw[ht] at h1;simp only[dq] at h1
 cases h2:ts[i]? with
 |none=>rw[h2] at h1;(first|exact a8 h1|obtain rfl:=aU h1)
 |some c=>
  rw[h2] at h1;simp at h1;refine SN q2 h1.symm ?_;have:ts.getD i an=c:=by simp[List.getD,h2]
  rw[←this];exact hq
theorem OY:∀(ts:List Bool),(bq ts.length).all (λi=>ts.getD i an)=ts.all id
 |[]=>rfl
 |t::ts=>by
  rw[iC,Qj,Ds,agi,Ds,←OY ts];rfl
theorem Kf:∀(ts:List Bool),(bq ts.length).any (λi=>ts.getD i an)=ts.any id
 |[]=>rfl
 |t::ts=>by
  rw[iC,Qj,PH,agj,PH,←Kf ts];rfl
theorem Om (R:Rel G F b own ae A P m fr h s) (hF:F.q=ab) {u:SV} {u':Value} {vs:List SV} {ts:List Bool} (hl:dc G h u vs) (hu:VR P m u u') (ht:vs.map rW=ts.map aa) {Q':Value→ak→Prop} {E':Value→ak→Prop} (all:Bool)
  (c:∀s',Rel G F b own ae A P m fr h s'→Q' (.bool (if all then ts.all id else ts.any id)) s'):aw (aQ G.prog G.w) A (o_ (.builtin (if all then "all" else "any")) [u']) Q' E' s:=by
 refine bC (R.i7 hl hu) λa xs ar hL hX=>?_;subst ar;have hsz:ts.length=xs.size:=by
  rw[←hX.size];have:=ay nY ht
  simpa using this.symm
 have it:∀{Q:Value→ak→Prop},(∀I h',h'.IsListIter I a 0→h'.IsList a xs→a≠I→(∀b o,b≠I→s.heap.get? b=aa o→h'.get? b=aa o)→s.heap.get? I=af→Q (.ref I) {s with heap:=h'})→aw (aQ G.prog G.w) A.in1 (qz (.ref a)) Q E' s:=by
  intro Q hQ;have hI:s.heap.get? s.heap.objs.size=af:=zE (au _);have dh:a≠s.heap.objs.size:=λe=>by refine aj hL λo ho _=>?_;clear hL;rw[e,hI] at ho;exact a8 ho
  exact PX hL (hQ _ _ ⟨_,fP _ rfl,rfl,rfl⟩ (let⟨o,e1,e2⟩:=hL;⟨o,dS _ e1,e2⟩) dh (λb o _ e=>dS _ e) hI)
 have tr:=λA'=>Yl (G:=G) (A':=A') hX ht
 cases all with
 |true=>
  refine call_all_walk (it λI h' h1 h2 dh hk hI=>?_);refine⟨I,_,_,_,_,_,_,rfl,Qk (A:=A.in1) (R.quiet hF) I a dh xs,⟨h1,h2⟩,tr _,λmI tk D8=>?_⟩;rw[←hsz,OY _];refine c _ (R.grow (s':={s with heap:=mI,toks:=tk}) (λb o e=>?_) rfl rfl);have:b≠I:=λe'=>by rw[e',hI] at e;exact a8 e
  exact D8 b o (by simpa using this) (hk b o this e)
 |false=>
  refine call_any_walk (it λI h' h1 h2 dh hk hI=>?_);refine⟨I,_,_,_,_,_,_,rfl,Qk (A:=A.in1) (R.quiet hF) I a dh xs,⟨h1,h2⟩,tr _,λmI tk D8=>?_⟩;rw[←hsz,Kf _];refine c _ (R.grow (s':={s with heap:=mI,toks:=tk}) (λb o e=>?_) rfl rfl);have:b≠I:=λe'=>by rw[e',hI] at e;exact a8 e
  exact D8 b o (by simpa using this) (hk b o this e)
theorem Θ {u:SV} {vs:List SV} {ts:List Bool} (hF:F.q=ab) (hl:dc G h u vs) (ht:vs.map rW=ts.map aa) (hq:Q (.bool (ts.all id)) h):WC G F b fr h (.bi "all") [u] Q X:=by
 refine .mk ?_;intro own ae A P m s Q' E' f' a6 R hf hv c d;obtain rfl:=hf;refine bC hv λu' r ar hu e7=>?_;clear hv;subst ar;subst e7;exact Om R hF hl hu ht ab λs' R'=>c.here hq rfl R'
theorem UD {u:SV} {vs:List SV} {ts:List Bool} (hF:F.q=ab) (hl:dc G h u vs) (ht:vs.map rW=ts.map aa) (hq:Q (.bool (ts.any id)) h):WC G F b fr h (.bi "any") [u] Q X:=by
 refine .mk ?_;intro own ae A P m s Q' E' f' a6 R hf hv c d;obtain rfl:=hf;refine bC hv λu' r ar hu e7=>?_;clear hv;subst ar;subst e7;exact Om R hF hl hu ht an λs' R'=>c.here hq rfl R'
theorem ab1 {n:Nm} {C:ax} {fs:SF} {Q:Bool→SH→Prop} (hn:h n=aa (.inst C fs)) (hs:h_ G.K (.ref C) "__bool__"=aa af) (hl:h_ G.K (.ref C) "__len__"=aa af) (hq:Q ab h):WT G F b fr h (.ref n) Q X:=by
 refine .mk ?_;intro own ae A P m s Q' E' v' R hv c d;refine aj hv λad h1 ar=>?_;clear hv;subst ar;obtain⟨bg,xs,k,q1,q2,q3,q4,q5,I⟩:=R.uN hn;obtain rfl:bg=ad:=aU (q1.symm.trans h1);unfold zz;refine wb (m:=P_ (.ref bg.1) (dL "__bool__")) (wb (wb (I.type.here ((PP R.fT hs).here (aD ?_)))));refine wb (wb (I.type.here ((PP R.fT hl).here ?_)));exact aD (c _ _ _ P m hq .rfl .rfl R)
theorem abt {n:Nm} {C f:ax} {fs:SF} (hn:h n=aa (.inst C fs)) (hs:h_ G.K (.ref C) "__len__"=aa (aa (.ref f))) (hf:isFn G.K (.ref f)=ab)
  (w:CC G F b fr h (.glob f) [.ref n] (λv h'=>∃i:Nat,v=.int i∧i<2^62∧Q (.int i) h')):WC G F (b+1) fr h (.bi "len") [.ref n] Q X:=by
 refine .mk ?_;intro own ae A P m s Q' E' f' a6 R jL hv c d;obtain rfl:=jL;obtain⟨u',r,rfl,⟨ad,h1,rfl⟩,rfl⟩:=hv;obtain⟨bg,xs,k,q1,q2,q3,q4,q5,I⟩:=R.uN hn;obtain rfl:bg=ad:=aU (q1.symm.trans h1);refine agk kind_len plain_len entry_len (args_len1 _) ?_;unfold Builtin.«len»;refine wb (m:=oneArg "len" _) (aD ?_);refine wb (m:=P_ (.ref bg.1) (dL "__len__")) (special_fn R.fT I hs (eW.mp hf) (PO (w.run own ae A.in1 P m s _ _ _ (R.lower A.in1 rfl (bT _) rfl rfl (by show A.units+1≤_;exact eZ aJ _):Rel G F b own ae A.in1 P m fr h s) rfl (aY.one ⟨bg,q1,rfl⟩) λv h' v' s' P' m' hq hP hm hv R'=>?_)));obtain⟨i,rfl,hi,hq⟩:=hq;obtain⟨t,rfl⟩:=hv;refine wb (dD (aD ?_));refine wb (wpAny_letGo ?_);show aw _ _ (if(i:Int) <0 then _ else _) _ _ _;rw[aK (qv.mpr (jp _))];show aw _ _ (if(i:Int)≥2^63 then _ else _) _ _ _;rw[aK (Jm hi)];refine wb (wpAny_mkInt (aD (aT _ rfl ?_)));exact c _ _ _ _ _ _ hq hP hm ⟨_,rfl⟩ ((R.K7 R' rfl).tok _)
theorem UR {f:SV} {f':Value} {args:List Expr} {pos:Pos} {K:List SV→SH→Prop} {X:QX} {Q':Value→ak→Prop} {E':Value→ak→Prop} (hf:callable G f=ab) (hs:∀ae,(ju pos (gg args ae)).any (·.1)=an)
  (w:j5 G F b fr h args K X) (R:Rel G F b own ae A P m fr h s) (hv:VR P m f f') (d:iK G F b own ae A P m fr X E')
  (c:∀vs aC a6 bz cE cw,K vs aC→P.le cE→m.le cw→aY cE cw vs a6→Rel G F b own ae A cE cw fr aC bz→aw (aQ G.prog G.w) A (o_ f' a6) Q' E' bz):
  aw (aQ G.prog G.w) A (wR pos f' [] (ju pos (gg args ae)) []) Q' E' s:=by
 refine callWith_of (P:=λhp=>G.K.In hp) (by rw[hs ae];rfl) (λhp K=>Lm hf hv hp K) ?_;have body:=w.run own ae A P m s pos (λvs s'=>G.K.In s'.heap∧aw (aQ G.prog G.w) A (o_ f' ([]++vs) []) Q' E' s') E' R (λvs aC a6 bz cE cw hq hP hm qm bm=>
  ⟨bm.fT,c vs aC a6 bz cE cw hq hP hm qm bm⟩) d
 exact Ml (hs ae) body
inductive zX (G:Gl) (h:SH):List SV→dB→Prop
 |lst {n:Nm} {vs:List SV} (hn:h n=aa (.list vs)):zX G h [.ref n] (.enumL n)
 |tup {vs:List SV}:zX G h [.tup vs] (.enumT vs)
theorem UH {func:Expr} {args:List Expr} {pos:Pos} {Q:dB→SH→Prop} (uc:∀ae,d8 (.Call func args [] pos) ae=(do wR pos (←d8 func ae) [] (ju pos (gg args ae)) []))
  (hs:∀ae,(ju pos (gg args ae)).any (·.1)=an)
  (w:WE G F b fr h func (λf ag=>f=.ty "enumerate"∧j5 G F b fr ag args (λvs aC=>∃k,zX G aC vs k∧Q k aC) X) X):WI G F b fr h (.Call func args [] pos) Q X:=by
 refine .mk ?_;intro own ae A P m s Q' E' R c d;rw[uc ae];refine wb (w.run own ae A P m s _ _ R (λf ag f' a5 bW bV hq hP hm hf a7=>?_) d);obtain⟨rfl,hq⟩:=hq;refine UR (f:=.ty "enumerate") rfl hs hq a7 hf (d.mono hP hm) λvs aC a6 bz cE cw hk cQ cK hv bm=>?_;obtain rfl:f'=.type "enumerate":=hf;obtain⟨k,hk,hq⟩:=hk;have fin {J e:ax} {h':cO} {T:String} {fs:Array Value} (hE:IsEnum h' e J 0 .none) (hk:∀b o,bz.heap.get? b=aa o→h'.get? b=aa o) (hI:kH k 0 cE cw h' e [e,J]) (he:bz.heap.get? e=af) (hJ:bz.heap.get? J=af) (x:∃o,h'.get? J=aa o∧o.cls=.type T∧o.data=.fields fs) (hp:zV T=ab):
   aw (aQ G.prog G.w) A (qz (.ref e)) Q' E' {bz with heap:=h'}:=by
  refine aff hE (c _ _ _ _ {bz with heap:=h'} _ _ hq (hP.trans cQ) (hm.trans cK) (bm.grow (s':={bz with heap:=h'}) hk rfl rfl) hI ⟨λa ha=>?_⟩);rcases dA.mp ha with rfl|ha
  ·obtain⟨q1,q2,q3,q4⟩:=bm.fresh he
   exact(sQ q1 q3 q2 q4 _ hE (wc rfl aV aV) (pt rfl))
  ·cases bU.mp ha
   obtain⟨q1,q2,q3,q4⟩:=bm.fresh hJ;exact(t8 q1 q3 q2 q4 (xo hp x))
 have JG:bz.heap.get? bz.heap.objs.size=af:=zE (au _);have rI:bz.heap.get? (bz.heap.objs.size+1)=af:=zE (bT _);have dh:bz.heap.objs.size+1≠bz.heap.objs.size:=agl _
 cases hk with
 |lst hn=>
  obtain⟨u',r,rfl,⟨ad,uU,rfl⟩,rfl⟩:=hv;obtain⟨bg,xs,kk,q1,q2,q3⟩:=bm.listAt hn;obtain rfl:bg=ad:=aU (q1.symm.trans uU);exact call_enumerate_list ⟨_,q2,rfl,kk,rfl⟩ λh' hE hit hsz hk=>fin hE hk ⟨_,_,rfl,dh,hE,bg,uU,hit⟩ rI JG hit rfl
 |tup=>
  obtain⟨u',r,rfl,hu,rfl⟩:=hv;obtain⟨a,xs,rfl,ht,hX⟩:=bm.m7 hu;exact R2 ht λh' hE hit hsz hk=>fin hE hk ⟨_,_,rfl,dh,hE,a,hu,hit⟩ rI JG hit rfl
def Ev (G:Gl) (F:FD) (b:Nat) (fr:SF) (h:SH) (elt:Expr) (gens:List dT) (scope:cu) (pos:Pos) (iter:Expr) (Q:QV) (X:QX):Prop:=
 WI G F b fr h iter (λk ag=>∃acc,ag acc=af∧Aq G (da scope F) b (g6 scope fr) (ag.set acc (.list [])) elt gens scope pos acc 0 k 0 (λ_ aC=>Q (.ref acc) aC)) X
theorem Sa {g:dT} {gs:List dT} (h:g.is_async=0):Ql (g::gs)=an:=by cases g;exact ay (λx:Int=>x !=0) h
theorem Xo {g:dT} {gs:List dT}:firstIter (g::gs) ae=d8 g.iter ae:=by cases g;rfl
theorem Jb {elt:Expr} {g:dT} {gs:List dT} {scope:cu} {pos:Pos} {Q:QV} {X:QX} {wk:Option (Value→Sem Unit)} {Q':Value→ak→Prop} {E':Value→ak→Prop}
  (hg:lR (g::gs)=ab) (ok:py scope F=ab) (oV:∀ae x,wT g.iter ae x=pure x) (w:Ev G F b fr h elt (g::gs) scope pos g.iter Q X)
  (R:Rel G F b own ae A P m fr h s) (d:iK G F b own ae A P m fr X E')
  (c:∀v aC v' bz cE cw C,Q v aC→P.le cE→m.le cw→VR cE cw v v'→Rel G F b own ae A cE cw fr aC bz→fJ G own cE cw bz.heap [C]→(∃mm,bz.heap.Ns C mm)→HK (aQ G.prog G.w) A E' wk Q' v' C (.ok .next) bz):
  aw (aQ G.prog G.w) A (comprehension (.ListComp elt (g::gs) scope pos) scope ae (firstIterPos (g::gs) pos) (newList []) (Ql (g::gs)) (firstIter (g::gs) ae) wk) Q' E' s:=by
 have K:=CR.of ok;rw[Sa (eq_of_beq (db.mp hg g (.head _))),Xo];refine wpAny_comprehension_free (e:=.ListComp elt (g::gs) scope pos) rfl (oV ae) (Wq λp hp hk=>aj (R.f.qX p.1 (K.fr p hp hk)) λc hc _=>⟨c,hc⟩) K.fn (λx hx e=>(HB K.nd hx).trans (ay aa e)) ?_;refine w.run own ae A P m s _ _ R (λk ag I T a5 bW bV hq hP hm a7 hI hT=>aj hq λacc Ea hC=>?_) d;refine xA (a7.alloc Ea (so:=.list []) (ad:=(a5.heap.objs.size,a5.heap.objs.size)) (s':={a5 with heap:=a5.heap.push {cls:=.type "list",data:=.seq #[]}})
  (λa o e=>dS _ e) rfl rfl (au _) (au _) ⟨rfl,#[],0,fP _ rfl,rfl⟩) λbm le=>si (Vq λb6 he=>?_)
 refine bM (bm.Wc K he) λmJ cV tK xP=>?_;have keep:=λ{a o} (e:a5.heap.get? a=aa o)=>PZ scope.names _ a o (dS {cls:=.type "dict",data:=.dict #[]} (dS {cls:=.type "list",data:=.seq #[]} e));have nO:=bm.OM (tK _ xP);have rk:=hC.run mJ _ A _ _ _ I T (HK (aQ G.prog G.w) A E' wk Q' (.ref a5.heap.objs.size) b6.locals) (a5.heap.objs.size,a5.heap.objs.size) cV
  (hI.move bm.tI.t le λa ha=>Ck (hT.all a ha) λ_ _ _ _ o ho _=>(keep ho).trans ho.symm)
  ⟨λa ha=>Ck (hT.all a ha) λt1 t2 t3 t4 o ho t5=>⟨(l8 t2 _).trans t1,λhx=>fB ((dS _ ho).symm.trans (tK a hx)),λn ad e=>if z:n=acc then aU ((aO z).symm.trans e)▸⟨dp (jF ho),dp (jF ho)⟩ else t3 n ad ((aK z).symm.trans e),t4,o,keep ho,t5⟩⟩
  Mu.jj λfr' j1 nr F5 Gb hq ac6 FA fY=>jw (bm.leave fY ac6 FA λl l' h1 h2=>⟨[],aU (h2.symm.trans h1),λa ha=>cS ha⟩) λl1 l2 ko=>fY.f.ns.elim λmm lJ=>c _ j1 _ nr (F5.less own) Gb _ hq (hP.trans l1) ((hm.trans le).trans FA) ⟨_,FA _ _ Mu.jj,rfl⟩ ko
   ⟨λa ha=>(bU.mp ha).symm▸ky lJ.1 λo es ep q1 q2 _=>⟨(mY nO).trans (fY.ownP _ xP),nO,λn ad e=>have z:=fY.sep n ad e;⟨λq=>z.2.2.1 (q▸xP),λq=>z.2.2.2 (q▸xP)⟩,
    wN.mpr λo z=>fB ((fY.basePR _ _ z).symm.trans (fY.ownP _ xP)),o,q1,zf q2,λv e=>nomatch q2.symm.trans e⟩⟩ ⟨mm,lJ.1⟩
 exact KX (d:=0) (g:=g) rfl hg rk (NB cV (hI.move bm.tI.t le λa ha=>Ck (hT.all a ha) λ_ _ _ _ o ho _=>(keep ho).trans ho.symm) rk)
theorem JM {elt:Expr} {g:dT} {gs:List dT} {scope:cu} {pos:Pos} (hg:lR (g::gs)=ab) (ok:py scope F=ab) (oV:∀ae x,wT g.iter ae x=pure x)
  (w:Ev G F b fr h elt (g::gs) scope pos g.iter Q X):WE G F b fr h (.ListComp elt (g::gs) scope pos) Q X:=by
 refine .mk ?_;intro own ae A P m s Q' E' R c d;rw[eval_ListComp];refine Jb hg ok oV w R d λv aC v' bz cE cw C hq hP hm hv bm hT lJ=>?_;exact xE lJ λmm lJ=>⟨mm,lJ,λh' hs=>c v aC v' _ cE cw hq hP hm hv (bm.oH (s':={bz with heap:=h'}) hT (λa o ha e=>(hs.2 a λz=>ha (bU.mpr z)).trans e) rfl rfl)⟩
noncomputable def GD (sc:cu) (x:Str) (p:Pos) (scope:cu) (cpos:Pos):Bool:=sc.names.lookup x==aa .local && p.line==cpos.line && !(scope.names.any λ(n,k)=>n==x && (k==.local||k==.cell))
theorem QY (R:Rel G F b own ae A P m fr h s) {x:Str} {p:Pos} {elt:Expr} {gens:List dT} {scope:cu} {cpos:Pos} {line:Nat}:
  Dg (.ListComp elt gens scope cpos) (aa (.Name x p)) line ae=pure (GD F.sc x p scope cpos):=by
 have hk:ae.blockKind=.function:=by
  unfold Env.blockKind;rw[R.f.sc,R.f.kind];rfl
 unfold Dg GD;simp only[hk,PD,R.f.sc];rfl
theorem Zn {x:Str} {p pos:Pos} {elt:Expr} {g:dT} {gs:List dT} {scope:cu} {cpos:Pos} {Q:QS} {X:d0} (hg:lR (g::gs)=ab) (ok:py scope F=ab) (oV:∀ae x,wT g.iter ae x=pure x) (hx:pE F x=ab)
  (w:Ev G F b fr h elt (g::gs) scope cpos g.iter (λv ag=>Q .next (fr.put x v) ag) (λy h=>X y fr h)):WS G F b fr h (.Assign [.Name x p] (.ListComp elt (g::gs) scope cpos) pos) Q X:=by
 refine .mk ?_;intro own ae A P m s Q' E' R c d;have e:=QY R (x:=x) (p:=p) (elt:=elt) (gens:=g::gs) (scope:=scope) (cpos:=cpos) (line:=pos.line);have put:=λ{v aC}=>MJ (G:=G) (b:=b) (pos:=p) (X:=X) (Q:=λfr' h'=>fr'=fr.put x v∧h'=aC) hx ⟨rfl,rfl⟩
 cases IF:GD F.sc x p scope cpos with
 |false=>
  refine ae2 ((JM hg ok oV w).run own ae A P m s _ _ R (λv ag v' a5 bW bV hq hP hm hv a7=>?_) d.jW) (e.trans (ay pure IF)) rfl;exact put.run own ae A bW bV a5 _ _ v' a7 hv (λfr' h' s' P' m' q a b R'=>c .next (fr.put x v) ag .next _ _ _ hq (hP.trans a) (hm.trans b) rfl (q.1▸q.2▸R')) (d.mono hP hm)
 |true=>
  rw[exec_Assign_Name_used _ _ _ _ (e.trans (ay pure IF))];refine wb (jG (wb ?_));show aw _ _ (do let _ ←comprehension (.ListComp elt (g::gs) scope cpos) scope ae (firstIterPos (g::gs) cpos) (newList []) (Ql (g::gs)) (firstIter (g::gs) ae) (aa (o8 (.Name x p) ae))) _ _ _;refine wb ?_;refine Jb hg ok oV w R d.jW λv aC v' bz cE cw C hq hP hm hv bm hT lJ=>od lJ λmm o es ep n1 n2=>xA (bm.hold hT) λcV le=>?_;refine put.run own ae A _ cw bz _ _ v' cV (hv.mono le.t .rfl) (λfr' h' s' P' m' q a b' R'=>?_) (d.mono (hP.trans le) hm);exact xD (bm.drop hT R' a b') λl1 l2 ko adx hex=>⟨mm,⟨o,es,ep,(hex C (.head _)).trans n1,n2⟩,λh' hs=>aD (aD (c .next (fr.put x v) aC .next _ _ _ hq (hP.trans l1) (hm.trans b') rfl (q.1▸q.2▸ko.oH (s':={s' with heap:=h'}) adx (λa o ha e=>(hs.2 a λz=>ha (bU.mpr z)).trans e) rfl rfl)))⟩
theorem Rel.slots (R:Rel G F b own ae A P m fr h s) {l:List Env} (hl:A.frames=aa l) {hp:cO} (hs:Heap.SlotsOnly (l.filterMap (·.frame)) s.heap hp) (t:Nat):
  Rel G F b own ae A P m fr h {s with heap:=hp,toks:=t}:=by
 obtain⟨Ac,h1,h2,h3,h4,h5⟩:=R.frs;obtain rfl:=aU (h1.symm.trans hl);have Bp:∀n ad,m n=aa ad→ad.1∉Ac.filterMap (·.frame)∧ad.2∉Ac.filterMap (·.frame):=λn ad e=>by
  refine mE (R.sep n ad e) λq1 q2 q3 q4=>?_;refine⟨λz=>?_,λz=>?_⟩
  ·rcases h4 _ z with w|⟨o,w⟩
   ·exact q3 w
   ·rw[q1] at w;exact a8 w
  ·rcases h4 _ z with w|⟨o,w⟩
   ·exact q4 w
   ·rw[q2] at w;exact a8 w
 refine⟨R.gens,R.os,λa o e=>?_,R.basePR,⟨Ac,h1,h2.of_slotsOnly hs,h3,h4,λa o e=>?_⟩,λn so e=>?_,R.dom,R.inj,R.sep,R.ownP,R.f.keep .rfl .rfl λa _ o e=>?_,R.depth,R.units,R.guards,R.quiet⟩
 ·exact(hs.2.1 a λz=>by have:=(h2.mem z).1;rw[e] at this;exact fB this).trans (R.bs a o e)
 ·refine aj (h5 a o e) λsl e1 e2=>?_
  refine xE (hs.2.2 a _ e1) λYf e3=>?_;refine(aT Yf e3 (λz=>?_));have:=hs.2.1 a z;rw[e1] at this;have:=ay (λo=>o.map (·.slots)) (e3.symm.trans this);simp at this;exact this.trans (e2 z)
 ·refine aj (R.obj n so e) λad q1 q2=>?_
  refine xA (Bp n ad q1) λn1 n2=>?_;exact(aT ad q1 (q2.mono aW.le.rfl.t Mu.le.rfl (λo e=>(hs.2.1 _ n1).trans e) (λo e=>(hs.2.1 _ n2).trans e)))
 ·refine xE (hs.2.2 a o e) λsl e'=>?_
  exact(cL _ e' rfl rfl)
structure wt (G:Gl) (own:List ax) (P:aW) (m:Mu) (hp:cO) (e tb:ax) (x:String):Prop where
 free:fJ G own P m hp [e,tb]
 at_:∃oe vs tM uW,hp.get? e=aa oe∧oe.cls=.type x∧oe.data=.fields vs∧vs[1]? =aa (.ref tb)∧hp.get? tb=aa tM∧tM.cls=.type "traceback"∧tM.data=.fields uW∧3<uW.size
 ne:e≠tb
theorem wt.move {hp bY:cO} {e tb:ax} {x:String} (N:wt G own P m hp e tb x) (hT:fJ G own P' m' bY [e,tb]) (hk:∀a∈[e,tb],bY.get? a=hp.get? a):wt G own P' m' bY e tb x:=by
 obtain⟨oe,vs,tM,uW,h1,h2,h3,h4,h5,h6⟩:=N.at_;exact⟨hT,⟨oe,vs,tM,uW,(hk e dv).trans h1,h2,h3,h4,(hk tb (.tail _ (.head _))).trans h5,h6⟩,N.ne⟩
theorem yZ {o:Obj} {x:String} {vs:Array Value} (hc:o.cls=.type x) (hx:x≠"tuple"∧x≠"range") (hd:o.data=.fields vs):¬jR o:=wc hc hx.1 hx.2
theorem Ur (R:Rel G F b own ae A P m fr h s) {e:ax} {x:String} (hx:x≠"tuple"∧x≠"range") (N:An G.base s.heap P m own e x) {Q:Unit→ak→Prop} {E:Value→ak→Prop}
  (c:∀s' tb,Rel G F b own ae A P m fr h s'→wt G own P m s'.heap e tb x→Q () s'):aw (aQ G.prog G.w) A (HO (.ref e) ae) Q E s:=by
 obtain⟨oe,vs,he,wp,hd,h1⟩:=N.obj;have hsz:1<vs.size:=(nV.mp h1).1;obtain⟨l,l1,l2,⟨e0,l',rfl,l3⟩,l4,l5⟩:=R.frs;refine gC l2.2.1 λL oL f1 f2 f3 f4=>?_;unfold HO;simp only[(l3▸f1:ae.frame=aa L)];refine wb (ut he hd h1 ?_);rw[aK aV];unfold PySem.frameOf;refine wb (wb (wpAny_frameEnvs l1 ?_));rw[(by simp[List.dropWhile,l3]:((e0::l').dropWhile λx=>x.frame !=ae.frame)=e0::l')];unfold frameObject;refine wb (wb (wpAny_readyFrames_fun l2 λag ND=>aD ?_));rw[f1];refine aD ?_;refine wb (wpAny_entryPlaceOf λpl qn=>?_);unfold EntryCells.newEntry newFields;refine wb (si ?_ (qn.sizeOk5 _ _ _ _ _));have a7:=R.slots l1 ND s.toks;have Xd:e∉(e0::l').filterMap (·.frame):=λz=>by
  refine l_ (l2.mem z) λ_ o ho hn=>?_;rw[he] at ho;obtain rfl:=aU ho;exact hn vs hd
 have MK:ag.get? e=aa oe:=(ND.2.1 e Xd).trans he;have DN:=dS (h:=ag) {cls:=.type "traceback",dict:=af,data:=.fields ([eG,.ref L,.none,e_ L,.none]++(if pl.isEmpty then uB 6 eG else pl)).toArray} MK;refine sf DN hd hsz ?_;have JZ:ag.objs.size≠e:=dF (jF MK);have qo:=HG hd (·.setIfInBounds 1 (Dh ag.objs.size));have bm:Rel G F b own ae A P m fr h {s with heap:=ag.push {cls:=.type "traceback",dict:=af,data:=.fields ([eG,.ref L,.none,e_ L,.none]++(if pl.isEmpty then uB 6 eG else pl)).toArray}}:=
  a7.grow (s':={s with heap:=ag.push {cls:=.type "traceback",dict:=af,data:=.fields ([eG,.ref L,.none,e_ L,.none]++(if pl.isEmpty then uB 6 eG else pl)).toArray}}) (λa o e=>dS _ e) rfl rfl
 have UX:fJ G own P m (ag.push {cls:=.type "traceback",dict:=af,data:=.fields ([eG,.ref L,.none,e_ L,.none]++(if pl.isEmpty then uB 6 eG else pl)).toArray}) [e]:=⟨λa ha=>by
  obtain rfl:a=e:=by simpa using ha
  exact(sQ N.oh N.own N.mu N.base oe DN (yZ wp hx hd) (pt hd))⟩
 have w5:r_ e (ag.push {cls:=.type "traceback",dict:=af,data:=.fields ([eG,.ref L,.none,e_ L,.none]++(if pl.isEmpty then uB 6 eG else pl)).toArray}) _:=o9 (f:=uC (·.setIfInBounds 1 (.ref ag.objs.size))) ..;have ub:=(w5.2 ag.objs.size JZ).trans (fP ag rfl);refine mE (a7.free (s:={s with heap:=ag,toks:=s.toks}) (au ag.objs.size)) λg1 g2 g3 g4=>?_;have rI:=kZ (uC (·.setIfInBounds 1 (.ref ag.objs.size))) DN (PQ qo);refine c _ ag.objs.size (bm.oH (s':={s with heap:=(ag.push {cls:=.type "traceback",dict:=af,data:=.fields ([eG,.ref L,.none,e_ L,.none]++(if pl.isEmpty then uB 6 eG else pl)).toArray}).update e (uC (·.setIfInBounds 1 (.ref ag.objs.size)))}) UX (λa o ha ea=>(w5.2 a (by simpa using ha)).trans ea) rfl rfl) ⟨⟨λa ha=>?_⟩,⟨_,_,_,_,rI,(Di ..).trans wp,qo,by simp[hsz],ub,rfl,rfl,by exact aJ⟩,Ne.symm JZ⟩;rcases dA.mp ha with rfl|ha
 ·exact(sQ N.oh N.own N.mu N.base _ rI (yZ ((Di ..).trans wp) hx qo) (pt qo))
 ·obtain rfl:a=ag.objs.size:=by simpa using ha
  exact(sQ g1 g3 g2 g4 _ ub (yZ rfl aV rfl) (pt rfl))
theorem Lh (R:Rel G F b own ae A P m fr h s) {e tb:ax} {x:String} (hx:x≠"tuple"∧x≠"range") (N:wt G own P m s.heap e tb x) {Q:Unit→ak→Prop} {E:Value→ak→Prop}
  (c:∀s',Rel G F b own ae A P m fr h s'→wt G own P m s'.heap e tb x→Q () s'):aw (aQ G.prog G.w) A' (setFlight (.ref e) af) Q E s:=by
 obtain⟨oe,vs,tM,uW,h1,h2,h3,h4,h5,h6,h7,h8⟩:=N.at_;refine wpAny_setFlight_none h1 h3 h4 h5 h7 h8 ?_;have w5:r_ tb s.heap _:=o9 (f:=uC (·.setIfInBounds 3 .none)) ..;have qo:=HG h7 (·.setIfInBounds 3 eG);have oG:=kZ (uC (·.setIfInBounds 3 eG)) h5 (PQ qo);have rI:=(w5.2 e N.ne).trans h1;refine c _ (R.oH (s':={s with heap:=s.heap.update tb (uC (·.setIfInBounds 3 .none))}) N.free (λa o ha ea=>(w5.2 a (λz=>ha (by simp[z]))).trans ea) rfl rfl) ⟨⟨λa ha=>?_⟩,⟨_,_,_,_,rI,h2,h3,h4,oG,(Di ..).trans h6,qo,by simpa using h8⟩,N.ne⟩;have base:=N.free.all a ha;rcases dA.mp ha with rfl|ha
 ·exact(sQ base.1 base.2.1 base.2.2.1 base.2.2.2.1 _ rI (yZ h2 hx h3) (pt h3))
 ·obtain rfl:a=tb:=by simpa using ha
  exact(sQ base.1 base.2.1 base.2.2.1 base.2.2.2.1 _ oG (yZ ((Di ..).trans h6) aV qo) (pt qo))
noncomputable def FD.loud (F:FD):FD:={F with q:=an}
theorem Rel.mark (R:Rel G F b own ae A P m fr h s) (x:Option Value):Rel G F.loud b own ae (A.mark x) P m fr h s:=
 ⟨R.gens,R.os,R.bs,R.basePR,R.frs,R.obj,R.dom,R.inj,R.sep,R.ownP,⟨R.f.sc,R.f.kind,R.f.glob,R.f.blt,R.f.q8,R.f.ns,R.f.l9,R.f.qX,R.f.ug,R.f.apart,R.f.mq⟩,R.depth,R.units,R.guards,λq=>by exact cJ q⟩
theorem Rel.unmark {Rg:aW} {abh:Mu} {d_:SF} {aA:SH} {dG:ak} {x:Option Value} (Co:Rel G F b own ae A Rg abh d_ aA dG) (R:Rel G F.loud b own ae (A.mark x) P m fr h s):Rel G F b own ae A P m fr h s:=
 ⟨R.gens,R.os,R.bs,R.basePR,R.frs,R.obj,R.dom,R.inj,R.sep,R.ownP,⟨R.f.sc,R.f.kind,R.f.glob,R.f.blt,R.f.q8,R.f.ns,R.f.l9,R.f.qX,R.f.ug,R.f.apart,R.f.mq⟩,Co.depth,Co.units,Co.guards,Co.quiet⟩
def XM (G:Gl) (x:String) (c:SV) (r:Bool):Prop:=
 ∀{F b own ae A P m fr h s} (A':dP) (Q:Bool→ak→Prop) (E:Value→ak→Prop) (v':Value) (e:ax),Rel G F b own ae A P m fr h s→VR P m c v'→s.TypeIs (.ref e) x→Q r s→aw (aQ G.prog G.w) A' (excMatches (.ref e) v') Q E s
theorem S8 {x T:String} {r:Bool} (E_:lg (.type T) (.type "BaseException")=pure ab) (xp:lg (.type ((Manifest.find? T).elim "type" λx=>x.metatype)) (.type "tuple")=pure an)
  (tQ:lg (.type x) (.type T)=pure r):XM G x (.ty T) r:=by
 intro F b own ae A P m fr h s A' Q E v' e R hv hT hq;obtain rfl:=hv;exact wpAny_excMatches_type hT E_ xp tQ hq
theorem M4 {body:List bI} {t:Expr} {vQ:bI} {uS:List bI} {Aj pos:Pos} {Q:QS} {X:d0}
  (w:jN G F b fr h body Q (λx bA ag=>(x≠"tuple"∧x≠"range")∧WE G F.loud b bA ag t (λc aC=>XM G x c ab∧jN G F.loud b bA aC (vQ::uS) Q nX) lz)):
  WS G F b fr h (.Try body [.ExceptHandler (aa t) af (vQ::uS) Aj] [] [] pos) Q X:=by
 refine .mk ?_;intro own ae A P m s Q' E' R c d;refine wpAny_Try_except (w.run own ae A P m s _ _ R (λf bA ag f' a5 bW bV hq hP hm hf a7=>?_) (λx bA ag e a5 bW bV hq hP hm N a7=>?_))
 ·cases f with
  |next=>obtain rfl:=hf;exact wpAny_execs_nil (c _ _ _ _ _ _ _ hq hP hm rfl a7)
  |brk=>obtain rfl:=hf;exact c _ _ _ _ _ _ _ hq hP hm rfl a7
  |cont=>obtain rfl:=hf;exact c _ _ _ _ _ _ _ hq hP hm rfl a7
  |ret v=>refine aj hf λv' bu hv=>?_;clear hf;subst bu;exact c _ _ _ _ _ _ _ hq hP hm ⟨v',rfl,hv⟩ a7
 ·refine xA hq λhx hq=>?_
  refine Ur a7 hx N λbz tb bm Zr=>Lh bm hx Zr λef cV D0=>?_;refine wpAny_handleBy_cons (codeAny_handlers_test ?_) (by intro q;cases q);refine xA (cV.hold D0.free) λfY le=>?_;refine hq.run own ae (A.mark (aa (.ref e))) _ bV ef _ _ (fY.mark _) (λcv aC c' yz y_ vn AG sG lS hc ko=>?_) pA;refine xA AG λhX hw=>?_;clear AG;refine xD (cV.drop D0.free (cV.unmark ko) sG lS) λl1 l2 oR ac4 hex=>?_;have NK:=D0.move ac4 hex;have Ga:yz.TypeIs (.ref e) x:=by
   obtain⟨oe,vs,tM,uW,h1,h2,_⟩:=NK.at_;exact⟨oe,h1,h2⟩
  refine hX _ _ _ c' e ko hc Ga ?_;simp only[if_true];refine codeAny_handlers_suite (Lh oR hx NK λRl rq anj=>?_);exact hw.run own ae (A.mark (aa (.ref e))) _ vn Rl _ _ (rq.mark _) (λf et cM f' amb aji aou aba Sm TB hf acu=>c _ _ _ _ _ _ _ aba ((hP.trans l1).trans Sm) ((hm.trans lS).trans TB) hf (rq.unmark acu)) s9
theorem Je {M:i0} {A:dP} {E:Value→ak→Prop} {s:ak} {T:String} {Q:Bool→ak→Prop} (E_:lg (.type T) (.type "BaseException")=pure ab) (h:Q ab s):aw M A (isExcClass (.type T)) Q E s:=
 wb (mW (a:=ab) rfl (pd rfl (mW E_ h)))
theorem LS {G:Gl} {x T U:String} {r q:Bool} (hT:lg (.type T) (.type "BaseException")=pure ab) (hU:lg (.type U) (.type "BaseException")=pure ab)
  (h1:lg (.type x) (.type T)=pure r) (h2:lg (.type x) (.type U)=pure q):XM G x (.tup [.ty T,.ty U]) (r||q):=by
 intro F b own ae A P m fr h s A' Q E v' e R hv Ga hq;obtain⟨a,xs,rfl,⟨o,ho,hc,n,hd⟩,hX⟩:=R.m7 hv;have e1:xs.toList=[.type T,.type U]:=bC hX λv1 r1 e1 D3 h=>bC h λv2 r2 e2 Gf e3=>e1.trans (congr (ay Dt D3) (e2.trans (congr (ay Dt Gf) e3)));refine wb (ux ⟨o,ho,hc⟩ afk (pd rfl (wb (uu ho hd (wb (aD (wb ?_)))))));rw[agm,e1,pb];refine wb (wb (Je hT (dU rfl (aD ?_))));refine(?_:aw _ _ (forIn [zG U] PUnit.unit _) _ _ _);rw[pb];refine wb (wb (Je hU (dU rfl (aD (aD ?_)))));refine wb (uz Ga (wb ?_));rw[pb];refine wb (wb (mW h1 ?_))
 cases r with
 |true=>exact pd rfl (aD (aD (aD hq)))
 |false=>
  refine dU rfl (aD ?_);refine(?_:aw _ _ (forIn [zG U] (af,()) _) _ _ _);rw[pb];refine wb (wb (mW h2 ?_))
  cases q with
  |true=>exact pd rfl (aD (aD (aD hq)))
  |false=>exact dU rfl (aD (aD (aD hq)))
theorem Gx:lg (.type "KeyError") (.type "BaseException")=pure ab:=by rw[pf _ _];kernel_rfl
theorem Nt:lg (.type "IndexError") (.type "BaseException")=pure ab:=by rw[pf _ _];kernel_rfl
theorem LF:lg (.type "KeyError") (.type "KeyError")=pure ab:=by rw[pf _ _];kernel_rfl
theorem Vb:lg (.type "KeyError") (.type "IndexError")=pure an:=by rw[pf _ _];kernel_rfl
theorem Tu:lg (.type "IndexError") (.type "KeyError")=pure an:=by rw[pf _ _];kernel_rfl
theorem XF:lg (.type "IndexError") (.type "IndexError")=pure ab:=by rw[pf _ _];kernel_rfl
theorem TO {G:Gl}:XM G "KeyError" (.ty "KeyError") ab:=S8 Gx (by rw[pf _ _];kernel_rfl) LF
theorem Wh {G:Gl}:XM G "IndexError" (.tup [.ty "IndexError",.ty "KeyError"]) ab:=LS Nt Gx XF Tu
theorem χ {G:Gl}:XM G "KeyError" (.tup [.ty "IndexError",.ty "KeyError"]) ab:=LS Nt Gx Vb LF
theorem Zu {o e:Expr} {a:Str} {AE pos:Pos} {op:wM} {Q:QS} {X:d0}
  (w:WE G F b fr h o (λu ag=>WO G F b fr ag [u] (mF λx=>mT x a ab) (λv aC=>WE G F b fr aC e (λy cM=>WO G F b fr cM [v,y] (bx (sd op)) (λr j1=>WO G F b fr j1 [u,r] (bx λx y=>do Dd x a y;pure .none) (λ_ uY=>Q .next fr uY) lz) lz) lz) lz) lz):
  WS G F b fr h (.AugAssign (.Attribute o a AE) op e pos) Q X:=by
 refine .mk ?_;intro own ae A P m s Q' E' R c d;have TA:exec (.AugAssign (.Attribute o a AE) op e pos) ae=(do
  kb pos
  let ov ←d8 o ae
  let new ←jt [ov] do
   kb AE.atName
   let old ←mT ov a ab
   let v ←jt [old] (d8 e ae)
   kb pos
   operate [old,v] (sd op old v)
  kb AE.atName
  jt [new,ov] (Dd ov a new)
  release [new,ov] []
  pure .next):=rfl
 rw[TA];refine wb (jG (wb (w.run own ae A P m s _ _ R (λu ag u' a5 bW bV hq hP hm hu a7=>?_) pA)));refine wb (dD (wb (jG (wb (hq.run own ae A bW bV a5 _ _ [u'] a7 (aY.one hu) (λv aC v' bz cE cw g0 cQ cK hv bm=>?_) pA)))));refine wb (dD (g0.run own ae A cE cw bz _ _ bm (λy cM y' ef lI m_ re f8 ie hy cV=>?_) pA));refine wb (jG (Qa (re.run own ae A lI m_ ef _ _ [v',y'] cV ⟨_,_,rfl,hv.mono f8.t ie,_,_,rfl,hy,rfl⟩ (λr j1 r' nr F5 Gb V7 M6 Mv hr fY=>?_) pA)));have:=V7.run own ae A F5 Gb nr (λ_ s'=>aw (aQ G.prog G.w) A (do release [r',u'] [];pure Flow.next) Q' E' s') E' [u',r'] fY ⟨_,_,rfl,(hu.mono ((cQ.trans f8).trans M6).t ((cK.trans ie).trans Mv)),_,_,rfl,hr,rfl⟩ (λz uY z' yz y_ vn AG sG lS hz ko=>?_) pA
 ·refine wb (jG (wb (dD ?_)))
  exact DT this
 ·exact wb (PF (aD (c _ _ _ _ _ _ _ AG ((((hP.trans cQ).trans f8).trans M6).trans sG) ((((hm.trans cK).trans ie).trans Mv).trans lS) rfl ko)))
section
open SetTable
theorem Ro {v:SV} (h:zS v=ab) (n:Nat):SV.key n v=ab:=by cases v<;>simp_all [zS,SV.key]
theorem sH {v:SV} (h:fc v=ab) (n:Nat):SV.key (n+1) v=ab:=by
 cases v<;>simp[fc] at h
 show SV.keys n _=ab;exact DC.mpr λx hx=>Ro (h x hx) n
theorem cq.at {w:cD}:∀{vs:List SV} {es:List (Int×Value)} {i:Nat} {v:SV},cq w P m vs es→vs[i]? =aa v→∃e,es[i]? =aa e∧e.1=bZ w v∧VR P m v e.2
 |[],_,i,v,_,e=>a8 (List.getElem?_nil.symm.trans e)
 |v::vs,_,0,x,h,e=>by refine gC h λy r ar h1 h2 _=>?_;clear h;subst ar;obtain rfl:=aU e;exact(cL y rfl h1 h2)
 |v::vs,_,i+1,x,h,e=>by refine gC h λy r ar _ _ h3=>?_;clear h;subst ar;exact cq.at (i:=i) h3 e
theorem cq.length {w:cD}:∀{vs:List SV} {es:List (Int×Value)},cq w P m vs es→vs.length=es.length
 |[],_,h=>by obtain rfl:=h;rfl
 |v::vs,_,h=>by refine gC h λy r ar _ _ h3=>?_;clear h;subst ar;exact ay Hr (cq.length h3)
theorem cq.at' {w:cD} {vs:List SV} {es:List (Int×Value)} {i:Nat} {e:Int×Value} (H:cq w P m vs es) (he:es[i]? =aa e):∃v,vs[i]? =aa v∧e.1=bZ w v∧VR P m v e.2:=by
 have hl:=(cU.mp he).1;rw[←H.length] at hl;refine bM (H.at (fb hl)) λe' q1 q2 q3=>?_;rw[he] at q1;obtain rfl:=aU q1;exact(cL _ (fb hl) q2 q3)
theorem cq.app {w:cD}:∀{vs a6:List SV} {es es':List (Int×Value)},cq w P m vs es→cq w P m a6 es'→cq w P m (vs++a6) (es++es')
 |[],_,_,_,h,h'=>by obtain rfl:=h;exact h'
 |v::vs,_,_,_,h,h'=>by refine gC h λy r ar h1 h2 h3=>?_;clear h;subst ar;exact⟨y,_,rfl,h1,h2,cq.app h3 h'⟩
theorem cq.take {w:cD}:∀{vs:List SV} {es:List (Int×Value)} (k:Nat),cq w P m vs es→cq w P m (vs.take k) (es.take k)
 |vs,es,0,h=>rfl
 |[],_,k+1,h=>by obtain rfl:=h;exact rfl
 |v::vs,_,k+1,h=>by refine gC h λy r ar h1 h2 h3=>?_;clear h;subst ar;exact⟨y,_,rfl,h1,h2,cq.take k h3⟩
theorem cq.drop {w:cD}:∀{vs:List SV} {es:List (Int×Value)} (k:Nat),cq w P m vs es→cq w P m (vs.drop k) (es.drop k)
 |vs,es,0,h=>h
 |[],_,k+1,h=>by obtain rfl:=h;exact rfl
 |v::vs,_,k+1,h=>by refine gC h λy r ar h1 h2 h3=>?_;clear h;subst ar;exact cq.drop k h3
theorem cq.ins {w:cD} {vs:List SV} {es:List (Int×Value)} {v:SV} {x:Value} {k:Nat} (H:cq w P m vs es) (hv:VR P m v x):cq w P m (kK vs k v) (kK es k (bZ w v,x)):=
 cq.app (H.take k) ⟨_,_,rfl,rfl,hv,H.drop k⟩
theorem cq.mapIdx {w:cD} {vs:List SV} {es:List (Int×Value)} (H:cq w P m vs es):∀(l:List Nat),(∀i∈l,i<vs.length)→cq w P m (l.filterMap (vs[·]?)) (l.filterMap (es[·]?))
 |[],_=>rfl
 |i::l,hl=>by
  refine bM (H.at (fb (hl i dv))) λe q1 q2 q3=>?_;rw[qC,qC,q1,fb (hl i dv)];exact⟨e,_,rfl,q2,q3,cq.mapIdx H l λj hj=>hl j (eS _ hj)⟩
theorem aag {α:Type} (l:List α) (p:Nat) (x:α):(kK l p x).Perm (x::l):=by
 unfold kK;have:=List.perm_middle (l₁:=l.take p) (a:=x) (l₂:=l.drop p)
 rwa [Px] at this
theorem Rel.setAt (R:Rel G F b own ae A P m fr h s) {n:Nm} {vs:List SV} (hn:h n=aa (.set vs)):
  ∃ad es k t,m n=aa ad∧ad.2=ad.1∧s.heap.get? ad.1=aa (gA es k t)∧gb t (es.toList.map (·.1))∧cq G.w P m vs es.toList∧vs.Nodup∧(∀v∈vs,fc v=ab)∧t.led=!(G.w.params.followText "set-order"):=by
 obtain⟨ad,q1,q2,es,k,t,q3⟩:=R.obj n _ hn;exact⟨ad,es,k,t,q1,q2,q3⟩
theorem oU.fits {t:c8} {hs:List Int} (T:oU t hs) (h:hs.length≤t.mask):t.fits hs.length=ab:=by
 unfold SetTable.fits agn;have:=T.len;rw[fQ] at this;simp[T.AF,this,h]
theorem gb.fits {t:c8} {es:Array (Int×Value)} (T:gb t (es.toList.map (·.1))):t.fits es.size=ab:=by
 have:=T.1.fits (cj (ago (bf (pg _ (aJ (n:=3) (m:=5))) T.2)))
 rwa [aI,fQ] at this
theorem FF {α β:Type} {M:i0} {E:Value→ak→Prop} {f:α→β→Sem (ForInStep β)} {p:α→Prop} {I:β→Prop} {Q:β→ak→Prop} {l:List α} {z:β} (hl:∀x∈l,p x) (hz:I z) (fin:∀z,I z→Q z s)
  (turn:∀x z,p x→I z→∀Q':ForInStep β→ak→Prop,(∀z,I z→Q' (.yield z) s)→(∀z,Q z s→Q' (.done z) s)→aw M A' (f x z) Q' E s):aw M A' (forIn l z f) Q E s:=by
 induction l generalizing z with
 |nil=>exact aD (fin _ hz)
 |cons x l ih=>rw[pb];exact wb (turn x z (hl x (.head _)) hz _ (λz hz=>ih (λy hy=>hl y (.tail _ hy)) hz) λz hz=>aD hz)
theorem Kw {v:SV} {y:Value} {C:Value→Prop} (ci:∀i t,C (.int i t)) (cs:∀x t,C (.str x t)) (ha:zS v=ab) (hv:VR P m v y):C y:=by
 cases v with
 |int i=>exact xE hv λt e=>e▸ci i t
 |str x=>exact xE hv λt e=>e▸cs x t
 |_=>exact bd ha iB
theorem aY.all {p:SV→Prop}:∀{vs:List SV} {xs:List Value},aY P m vs xs→(∀v∈vs,p v)→∀y∈xs,∃v,p v∧VR P m v y
 |[],_,h,_=>by obtain rfl:=h;exact λy hy=>bd hy sj
 |v::vs,_,h,hp=>by
  refine bC h λx xs e h1 h2=>?_;subst e;exact λy hy=>(dA.mp hy).elim (λe=>(aT v (hp v (.head _)) (e▸h1))) (aY.all h2 (λu hu=>hp u (.tail _ hu)) y)
theorem EA (R:Rel G F b own ae A P m fr h s) {x:SV} {x':Value} (hf:fc x=ab) (hx:VR P m x x') {C:Value→Prop}
  (k:∀a o items q,s.heap.get? a=aa o→o.data=.seq items q→s.TypeIs (.ref a) "tuple"→(∀y∈items.toList,∃v,zS v=ab∧VR P m v y)→C (.ref a)):C x':=by
 cases x with
 |tup vs=>
  obtain⟨a,items,rfl,⟨o,ho,hc,q,hd⟩,h5⟩:=R.m7 hx;exact k a o items q ho hd ⟨o,ho,hc⟩ (h5.all λv hv=>db.mp hf v hv)
 |_=>exact bd hf iB
theorem I7 {M:i0} {E:Value→ak→Prop} {x:SV} {x':Value} {k:Nat} (R:Rel G F b own ae A P m fr h s) (hf:fc x=ab) (hx:VR P m x x') {Q:Bool→ak→Prop} (hq:Q an s):
  aw M A' (Du (k+1) x') Q E s:=by
 refine EA (C:=λy=>aw M A' (Du (k+1) y) Q E s) R hf hx λa o items q ho hd hT hi=>?_;unfold Du;refine wb (uz hT ?_);refine pd rfl (wb (aD ?_));refine dU rfl ?_;refine wb (uu ho hd ?_);refine wb ?_;rw[←HQ];refine FF hi (I:=λr=>r.1=af) rfl (λz hz=>?_) λy z ⟨v,hv,hy⟩ hz Q' k1 _=>?_
 ·obtain⟨r1,r2⟩:=z
  obtain rfl:r1=af:=hz;exact aD hq
 ·have:Du k y=pure an:=Kw (C:=λy=>Du k y=pure an) (λi t=>by cases k<;>rfl) (λi t=>by cases k<;>rfl) hv hy
  rw[this];exact wb (aD (dU rfl (aD (k1 _ rfl))))
theorem S9 {E:Value→ak→Prop} (R:Rel G F b own ae A P m fr h s) {x:SV} {x':Value} (hf:fc x=ab) (hx:VR P m x x') {Q:Bool→ak→Prop} (hq:Q an s)
  (l:List Value) (hl:∀y∈l,∃v,fc v=ab∧VR P m v y):aw (aQ G.prog G.w) A' (agp x' l) Q E s:=by
 refine wb (FF hl (I:=λr=>r.1=af) rfl (λz hz=>?_) λy z ⟨v,hv,hy⟩ hz Q' k1 _=>?_)
 ·obtain⟨r1,r2⟩:=z
  obtain rfl:r1=af:=hz;exact aD hq
 ·refine jJ (λ_=>aD (k1 _ rfl)) λ_=>?_
  exact wb (Iq E R 8 hx (sH hf 7) (dU rfl (wb (Iq E R 8 hy (sH hv 7) (dU rfl (wb (I7 R hf hx (dU rfl (wb (I7 R hv hy (dU rfl (aD (k1 _ rfl)))))))))))))
theorem ZX {l:List Nat} (hr:np l) {i j p:Nat} (hi:l[i]? =aa p) (hj:l[j]? =aa p):i=j:=by
 obtain⟨a,ea⟩:=cU.mp hi;obtain⟨c,ec⟩:=cU.mp hj;have:=Pu.mp hr;rcases Hp i j with q|q|q
 ·exact bd (this i j a c q) (by rw[ea,ec];exact fo _)
 ·exact q
 ·exact bd (this j i c a q) (by rw[ea,ec];exact fo _)
structure ni (w:cD) (P:aW) (m:Mu) (s:ak) (ad:ax) (vs:List SV) (es:Array (Int×Value)) (ep:Nat) (t:c8) (x:SV) (x':Value):Prop where
 ho:s.heap.get? ad=aa (gA es ep t)
 T:gb t (es.toList.map (·.1))
 H:cq w P m vs es.toList
 fl:∀v∈vs,fc v=ab
 f:fc x=ab
 x:VR P m x x'
noncomputable def ub (es:Array (Int×Value)) (i:Nat):Int:=(es[i]?.map (·.1)).getD 0
def OG (t:c8) (es:Array (Int×Value)) (hx:Int) (p:Probe) (r:Met):Prop:=∀f:Nat→Int,f=ub es→t.probe f hx p=aa r
def Bh (t:c8) (vs:List SV) (x:SV) (hx:Int) (k:Nat):Prop:=∀n,n<k→∃(i:Nat) (v:SV),t.place.toList[i]? =aa (bo t.mask hx n).j∧vs[i]? =aa v∧v≠x
variable{E:Value→ak→Prop} {Q:SetFound→ak→Prop} {ad:ax} {es:Array (Int×Value)} {ep:Nat} {t:c8} {x':Value} {hx:Int} {ly:Bool} {fuel i j:Nat} {ry:Option Probe} {next:Probe} {c:Int} {a:ax}
theorem R6 (ho:s.heap.get? ad=aa (gA es ep t)) (BD:t.fits es.size=ab) (gw:decide (t.gaveWay=ab)=an) (hp:OG t es hx (ry.getD (t.probeStart hx)) (.empty j af)) (hq:Q (.free j an) s):
  aw (aQ G.prog G.w) A' (H6 ad x' hx ly (fuel+1) ry) Q E s:=by
 refine wb (ki ho rfl BD (dU gw ?_));rw[hp]
 ·exact aD hq
 ·rfl
theorem Y2 (t:c8):t.sameMemory t.moves t.mask=aa ab:=aO (qu _)
theorem RN (a:ax):isSame (.ref a) (.ref a)=pure ab:=by unfold isSame;simp
theorem wp_led {α:Type} {M:i0} {Q:α→ak→Prop} {c:Prop} [Decidable c] {x y:Sem α} (f:aw M A' y Q E s→aw M A' x Q E s) (h:aw M A' y Q E s):aw M A' (if c then x else y) Q E s:=
 jJ (λ_=>f h) λ_=>h
theorem UY {same:Bool} (ho:s.heap.get? ad=aa (gA es ep t)) (BD:t.fits es.size=ab) (gw:decide (t.gaveWay=ab)=an) (hp:OG t es hx (ry.getD (t.probeStart hx)) (.candidate j i next)) (hs:t.slot j=.live i) (he:es[i]? =aa (c,.ref a))
  (quiet:∀{Q':Bool→ak→Prop},Q' an s→aw (aQ G.prog G.w) A' (agp x' ((es.filter (·.1==hx)).toList.map (·.2))) Q' E s) (eqv:∀{Q':Bool→ak→Prop},Q' same s→aw (aQ G.prog G.w) A' (eqBool (.ref a) x') Q' E s)
  (fh:same=ab→Q (.there (if ly then af else aa i)) s) (no:same=an→aw (aQ G.prog G.w) A' (H6 ad x' hx ly fuel (aa next)) Q E s):
  aw (aQ G.prog G.w) A' (H6 ad x' hx ly (fuel+1) ry) Q E s:=by
 refine wb (ki ho rfl BD (dU gw ?_));rw[hp]
 rotate_left
 ·rfl
 refine wp_led (λk=>wb (quiet (dU rfl k))) ?_;rw[he];refine wb (dD (eqv (wb (ki ho rfl BD ?_))));refine jJ (λe=>?_) λe=>?_
 ·obtain⟨rfl,rfl⟩:=(bR _ _).mp e
  exact aD (fh rfl)
 ·simp only[Y2,if_true,hs,he,RN]
  refine wb (wb (aD (aD ?_)))
  cases same with
  |true=>
   cases ly with
   |true=>exact bd rfl e
   |false=>exact(aD (fh rfl):aw _ _ (pure (SetFound.there (aa i))) Q E s)
  |false=>exact no rfl
theorem NU {t:c8} {vs:List SV} {x v:SV} {hx:Int} {n i:Nat} (B:Bh t vs x hx n) (hp:t.place.toList[i]? =aa (bo t.mask hx n).j) (hv:vs[i]? =aa v) (ne:v≠x):Bh t vs x hx (n+1):=λn' hn=>
 (Nat.lt_succ_iff_lt_or_eq.mp hn).elim (B n') λe=>e▸(mB i v hp hv ne)
theorem Bh.taken {t:c8} {vs:List SV} {x:SV} {hx:Int} {n n':Nat} (B:Bh t vs x hx n) (hn:n'<n):(bo t.mask hx n').j∈t.place.toList:=by
 refine eA (B n' hn) λi v e _=>?_;exact qw.mpr ⟨i,e⟩
variable{w:cD} {vs:List SV} {x:SV} {n:Nat}
theorem ni.val (S:ni w P m s ad vs es ep t x x') (hp:t.place.toList[i]? =aa n) {C:Prop} (k:∀e v,es[i]? =aa e→ub es i=e.1→vs[i]? =aa v→e.1=bZ w v→VR P m v e.2→C):C:=by
 have hl:=(cU.mp hp).1;rw[S.T.1.len,aI] at hl;have he:=fb hl;refine bM (S.H.at' he) λv a c d=>?_;have qU:=js.symm.trans he;exact k _ v qU (by unfold ub;rw[qU];rfl) a c d
theorem ni.Wb (S:ni w P m s ad vs es ep t x x') (B:Bh t vs x (bZ w x) n) (nf:(bo t.mask (bZ w x) n).j∉t.place.toList):x∉vs:=λi8=>by
 refine xE (qw.mp i8) λi hi=>?_;refine bM (S.H.at hi) λe e1 e2 _=>?_;refine aj (S.T.1.path i e.1 (dq.trans (ay _ e1))) λn0 p1 p2=>?_;rw[e2] at p1 p2;rcases Hp n0 n with q|q|q
 ·refine bC (B n0 q) λi' v r1 r2 r3=>?_
  rw[ZX S.T.1.rise r1 p1,hi] at r2;exact r3 (aU r2).symm
 ·exact nf (qw.mpr ⟨i,q▸p1⟩)
 ·exact nf (p2 n q)
theorem Ho {u:SV} {u':Value} (hu:fc u=ab) (hv:VR P m u u'):∃a,u'=.ref a:=by
 cases u with
 |tup vs=>exact jX hv λa o hv=>jX hv λitems q hv=>⟨a,hv.1⟩
 |_=>exact bd hu iB
theorem ni.turns (S:ni w P m s ad vs es ep t x x'):10*turns t.mask≤100000∧decide (t.gaveWay=ab)=an:=by
 unfold SetTable.gaveWay;rcases S.T.1.mask with e|e<;>rw[e]<;>exact⟨by exact aJ,rfl⟩
theorem Lx {E:Value→ak→Prop} (R:Rel G F b own ae A P m fr h s) (S:ni G.w P m s ad vs es ep t x x') (ly:Bool) (hu:A'.units+1<ew) {Q:SetFound→ak→Prop}
  (h1:∀i:Nat,vs[i]? =aa x→Q (.there (if ly then af else aa i)) s)
  (h2:x∉vs→∀n,(bo t.mask (bZ G.w x) n).j∉t.place.toList→(∀n',n'<n→(bo t.mask (bZ G.w x) n').j∈t.place.toList)→Q (.free (bo t.mask (bZ G.w x) n).j an) s)
  {N:Nat} (hN:(bo t.mask (bZ G.w x) N).j∉t.place.toList) (lN:N<10*turns t.mask):
  ∀(fuel k:Nat) (ry:Option Probe),ry.getD (t.probeStart (bZ G.w x))=bo t.mask (bZ G.w x) k→k≤N→N<k+fuel→Bh t vs x (bZ G.w x) k→aw (aQ G.prog G.w) A' (H6 ad x' (bZ G.w x) ly fuel ry) Q E s
 |0,k,_,_,a,c,_=>bd c (jr.mpr a)
 |fuel+1,k,ry,kL,n1,n2,hb=>by
  refine XB S.T.1 (ub es) (bZ G.w x) (I:=λn=>k≤n∧Bh t vs x (bZ G.w x) n) (λn i B hp ne=>⟨c7 B.1,S.val hp λe v _ a hv c _=>NU B.2 hp hv λq=>ne (a.trans (c.trans (q▸rfl)))⟩) hN _ k n1 (bK lN (lf _ _)) ⟨au _,hb⟩ (λn B e nf=>?_) λn i B pe hp hh=>?_
  ·exact R6 S.ho S.T.fits S.turns.2 (λf hf=>by rw[hf,kL];exact e) (h2 (S.Wb B.2 nf) n nf λn'=>B.2.taken)
  ·refine S.val hp λe v he ha hv hc hr=>?_
   have fv:=S.fl v (bQ hv);refine xE (Ho fv hr) λa ea=>?_;refine UY S.ho S.T.fits S.turns.2 (λf hf=>by rw[hf,kL];exact pe) (OK S.T.1.rise (js.symm.trans hp)) (he.trans (ay aa (jv rfl ea)):es[i]? =aa (e.1,.ref a)) (λhq=>S9 R S.f S.x hq _ λy hy=>?_)
    (λhq=>Rel.wv R 1 (ea▸hr) S.x (sC (sH fv 0)) (sC (sH S.f 0)) hu _ _ _ _ hq) (λq=>h1 i (fD q▸hv)) λq=>?_
   ·refine aj (bD.mp hy) λe he ar=>?_;subst ar
    rw[Array.toList_filter,mU] at he;refine xE (qw.mp he.1) λi' pz=>?_;refine bM (S.H.at' pz) λu u1 u2 u3=>?_;exact(aT u (S.fl u (bQ u1)) u3)
   ·have B':=NU B.2 hp hv (rX q)
    exact Lx R S ly hu h1 h2 hN lN fuel (n+1) _ rfl (jr.mp λq=>hN (B'.taken q):n+1≤N) (bK n2 (ah (bH (wH k fuel).symm) (nW (eE B.1) fuel))) B'
theorem Lg {E:Value→ak→Prop} (R:Rel G F b own ae A P m fr h s) (S:ni G.w P m s ad vs es ep t x x') (ly:Bool) (hu:A'.units+1<ew) {Q:SetFound→ak→Prop}
  (h1:∀i:Nat,vs[i]? =aa x→Q (.there (if ly then af else aa i)) s)
  (h2:x∉vs→∀n,(bo t.mask (bZ G.w x) n).j∉t.place.toList→(∀n',n'<n→(bo t.mask (bZ G.w x) n').j∈t.place.toList)→Q (.free (bo t.mask (bZ G.w x) n).j an) s):
  aw (aQ G.prog G.w) A' (setSearch ad x' (bZ G.w x) ly) Q E s:=by
 refine aj (S.T.W0 (bZ G.w x)) λN lN hN=>?_;exact Lx R S ly hu h1 h2 hN lN 100000 0 af rfl (cb _) (bK lN (ah S.turns.1 (lf _ _))) λ_ q=>bd q (mQ _)
end
section
open SetTable
theorem SH.jj {n:Nm} {o:cy} (hn:h n=aa o):h.set n o=h:=by
 funext x
 unfold SH.set
 by_cases e:x=n
 ·subst e;rw[aO rfl,hn]
 ·rw[aK e]
theorem iD {n:Nm} {o o':cy}:(h.set n o).set n o'=h.set n o':=by
 funext x
 unfold SH.set
 by_cases e:x=n
 ·rw[aO e,aO e]
 ·rw[aK e,aK e,aK e]
theorem aR {n:Nm} {o:cy}:(h.set n o) n=aa o:=aO rfl
theorem aq {n x:Nm} {o:cy} (e:x≠n):(h.set n o) x=h x:=aK e
theorem VD {E:Value→ak→Prop} (R:Rel G F b own ae A P m fr h s) {x:SV} {x':Value} (hf:fc x=ab) (hx:VR P m x x') {Q:Bool→ak→Prop} (hq:∀r,Q r s) (k:Nat):
  aw (aQ G.prog G.w) A' (zM (k+1) x') Q E s:=by
 refine EA (C:=λy=>aw (aQ G.prog G.w) A' (zM (k+1) y) Q E s) R hf hx λa o items q ho hd hT hi=>?_;unfold zM;refine wb (qA hT PySem.F.slot_tuple_hash.lookup (wb (uu ho hd (wb ?_))));rw[agm,←HQ];refine FF hi (I:=λ_=>True) trivial (λz _=>?_) λy z ⟨v,hv,hy⟩ _ Q' k1 k2=>?_
 ·obtain⟨r1,r2⟩:=z
  cases r1<;>exact aD (hq _)
 ·have:∃r,zM k y=pure r:=Kw (C:=λy=>∃r,zM k y=pure r) (λi t=>by cases k<;>exact⟨_,rfl⟩) (λi t=>by cases k<;>exact⟨_,rfl⟩) hv hy
  refine xE this λr hr=>?_;rw[hr];exact wb (aD (jJ (λ_=>aD (k2 _ (aD (hq _)))) λ_=>aD (k1 _ trivial)))
theorem Rel.UG (R:Rel G F b own ae A P m fr h s) {n:Nm} {vs gK:List SV} {ad:ax×ax} {gF:Array (Int×Value)} {k:Nat} {gt:c8} (hn:h n=aa (.set vs)) (hm:m n=aa ad) {hp:cO}
  (hs:r_ ad.1 s.heap hp) (ho:hp.get? ad.1=aa (gA gF k gt)) (T:gb gt (gF.toList.map (·.1))) (H:cq G.w P m gK gF.toList) (qN:gK.Nodup) (iA:∀v∈gK,fc v=ab) (fX:gt.led=!(G.w.params.followText "set-order")):
  Rel G F b own ae A P m fr (h.set n (.set gK)) {s with heap:=hp}:=by
 refine bM (R.obj n _ hn) λbg q1 q2 _=>?_;obtain rfl:bg=ad:=aU (q1.symm.trans hm);exact R.turn (s':={s with heap:=hp}) hn hm (λa o n1 n2 e=>(hs.2 a n1).trans e) rfl rfl ⟨q2,gF,k,gt,ho,T,H,qN,iA,fX⟩
theorem getD_map {α β:Type} (f:α→β) (l:List α) (i:Nat) (d:α):(l.map f).getD i (f d)=f (l.getD i d):=by
 rw[o7,o7,dq];exact(Option.getD_map f d _)
theorem EJ {α:Type} (dd:α) {l:List α}:∀{o:List Nat},(∀i∈o,i<l.length)→o.filterMap (l[·]?)=o.map (l.getD · dd)
 |[],_=>rfl
 |i::o,h=>by
  have hi:=h i (.head _);exact(List.filterMap_cons_some (fb hi)).trans (congr (ay Dt (o7.trans (ay (PB · dd) (fb hi))).symm) (EJ dd λj hj=>h j (.tail _ hj)))
structure Pf (w:cD) (P:aW) (m:Mu) (vs:List SV) (x:SV) (n:Nat) (t:c8) (gK:List SV) (gF:Array (Int×Value)) (gt:c8):Prop where
 W:oU gt (gF.toList.map (·.1))
 H:cq w P m gK gF.toList
 pm:gK.Perm (x::vs)
 mask:gt.mask=t.mask
 led:gt.led=t.led
 size:gF.size=n+1
theorem Q9 {α β:Type} (f:α→β) (l:List α) (p:Nat) (a:α):(kK l p a).map f=kK (l.map f) p (f a):=by
 unfold kK;rw[dM,sp,H7,zN]
theorem NQ {w:cD} {ad:ax} {vs:List SV} {es:Array (Int×Value)} {ep:Nat} {t:c8} {x:SV} {x':Value} {n:Nat} (S:ni w P m s ad vs es ep t x x')
  (Bz:(bo t.mask (bZ w x) n).j∉t.place.toList) (Ax:∀n',n'<n→(bo t.mask (bZ w x) n').j∈t.place.toList) (pl:Bool):
  ∃gK,Pf w P m vs x es.size t gK (H8 es (t.put (bo t.mask (bZ w x) n).j).2 (bZ w x,x')) {(t.put (bo t.mask (bZ w x) n).j).1 with plain:=pl}:=by
 refine mE (Sf S.T.1 Bz Ax pl) λp1 p2 p3 W=>?_;have w9:(H8 es _ _).toList=kK es.toList _ _:=aev es (below t.place (bo t.mask (bZ w x) n).j) (bZ w x,x');rw[p2];refine⟨_,?_,w9▸S.H.ins S.x,aag _ _ _,p3,rfl,?_⟩
 ·rw[w9]
  exact Q9 (·.1) es.toList _ (bZ w x,x')▸W
 ·rw[←fQ,w9]
  exact F6 _ _ _
theorem Zd {E:Value→ak→Prop} {ad:ax} {vs:List SV} {es:Array (Int×Value)} {ep:Nat} {t:c8} (ho:s.heap.get? ad=aa (gA es ep t)) (W:oU t (es.toList.map (·.1))) (H:cq G.w P m vs es.toList) (h5:es.size=5) (h7:t.mask=7) {Q:Unit→ak→Prop}
  (k:∀s6 pT y7,gb pT (s6.toList.map (·.1))→cq G.w P m y7 s6.toList→y7.Perm vs→pT.led=t.led→Q () {s with heap:=s.heap.update ad (uD s6 pT)}):aw (aQ G.prog G.w) A' (setRelay ad 20) Q E s:=by
 have hl:(es.map (·.1)).size≤31:=by rw[H9,h5];exact aJ
 have hf:t.fits es.size=ab:=by
  have:=W.fits (by rw[aI _,fQ,h5,h7];exact aJ)
  rwa [aI,fQ] at this
 refine tR (So (mask:=31) (.inr rfl) t.finger (t.movedTo 31) t.led t.plain (es.map (·.1)) hl) λpT iU g1 g2 Tc g3 g4=>?_;have hlt:∀i∈iU.toList,i<es.toList.length:=λi hi=>by
  have:=g3.mem_iff.mp hi;rw[H9] at this;exact dQ.mp this
 have fe:=EJ (0,eG) hlt;have D_:(iU.filterMap (es[·]?)).toList=iU.toList.map (es.toList.getD · (0,eG)):=by
  rw[←fe,Array.toList_filterMap];exact ay (uE · _) (funext λi=>js.symm)
 have B_:(iU.filterMap (es[·]?)).size=es.size:=by
  rw[←fQ,D_,aI _,g3.length_eq,dR,H9]
 have FM:cq G.w P m (iU.toList.filterMap (vs[·]?)) (iU.filterMap (es[·]?)).toList:=by
  rw[D_,←fe];exact H.mapIdx iU.toList λi hi=>H.length▸hlt i hi
 have We:(iU.filterMap (es[·]?)).toList.map (·.1)=iU.toList.map λi=>(es.map (·.1)).toList.getD i 0:=by
  rw[D_,o0,agq];exact ay (H_ · _) (funext λi=>(getD_map (·.1) es.toList i (0,eG)).symm)
 have pm:=g3.filterMap (vs[·]?);rw[H9,←fQ,←H.length,agr] at pm;have K:=k (iU.filterMap (es[·]?)) pT (iU.toList.filterMap (vs[·]?)) ⟨by rw[We];exact g4,by rw[aI _,fQ,B_,g2,h5];exact bj⟩ FM pm Tc;have abv:t.relaid (es.map (·.1)) 20=aa (pT,iU):=g1;refine wb (ki ho rfl hf (dU aV (wb ?_)));rw[abv];refine(?_:aw _ _ (if((iU.filterMap (es[·]?)).size !=es.size)=ab then _ else _) _ _ _);generalize iU.filterMap (es[·]?)=s6 at B_ K;refine dU (by rw[B_,mN _];rfl) (aD (ags ho rfl K ?_));rw[B_,h5];exact aJ
theorem Wa {E:Value→ak→Prop} (R:Rel G F b own ae A P m fr h s) {x:SV} {x':Value} (hf:fc x=ab) (hx:VR P m x x') {c:Bool} {α:Type} {K:Bool→Sem α} {Q:α→ak→Prop} (hq:∀r,aw (aQ G.prog G.w) A' (K r) Q E s):
  aw (aQ G.prog G.w) A' (if c then zM 8 x' >>=K else pure ab >>=K) Q E s:=jJ (λ_=>wb (VD R hf hx hq 7)) λ_=>wb (aD (hq _))
theorem Yo {t:c8} {hs:List Int} (T:oU t hs):t.tooFull=decide (hs.length*5≥t.mask*3):=by
 unfold tooFull agn;rw[T.AF,←fQ,T.len];rfl
theorem Vz {a:Nat} (h1:a*5<7*3) (h2:(a+1)*5≥7*3):a=4:=qD (eQ (ago (a:=5) (i2 h1 bj))) (jr.mp λq=>bd (ah h2 (qE 5 (sn q))) aV)
theorem aai {E:Value→ak→Prop} (R:Rel G F b own ae A P m fr h s) {n:Nm} {vs:List SV} {ad:ax×ax} (hn:h n=aa (.set vs)) (hm:m n=aa ad) {x:SV} {x':Value} (hf:fc x=ab) (hx:VR P m x x')
  (hz:vs.length<18) (hu:A'.units+1<ew) {Q:Bool→ak→Prop}
  (c:∀hp a6 r,(a6.Nodup∧∀y,y∈a6↔y=x∨y∈vs)→Rel G F b own ae A P m fr (h.set n (.set a6)) {s with heap:=hp}→(∀a o,a≠ad.1→s.heap.get? a=aa o→hp.get? a=aa o)→Q r {s with heap:=hp}):
  aw (aQ G.prog G.w) A' (setAddHashed ad.1 x' (bZ G.w x)) Q E s:=by
 obtain⟨bg,es,ep,t,uU,h2,ho,T,H,qN,iA,fX⟩:=R.setAt hn;obtain rfl:bg=ad:=aU (uU.symm.trans hm);have S:ni G.w P m s bg.1 vs es ep t x x':=⟨ho,T,H,iA,hf,hx⟩;have wC:decide (byScan x' es=ab)=an:=by refine xE (Ho hf hx) λa bu=>?_;subst bu;rfl
 have Mm:es.size<18:=by rw[←fQ,←H.length];exact hz
 have fin:∀{gK gF gt OX hp} (r:Bool),gb gt (gF.toList.map (·.1))→cq G.w P m gK gF.toList→gK.Perm (x::vs)→x∉vs→gt.led=t.led→r_ bg.1 s.heap hp→hp.get? bg.1=aa (gA gF OX gt)→Q r {s with heap:=hp}:=
  λ{gK gF gt OX hp} r ab8 SG pm vH ld sb w7=>by
   have nd:=pm.nodup_iff.mpr (k8.mpr ⟨vH,qN⟩);have mem:∀y,y∈gK↔y=x∨y∈vs:=λy=>pm.mem_iff.trans dA;exact c hp gK r ⟨nd,mem⟩ (R.UG hn hm sb w7 ab8 SG nd (λv hv=>((mem v).mp hv).elim (λe=>e▸hf) (iA v)) (ld.trans fX)) λa o ha e=>(sb.2 a ha).trans e
 refine dD (wb (m:=setState bg.1) (ki ho rfl T.fits (dU wC (wb (Lg R S ab hu (λi hi=>?_) λvH k Bz Ax=>?_)))))
 ·refine aD (c s.heap vs an ⟨qN,λy=>⟨.inr,λq=>q.elim (λe=>e▸bQ hi) id⟩⟩ ?_ λa o _ e=>e)
  rw[SH.jj hn];exact R
 ·have I:∀r:Bool,∃gK,Pf G.w P m vs x es.size t gK (H8 es (t.put (bo t.mask (bZ G.w x) k).j).2 (bZ G.w x,x')) (if r=ab then(t.put (bo t.mask (bZ G.w x) k).j).1 else{(t.put (bo t.mask (bZ G.w x) k).j).1 with plain:=an}):=λr=>by
   cases r with
   |true=>exact NQ S Bz Ax _
   |false=>exact NQ S Bz Ax _
  refine wb (ki ho rfl T.fits ?_);dsimp only;generalize t.put (bo t.mask (bZ G.w x) k).j=tp at I ⊢
  cases tp with
  |mk t1 p1=>
  refine Wa R hf hx λr=>?_;have I:=I r;dsimp only at I ⊢;generalize H8 es p1 (bZ G.w x,x')=gF at I ⊢;generalize (if r=ab then t1 else{t1 with plain:=an})=gt at I ⊢;refine xE I λgK I=>?_;have s1:=o9 s.heap bg.1 (uD gF gt);have w7:(s.heap.update bg.1 (uD gF gt)).get? bg.1=aa (gA gF (ep+1) gt):=kZ (uD gF gt) ho rfl;have Fp:=Yo I.W;have room:=T.2;rw[aI,fQ] at room Fp;refine wb (ags ho rfl ?_ (I.size▸ah Mm aJ));refine jJ (λq=>?_) λq=>?_
  ·have q:gF.size*5≥gt.mask*3:=fD (Fp.symm.trans q)
   rw[I.mask,I.size] at q;have h7:t.mask=7:=T.1.mask.elim id λe=>by
    rw[e] at q;exact bd (ah q (qE 5 (eE (eQ Mm)))) aV
   rw[h7] at q room;have h4:=Vz room q;rw[h4];refine wb (Zd (s:={s with heap:=s.heap.update bg.1 (uD gF gt)}) w7 I.W I.H (I.size.trans (h4▸rfl)) (I.mask.trans h7) λs6 pT y7 Y0 FM pm ld=>aD ?_);have s2:=o9 (s.heap.update bg.1 (uD gF gt)) bg.1 (uD s6 pT);exact fin ab Y0 FM (pm.trans I.pm) vH (ld.trans I.led) ⟨s2.1.trans s1.1,λa ha=>(s2.2 a ha).trans (s1.2 a ha)⟩ (kZ (uD s6 pT) w7 rfl)
  ·refine aD (fin ab ⟨I.W,?_⟩ I.H I.pm vH I.led s1 w7)
   rw[aI _,fQ];exact Nat.not_le.mp λz=>q (Fp.trans (eP z))
end
section
open SetTable
theorem aat {I a:ax} {xs:Array Value} {l U:List SV} {n:Nm} {ad:ax×ax} {R':wQ→ak→Prop} (hh:A'.in1.handled=af) (hu:A'.in1.units+2<ew) (dh:a≠I) (hm:m n=aa ad) (ha:a≠ad.1) (hI:I≠ad.1)
  (hX:aY P m l xs.toList) (iA:∀v∈l,fc v=ab) (hU:U.length<18) (tf:∀v∈l,v∈U)
  (hT:∀hp:cO,(∃i,hp.IsListIter I a i)→fJ G own P m hp [I]):
  ∀(k i:Nat) (s:ak) (vs:List SV),i+k=xs.size→Rel G F b own ae A P m fr (h.set n (.set vs)) s→s.heap.IsListIter I a i→s.heap.IsList a xs→vs.Nodup→(∀y,y∈vs↔y∈l.take i)→
   (∀hp tk a6,Rel G F b own ae A P m fr (h.set n (.set a6)) {s with heap:=hp,toks:=tk}→a6.Nodup→(∀y,y∈a6↔y∈l)→R' (.ok (.ret .none)) {s with heap:=hp,toks:=tk})→
   kc (aQ G.prog G.w) A' (.builtin "set.update.loop" ⟨[.ref ad.1,.ref I],[]⟩) R' s:=by
 have W:=Qk (prog:=G.prog) (w:=G.w) (A:=A'.in1) hh I a dh xs;intro k
 induction k with
 |zero=>
  intro i s vs hk R h1 h2 qN Cq hR;obtain rfl:i=xs.size:=hk;refine wV agt ?_;rw[zH Qm _];show aw _ A'.in1 (uw (.ref I) >>=_) _ _ s;refine wb (W.done s _ _ ⟨h1,h2⟩ λhp tk dX=>?_);show aw _ A'.in1 (HY eG) _ _ _;refine aD (hR hp tk vs (R.oH (s':={s with heap:=hp,toks:=tk}) (hT _ ⟨_,h1⟩) (λa o ha e=>dX a o ha e) rfl rfl) qN λy=>?_);rw[propext (Cq y),mX (bH (hX.size:l.length=xs.size))]
 |succ k ih=>
  intro i s vs hk R h1 h2 qN Cq hR;have hlt:i<xs.size:=hk▸qF (dJ k);refine wV agt ?_;rw[zH Qm _];show aw _ A'.in1 (uw (.ref I) >>=_) _ _ s;refine wb (W.item i s _ _ hlt ⟨h1,h2⟩ λv hp tk hP kL dX=>?_);refine aj (hX.at hlt) λx MN K3=>?_;have hv:xs[i]? =aa v:=hP;rw[jq hlt] at hv;obtain rfl:=aU hv;have hf:=iA x (bQ MN);have a7:=R.oH (s':={s with heap:=hp,toks:=tk}) (hT _ ⟨_,h1⟩) (λa o ha e=>dX a o ha e) rfl rfl;show aw _ A'.in1 (jt [xs[i]] (setAdd ad.1 xs[i]) >>=_) _ _ _;refine wb (dD ?_);unfold setAdd;refine dD ?_;refine wb (Rel.hash _ 1 (cj ‹_›) K3 (λa o e=>a7.rn e) (sH hf 0) λt=>?_);refine aai (s:={s with heap:=hp,toks:=t}) (a7.tok t) aR hm hf K3 (bf (fO qN λy hy=>tf y (Dv ((Cq y).mp hy))) hU:vs.length<18) (cj ‹_›) λbY a6 r d5 bm Ao=>?_;rw[iD] at bm;refine aD ⟨Ia Qm _,ih (i+1) _ a6 ((wH i k).trans hk) bm (kL.1.at λo e=>Ao _ o hI e) (kL.2.at λo e=>Ao _ o ha e) d5.1 (λy=>?_) λWx SY y7=>hR Wx SY y7⟩;rw[propext (d5.2 y),propext (Cq y),jK,MN,propext du];exact or_comm.trans (or_congr .rfl bU.symm)
theorem adg {n:Nm} {ad:ax×ax} {I a:ax} (R:Rel G F b own ae A P m fr h s) (hI:s.heap.objs.size≤I):∀hp:cO,(∃i,hp.IsListIter I a i)→fJ G own P m hp [I]:=by
 rintro hp ⟨i,o,e1,e2,e3⟩;refine⟨λx hx=>?_⟩;obtain rfl:x=I:=by simpa using hx
 refine mE (R.free hI) λp1 p2 p3 p4=>?_;exact(sQ p1 p3 p2 p4 o e1 (wc e2 aV aV) (λv e=>by rw[e3] at e;cases e))
theorem Yp {Q₁:Value→ak→Prop} {E:Value→ak→Prop} {prog:fq} {w:cD} (args:List Value) (ha:args=[]∨∃x,args=[x])
  (k:Q₁ (.ref s.heap.objs.size) {s with heap:=s.heap.push {cls:=.type "set",dict:=af,data:=.set #[] 0 (.fresh 0 0 (!(w.params.followText "set-order")))}}):
  kc (aQ prog w) A (.call (.builtin "set.__new__") ⟨.type "set"::args,[]⟩) (wants Q₁ E) s:=by
 refine P0 ?_;show aw _ A.in1 (do agu "set.__new__" ⟨.type "set"::args,[]⟩;again (.builtin "set.__new__" ⟨.type "set"::args,[]⟩)) _ _ s;have hc:agu "set.__new__" ⟨.type "set"::args,[]⟩=pure ():=by
  rcases ha with rfl|⟨x,rfl⟩
  ·exact PySem.F.newCall_set_0
  ·exact PySem.F.newCall_set_1 x
 refine wb (mW hc (aD ⟨Ia agv _,wV PySem.F.entry_set_new ?_⟩));rw[zH agv _];unfold Builtin.«set.__new__» at3;have tQ:=Qn;obtain⟨hp,g,d,tk,os⟩:=s;dsimp only;rcases ha with rfl|⟨x,rfl⟩
 all_goals
  wp_walk
  refine zB (aD ?_);dsimp only;simp only[newObj];refine wb (PY (aD ?_));exact aD k
noncomputable def yP (led:Bool):Obj:={cls:=.type "set",dict:=af,data:=.set #[] 0 (.fresh 0 0 led)}
theorem Ll {M:i0} {c:Code} {p:Value→ak→Prop} {E:Value→ak→Prop} {R:wQ→ak→Prop} (w:kc M A c (wants p E) s) (k:∀v s',p v s'→R (.ok (.ret v)) s') (e:∀x s',E x s'→R (.error x) s'):kc M A c R s:=
 codeAny_mono w λr s' hr=>by
  cases r with
  |error x=>exact e x s' hr
  |ok f=>cases f with
   |ret v=>exact k v s' hr
   |_=>exact hr.elim
theorem Kx {n:Nm} {args:List Value} (ha:args=[]∨∃x,args=[x]) (hct:checkTypeCall "set" ⟨args,[]⟩=pure ()) (R:Rel G F b own ae A P m fr h s) (hn:h n=af) {Q':Value→ak→Prop} {E':Value→ak→Prop}
  (k:∀(a5:ak) (led:Bool),Rel G F b own ae A P (m.set n (s.heap.objs.size,s.heap.objs.size)) fr (h.set n (.set [])) a5→m.le (m.set n (s.heap.objs.size,s.heap.objs.size))→a5.heap.get? s.heap.objs.size=aa (yP led)→(∀a o,s.heap.get? a=aa o→a5.heap.get? a=aa o)→a5.heap.objs.size=s.heap.objs.size+1→
   kc (aQ G.prog G.w) A.in1 (.call (.builtin "set.__init__") ⟨[.ref s.heap.objs.size]++args,[]⟩) (wants (λr bz=>r=.none∧Q' (.ref s.heap.objs.size) bz) E') a5):
  aw (aQ G.prog G.w) A (o_ (.type "set") args []) Q' E' s:=by
 obtain⟨c',tl,aip⟩:=PySem.F.called_set.mro;have am7:=PySem.F.called_set.made;have tQ:=PySem.F.called_set.sub;have h1:=PySem.F.called_set.notType;have h2:=PySem.F.called_set.canCreate;have hli:=PySem.F.called_set.init.lookup;have hbi:=PySem.F.called_set.init.bind (.ref s.heap.objs.size);obtain⟨a7,le⟩:=R.alloc hn (so:=.set []) (ad:=(s.heap.objs.size,s.heap.objs.size)) (s':={s with heap:=s.heap.push (yP (!(G.w.params.followText "set-order")))})
  (λa o e=>dS _ e) rfl rfl (au _) (au _)
  ⟨rfl,#[],0,.fresh 0 0 (!(G.w.params.followText "set-order")),fP _ rfl,⟨⟨rfl,.nil,rfl,.inl rfl,λp hp=>bd hp sj,λi h hi=>nomatch hi⟩,(bj:0*5<7*3)⟩,rfl,.nil,λv hv=>bd hv sj,rfl⟩
 have hT:Qo {s with heap:=s.heap.push (yP (!(G.w.params.followText "set-order")))} (.ref s.heap.objs.size) "set":=⟨_,fP _ rfl,rfl⟩;have K:=k _ _ a7 le (fP _ rfl) (λa o e=>dS _ e) (lX _ _);refine PO (P0 ?_);refine(?_:aw _ _ (callAny (.type "set") _) _ _ _);refine aD ⟨Code.quiet_builtin _ (by decide +kernel),wV PySem.F.entry_type_call ?_⟩;rw[Around.under_plain (weight_type_call_type "set" args []) rfl]
 repeat (any_goals (first|assumption|wp_step))
 clear a7 k;generalize hhp:s.heap.push (yP (!(G.w.params.followText "set-order")))=hp at hT K;refine Ll (Yp (E:=E') (Q₁:=λobj a5=>obj=.ref s.heap.objs.size∧a5={s with heap:=hp}) args ha (hhp▸⟨rfl,rfl⟩)) (λv a5 hr=>?_) λ_ _ hr=>hr;obtain⟨rfl,rfl⟩:=hr
 repeat (any_goals (first|assumption|wp_step))
 refine Ll K (λv bz hr=>?_) λ_ _ hr=>hr;obtain⟨rfl,hq⟩:=hr
 repeat (any_goals (first|assumption|wp_step))
theorem U4 {E':Value→ak→Prop} {Q₁:Value→ak→Prop} {l U:List SV} {n:Nm} {S a:ax} {items:Array Value} (R:Rel G F b own ae A P m fr (h.set n (.set [])) s) (hF:F.q=ab) (hm:m n=aa (S,S)) {led:Bool} (hs:s.heap.get? S=aa (yP led)) (hl:s.heap.IsList a items) (hX:aY P m l items.toList) (ha:a<S) (hS:S<s.heap.objs.size)
  (iA:∀v∈l,fc v=ab) (hU:U.length<18) (tf:∀v∈l,v∈U)
  (k:∀hp tk a6,Rel G F b own ae A P m fr (h.set n (.set a6)) {s with heap:=hp,toks:=tk}→a6.Nodup→(∀y,y∈a6↔y∈l)→Q₁ .none {s with heap:=hp,toks:=tk}):
  kc (aQ G.prog G.w) A.in1 (.call (.builtin "set.__init__") ⟨[.ref S]++[.ref a],[]⟩) (wants Q₁ E') s:=by
 have akv:=R.units;have hh3:A.in1.in1.in1.handled=af:=R.quiet hF;have hu3:A.in1.in1.in1.units+2<ew:=by simp;lia
 have gU:s.heap.get? S=aa {cls:=.type "set",dict:=af,data:=.set #[] 0 (.fresh 0 0 led)}:=hs;have hT:s.TypeIs (.ref S) "set":=⟨_,hs,rfl⟩;have hsz:(s.heap.push {cls:=.type "list_iterator",data:=.fields #[.ref a,.int 0 0]}).objs.size=s.heap.objs.size+1:=lX _ _;have bm:=R.grow (s':={s with heap:=s.heap.push {cls:=.type "list_iterator",data:=.fields #[.ref a,.int 0 0]}}) (λa o e=>dS _ e) rfl rfl;refine agw PySem.F.called_set.init.plain agx (check_set_init_1 hT ?_);refine vU (id hl) λol lu wp nl vv=>?_;obtain⟨apl,aqu,aq8,aqb⟩:=ol;simp only at wp vv;subst wp;subst vv;have asi:=PySem.F.sub_list_set;have amr:=PySem.F.sub_list_frozenset;have dh:(zG "list"==zG "dict")=an:=aV;unfold Builtin.«set.__init__» noKeywords at4;generalize TQ:qz=PI
 wp_walk
 subst TQ;refine PX hl ?_;refine wb (P9 ?_);exact aat (U:=U) (n:=n) (ad:=(S,S)) hh3 hu3 (dp (i2 ha hS)) hm (dp ha) (dF hS) hX iA hU tf (adg (n:=n) (ad:=(0,0)) R (au _)) items.size 0 _ [] (mP _) bm ⟨_,fP _ rfl,rfl,rfl⟩ (hl.push _) .nil (λy=>.rfl) λhp tk a6 cV h3 h4=>aD (aD (k hp tk a6 cV h3 h4))
theorem aa9 {u:SV} {l U:List SV} {n:Nm} {Q:QV} {X:QX} (hF:F.q=ab) (hu:dc G h u l) (iA:∀v∈l,fc v=ab) (hU:U.length<18) (tf:∀v∈l,v∈U) (hn:h n=af)
  (hq:∀vs:List SV,vs.Nodup→(∀y,y∈vs↔y∈l)→Q (.ref n) (h.set n (.set vs))):WC G F b fr h (.ty "set") [u] Q X:=by
 refine .mk ?_;intro own ae A P m s Q' E' f' a6 R hf hv c d;obtain rfl:=hf;refine bC hv λu' r ar kG e7=>?_;clear hv;subst ar;subst e7;refine bC (R.i7 hu kG) λa items ar hl hX=>?_;subst ar;refine Kx (.inr ⟨_,rfl⟩) (PySem.F.typeCall_set_1 _) R hn λa5 led a7 le hs keep hsz=>?_;refine aj hl λol lu hd=>?_;exact U4 a7 hF Mu.jj hs ⟨ol,keep _ _ lu,hd⟩ (aY.mono aW.le.rfl.t le _ hX) (jF lu) (hsz▸dm _) iA hU tf λhp tk a6 cV h3 h4=>⟨rfl,c _ _ _ _ _ _ (hq a6 h3 h4) .rfl le ⟨_,Mu.jj,rfl⟩ cV⟩
end
section
open SetTable
theorem XT {M:i0} {src:Source} {n:Nat} {Q:Nat→ak→Prop} {E:Value→ak→Prop} (hn:n≠0) (k:∀i d,i<n→Q i {s with drawn:=d}):aw M A (choose src n) Q E s:=
 λ_ _ _=>⟨hn,k _ _ (C3 _ (nU hn))⟩
theorem O9 {α:Type} {l:List α}:∀{i:Nat} (hi:i<l.length),(l[i]::l.eraseIdx i).Perm l:=by
 induction l with
 |nil=>exact λhi=>bd hi (mQ _)
 |cons x l ih=>exact λ{i} hi=>by cases i with
  |zero=>exact .refl _
  |succ i=>exact(List.Perm.swap x _ _).trans ((ih (Ib hi)).cons x)
theorem Rel.un (R:Rel G F b own ae A P m fr h s) {k:Nat} (hk:k≤8:=by decide):A.units+k<ew:=bf (ah (eZ hk _) (nW (b7 _ _) 8)) R.units
theorem MU {α:Type} {l:List α} {i n:Nat} (hi:i<l.length) (h:l.length≤n+1):(l.eraseIdx i).length≤n:=ah (bH (List.length_eraseIdx_of_lt hi)) (Qp h)
theorem Lz {α:Type} {M:i0} {E:Value→ak→Prop} (n:Nat):∀(xs:List α) (s:ak) {Q:List α→ak→Prop},xs.length≤n→(∀ys d,ys.Perm xs→Q ys {s with drawn:=d})→aw M A (drawOrder n xs) Q E s:=by
 induction n with
 |zero=>exact λxs s Q h k=>aD (k [] s.drawn (agy (Ic.mp h)▸.nil))
 |succ n ih=>
  intro xs s Q h k
  cases xs with
  |nil=>exact aD (k [] s.drawn .nil)
  |cons x xs=>
   refine wb (XT (zO _) λi d hi=>?_);rw[fb hi];exact wb (ih _ _ (MU hi h) λys d' hp=>aD (k _ d' ((List.Perm.cons _ hp).trans (O9 hi))))
theorem Nq {α:Type} (next:Nat→Nat) (fuel:Nat):∀(k:Nat) (left:List α) (out:Array α),left.length≤fuel→(agz next fuel k left out).toList.Perm (out.toList++left):=by
 induction fuel with
 |zero=>exact λk left out h=>agy (Ic.mp h)▸(gO _).symm▸.refl _
 |succ fuel ih=>
  intro k left out h;show(match left[next k % left.length]? with|some x=>agz next fuel (k+1) (left.eraseIdx (next k % left.length)) (out.push x)|none=>out).toList.Perm _
  cases e:left[next k % left.length]? with
  |none=>
   cases left with
   |nil=>exact(gO _).symm▸.refl _
   |cons x r=>exact bd (C3 _ (dJ _)) (jr.mpr (ke.mp e))
  |some x=>
   refine(cU.mp e).elim λhi hx=>(ih (k+1) _ _ (MU hi h)).trans ?_;rw[HN,wL _ _ _];exact List.Perm.append_left _ (hx▸O9 hi)
variable{w:cD} {prog:fq}
theorem BE {E:Value→ak→Prop} {Q:Bool→ak→Prop} (k:Q (w.params.followText "set-order") s):aw (aQ prog w) A setsByText Q E s:=wb (zB (aD k))
theorem RD {E:Value→ak→Prop} {ad:ax×ax} {es:Array (Int×Value)} {ep:Nat} {t:c8} (ho:s.heap.get? ad.1=aa (gA es ep t)) (T:gb t (es.toList.map (·.1))) (fX:t.led=!(G.w.params.followText "set-order"))
  {Q:Array (Int×Value)→ak→Prop} (k:∀(ys:Array (Int×Value)) d,ys.toList.Perm es.toList→Q ys {s with drawn:=d}):aw (aQ G.prog G.w) A' (setWalk ad.1) Q E s:=by
 refine wb (ki ho rfl T.fits (wb (BE ?_)));refine jJ (λ_=>wb (zB (aD (k _ s.drawn (Nq _ es.size 0 es.toList #[] (au _)))))) λhb=>jJ (λ_=>wb (Lz es.size es.toList s (au _) λys d hp=>aD (k _ d hp))) λ_=>
  wb (m:=do if !t.led && es.size > 1 then Db "set:maker-not-led") (dU (fX.trans (ay not (Do.mpr hb))▸rfl) (aD (aD (k es s.drawn (.refl _)))))
theorem Rel.drawn (R:Rel G F b own ae A P m fr h s) (d):Rel G F b own ae A P m fr h {s with drawn:=d}:=R.grow (s':={s with drawn:=d}) (λa o e=>e) rfl rfl
theorem aaa {E:Value→ak→Prop} (R:Rel G F b own ae A P m fr h s) {ad:ax×ax} {vs:List SV} {es:Array (Int×Value)} {ep:Nat} {t:c8} (ho:s.heap.get? ad.1=aa (gA es ep t))
  (T:gb t (es.toList.map (·.1))) (H:cq G.w P m vs es.toList) (iA:∀v∈vs,fc v=ab) {x:SV} {x':Value} (hf:fc x=ab) (hx:VR P m x x') (hu:A'.units+1<ew) {Q:Option Nat→ak→Prop}
  (k:∀r:Option Nat,(r.isSome=ab↔x∈vs)→Q r s):aw (aQ G.prog G.w) A' (setFind ad.1 x' (bZ G.w x)) Q E s:=by
 have wC:decide (byScan x' es=ab)=an:=by refine xE (Ho hf hx) λa bu=>?_;subst bu;rfl
 exact wb (m:=setState ad.1) (ki ho rfl T.fits (dU wC (wb (Lg R (⟨ho,T,H,iA,hf,hx⟩:ni G.w P m s ad.1 vs es ep t x x') an hu (λi hi=>aD (k _ ⟨λ_=>bQ hi,λ_=>rfl⟩)) λvH n _ _=>aD (k _ ⟨λe=>bd e iB,λe=>bd e vH⟩)))))
theorem abr:Ie table "set.__ne__"=aa Builtin.«frozenset.__ne__»:=
 Qq (id':="frozenset.__ne__") (by kernel_rfl) rfl (by decide +kernel) (by kernel_rfl)
theorem Sk:lg (.type "set") (.type "frozenset")=pure an:=by rw[pf _ _];kernel_rfl
theorem aan {M:i0} {E:Value→ak→Prop} {x y:Value} {Q:Value×Value→ak→Prop} (hq:Q (x,y) s):aw M A (ag0 "__ne__" ⟨[x,y],[]⟩) Q E s:=aD hq
theorem Zx {M:i0} {E:Value→ak→Prop} {x:Value} {Q:Bool→ak→Prop} (hT:s.TypeIs x "set") (hq:Q ab s):aw M A (at5 x) Q E s:=
 wb (ux hT Qn (aD hq))
theorem Zj {M:i0} {E:Value→ak→Prop} {x y:Value} {Q:Bool→ak→Prop} (hT:s.TypeIs x "set") (hq:Q an s):aw M A (HS x (.type "frozenset") <&&> HS y (.type "frozenset")) Q E s:=
 wb (ux hT Sk (aD hq))
theorem xb {E:Value→ak→Prop} {prog:fq} {w:cD} {a:ax} {es:Array (Int×Value)} {ep:Nat} {t:c8} (ho:s.heap.get? a=aa (gA es ep t)) (hf:t.fits es.size=ab) {Q:Nat→ak→Prop} (hq:Q es.size s):
  aw (aQ prog w) A (at6 a) Q E s:=wb (wb (ki ho rfl hf (aD (aD hq))))
theorem Pg {E:Value→ak→Prop} {prog:fq} {w:cD} {a:ax} {es:Array (Int×Value)} {ep:Nat} {t:c8} (ho:s.heap.get? a=aa (gA es ep t)) (hf:t.fits es.size=ab) {Q:Array (Int×Value)→ak→Prop} (hq:Q es s):
  aw (aQ prog w) A (setEntries a) Q E s:=wb (ki ho rfl hf (aD hq))
theorem cq.mem {w:cD} {vs:List SV} {es:List (Int×Value)} (H:cq w P m vs es):∀e∈es,∃v∈vs,e.1=bZ w v∧VR P m v e.2:=λe he=>
 xE (qw.mp he) λi hi=>aj (H.at' hi) λv v1 v2=>⟨v,bQ v1,v2⟩
structure y3 (G:Gl) (P:aW) (m:Mu) (s:ak) (a:ax) (vs:List SV) (es:Array (Int×Value)) (ep:Nat) (t:c8):Prop where
 ho:s.heap.get? a=aa (gA es ep t)
 T:gb t (es.toList.map (·.1))
 H:cq G.w P m vs es.toList
 nd:vs.Nodup
 fl:∀v∈vs,fc v=ab
 led:t.led=!(G.w.params.followText "set-order")
theorem Rel.IT (R:Rel G F b own ae A P m fr h s) {n:Nm} {ad:ax×ax} {vs:List SV} (hn:h n=aa (.set vs)) (hm:m n=aa ad):∃es ep t,y3 G P m s ad.1 vs es ep t:=
 aj (R.obj n _ hn) λbg q1 q2=>aU (q1.symm.trans hm)▸q2.2.elim λes z=>z.elim λk z=>z.elim λt z=>⟨es,k,t,z.1,z.2.1,z.2.2.1,z.2.2.2.1,z.2.2.2.2.1,z.2.2.2.2.2⟩
theorem YR {E:Value→ak→Prop} (R:Rel G F b own ae A P m fr h s) {x:SV} {x':Value} (hf:fc x=ab) (hx:VR P m x x') {Q:Bool→ak→Prop} (hq:Q an s):aw (aQ G.prog G.w) A' (Qr x') Q E s:=
 EA (C:=λy=>aw (aQ G.prog G.w) A' (Qr y) Q E s) R hf hx λa o items q ho hd hT hi=>wb (qA hT PySem.F.slot_tuple_eq.lookup (aD ((aV:(aa (HP "tuple.__eq__")==aa (HP "object.__eq__"))=an)▸hq)))
theorem aea {α β:Type} {M:i0} {E:Value→ak→Prop} {f:α→β→Sem (ForInStep β)} {p:α→Prop} {I:β→Prop} {Q:β→ak→Prop} {l:List α} {z:β} (hz:I z) (fin:(∀x∈l,p x)→∀z,I z→Q z s)
  (turn:∀x∈l,∀z,I z→∀Q':ForInStep β→ak→Prop,(p x→∀z,I z→Q' (.yield z) s)→(∀z,Q z s→Q' (.done z) s)→aw M A' (f x z) Q' E s):aw M A' (forIn l z f) Q E s:=by
 induction l generalizing z with
 |nil=>exact aD (fin (λ_ h=>cS h) _ hz)
 |cons x l ih=>rw[pb];exact wb (turn x (.head _) z hz _ (λhp z hz=>ih hz (λh=>fin λy hy=>(dA.mp hy).elim (· ▸hp) (h y)) λy hy=>turn y (.tail _ hy)) λz hz=>aD hz)
variable{E:Value→ak→Prop} {a a':ax} {vs ws:List SV} {es es':Array (Int×Value)} {ep F9:Nat} {t t':c8}
theorem acy (R:Rel G F b own ae A P m fr h s) (S:y3 G P m s a vs es ep t) (S':y3 G P m s a' ws es' F9 t')
  {Q:List (Int×Value)→ak→Prop} (k:∀(ys:List (Int×Value)) d,ys.Perm es.toList→Q ys {s with drawn:=d}):aw (aQ G.prog G.w) A' (at7 a a') Q E s:=by
 refine wb (Pg S.ho S.T.fits (wb (Pg S'.ho S'.T.fits (wb ?_))));have all:∀x∈es.toList++es'.toList,∃v,fc v=ab∧VR P m v x.2:=λx hx=>(du.mp hx).elim (λq=>bM (S.H.mem x q) λv v1 _ v3=>⟨v,S.fl v v1,v3⟩) λq=>bM (S'.H.mem x q) λv v1 _ v3=>⟨v,S'.fl v v1,v3⟩;generalize es.toList++es'.toList=l at all
 cases l with
 |nil=>exact aD (aD (k _ s.drawn (.refl _)))
 |cons x r=>
  refine aj (all x (.head _)) λv v1 v2=>?_;rw[pb];exact wb (wb (m:=Qr x.2) (YR R v1 v2 (pd rfl (wb (m:=at8 a) (wb (RD (ad:=(a,a)) S.ho S.T S.led λys d hp=>aD (aD (aD (aD (k _ d hp))))))))))
theorem Vw (R:Rel G F b own ae A P m fr h s) (S:y3 G P m s a vs es ep t) (S':y3 G P m s a' ws es' F9 t')
  (hu:A'.units+1<ew) (hsz:es.size=es'.size) {id:String} {Q:Bool→ak→Prop} (k:∀(r:Bool) d,(r=ab↔∀y,y∈vs→y∈ws)→Q r {s with drawn:=d}):aw (aQ G.prog G.w) A' (at9 id a a') Q E s:=by
 refine wb (xb S.ho S.T.fits (wb (xb S'.ho S'.T.fits (dU (iZ (hsz▸fo _)) (wb (Qs S.ho rfl S.T.fits (wb (acy R S S' λys d hp=>wb ?_))))))));refine aea (s:={s with drawn:=d}) (I:=λr=>r.1=af) (p:=λe=>∃v∈ws,VR P m v e.2∧fc v=ab) rfl (λal z hz=>?_) λe he z hz Q' k1 k2=>?_
 ·obtain⟨r1,r2⟩:=z
  obtain rfl:r1=af:=hz;exact aD (k ab d ⟨λ_ y hy=>xE (qw.mp hy) λi hi=>bM (S.H.at hi) λe q1 q2 q3=>bM (al e (hp.mem_iff.mpr (bQ q1))) λv v1 v2 v3=>
   VR.inj y q3 v2 (sC (sH (S.fl y hy) 0)) (sC (sH v3 0))▸v1,λ_=>rfl⟩)
 ·refine bM (S.H.mem e (hp.mem_iff.mp he)) λv v1 v2 v3=>wb (dD ?_)
  rw[v2];refine aaa (ad:=(a',a')) (s:={s with drawn:=d}) (R.drawn d) S'.ho S'.T S'.H S'.fl (S.fl v v1) v3 hu λr qY=>?_
  cases r with
  |none=>exact pd rfl (aD (k2 _ (aD (k an d ⟨λq=>cJ q,λq=>cJ (qY.mpr (q v v1))⟩))))
  |some i=>exact dU rfl (wb (m:=aua id a ep) (wb (Qs (s:={s with drawn:=d}) S.ho rfl S.T.fits (dU (by rw[mN _];rfl) (aD (aD (k1 ⟨v,qY.mp rfl,v3,S.fl v v1⟩ _ rfl)))))))
theorem XJ {n n':Nm} {vs ws:List SV} {Q:QV} {X:QX} (hn:h n=aa (.set vs)) (pS:h n'=aa (.set ws)) (hq:∀r:Bool,(r=ab↔∀y,y∈vs↔y∈ws)→Q (.bool (!r)) h):
  WO G F b fr h [.ref n,.ref n'] (bx (cZ .NotEq)) Q X:=by
 refine .mk λown ae A P m s Q' E' a6 R d5 c d=>bC d5 λv r z1 hv hr=>bC hr λu r' z2 hu z3=>aj hv λad hm z4=>aj hu λbg uU z5=>?_;subst z1;subst z2;subst z3;subst z4;subst z5;refine th (R.IT hn hm) λes ep t S=>th (R.IT pS uU) λes' F9 t' S'=>?_;have hT:s.TypeIs (.ref ad.1) "set":=⟨_,S.ho,rfl⟩;have CQ:s.TypeIs (.ref bg.1) "set":=⟨_,S'.ho,rfl⟩;have LY:∀(r:Bool) (dr:_),(r=ab↔∀y,y∈vs↔y∈ws)→Q' (.bool (!r)) {s with drawn:=dr}:=λr dr hr=>c _ _ _ _ _ _ (hq r hr) .rfl .rfl rfl (R.drawn dr);have Of:vs.length=ws.length↔es.size=es'.size:=(S.H.length.trans fQ)▸(S'.H.length.trans fQ)▸.rfl;refine wpAny_richCompare_same_room (op:=.NotEq) hT CQ ag1 (i4 ag1 hT abr ?_ (PySem.F.args_set_ne_2 _ _)) (R.un (k:=0));refine wb (m:=ag0 "__ne__" ⟨[.ref ad.1,.ref bg.1],[]⟩) (aan (wb (Zx CQ ?_)));refine wb (m:=ag2 (.ref ad.1)) (aD (wb (m:=ag2 (.ref bg.1)) (aD ?_)));refine wb (xb S.ho S.T.fits (wb (xb S'.ho S'.T.fits (wb ?_))));refine jJ (λz=>?_) λz=>?_
 ·refine aD (aD ⟨_,rfl,λx=>(nomatch x),LY an s.drawn ⟨λq=>cJ q,λq=>?_⟩⟩)
  exact bd (Of.mp ((Ht S.nd S'.nd).mpr q).length_eq) (bne_iff_ne.mp z)
 ·have hsz:es.size=es'.size:=Decidable.of_not_not λq=>z (bne_iff_ne.mpr q)
  refine wb (Zj hT (Vw R S S' (R.un (k:=2)) hsz λr d hr=>?_));refine aD ⟨_,rfl,λx=>(nomatch x),LY r d (hr.trans ⟨λq y=>⟨q y,λhy=>C4 λhn=>?_⟩,λq y=>(q y).mp⟩)⟩;exact bd (ah (fO (k8.mpr ⟨hn,S.nd⟩) λz hz=>(dA.mp hz).elim (λe=>e▸hy) (q z)) (bH (Of.mpr hsz).symm)) (Nat.not_succ_le_self _)
end
section
open SetTable
theorem By:Slot "set_iterator" "__next__" "set_iterator.__next__":=
 .of (owner:="set_iterator") (n:="__next__") (by rw[typeLookup_type _ _,ag3];kernel_rfl) (by decide +kernel) (by decide +kernel) (by decide +kernel)
  (.inl (by decide +kernel)) (by rw[pf _ _];kernel_rfl)
theorem Jd:Slot "set_iterator" "__iter__" "set_iterator.__iter__":=
 .of (owner:="set_iterator") (n:="__iter__") (by rw[typeLookup_type _ _,ag3];kernel_rfl) (by decide +kernel) (by decide +kernel) (by decide +kernel)
  (.inl (by decide +kernel)) (by rw[pf _ _];kernel_rfl)
theorem SE:Ie table "set_iterator.__next__"=aa Builtin.«set_iterator.__next__»:=entryFor_of_tree (by kernel_rfl)
theorem Xg (a:Value):argsOk "set_iterator.__next__" ⟨[a],[]⟩:=by unfold argsOk;kernel_rfl
theorem aeg:Ie table "set.__iter__"=aa Builtin.«frozenset.__iter__»:=
 Qq (id':="frozenset.__iter__") (by kernel_rfl) rfl (by decide +kernel) (by kernel_rfl)
theorem TK:Ie table "set_iterator.__iter__"=aa Builtin.«dict_keyiterator.__iter__»:=
 Qq (id':="dict_keyiterator.__iter__") (by kernel_rfl) rfl (by decide +kernel) (by kernel_rfl)
theorem U2 (a:Value):argsOk "set_iterator.__iter__" ⟨[a],[]⟩:=by unfold argsOk;kernel_rfl
def WM (w:cD) (a:ax) (es:Array (Int×Value)) (ep:Nat) (t:c8) (ord:List (Int×Value)) (slot i:Nat):Prop:=
 (w.params.followText "set-order"=ab∧ord=(pickOrder (w.params.setOrder a ep) es).toList)∨(w.params.followText "set-order"=an∧(!t.plain && decide (es.size > 1))=an∧below t.place slot=i∧ord=es.toList)
def WD (hp:cO) (I tp:ax) (es:Array (Int×Value)) (ord:List (Int×Value)):Prop:=
 tp≠I∧∃ks:List Nat,hp.get? tp=aa {cls:=.type "tuple",data:=.seq (ks.map λ(k:Nat)=>e_ k).toArray}∧ks.length=ord.length∧∀(i k:Nat),ks[i]? =aa k→∃e,es[k]? =aa e∧ord[i]? =aa e
noncomputable def tz (a:ax) (es:Array (Int×Value)) (ep i:Nat) (first:Value):Obj:={cls:=.type "set_iterator",data:=.fields #[first,e_ (i:Int),.ref a,e_ (es.size:Int),e_ (ep:Int)]}
structure SI (w:cD) (I tp a:ax) (es:Array (Int×Value)) (ep:Nat) (t:c8) (ord:List (Int×Value)) (i:Nat) (hp:cO):Prop where
 set:hp.get? a=aa (gA es ep t)
 it:(∃slot:Nat,hp.get? I=aa (tz a es ep i (e_ slot))∧WM w a es ep t ord slot i)∨(hp.get? I=aa (tz a es ep i (.ref tp))∧WD hp I tp es ord)
variable{w:cD} {tp a:ax} {es:Array (Int×Value)} {ep:Nat} {t:c8} {ord:List (Int×Value)} {i:Nat}
theorem Ul {xs:Array Nat} (hr:np xs.toList) {i p:Nat} (h:xs[i]? =aa p):below xs (p+1)=i+1:=by
 have B:=Bj (xs:=xs) (p+1) hr;rcases Hp (below xs (p+1)) (i+1) with q|q|q
 ·exact bd (B.hi i p h (eQ q)) (l6 (dm p))
 ·exact q
 ·have g:=jq (bK q B.le)
  exact bd (B.lo _ _ g q) (lW (hr.lt h g (dm i)))
theorem Zk {E:Value→ak→Prop} {prog:fq} (ho:s.heap.get? a=aa (gA es ep t)) (T:gb t (es.toList.map (·.1))) (hb:w.params.followText "set-order"=ab) {Q:Array (Int×Value)→ak→Prop} (k:Q (pickOrder (w.params.setOrder a ep) es) s):aw (aQ prog w) A (setWalk a) Q E s:=by
 unfold setWalk;refine wb (ki ho rfl T.fits (wb (BE ?_)));exact pd (eP hb) (wb (zB (aD k)))
theorem X7 {E:Value→ak→Prop} {prog:fq} (S:SI w I tp a es ep t ord i s.heap) (T:gb t (es.toList.map (·.1))) (fX:t.led=!(w.params.followText "set-order")) {slot:Nat} {Q:Option (Value×Nat)→ak→Prop}
  (W:WM w a es ep t ord slot i) (k1:∀e yN,ord[i]? =aa e→WM w a es ep t ord yN (i+1)→Q (aa (e.2,yN)) s) (k2:ord[i]? =af→Q af s):aw (aQ prog w) A (setNext a slot i ep) Q E s:=by
 unfold setNext;refine wb (ki S.set rfl T.fits (wb (BE ?_)));rcases W with W|W
 ·refine pd (eP W.1) (dU (by rw[mN _];rfl) (wb (Zk S.set T W.1 (aD ?_))))
  have e:(pickOrder (w.params.setOrder a ep) es)[i]? =ord[i]? :=W.2▸js.symm;rw[e]
  cases q:ord[i]? with
  |none=>exact k2 q
  |some e=>exact k1 e slot q (.inl W)
 ·refine dU (by rw[W.1];rfl) (dU (iZ λe=>iB (W.2.1.symm.trans e)) (wb (m:=do if !t.led && !es.isEmpty then Db "set:maker-not-led") (dU (by rw[fX,W.1];rfl) (aD (aD ?_)))))
  have c5:t.place.size=es.size:=fQ.symm.trans (T.1.len.trans (aI _|>.trans fQ));have e:es[below t.place slot]? =ord[i]? :=by rw[W.2.2.1,W.2.2.2,js]
  rw[e,W.2.2.1]
  cases q:ord[i]? with
  |none=>exact k2 q
  |some e=>
   have hi:i<t.place.size:=c5▸(cU.mp (W.2.2.2▸q)).1;have g:=jq hi;rw[g];exact k1 e _ q (.inr (oQ W.1 W.2.1 (Ul T.1.rise g) W.2.2.2))
theorem WD.move {hp bY:cO} (W:WD hp I tp es ord) (ht:∀o,tp≠I→hp.get? tp=aa o→bY.get? tp=aa o):WD bY I tp es ord:=⟨W.1,aj W.2 λks h1 h2=>⟨ks,ht _ W.1 h1,h2⟩⟩
theorem SI.move {hp bY:cO} (S:SI w I tp a es ep t ord i hp) (h:∀b∈[I,a,tp],∀o,hp.get? b=aa o→bY.get? b=aa o):SI w I tp a es ep t ord i bY:=
 ⟨h a (.tail _ (.head _)) _ S.set,S.it.imp (λx=>aj x λslot q1 q2=>⟨slot,h I (.head _) _ q1,q2⟩) λx=>⟨h I (.head _) _ x.1,x.2.move λo _=>h tp (.tail _ (.tail _ (.head _))) o⟩⟩
theorem SI.ty (S:SI w I tp a es ep t ord i s.heap):s.TypeIs (.ref I) "set_iterator":=S.it.elim (λx=>aj x λ_ q _=>⟨_,q,rfl⟩) λx=>⟨_,x.1,rfl⟩
theorem YG {prog:fq} {E:Value→ak→Prop} {Q:k9→ak→Prop} (hh:A.handled=af) (k:∀e hp,(∀b o,s.heap.get? b=aa o→hp.get? b=aa o)→Qo {s with heap:=hp} e "StopIteration"→E e {s with heap:=hp}):
  aw (aQ prog w) A (do HH (←newExc (.type "StopIteration") []):Sem k9) Q E s:=by
 refine wb ?_;unfold newExc newTuple;refine wb (si (wb (m:=PT _ _) (mW (a:=eG) rfl (si ?_ (by size_fits)))) (by size_fits));unfold HH;refine wb (wpAny_handled (hh.symm▸wb (aD (wpAny_throw ?_))));exact k _ _ (λb o q=>dS _ (dS _ q)) ⟨_,fP _ rfl,rfl⟩
theorem acl {E:Value→ak→Prop} {prog:fq} {Q:k9→ak→Prop} (rB:a≠I) (hh:A.handled=af) (T:gb t (es.toList.map (·.1))) (fX:t.led=!(w.params.followText "set-order")) (S:SI w I tp a es ep t ord i s.heap)
  (k1:∀e,ord[i]? =aa e→∀hp,SI w I tp a es ep t ord (i+1) hp→(∀b o,b≠I→s.heap.get? b=aa o→hp.get? b=aa o)→Q (.done (.ret e.2)) {s with heap:=hp})
  (k2:ord[i]? =af→∀e hp,(∀b o,b≠I→s.heap.get? b=aa o→hp.get? b=aa o)→Qo {s with heap:=hp} e "StopIteration"→E e {s with heap:=hp}):
  aw (aQ prog w) A (Builtin.«set_iterator.__next__» ⟨[.ref I],[]⟩) Q E s:=by
 have lC:∀{hp:cO} {f:Obj→Obj} b o,b≠I→hp.get? b=aa o→(hp.update I f).get? b=aa o:=λb o hb q=>(zC _ _ (Ne.symm hb)).trans q;have stop:∀{hp:cO},ord[i]? =af→(∀b o,b≠I→s.heap.get? b=aa o→hp.get? b=aa o)→aw (aQ prog w) A (do HH (←newExc (.type "StopIteration") []):Sem k9) Q E {s with heap:=hp}:=λ{hp} hn q=>
  YG (s:={s with heap:=hp}) hh λe bY q' ty=>k2 hn e bY (λb o hb h=>q' b o (q b o hb h)) ty
 unfold Builtin.«set_iterator.__next__»;refine wb (m:=slotArgs "__next__" 0 ⟨[.ref I],[]⟩) (aD ?_);rcases S.it with h|⟨hI,W⟩
 ·refine aj h λslot hI W=>?_
  refine wb (wpAny_fieldsOf hI rfl (wb (wb (ki S.set rfl T.fits (aD (dU (by rw[mN _];rfl) (wb (X7 S T fX W (λe yN he W'=>?_) λhn=>?_))))))))
  ·have h1:=kZ (uC (·.setIfInBounds 0 (e_ yN))) hI rfl
   refine wb (sf hI rfl (ag4 _) (wb (sf (s:={s with heap:=_}) h1 rfl (jD rfl) (aD (k1 e he _ ⟨lC _ _ rB (lC _ _ rB S.set),.inl ⟨yN,kZ _ h1 rfl,W'⟩⟩ λb o hb q=>lC _ _ hb (lC _ _ hb q))))))
  ·exact wb (sf hI rfl (jD rfl) (stop hn λb o hb q=>lC _ _ hb q))
 ·refine wb (wpAny_fieldsOf hI rfl (wb (wb (ki S.set rfl T.fits (aD (dU (by rw[mN _];rfl) ?_))))))
  refine bM W.2 λks h3 h4 h5=>wb (uu h3 rfl ?_);dsimp only;rw[((List.getElem?_toArray).trans dq:((ks.map λ(k:Nat)=>e_ k).toArray)[(i:Int).toNat]? =ks[i]?.map λ(k:Nat)=>e_ k)]
  cases q:ks[i]? with
  |none=>
   exact wb (sf hI rfl (ag4 _) (wb (sf (s:={s with heap:=_}) (kZ (uC (·.setIfInBounds 0 (e_ 0))) hI rfl) rfl (jD rfl) (stop (lY (h4▸ke.mp q)) λb o hb q=>lC _ _ hb (lC _ _ hb q)))))
  |some k=>
   refine aj (h5 i k q) λe e1 e2=>?_;refine wb (m:=setNextDrawn a ((k:Nat):Int).toNat ((ep:Int)).toNat) ?_;unfold setNextDrawn;refine wb (ki S.set rfl T.fits (dU (by rw[HF _,mN _];rfl) ?_));show aw _ _ (match es[k]? with|some (_,x)=>pure x|_=>_) _ _ _;rw[e1];exact aD (wb (sf hI rfl (jD rfl) (aD (k1 e e2 _ ⟨lC _ _ rB S.set,.inr ⟨kZ _ hI rfl,W.move λo ht=>lC _ _ ht⟩⟩ λb o hb q=>lC _ _ hb q))))
theorem ML {E:Value→ak→Prop} {prog:fq} {Q:Option Value→ak→Prop} (rB:a≠I) (hh:A.handled=af) (T:gb t (es.toList.map (·.1))) (fX:t.led=!(w.params.followText "set-order")) (S:SI w I tp a es ep t ord i s.heap)
  (k1:∀e,ord[i]? =aa e→∀hp,SI w I tp a es ep t ord (i+1) hp→(∀b o,b≠I→s.heap.get? b=aa o→hp.get? b=aa o)→Q (aa e.2) {s with heap:=hp})
  (k2:ord[i]? =af→∀hp,(∀b o,b≠I→s.heap.get? b=aa o→hp.get? b=aa o)→Q af {s with heap:=hp}):aw (aQ prog w) A (uw (.ref I)) Q E s:=by
 have hT:=S.ty;unfold uw;exact wb (wpAny_attempt (qy (name:=dL "__next__") hT By (i4 By hT SE (acl rB hh T fX S (λe he hp S' q=>⟨_,rfl,aD (k1 e he hp S' q)⟩) λhn e hp q ty=>wb (ux ty isSubtype_stop (aD (k2 hn hp q)))) (Xg _))))
theorem Q2 {prog:fq} (rB:a≠I) (hh:A.handled=af) (T:gb t (es.toList.map (·.1))) (fX:t.led=!(w.params.followText "set-order")) (lu:ord.length=es.size):
  WalksS prog w A I [I,a,tp] [I] Eq es.size (λi v=>∃e,ord[i]? =aa e∧v=e.2) (λi s=>SI w I tp a es ep t ord i s.heap) where
 sub _ h:=(bU.mp h)▸.head _
 grefl _:=rfl
 gtrans _ _ _:=Eq.trans
 frame _ _ _ _ S _ h:=S.move h
 item _ _ _ _ hi S k:=ML rB hh T fX S (λe he hp S' q=>k _ _ ⟨e,he,rfl⟩ S' ⟨λb o hb=>q b o λz=>hb (z▸.head _),rfl,rfl,rfl,au _⟩) λhn=>bd (ke.mp hn) (l6 (lu.symm▸hi))
 done _ _ _ S k:=ML rB hh T fX S (λe he=>bd (cU.mp he).1 (lu▸fo _)) λ_ hp q=>k _ ⟨λb o hb=>q b o λz=>hb (z▸.head _),rfl,rfl,rfl,au _⟩
 self _ _ _ _ S k:=ag5 S.ty Jd (i4 Jd S.ty TK (aD ⟨_,rfl,_,_,S.ty,By.lookup,k⟩) (U2 _))
theorem acn (a:Value):argsOk "set.__iter__" ⟨[a],[]⟩:=PySem.F.args_set_iter_1 a
theorem υ {E:Value→ak→Prop} {prog:fq} (ho:s.heap.get? a=aa (gA es ep t)) (T:gb t (es.toList.map (·.1))) {Q:Bool→ak→Prop} (k:Q (!(w.params.followText "set-order") && (!t.plain && decide (es.size > 1))) s):
  aw (aQ prog w) A (setDrawn a) Q E s:=by
 unfold setDrawn;exact wb (ki ho rfl T.fits (wb (BE (aD k))))
theorem Ta {E:Value→ak→Prop} {prog:fq} (ho:s.heap.get? a=aa (gA es ep t)) (T:gb t (es.toList.map (·.1))) (fX:t.led=!(w.params.followText "set-order")) (hsz:es.size≤aZ) {Q:Value→ak→Prop}
  (k:∀I tp hp d ord,(∀b o,s.heap.get? b=aa o→hp.get? b=aa o)→s.heap.objs.size≤I→s.heap.objs.size≤tp→SI w I tp a es ep t ord 0 hp→ord.Perm es.toList→Q (.ref I) {s with heap:=hp,drawn:=d}):
  aw (aQ prog w) A (qz (.ref a)) Q E s:=by
 have hT:s.TypeIs (.ref a) "set":=⟨_,ho,rfl⟩;refine ag5 hT ag6 (i4 ag6 hT aeg ?_ (acn _));refine wb (m:=aub "__iter__" ⟨[.ref a],[]⟩) (aD ?_);refine wb (xb ho T.fits (wb (υ ho T ?_)));have fin:∀(tp:ax) (hp:cO) d first ord,(∀b o,s.heap.get? b=aa o→hp.get? b=aa o)→s.heap.objs.size≤hp.objs.size→s.heap.objs.size≤tp→(∀bY,(∀b o,hp.get? b=aa o→bY.get? b=aa o)→bY.get? hp.objs.size=aa (tz a es ep 0 first)→
   (∃slot:Nat,bY.get? hp.objs.size=aa (tz a es ep 0 (e_ slot))∧WM w a es ep t ord slot 0)∨(bY.get? hp.objs.size=aa (tz a es ep 0 (.ref tp))∧WD bY hp.objs.size tp es ord))→ord.Perm es.toList→
   aw (aQ prog w) A.in1 (do HY (←newFields "set_iterator" [first,e_ 0,.ref a,e_ (es.size:Int),e_ ((←setEpoch a):Int)])) (λ(fin:k9) s'=>∃v,fin=PySem.Fin.done (.ret v)∧∃T c,s'.TypeIs v T∧typeLookup (.type T) "__next__"=pure (aa c)∧Q v s') E {s with heap:=hp,drawn:=d}:=by
  intro tp hp d first ord q1 q2 q3 q4 q5
  have gk:∀b o,hp.get? b=aa o→(hp.push (tz a es ep 0 first)).get? b=aa o:=λb o e=>dS _ e;have gs:=fP hp (o:=tz a es ep 0 first) rfl;exact wb (Qs (s:={s with heap:=hp,drawn:=d}) (q1 _ _ ho) rfl T.fits (wb (m:=newFields _ _) (si (aD ⟨_,rfl,"set_iterator",_,⟨_,gs,rfl⟩,By.lookup,k hp.objs.size tp _ d ord (λb o e=>gk b o (q1 b o e)) q2 q3 ⟨gk _ _ (q1 _ _ ho),q4 _ gk gs⟩ q5⟩) (by size_fits))))
 cases hb:w.params.followText "set-order" with
 |true=>
  refine dU (by rw[ag7,Bool.false_and _];rfl) (wb (aD (fin s.heap.objs.size s.heap s.drawn (e_ 0) _ (λb o e=>e) (au _) (au _) (λbY _ g=>.inl ⟨0,g,.inl ⟨hb,rfl⟩⟩) ?_)));exact Nq _ es.size 0 es.toList #[] (au _)
 |false=>
  cases hd:(!t.plain && decide (es.size > 1)) with
  |false=>
   refine dU rfl (wb (aD (fin s.heap.objs.size s.heap s.drawn (e_ 0) es.toList (λb o e=>e) (au _) (au _) (λbY _ g=>.inl ⟨0,g,.inr (oQ hb hd ?_ rfl)⟩) (List.Perm.refl _))));have B:=Bj (xs:=t.place) 0 T.1.rise;exact(sv _).elim id λq=>bd (B.lo 0 _ (jq (bK q B.le)) q) (mQ _)
  |true=>
   refine pd rfl (wb (Lz es.size (bq es.size) s (bH dR) λks d hp=>?_));have hlt:∀{k},k∈ks→k<es.toList.length:=λ{k} h=>fQ▸dQ.mp (hp.mem_iff.mp h);have fe:=EJ (0,eG) (l:=es.toList) λi hi=>hlt hi;refine wb (wpAny_newTuple (fin s.heap.objs.size _ d (.ref s.heap.objs.size) (ks.filterMap (es.toList[·]?)) (λb o e=>dS _ e) (lX ..▸bT _) (au _) (λbY dX g=>.inr ⟨g,lX ..▸dp (dm _),ks,dX _ _ (fP _ rfl),?_,λi k OA=>?_⟩) ?_) ?_)
   ·exact((ay nY fe).trans (aI _)).symm
   ·have hk:=hlt (bQ OA)
    refine⟨es.toList[k],by rw[←js];exact fb hk,?_⟩;rw[fe,dq,OA];exact ay aa (o7.trans (ay (PB · _) (fb hk)))
   ·have:=hp.filterMap (es.toList[·]?)
    rwa [←fQ,agr] at this
   ·rw[aI _,hp.length_eq,dR];exact hsz
end
section
noncomputable def ev {α:Type} (lt:Nat→Nat→Bool):KasT α→α
 |.ret a=>a
 |.ask i j k=>ev lt (k (lt i j))
theorem yr {α β:Type} (lt:Nat→Nat→Bool) (f:α→KasT β) (t:KasT α):ev lt (t.bind f)=ev lt (f (ev lt t)):=by
 induction t with
 |ret _=>rfl
 |ask i j k ih=>exact ih (lt i j)
def Run {α:Type} (n:Nat) (Q:α→Prop):KasT α→Prop
 |.ret a=>Q a
 |.ask i j k=>i<n∧j<n∧∀b,Run n Q (k b)
theorem Run.ite {α:Type} {n:Nat} {Q:α→Prop} {c:Prop} [Decidable c] {t u:KasT α} (a:Run n Q t) (b:Run n Q u):Run n Q (if c then t else u):=
 if h:c then(aO h).symm▸a else(aK h).symm▸b
theorem Run.bind {α β:Type} {n:Nat} {Q:α→Prop} {Q':β→Prop} {f:α→KasT β} {t:KasT α} (r:Run n Q t) (hf:∀a,Q a→Run n Q' (f a)):Run n Q' (t.bind f):=by
 induction t with
 |ret a=>exact hf a r
 |ask i j k ih=>exact⟨r.1,r.2.1,λb=>ih b (r.2.2 b)⟩
theorem Run.ev {α:Type} {n:Nat} {Q:α→Prop} {t:KasT α} (lt:Nat→Nat→Bool) (r:Run n Q t):Q (ev lt t):=by
 induction t with
 |ret a=>exact r
 |ask i j k ih=>exact ih _ (r.2.2 _)
theorem Run.acx {α:Type} {n:Nat} {Q:α→Prop} {lt lt':Nat→Nat→Bool} (hl:∀i j,i<n→j<n→lt i j=lt' i j) {t:KasT α} (r:Run n Q t):Mine.Internal.ev lt t=Mine.Internal.ev lt' t:=by
 induction t with
 |ret a=>rfl
 |ask i j k ih=>exact(ay (λb=>Mine.Internal.ev lt (k b)) (hl i j r.1 r.2.1)).trans (ih _ (r.2.2 _))
theorem Run.Uk {α:Type} {n:Nat} {lt:Nat→Nat→Bool} {AQ:Nat→Nat→(Bool→ak→Prop)→ak→Prop} {s:ak} (hc:∀i j C,i<n→j<n→C (lt i j) s→AQ i j C s) {Q:α→ak→Prop} {Q':α→Prop} {t:KasT α}
  (r:Run n Q' t) (h:Q (Mine.Internal.ev lt t) s):t.kasWp AQ Q s:=by
 induction t with
 |ret a=>exact h
 |ask i j k ih=>exact hc i j _ r.1 r.2.1 (ih _ (r.2.2 _) h)
def PR (n:Nat) (p:Array Nat):Prop:=p.toList.Perm (bq n)
theorem PR.perm {n:Nat} {p q:Array Nat} (h:PR n p) (hp:q.Perm p):PR n q:=(Array.perm_iff_toList_perm.mp hp).trans h
theorem PR.rev {n:Nat} {p:Array Nat} (h:PR n p) (i j:Nat):PR n (kas_rev p i j):=h.perm (mirror_perm _ _ _ _)
theorem PR.size {n:Nat} {p:Array Nat} (h:PR n p):p.size=n:=h.length_eq.trans dR
section
variable{n:Nat} (hn:0<n)
include hn
theorem PR.at {p:Array Nat} (h:PR n p) (i:Nat):p.getD i 0<n:=by
 unfold ag8;exact if q:i<p.size then(dif_pos q).symm▸dQ.mp (h.mem_iff.mp (Array.getElem_mem_toList q)) else(dif_neg q).symm▸hn
theorem K6 {p:Array Nat} (h:PR n p) (f:Nat):∀k,Run n (λ_=>True) (kas_asc p f k):=by
 induction f with
 |zero=>exact λ_=>trivial
 |succ f ih=>exact λk=>⟨h.at hn _,h.at hn _,λ_=>.ite trivial (ih _)⟩
theorem ac1 (f:Nat):∀{p:Array Nat} (k q:Nat),PR n p→Run n (λr=>PR n r.1) (kas_desc f p k q):=by
 induction f with
 |zero=>exact λ_ _ h=>h
 |succ f ih=>exact λk q h=>⟨h.at hn _,h.at hn _,λ_=>.ite (.ite (ih _ _ (h.rev _ _)) (ih _ _ h)) ⟨h.at hn _,h.at hn _,λ_=>.ite h (ih _ _ h)⟩⟩
theorem IA {k nrem:Nat} {p:Array Nat} (h:PR n p):Run n (λr=>PR n r.2) (kas_tail3 k nrem p):=(K6 hn (h.rev _ _) _ _).bind λ_ _=>h.rev 0 k
theorem M7 {k nrem:Nat} {p:Array Nat} (h:PR n p):Run n (λr=>PR n r.2) (Qu k nrem p):=
 (ac1 hn _ _ _ h).bind λr hr=>.ite (IA hn (hr.rev _ _)) (IA hn hr)
theorem OP {nrem:Nat} {p:Array Nat} (h:PR n p):Run n (λr=>PR n r.2) (Ig nrem p):=
 (K6 hn h _ _).bind λ_ _=>.ite h (.ite ⟨h.at hn _,h.at hn _,λ_=>.ite h (M7 hn (h.rev _ _))⟩ (M7 hn h))
theorem Sn {p:Array Nat} (h:PR n p) (k f:Nat):∀l r,Run n (λ_=>True) (kas_place p k f l r):=by
 induction f with
 |zero=>exact λ_ _=>trivial
 |succ f ih=>exact λl r=>.ite trivial ⟨h.at hn _,h.at hn _,λ_=>.ite (ih _ _) (ih _ _)⟩
theorem R9 (f:Nat):∀{p:Array Nat} (k:Nat),PR n p→Run n (PR n) (Dw f p k):=by
 induction f with
 |zero=>exact λ_ h=>h
 |succ f ih=>exact λk h=>(Sn hn h k _ _ _).bind λl _=>ih _ (h.perm (bubble_perm _ _ _))
theorem At:Run n (PR n) (zP n):=
 (OP hn (p:=(bq n).toArray) (.refl _)).bind λr hr=>.ite (R9 hn _ _ hr) hr
end
theorem xr {α:Type} {c:Prop} [Decidable c] {x y:α} (h:c):(if decide c=ab then x else y)=x:=aO (eP h)
theorem EL {α:Type} {c:Prop} [Decidable c] {x y:α} (h:¬c):(if decide c=ab then x else y)=y:=aK λe=>h (fD e)
section
variable(key:Nat→Int)
abbrev kl (i j:Nat):Bool:=decide (key i<key j)
noncomputable def KP (p:Array Nat) (i:Nat):Int:=key (p.getD i 0)
def gq (r:Int→Int→Prop) (p:Array Nat) (k:Nat):Prop:=∀i,i+1<k→r (KP key p i) (KP key p (i+1))
def Bx (n:Nat) (p:Array Nat):Prop:=∀i j,i<j→j<n→KP key p i≠KP key p j
variable{key} {r:Int→Int→Prop} {p:Array Nat} {m k n:Nat}
theorem CU {q:Array Nat} {i j:Nat} (h:p[i]? =q[j]?):KP key p i=KP key q j:=by
 unfold KP;rw[Pz,Pz,h]
theorem z_ (hk:((bq n).map key).Nodup) (h:PR n p):Bx key n p:=λi j wo hj e=>by
 have z:∀{i},i<n→(p.toList.map key)[i]? =aa (KP key p i):=λ{i} hi=>by
  have pz:i<p.size:=h.size.symm▸hi;unfold KP ag8;rw[dif_pos pz,dq,js,jq pz];rfl
 have hi:=i2 wo hj;exact dp wo ((P7 (by rw[aI _];exact PA hi h.size.symm) ((h.map key).nodup_iff.mpr hk)).mp ((z hi).trans ((ay aa e).trans (z hj).symm)))
theorem gq.at (h:gq key r p k) (tr:∀{a b c},r a b→r b c→r a c) {i j:Nat} (wo:i<j) (hj:j<k):r (KP key p i) (KP key p j):=by
 induction wo with
 |refl=>exact h i hj
 |step _ ih=>exact tr (ih (n8 hj)) (h _ hj)
theorem gq.snoc (h:gq key r p (m+1)) (hx:r (KP key p m) (KP key p (m+1))):gq key r p (m+2):=λi hi=>
 (zw (HT hi)).elim (h i) λq=>Dp q▸hx
theorem gq.one:gq key r p 1:=λi hi=>bd hi (lW (eE (cb i)))
theorem FY {a b:Int} (h:¬a<b) (e:b≠a):b<a:=Int.lt_iff_le_and_ne.mpr ⟨qv.mp h,e⟩
theorem ID (D:Bx key n p) (f:Nat):∀{m} {C:Prop},m+1+f=n→gq key (· < ·) p (m+1)→
  (∀r,ev (kl key) (kas_asc p f (m+1))=r+1→r+1≤n→gq key (· < ·) p (r+1)→(r+1<n→KP key p (r+1) <KP key p r)→C)→C:=by
 induction f with
 |zero=>exact λ{m} _ e h c=>c m rfl (bH e) h λq=>bd e (dp q)
 |succ f ih=>
  exact λ{m} _ e h c=>
  have hm:=e▸qF (dJ f)
  if hc:KP key p (m+1) <KP key p m then c m (ay (ev (kl key)) (xr hc)) (cj hm) h λ_=>hc
  else ih ((C6 _ _).trans e) (h.snoc (FY hc (D _ _ (dm m) hm))) λr e'=>c r ((ay (ev (kl key)) (EL hc)).trans e')
theorem RW (D:Bx key n p) (f:Nat):∀{m} {C:Prop},m+1+f=n→gq key (· > ·) p (m+1)→
  (∀r,ev (kl key) (kas_desc f p (m+1) 0)=(p,r+1,0)→r+1≤n→gq key (· > ·) p (r+1)→C)→C:=by
 induction f with
 |zero=>exact λ{m} _ e h c=>c m rfl (bH e) h
 |succ f ih=>
  exact λ{m} _ e h c=>
  have hm:=e▸qF (dJ f)
  if hc:KP key p (m+1) <KP key p m then ih ((C6 _ _).trans e) (h.snoc hc) λr e'=>c r ((ay (ev (kl key)) ((xr hc).trans (aK (fo 0)))).trans e')
  else c m (ay (ev (kl key)) ((EL hc).trans rfl)|>.trans (ay (ev (kl key)) (xr (FY hc (D _ _ (dm m) hm))))) (cj hm) h
structure Good (key:Nat→Int) (n:Nat) (r:Nat×Array Nat):Prop where
 pos:0<r.1
 le:r.1≤n
 Ov:gq key (· < ·) r.2 r.1
theorem Pk (hm:m<p.size) {i:Nat} (hi:i≤m):KP key (kas_rev p 0 (m+1)) i=KP key p (m-i):=
 CU ((getElem?_mirror_all hm i).trans ((aO ⟨cb _,kY hi⟩).trans (by rw[mP _];rfl)))
theorem Ve (hm:m<p.size) (h:gq key (· > ·) p (m+1)):gq key (· < ·) (kas_rev p 0 (m+1)) (m+1):=λi hi=>by
 have hi:=Ib hi;have z:m- (i+1)+1=m-i:=qG (aeq hi);rw[Pk hm (cj hi),Pk hm hi,←z];exact(h (m- (i+1)) (z▸kY (kh _ _)))
theorem R1 (hk:((bq n).map key).Nodup) (h:PR n p) (hm:m<n) (A:gq key (· > ·) p (m+1)):Good key n (ev (kl key) (kas_tail3 (m+1) n p)):=by
 refine ID (z_ hk (h.rev 0 (m+1))) (n- (m+1)) (uj hm) (Ve (h.size.symm▸hm) A) λr e l a _=>?_;exact(yr _ _ _).symm▸e.symm▸⟨dJ r,l,a⟩
theorem ads (hk:((bq n).map key).Nodup) (h:PR n p) (hm:1<n) (A:KP key p 1<KP key p 0):Good key n (ev (kl key) (Qu 1 n p)):=by
 refine RW (z_ hk h) (n-2) (m:=1) (uj hm) (gq.one.snoc A) λr e l a=>?_;unfold Qu;rw[yr _ _ _,e];exact R1 hk h l a
theorem ν (hk:((bq n).map key).Nodup) (h:PR n p) (hn:0<n):Good key n (ev (kl key) (Ig n p)):=by
 refine ID (z_ hk h) (n-1) (m:=0) (uj hn) .one λr e l a d=>?_;unfold Ig;rw[yr _ _ _,e];refine if q:(r+1==n)=ab then(aO q).symm▸⟨dJ r,l,a⟩ else(aK q).symm▸?_
 have hr:=wI l λz=>q (eW.mpr z)
 cases r with
 |zero=>exact(aK (fo 1)).symm▸ads hk h hr (d hr)
 |succ r=>exact(aO (ph (dJ r))).symm▸(ay (ev (kl key)) (xr (a.at r8 (dJ r) (dm _)))).symm▸⟨dJ _,l,a⟩
theorem VJ (D:Bx key n p) (hk:k<n) (h:gq key (· < ·) p k) (f:Nat):∀{l r:Nat} {C:Prop},l≤k→r≤k→r≤l+f→(∀i,i<l→KP key p i<KP key p k)→(∀i,r≤i→i<k→KP key p k<KP key p i)→
  (∀x,ev (kl key) (kas_place p k f l r)=x→x≤k→(∀i,i<x→KP key p i<KP key p k)→(∀i,x≤i→i<k→KP key p k<KP key p i)→C)→C:=by
 induction f with
 |zero=>exact λ{l r} _ hl hr e a b c=>c l rfl hl a λi hi=>b i (ah e hi)
 |succ f ih=>
  exact λ{l r} _ hl hr e a b c=>
  if sN:l≥r then c l (ay (ev (kl key)) (aO sN)) hl a λi hi=>b i (ah sN hi)
  else
   have N5:=ag9 sN;have h1:(l+r) / 2<r:=aeo (Nat.two_mul r▸CZ N5 r);have h2:l≤(l+r) / 2:=(aep wG).mpr (Nat.mul_two l▸eZ (cj N5) l);have h3:=bK h1 hr
   if hc:KP key p k<KP key p ((l+r) / 2) then
    ih hl (cj h3) (eQ (bK h1 e)) a (λi hi pz=>(wJ hi).elim (λq=>q▸hc) λq=>r8 hc (h.at r8 q pz))
     λx e'=>c x ((ay (ev (kl key)) (aK sN)).trans ((ay (ev (kl key)) (xr hc)).trans e'))
   else
    have K5:=FY hc (D _ _ h3 hk)
    ih h3 hr (ah e (ah (eE (nW h2 f)) (bH (wH _ _).symm))) (λi hi=>(zw (eQ hi)).elim (λq=>r8 (h.at r8 q h3) K5) λq=>q▸K5) b
     λx e'=>c x ((ay (ev (kl key)) (aK sN)).trans ((ay (ev (kl key)) (EL hc)).trans e'))
theorem Y1 {l:Nat} (hk:k<p.size) (hl:l≤k) (h:gq key (· < ·) p k) (a:∀i,i<l→KP key p i<KP key p k) (b:∀i,l≤i→i<k→KP key p k<KP key p i):gq key (· < ·) (bubble p k (k-l)) (k+1):=by
 have g:∀x,(bubble p k (k-l))[x]? =if x=l then p[k]? else if l<x∧x≤k then p[x-1]? else p[x]? :=λx=>by
  have:=getElem?_bubble hk (k-l) (kh _ _) x;rw[Nat.sub_sub_self hl] at this;exact this
 generalize bubble p k (k-l)=q at g ⊢;have lo:∀x,x<l→KP key q x=KP key p x:=λx hx=>CU ((g x).trans ((aK (dp hx)).trans (aK λc=>Nat.lt_asymm hx c.1)));have up:∀x,l≤x→x<k→KP key q (x+1)=KP key p x:=λx hx sK=>CU ((g _).trans ((aK (dF (kY hx))).trans (aO ⟨kY hx,sK⟩)));have OQ:KP key q l=KP key p k:=CU ((g l).trans (aO rfl));intro i hi;have hi:=Ib hi;rcases P5 i l with y|y
 ·rw[lo i y]
  exact(zw y).elim (λz=>(lo _ z).symm▸h i (bK z hl)) λz=>(z▸OQ:KP key q (i+1)=_).symm▸a i y
 ·rw[up i y hi]
  refine(wJ y).elim (λz=>z▸OQ.symm▸b l (au _) (z▸hi)) ?_
  cases i with
  |zero=>exact λz=>bd z (mQ _)
  |succ j=>exact λz=>(up j (eQ z) (n8 hi)).symm▸h j hi
theorem XD (hk:((bq n).map key).Nodup) (f:Nat):∀{p:Array Nat} {k:Nat},k+f=n→PR n p→gq key (· < ·) p k→gq key (· < ·) (ev (kl key) (Dw f p k)) n:=by
 induction f with
 |zero=>exact λe _ h=>e▸h
 |succ f ih=>
  intro p k e hp h;have Md:k<n:=e▸qF (dJ f);refine VJ (z_ hk hp) Md h k (cb _) (au _) (bH (mP k).symm) (λi hi=>bd hi (mQ i)) (λi hi pz=>bd pz (lW hi)) λl e' hl a b=>?_;refine((yr (kl key) (λl=>Dw f (bubble p k (k-l)) (k+1)) (kas_place p k k 0 k)).trans (ay (λl=>ev (kl key) (Dw f (bubble p k (k-l)) (k+1))) e'):ev (kl key) (Dw (f+1) p k)=_).symm▸?_;exact ih ((C6 _ _).trans e) (hp.perm (bubble_perm _ _ _)) (Y1 (hp.size.symm▸Md) hl h a b)
theorem ace (hk:((bq n).map key).Nodup) (hn:0<n):gq key (· < ·) (ev (kl key) (zP n)) n:=by
 have c:=ν hk (p:=(bq n).toArray) (.refl _) hn;have r:=(OP hn (nrem:=n) (p:=(bq n).toArray) (.refl _)).ev (kl key);unfold zP;rw[yr _ _ _];generalize ev (kl key) (Ig n _)=x at c r ⊢;have e:=Nat.max_eq_left c.pos;exact if q:x.1<n then(aO q).symm▸XD hk _ (e.symm▸uj c.le) r (e.symm▸c.Ov) else(aK q).symm▸qD c.le (oY q)▸c.Ov
end
end
noncomputable def pR {α:Type} (lt:Nat→Nat→Bool) (l:List α) (d:α):List α:=if l.length<2 then l else(ev lt (zP l.length)).toList.map λi=>l.getD i d
variable{prog:fq} {w:cD} {E:Value→ak→Prop} {a:ax} {vs:List Value} {n:Nat} {lt:Nat→Nat→Bool}
noncomputable def Aa (a:ax) (yE:Nat) (s:SortSt):Sem k9:=do
 let sorted:=(arrOf s).map (·.2)
 let Vk:=(←seqEpoch a) !=yE
 aha (.ref a) λ_=>sorted
 if let aa e:=failedOf s then rule "list.sort.comparison-raised";throw e
 if Vk then rule "list.sort.modified";raiseError "ValueError" "list modified during sort"
 HY .none
noncomputable def GQ (a:ax) (items:Array Value) (yE:Nat):Sem k9:=do
 let kind ←if items.size<2 then pure general' else keyKind' items
 let r ←(if items.size<2 then pure () else sortRuns').run (SortSt.mk' kind (items.zip items) #[] 7 af)
 Aa a yE r.2
theorem TF (a:ax):Builtin.«list.sort» ⟨[.ref a],[]⟩=(do
  let items ←auc (.ref a)
  aha (.ref a) λ_=>#[]
  let yE ←seqEpoch a
  let Tk ←newTuple items.toList
  let Rq ←newList []
  jt [Tk,Rq] (GQ a items yE)):=rfl
theorem KN {P:k9→ak→Prop} {st:SortSt} {e1:Nat} {out:List Value} (hl:out.length<64) (ho:s.heap.get? a=aa (kj "list" #[] e1)) (hm:(arrOf st).map (·.2)=out.toArray) (hf:failedOf st=af)
  (k:P (.done (.ret .none)) {s with heap:=s.heap.update a (lZ λ_=>out.toArray)}):aw (aQ prog w) A (Aa a e1 st) P E s:=by
 unfold Aa;rw[hm,hf];refine wb (seqEpoch_at ho rfl (wb (listUpdate_at ho rfl ?_ (cb _) (ah (cj hl) aJ))));show aw _ _ (if(e1 !=e1)=ab then _ else _) _ _ _;rw[mN _];exact aD k
theorem aak {P:k9→ak→Prop} {e1:Nat} (iR:vs.length<64) (ho:s.heap.get? a=aa (kj "list" #[] e1)) {κ:Ih} (hk:2≤vs.length→∀Q:Ih→ak→Prop,Q κ s→aw (aQ prog w) A (keyKind' vs.toArray) Q (λ_ _=>False) s)
  (hc:∀i j C,i<vs.length→j<vs.length→C (lt i j) s→kas_ask prog w A κ vs i j C s)
  (k:∀out:List Value,out=pR lt vs .none→P (.done (.ret .none)) {s with heap:=s.heap.update a (lZ λ_=>out.toArray)}):aw (aQ prog w) A (GQ a vs.toArray e1) P E s:=by
 unfold GQ
 by_cases h2:vs.length<2
 ·rw[aO (show vs.toArray.size<2 from h2),aO (show vs.toArray.size<2 from h2)]
  refine wb (aD (wb (aD (KN iR ho ?_ rfl (k vs (aO h2).symm)))));exact Ii.mp ((agq).trans ((ay _ Array.toList_zip).trans (List.map_snd_zip (au _))))
 ·have g:¬vs.toArray.size<2:=h2
  rw[aK g,aK g];have g2:=oY h2;have n0:=bK wG g2;refine wb (nZ (hk g2 _ ?_) (λ_ _ h=>h) λ_ _ x=>x.elim);refine wb (kat_run (Q:=λst s'=>aw (aQ prog w) A (Aa a e1 st) P E s') (G:=λp s'=>p=ev lt (zP vs.length)∧s'=s) rfl g2 iR (λp st s' hp ha hf e=>?_) ((At n0).Uk hc ⟨rfl,rfl⟩));obtain rfl:=e.2;exact KN (bf (bH ((aI _).trans hp)) iR) ho (kat_snds rfl ha) hf (k _ (e.1▸(aK h2).symm))
theorem Un {P:k9→ak→Prop} (ho:s.heap.get? a=aa (kj "list" vs.toArray n)) (iR:vs.length<64)
  {κ:Ih} (hk:∀hp:cO,(∀b o,b≠a→s.heap.get? b=aa o→hp.get? b=aa o)→2≤vs.length→∀Q:Ih→ak→Prop,Q κ {s with heap:=hp}→aw (aQ prog w) A (keyKind' vs.toArray) Q (λ_ _=>False) {s with heap:=hp})
  (hc:∀hp:cO,(∀b o,b≠a→s.heap.get? b=aa o→hp.get? b=aa o)→∀i j C,i<vs.length→j<vs.length→C (lt i j) {s with heap:=hp}→kas_ask prog w A κ vs i j C {s with heap:=hp})
  (k:∀hp out c,(∀b o,b≠a→s.heap.get? b=aa o→hp.get? b=aa o)→hp.get? a=aa (kj "list" out c)→out.toList=pR lt vs .none→P (.done (.ret .none)) {s with heap:=hp}):
  aw (aQ prog w) A (Builtin.«list.sort» ⟨[.ref a],[]⟩) P E s:=by
 have s1:=o9 s.heap a (lZ λ_=>(#[]:Array Value));have F_:=get?_update_seq ho λ_=>#[];have rg:∀b o,b≠a→s.heap.get? b=aa o→(((s.heap.update a (lZ λ_=>(#[]:Array Value))).push (kj "tuple" vs.toArray 0)).push (kj "list" #[] 0)).get? b=aa o:=λb o hb e=>
  dS _ (dS _ ((s1.2 b hb).trans e))
 have qQ:=dS (kj "list" #[] 0) (dS (kj "tuple" vs.toArray 0) F_);have hz:vs.length≤aZ:=ah (cj iR) aJ;refine(TF a).symm▸wb (listItems_at ho rfl (wb (listUpdate_at ho rfl (wb (seqEpoch_at F_ rfl (wb (wpAny_newTuple (wb (wpAny_newList (dD ?_) (cb _))) hz)))) hz (cb _))));show aw _ A _ P E {s with heap:=((s.heap.update a (lZ λ_=>(#[]:Array Value))).push (kj "tuple" vs.toArray 0)).push (kj "list" #[] 0)};clear F_ s1;generalize ((s.heap.update a (lZ λ_=>(#[]:Array Value))).push (kj "tuple" vs.toArray 0)).push (kj "list" #[] 0)=hp at rg qQ ⊢;exact aak (s:={s with heap:=hp}) iR qQ (hk hp rg) (hc hp rg) λout e=>k _ _ _ (λb o hb e=>((o9 hp a (lZ λ_=>out.toArray)).2 b hb).trans (rg b o hb e)) (get?_update_seq qQ λ_=>out.toArray) e
theorem Xa {E:Value→ak→Prop} {prog:fq} {w:cD} {a:ax} (hT:s.TypeIs (.ref a) "set") {Q:Bool→ak→Prop} (k:Q an s):aw (aQ prog w) A (ahb (.ref a)) Q E s:=by
 unfold ahb;refine wb (qA hT PySem.F.slot_set_len.lookup ?_);show aw _ A (HS (.ref a) (.type "set") >>=_) _ _ _;refine wb (ux hT Qn ?_);show aw _ A (uA (.ref a) >>=_) _ _ _;exact wb (uz hT (aD k))
theorem ZM {acc:Array Value} {ord:List (Int×Value)} (h:ItemsOf (λi v=>∃e,ord[i]? =aa e∧v=e.2) acc ord.length):acc.toList=ord.map (·.2):=afg λj=>by
 rw[js,dq]
 cases q:acc[j]? with
 |none=>exact(lY (h.1▸Array.getElem?_eq_none_iff.mp q):ord[j]? =af)▸rfl
 |some v=>exact aj (h.2 j v q) λe h1 h2=>h1▸h2▸rfl
theorem aaz {prog:fq} {w:cD} {a L:ax} {es:Array (Int×Value)} {ep:Nat} {t:c8} {R':wQ→ak→Prop} (hh:A.handled=af) (ho:s.heap.get? a=aa (gA es ep t)) (T:gb t (es.toList.map (·.1)))
  (fX:t.led=!(w.params.followText "set-order")) (hsz:es.size≤aZ) (hL:s.heap.get? L=aa {cls:=.type "list",data:=.seq #[] 0}) (Mn:L≠a)
  (k:∀(s':ak) xs c (ys:List (Int×Value)),(∀b o,b≠L→s.heap.get? b=aa o→s'.heap.get? b=aa o)→s'.gens=s.gens→s'.os=s.os→s'.heap.get? L=aa {cls:=.type "list",data:=.seq xs c}→ys.Perm es.toList→xs.toList=ys.map (·.2)→R' (.ok (.ret (.ref L))) s'):
  kc (aQ prog w) A (.builtin "list.__iadd__" ⟨[.ref L,.ref a],[]⟩) R' s:=by
 refine wV PySem.F.entry_list_iadd ?_;rw[zH ahc _];show aw _ A.in1 (ahd (.ref L) (.ref a) (.ref L)) _ _ s;unfold ahd;have hf:aud (.ref L) (.ref a)=an:=kW.mpr Mn;refine wb (uz (⟨_,ho,rfl⟩:s.TypeIs (.ref a) "set") (dU (by rw[hf];rfl) (wb (Ta ho T fX hsz λI tp hp d ord hk hI W9 S oD=>wb (dD (Xa ⟨_,hk _ _ ho,rfl⟩ ?_))))));show aw _ A.in1 (rule "list.extend.makes-room" >>=λ_=>aue (.ref L) >>=λ_=>again (.builtin "list.extend.loop" ⟨[.ref L,.ref I,.ref L],[]⟩)) _ _ _;refine wb (jH (wb ?_));show aw _ A.in1 (updateSeq L (·.push .none) >>=λ_=>updateSeq L (·.pop)) _ _ _;have l2:=hk _ _ hL;have l3:=kZ (lZ (·.push eG)) l2 rfl;have lC:∀b o,b≠L→hp.get? b=aa o→((hp.update L (lZ (·.push eG))).update L (lZ (·.pop))).get? b=aa o:=λb o hb e=>(zC _ _ (Ne.symm hb)).trans ((zC _ _ (Ne.symm hb)).trans e);have sz:∀{x b},s.heap.objs.size≤x→∀{o},s.heap.get? b=aa o→b≠x:=λh _ e=>dp (bK (jF e) h);have lu:=oD.length_eq;have nL:L∉[I,a,tp]:=Qv (sz hI hL) (Qv Mn (Qv (sz W9 hL) sj));refine wb (wpAny_updateSeq l2 rfl (wpAny_updateSeq l3 rfl (aD ⟨Ia PySem.F.plain_extend_loop _,codeAny_extend_loopS (Q2 (sz hI ho) hh T fX lu) hsz L nL (.ref L) es.size 0 _ _ _ rfl (cb _) (S.move λb hb o e=>lC b o (λz=>nL (z▸hb)) e) (kZ (lZ (·.pop)) l3 rfl) (ItemsOf.nil _) λs' acc c M l5 Ea=>?_⟩)));exact k s' acc c ord (λb o hb e=>M.heap b o (λh=>(dA.mp h).elim hb λh=>sz hI e (bU.mp h)) (lC b o hb (hk b o e))) M.gens.symm M.os l5 oD (ZM (lu.symm▸Ea))
theorem ZU {E:Value→ak→Prop} {prog:fq} {w:cD} {a:ax} {es:Array (Int×Value)} {ep:Nat} {t:c8} (hh:A.handled=af) (ho:s.heap.get? a=aa (gA es ep t)) (T:gb t (es.toList.map (·.1)))
  (fX:t.led=!(w.params.followText "set-order")) (hsz:es.size≤aZ) {Q:List Value→ak→Prop}
  (k:∀(s':ak) (ys:List (Int×Value)),(∀b o,s.heap.get? b=aa o→s'.heap.get? b=aa o)→s'.gens=s.gens→s'.os=s.os→ys.Perm es.toList→Q (ys.map (·.2)) s'):aw (aQ prog w) A (collect (.ref a)) Q E s:=by
 unfold collect;refine wb (P9 (wV PySem.F.entry_proto_collect ?_));rw[zH PySem.F.plain_proto_collect _];show aw _ A.in1 (newList [] >>=λl=>again (.builtin "list.__iadd__" ⟨[l,.ref a],[]⟩)) _ _ s;refine wb (si (aD ⟨Ia ahc _,aaz (s:={s with heap:=_}) hh (dS _ ho) T fX hsz (fP _ rfl) (dF (jF ho)) λs' xs c ys h1 g o h2 hp hx=>?_⟩));show aw _ A (load s.heap.objs.size >>=_) _ _ _;exact wb (wpAny_load h2 (aD (hx.symm▸k s' ys (λb o e=>h1 b o (dp (jF e)) (dS _ e)) g o hp)))
theorem cq.inv {w:cD} {e:Int×Value} {l:List (Int×Value)} {C:Prop} {vs:List SV} (h:cq w P m vs (e::l)) (k:∀v us,vs=v::us→e.1=bZ w v→VR P m v e.2→cq w P m us l→C):C:=by
 cases vs with
 |nil=>exact jz h
 |cons v us=>exact gC h λy r q h1 h2 h3=>k v us rfl ((lh q).1▸h1) ((lh q).1▸h2) ((lh q).2▸h3)
theorem cq.perm {w:cD} {ys es:List (Int×Value)} (hp:ys.Perm es):∀{vs:List SV},cq w P m vs es→∃a6,a6.Perm vs∧cq w P m a6 ys:=by
 induction hp with
 |nil=>exact λ{vs} H=>⟨vs,.refl _,H⟩
 |cons x _ ih=>exact λ{vs} H=>H.inv λv us e h1 h2 h3=>aj (ih h3) λa6 q1 q2=>e▸⟨v::a6,q1.cons v,_,_,rfl,h1,h2,q2⟩
 |swap x y l=>exact λ{vs} H=>H.inv λv us e h1 h2 h3=>h3.inv λu ws e' h4 h5 h6=>e▸e'▸⟨u::v::ws,.swap v u ws,_,_,rfl,h4,h5,_,_,rfl,h1,h2,h6⟩
 |trans _ _ XH Y6=>exact λ{vs} H=>aj (Y6 H) λv1 p1 H1=>aj (XH H1) λv2 p2 H2=>⟨v2,p2.trans p1,H2⟩
theorem cq.vals {w:cD} {vs:List SV}:∀{es:List (Int×Value)},cq w P m vs es→aY P m vs (es.map (·.2)):=by
 induction vs with
 |nil=>exact λh=>h▸rfl
 |cons v vs ih=>exact λh=>gC h λy r e _ h2 h3=>e▸⟨_,_,rfl,h2,ih h3⟩
noncomputable def EM:SV→SV→Bool
 |.int a,.int c=>decide (a<c)
 |.str a,.str c=>decide (a.cps.toList<c.cps.toList)
 |_,_=>an
noncomputable def lK:SV→SV→Bool
 |.tup [x,y],.tup [x',y']=>if x=x' then(if y=y' then an else EM y y') else EM x x'
 |_,_=>an
def AK (κ:Bool) (x:SV):Prop:=match κ with
 |true=>∃a:Int,x=.int a
 |false=>∃a:Str,x=.str a
def PK (κ:Bool) (v:SV):Prop:=∃x y,v=.tup [x,y]∧AK κ x∧AK κ y
noncomputable def El (κ:Bool):String:=match κ with
 |true=>"int"
 |false=>"str"
theorem AK.data {κ:Bool} {x:SV} (h:AK κ x) (n:Nat):SV.data n x=ab:=by
 cases κ with
 |true=>exact xE h λa e=>e▸by cases n<;>rfl
 |false=>exact xE h λa e=>e▸by cases n<;>rfl
theorem AK.ty {κ:Bool} {x:SV} {p:Value} (h:AK κ x) (hp:VR P m x p):uA p=pure (.type (El κ)):=by
 cases κ with
 |true=>exact xE h λa e=>xE (e▸hp:VR P m (.int a) p) λt q=>q▸rfl
 |false=>exact xE h λa e=>xE (e▸hp:VR P m (.str a) p) λt q=>q▸rfl
theorem pairAt (R:Rel G F b own ae A P m fr h s) {x y:SV} {C:Value→Prop} (k:∀(a:ax) (o:Obj) (p q:Value) (n:Nat),s.heap.get? a=aa o→o.cls=.type "tuple"→o.data=.seq #[p,q] n→VR P m x p→VR P m y q→C (.ref a)) {v:Value} (hv:VR P m (.tup [x,y]) v):C v:=
 bC (R.m7 hv) λa items e T hV=>vU T λo ho hc n hd=>bC hV λp r e1 hp hV=>bC hV λq r' e2 hq e3=>
  e▸k a o p q n ho hc (hd.trans (ay (Data.seq · n) (Ii.mp (e1.trans (ay (p::·) (e2.trans (ay (q::·) e3))))))) hp hq
theorem M2 {κ:Bool} {E:Value→ak→Prop} {x y:SV} {p q:Value} (hx:AK κ x) (hy:AK κ y) (hp:VR P m x p) (hq:VR P m y q) (fl:Bool) {Q:Bool→ak→Prop} (k:Q (EM x y) s):
  aw (aQ G.prog G.w) A' (oneLt' fl p q) Q E s:=by
 cases κ with
 |true=>
  refine xE hx λa e=>xE hy λc e'=>xE (e▸hp:VR P m (.int a) p) λt z=>xE (e'▸hq:VR P m (.int c) q) λu z'=>?_;rw[e,e'] at k;exact z▸z'▸(match fl with|true=>oneLt_int k|false=>kat_one _ _ (PySem.P.lt_int k))
 |false=>
  refine xE hx λa e=>xE hy λc e'=>xE (e▸hp:VR P m (.str a) p) λt z=>xE (e'▸hq:VR P m (.str c) q) λu z'=>?_;rw[e,e'] at k;exact z▸z'▸(match fl with|true=>oneLt_str k|false=>kat_one _ _ (PySem.P.lt_str k))
theorem YL {κ:Bool} (R:Rel G F b own ae A P m fr h s) (hu:A'.units+1<ew) {v v':SV} {x x':Value} (hk:PK κ v) (dX:PK κ v') (hv:VR P m v x) (fA:VR P m v' x') {C:Bool→ak→Prop} (k:C (lK v v') s):
  aw (aQ G.prog G.w) A' (keyLt' (tuples' ab) x x') C (λ_ _=>False) s:=by
 refine bC hk λx1 y1 e a1 c1=>bC dX λx2 y2 e' a2 c2=>?_;rw[e,e'] at k;have u0:=n8 hu;refine pairAt R (C:=λx=>aw (aQ G.prog G.w) A' (keyLt' (tuples' ab) x x') C (λ_ _=>False) s) (λa o p q n ho _ hd hp hq=>pairAt R (C:=λx=>aw (aQ G.prog G.w) A' (keyLt' (tuples' ab) (.ref a) x) C (λ_ _=>False) s) (λa' o' p' q' n' T8 _ vM bY fS=>
  kat_lt ho hd T8 vM (kat_cons (Rel.wv R 0 hp bY (a1.data 0) (a2.data 0) u0 _ _ _ _ (kat_go (λe=>kat_yes (kat_cons (Rel.wv R 0 hq fS (c1.data 0) (c2.data 0) u0 _ _ _ _ (kat_go (λe'=>kat_yes (kat_nil ?_)) λe'=>kat_no (M2 c1 c2 hq fS _ ?_))))) λe=>kat_no (M2 a1 a2 hp bY _ ?_))))) (e'▸fA)) (e▸hv)
 ·show C an s
  exact((aO (fD e)).trans (aO (fD e')):lK (.tup [x1,y1]) (.tup [x2,y2])=_)▸k
 ·exact((aO (fD e)).trans (aK (rX e')):lK (.tup [x1,y1]) (.tup [x2,y2])=_)▸k
 ·exact(aK (rX e):lK (.tup [x1,y1]) (.tup [x2,y2])=_)▸k
def uv (vs:List SV):Prop:=∃κ,∀v∈vs,PK κ v
theorem Xp (R:Rel G F b own ae A P m fr h s) {κ:Bool} {vs:List SV}:∀{vals:List Value},aY P m vs vals→(∀v∈vs,PK κ v)→
  ∃fs,KatTups s.heap vals fs∧fs.length=vals.length∧∀f∈fs,uA f=pure (.type (El κ)):=by
 induction vs with
 |nil=>exact λh _=>h▸⟨[],.nil,rfl,λf hf=>cS hf⟩
 |cons v vs ih=>
  refine λh hv=>bC h λx r e h1 h2=>bM (ih h2 λu hu=>hv u (.tail _ hu)) λfs f1 f2 f3=>bC (hv v (.head _)) λx1 y1 e1 a1 _=>?_;exact e▸pairAt R (C:=λx=>∃fs,KatTups s.heap (x::r) fs∧fs.length=(x::r).length∧∀f∈fs,uA f=pure (.type (El κ))) (λa o p q n ho hc hd hp _=>⟨p::fs,.cons ho hc hd rfl f1,ay Hr f2,λf hf=>(dA.mp hf).elim (λz=>z▸a1.ty hp) (f3 f)⟩) (e1▸h1)
theorem aY.pick {vs:List SV} {vals:List Value} (hX:aY P m vs vals) {l:List Nat} (hl:∀i∈l,i<vs.length):aY P m (l.map λi=>vs.getD i .none) (l.map λi=>vals.getD i .none):=by
 induction l with
 |nil=>exact rfl
 |cons i l ih=>
  have hi:=fb (hl i (.head _));refine aj (hX.get hi) λw q1 q2=>⟨_,_,rfl,?_,ih λj hj=>hl j (.tail _ hj)⟩;show VR P m (vs.getD i .none) (vals.getD i .none);rw[o7,o7,q1,hi];exact q2
theorem Qw {α:Type} (l:List α) (d:α):(bq l.length).map (λi=>l.getD i d)=l:=List.ext_getElem (by rw[aI _,dR]) λi h1 h2=>by
 rw[List.getElem_map _,List.getElem_range _,o7,fb h2];rfl
theorem Za {α:Type} (lt:Nat→Nat→Bool) (l:List α) (d:α):(pR lt l d).Perm l:=by
 unfold pR;exact if h:l.length<2 then(aO h).symm▸.refl _ else(aK h).symm▸(((At (bK wG (oY h))).ev lt).map _).trans (.of_eq (Qw l d))
theorem YH {lt:Nat→Nat→Bool} {key:SV→Int} {l:List SV} (hl:∀i j,i<l.length→j<l.length→lt i j=decide (key (l.getD i .none) <key (l.getD j .none))) (nd:(l.map key).Nodup):(pR lt l .none).Pairwise (λx y=>key x<key y):=by
 unfold pR
 by_cases h2:l.length<2
 ·rw[aO h2]
  cases l with
  |nil=>exact .nil
  |cons x l=>cases l with
   |nil=>exact kf _ _
   |cons y l=>exact bd h2 (lW (lf 2 _))
 ·rw[aK h2]
  have n0:=bK wG (oY h2);have r:=At n0;rw[r.acx hl];have p:=r.ev (λi j=>decide (key (l.getD i .none) <key (l.getD j .none)));have A:=ace (key:=λi=>key (l.getD i .none)) (n:=l.length) (by have:=ay (H_ key) (Qw l .none);rw[o0] at this;exact this.symm▸nd) n0;generalize ev (λi j=>decide (key (l.getD i .none) <key (l.getD j .none))) (zP l.length)=q at p A ⊢;refine wK.mpr (Pu.mpr λi j hi hj wo=>?_);have z:∀{i} (hi:i<q.size),q.getD i 0=q[i]:=λhi=>dif_pos hi;have:=A.at r8 wo (p.size▸hj);unfold KP at this;rw[z hi,z hj] at this;exact this
theorem IZ {src:Value} (R:Rel G F b own ae A P m fr h s) {n:Nm} {vs:List SV} {Q' E':Value→ak→Prop}
  (Rm:∀Q:List Value→ak→Prop,(∀(s':ak) iO vals,(∀b o,s.heap.get? b=aa o→s'.heap.get? b=aa o)→s'.gens=s.gens→s'.os=s.os→iO.Perm vs→aY P m iO vals→Q vals s')→aw (aQ G.prog G.w) A.in1 (collect src) Q E' s)
  (qt:uv vs) (iR:vs.length<64) (hn:h n=af)
  (k:∀(s':ak) out D,Rel G F b own ae A P (m.set n (D,D)) fr (h.set n (.list out)) s'→m.le (m.set n (D,D))→out.Perm vs→(∀key:SV→Int,(∀x∈vs,∀y∈vs,lK x y=decide (key x<key y))→(vs.map key).Nodup→out.Pairwise (λx y=>key x<key y))→Q' (.ref D) s'):
  aw (aQ G.prog G.w) A (o_ (.builtin "sorted") [src]) Q' E' s:=by
 have hun:=R.units;refine agk kind_sorted plain_sorted entry_sorted (args_sorted1 _) ?_;unfold Builtin.«sorted»;refine wb (m:=checkCount "sorted" 1 1 _) (aD (wb (Rm _ λa5 iO vals hk hg ho oD hX=>?_)));have vG:iO.length=vals.length:=hX.length;have c5:vals.length<64:=vG▸oD.length_eq▸iR;have a7:=R.grow hk hg ho;have KH:(a5.heap.push (kj "list" vals.toArray 0)).get? a5.heap.objs.size=aa (kj "list" vals.toArray 0):=fP _ rfl;refine wb (wpAny_newList (wb (dD (i4 slot_list_sort ⟨_,KH,rfl⟩ entry_list_sort ?_ (args_list_sort _)))) (ah (cj c5) aJ));have keep:∀{bY:cO},(∀b o,b≠a5.heap.objs.size→(a5.heap.push (kj "list" vals.toArray 0)).get? b=aa o→bY.get? b=aa o)→∀b o,a5.heap.get? b=aa o→bY.get? b=aa o:=λdX b o e=>dX b o (dp (jF e)) (dS _ e);have gD:∀{i},i<vals.length→iO.getD i .none∈vs∧VR P m (iO.getD i .none) (vals.getD i .none):=λ{i} hi=>by
  have e:=fb (vG.symm▸hi:i<iO.length);refine aj (hX.get e) λx e1 e2=>?_;rw[o7,o7,e,e1];exact⟨oD.mem_iff.mp (List.getElem_mem _),e2⟩
 refine xE qt λκ hP=>Un (s:={a5 with heap:=a5.heap.push (kj "list" vals.toArray 0)}) (lt:=λi j=>lK (iO.getD i .none) (iO.getD j .none)) (κ:=tuples' ab) KH c5 (λbY dX h2 Q hQ=>?_) (λbY dX i j C hi hj hC=>?_) λbY out c dX ha Χ=>?_
 ·have R':=a7.grow (s':={a5 with heap:=bY}) (keep dX) rfl rfl
  exact bM (Xp R' hX λv hv=>hP v (oD.mem_iff.mp hv)) λfs f1 f2 f3=>kat_kind f1 (f2.symm▸bK wG h2) (λf hf=>Looks.of_pure (f3 f hf)) (by cases κ<;>rfl) (by cases κ<;>exact hQ)
 ·unfold kas_ask
  exact YL (a7.grow (s':={a5 with heap:=bY}) (keep dX) rfl rfl) (show A.units+1+1+1<ew from bf (eZ (aJ:3≤8) A.units) R.room) (hP _ (gD hi).1) (hP _ (gD hj).1) (gD hi).2 (gD hj).2 hC
 ·have hV:aY P m (pR (λi j=>lK (iO.getD i .none) (iO.getD j .none)) iO .none) out.toList:=by
   rw[Χ];unfold pR;rw[vG];exact if h2:vals.length<2 then(aO h2).symm▸(aO h2).symm▸hX else(aK h2).symm▸(aK h2).symm▸hX.pick λi hi=>vG.symm▸dQ.mp (((At (bK wG (oY h2))).ev _).mem_iff.mp hi)
  refine xA (a7.alloc hn (so:=.list (pR (λi j=>lK (iO.getD i .none) (iO.getD j .none)) iO .none)) (ad:=(a5.heap.objs.size,a5.heap.objs.size)) (s':={a5 with heap:=bY}) (keep dX) rfl rfl (au _) (au _) ⟨rfl,out,c,ha,aY.mono aW.le.rfl.t (zT (R.dom n hn)) _ hV⟩) λbm le=>?_;exact⟨_,rfl,aD ⟨_,rfl,k _ _ _ bm le ((Za (λi j=>lK (iO.getD i .none) (iO.getD j .none)) iO .none).trans oD) λkey GO nd=>YH (λi j hi hj=>GO _ (gD (vG▸hi)).1 _ (gD (vG▸hj)).1) ((oD.map key).nodup_iff.mpr nd)⟩⟩
theorem VC {u:SV} {vs:List SV} {n:Nm} {Q:QV} {X:QX} (hu:dc G h u vs) (qt:uv vs) (iR:vs.length<64) (hn:h n=af)
  (hq:∀out:List SV,out.Perm vs→(∀key:SV→Int,(∀x∈vs,∀y∈vs,lK x y=decide (key x<key y))→(vs.map key).Nodup→out.Pairwise (λx y=>key x<key y))→Q (.ref n) (h.set n (.list out))):WC G F b fr h (.bi "sorted") [u] Q X:=by
 refine .mk λown ae A P m s Q' E' f' a6 R hf hv c d=>hf▸bC hv λu' r e kG e'=>e▸e'▸bC (R.i7 hu kG) λa xs e2 hL hX=>e2▸?_;refine IZ R (λQ hQ=>?_) qt iR hn λs' out D bm le h1 h2=>c _ _ _ _ _ _ (hq out h1 h2) .rfl le ⟨_,Mu.jj,rfl⟩ bm;exact collect_list (vs:=xs.toList) (by rw[af6];exact hL) (hQ _ vs xs.toList (λb o e=>(zC _ _ (dF (jF e))).trans (dS _ e)) rfl rfl (.refl _) hX) (ah (cj (hX.length▸iR)) aJ)
theorem QP {Q:QV} {X:QX} (id:String) {n:Nm} {vs:List SV} (hn:h n=aa (.set vs)) (k:∀{own ae A P m s} {Q' E':Value→ak→Prop} {a:ax} {es:Array (Int×Value)} {ep:Nat} {t:c8},Rel G F b own ae A P m fr h s→s.heap.get? a=aa (gA es ep t)→gb t (es.toList.map (·.1))→cq G.w P m vs es.toList→t.led=!(G.w.params.followText "set-order")→
  m5 G F b fr own ae A P m Q Q'→aw (aQ G.prog G.w) A (o_ (.builtin id) [.ref a]) Q' E' s):WC G F b fr h (.bi id) [.ref n] Q X:=by
 refine .mk λown ae A P m s Q' E' f' a6 R hf hv c d=>hf▸bC hv λu' r e kG e'=>e▸e'▸aj kG λad hm e2=>e2▸?_;refine aj (R.obj n _ hn) λbg q1 q=>aU (q1.symm.trans hm)▸?_;exact q.2.elim λes q=>q.elim λep q=>q.elim λt q=>k R q.1 q.2.1 q.2.2.1 q.2.2.2.2.2 c
theorem Y8 {ns n:Nm} {vs:List SV} {Q:QV} {X:QX} (hF:F.q=ab) (hs:h ns=aa (.set vs)) (qt:uv vs) (iR:vs.length<64) (hn:h n=af)
  (hq:∀out:List SV,out.Perm vs→Q (.ref n) (h.set n (.list out))):WC G F b fr h (.bi "sorted") [.ref ns] Q X:=
 QP "sorted" hs λR ho T H fX c=>IZ R (λQ hQ=>ZU (by exact R.quiet hF) ho T fX (ah (cj (H.length▸iR)) aJ) λs' ys hk hg sR oD=>aj (cq.perm oD H) λa6 p1 H'=>hQ s' a6 _ hk hg sR p1 H'.vals) qt iR hn
  λs' out D bm le h1 h2=>c _ _ _ _ _ _ (hq out h1) .rfl le ⟨_,Mu.jj,rfl⟩ bm
theorem YC {n:Nm} {vs:List SV} {Q:QV} {X:QX} (hn:h n=aa (.set vs)) (hz:vs.length<1000) (hq:Q (.int vs.length) h):WC G F b fr h (.bi "len") [.ref n] Q X:=by
 refine QP "len" hn λ{_ _ _ _ _ _ _ _ a es ep t} R ho T H fX c=>?_;have hl:vs.length=es.size:=H.length;rw[hl] at hq;exact call_len_set ho ⟨rfl,rfl,rfl⟩ rfl T.fits (h9.mpr (i2 (hl▸hz) bj)) (c _ _ _ _ _ _ hq .rfl .rfl ⟨_,rfl⟩ (R.tok _))
section
open Builtin Builtin.Str
theorem aog {prog:fq} {w:cD} {A:dP} {E:Value→ak→Prop} {s:ak} (x y:Str) (hx:x.length≤1000) (hy:y.length≤1000) (b:ax) (t u:Tok) (a2:Value) (ht:IsTup s.heap b #[.str x u,a2])
  (acb:∀{E:Value→ak→Prop} {s':ak} {Q:Value→ak→Prop},(∀k o,s.heap.get? k=aa o→s'.heap.get? k=aa o)→
   (∀hp t tk,(∀k o,s'.heap.get? k=aa o→hp.get? k=aa o)→Q (.str y t) {s' with heap:=hp,toks:=tk})→aw (aQ prog w) A (strOf a2) Q E s') {Q:Fin→ak→Prop}
  (k:∀hp t' tk,(∀k o,s.heap.get? k=aa o→hp.get? k=aa o)→Q (.done (.ret (.str (x++dL " -> "++y) t'))) {s with heap:=hp,toks:=tk}):
  aw (aQ prog w) A (Builtin.«str.__mod__» ⟨[.str ⟨#[37,115,32,45,62,32,37,115]⟩ t,.ref b],[]⟩) Q E s:=by
 refine vU ht λkptO kptG kptC kptN kptD=>?_;clear ht;rw[KPt.entry_is_r _ _ _];unfold ahe;refine wb (ux (T:="tuple") ⟨kptO,kptG,kptC⟩ KPt.sub_tt ?_);refine wb (KPt.asStr_ref kptG kptD ?_);refine wb (KPt.fills_ref ⟨kptO,kptG,kptC⟩ ?_);intro _
 kpc_if
 refine wb (uu kptG kptD ?_);refine wb (aD ?_);refine wb ?_;rw[ahf _ _ _];refine KPc.start ?_;intro _ _;refine Qx ?_
 kpc_check
 (repeat kpc_if)
 refine wb ?_;refine dD ?_
 (repeat kpc_if)
 refine wb (mW (KPc.strOf_str _ _) ?_);refine wb (mW (a:=aa _) rfl ?_);refine aD ?_;refine aD ?_;kpt_piece;refine Qx ?_
 kpc_check
 (repeat kpc_if)
 refine aD ?_;kpt_piece;refine Qx ?_
 kpc_check
 (repeat kpc_if)
 refine wb ?_;refine dD ?_
 (repeat kpc_if)
 refine wb (acb (λ_ _ e=>e) λhp gt tk hk=>?_);refine wb (mW (a:=aa _) rfl ?_);refine aD ?_;refine aD ?_;kpt_piece;have kk:∀(t':Tok) (vX:Nat),Q (.done (.ret (.str (x++dL " -> "++y) t'))) {s with heap:=hp,toks:=vX}:=λt' vX=>k hp t' vX hk
 kpt_turns
theorem Vg {prog:fq} {w:cD} {A:dP} {E:Value→ak→Prop} {s:ak} (x:Str) (hx:x.length≤1000000) (t u:Tok) {Q:Fin→ak→Prop}
  (k:∀t' tk,Q (.done (.ret (.str (x++dL " -> <empty>") t'))) {s with toks:=tk}):
  aw (aQ prog w) A (Builtin.«str.__mod__» ⟨[.str ⟨#[37,115,32,45,62,32,60,101,109,112,116,121,62]⟩ t,.str x u],[]⟩) Q E s:=by
 rw[KPc.entry_is_s];unfold ahe;refine wb (ux (T:="str") (typeIs_str s x u) F.sub_str_tuple ?_);refine wb (mW (a:=aa x) rfl ?_);refine wb (KPc.wp_fills_str ?_);intro _
 kpc_if
 refine wb (aD ?_);refine wb ?_;rw[ahf _ _ _];refine KPc.start ?_;intro _ _
 kpt_turns
end
section
open Builtin Builtin.Str
theorem aY.strs {P:aW} {m:Mu}:∀{ys:List Str} {vs:List Value},aY P m (ys.map .str) vs→StrsAre vs ys
 |[],_,h=>by obtain rfl:=h;exact .nil
 |y::ys,_,h=>by obtain⟨x,r,rfl,⟨t,rfl⟩,h3⟩:=h;exact .cons y t (aY.strs h3)
theorem aY.reads {P:aW} {m:Mu} (hp:cO):∀{ys:List Str} {vs:List Value},aY P m (ys.map .str) vs→ReadsAll hp vs (ys.map .str) []
 |[],_,h=>by obtain rfl:=h;exact .nil
 |y::ys,_,h=>by obtain⟨x,r,rfl,⟨t,rfl⟩,h3⟩:=h;exact .cons (.str y t) (aY.reads hp h3)
theorem noDict:∀ys:List Str,Qy (ys.map .str)=an
 |[]=>by simp only[Dx,Qy]
 |y::ys=>by simp only[sp,Qy,ahg];rw[noDict ys];rfl
theorem KG:∀ys:List Str,Qz (ys.map .str)=0
 |[]=>by simp only[Dx,Qz]
 |y::ys=>by simp only[sp,Qz,ahh];rw[KG ys];rfl
theorem Vd {x:Str} {ys:List Str} {Q:QV} {X:QX} (qh:(ys.map (·.length)).sum+ys.length*x.length≤16777216) (hq:Q (.str (zQ x ys)) h):WC G F b fr h (.bi "str.join") [.str x,.tup (ys.map .str)] Q X:=by
 refine .mk ?_;intro own ae A P m s Q' E' f' a6 R hf hv c d;obtain rfl:=hf;obtain⟨x',r,rfl,⟨t,rfl⟩,u',r',rfl,hu,rfl⟩:=hv;refine bC (R.rL hu) λa xs ar hL hX=>?_;subst ar;exact join_tuple hL hX.strs qh λt' k=>c _ _ _ _ _ _ hq .rfl .rfl ⟨_,rfl⟩ (R.tok k)
theorem ζ {x:Str} {Q:QV} {X:QX} (hx:x.length≤1000) (hq:Q (.str (x++dL " -> <empty>")) h):
  WO G F b fr h [.str (dL "%s -> <empty>"),.str x] (bx (mS .Mod)) Q X:=by
 refine .mk ?_;intro own ae A P m s Q' E' a6 R d5 c d;obtain⟨f,r,rfl,⟨t,rfl⟩,p,r',rfl,⟨t1,rfl⟩,rfl⟩:=d5;refine KPc.mod_str (T:=λz=>z++dL " -> <empty>") (X':=⟨#[37,115,32,45,62,32,60,101,109,112,116,121,62]⟩) (by decide +kernel) (ah ‹_› aJ) (λz hz=>KPc.meets_of λprog w A s Q E hq=>Vg z hz _ _ λt' tk=>hq t' tk) λt' k=>c _ _ _ _ _ _ hq .rfl .rfl ⟨_,rfl⟩ (R.tok k)
end
noncomputable def iJ (e:Expr):Bool:=e.ctorIdx !=22
theorem KS {e:Expr} (h:iJ e=ab) (es:List Expr) (ae:Env):gg (e::es) ae=(an,d8 e ae)::gg es ae:=by
 refine @wO (λe=>iJ e=ab→gg (e::es) ae=(an,d8 e ae)::gg es ae) e ?_ ?_ ?_ ?_ ?_ ?_ ?_ ?_ ?_ ?_ ?_ ?_ ?_ ?_ ?_ ?_ ?_ ?_ ?_ ?_ ?_ ?_ ?_ ?_ ?_ ?_ ?_ h<;>(intros;first|rfl|exact cJ ‹_›)
theorem w8:∀{args:List Expr},args.all iJ=ab→∀(pos:Pos) (ae:Env),(ju pos (gg args ae)).any (·.1)=an
 |[],_,pos,ae=>rfl
 |e::es,h,pos,ae=>by
  rw[Ds,bR] at h;rw[KS h.1 _ _];show(an||(ju pos (gg es ae)).any (·.1))=an;exact w8 h.2 pos ae
theorem MT (x:Str) (p pos:Pos) (args:List Expr) (ae:Env):d8 (.Call (.Name x p) args [] pos) ae=(do wR pos (←d8 (.Name x p) ae) [] (ju pos (gg args ae)) []):=rfl
def Vc (o:Expr) (name:Str) (ap pos:Pos) (args:List Expr):Prop:=∀ae:Env,∃pl,d8 (.Call (.Attribute o name ap) args [] pos) ae=(do
   let ov ←d8 o ae
   kb ap.atName
   let(f,first) ←jt [ov] (getMethod ov name pl)
   wR pos f first (ju pos (gg args ae)) [])
theorem mf {o:Expr} {name:Str} {ap pos:Pos} {args:List Expr} (hb:∀(ae:Env) w,uo o name ae w=w) (hs:args.all iJ=ab) (hl:(ap.endLine==pos.line && decide (args.length<20))=ab):Vc o name ap pos args:=λae=>by
 rw[bR,hH] at hl;refine⟨do return (←importBound o ae).getD ab,?_⟩;have e0:d8 (.Call (.Attribute o name ap) args [] pos) ae=(do
  let ov ←uo o name ae (d8 o ae)
  kb ap.atName
  methodCall o name ap pos ae ov (args.length+0) (ju pos (gg args ae)) (backToKw pos (keywordEach [] ae))):=rfl
 rw[e0,hb _ _];have uc:methodCallForm (args.length+0) (ju pos (gg args ae)) (backToKw pos (keywordEach [] ae))=ab:=by
  unfold methodCallForm;have h1:=w8 hs pos ae;have h2:(ju pos (gg args ae)).all (λx=>!x.1)=ab:=by
   rw[propext db];intro x hx;rw[List.any_eq_false] at h1
   simpa using h1 x hx
  rw[h2];show(ab && ab && decide (args.length+0+0<30))=ab;simp;exact bK hl.2 aJ
 unfold methodCall calleeOf methodCallPos;simp only[uc,if_true,ag7,Bool.false_or,hl.1,pure_bind];rfl
theorem tA {e:Expr} {es:List Expr} {Q:List SV→SH→Prop} (w:WE G F b fr h e (λv ag=>j5 G F b fr ag es (λvs aC=>Q (v::vs) aC) X) X) (hs:autoParam (iJ e=ab) bn):j5 G F b fr h (e::es) Q X:=
 Ye (KS hs es) w
theorem Pr {x:Str} {p pos:Pos} {args:List Expr} {f:SV} {Q:QV} (hg:ji G x f) (hl:F.sc.names.lookup x=aa .globalImplicit) (hc:callable G f=ab)
  (w:j5 G F b fr h args (λvs aC=>WC G F b fr aC f vs Q X) X) (hd:autoParam ((x==("__debug__":Str))=an) dI) (hs:autoParam (args.all iJ=ab) bn):WE G F b fr h (.Call (.Name x p) args [] pos) Q X:=
 call (MT x p pos args) (w8 hs pos) (Fu hg hl hd ⟨hc,w⟩)
theorem LX {o:Expr} {name:Str} {gI pos:Pos} {args:List Expr} {Q:QV}
  (w:WE G F b fr h o (λu ag=>∃f,callable G f=ab∧GM G F b fr ag u name f∧j5 G F b fr ag args (λvs aC=>WC G F b fr aC f (u::vs) Q X) X) X)
  (hb:∀(ae:Env) w,uo o name ae w=w:=by intro _ _;rfl) (hs:autoParam (args.all iJ=ab) bn) (hl:autoParam ((gI.endLine==pos.line && decide (args.length<20))=ab) bn):
  WE G F b fr h (.Call (.Attribute o name gI) args [] pos) Q X:=RZ (mf hb hs hl) (w8 hs pos) w
noncomputable def ck (F:FD) (l:List Str):Bool:=l.all λx=>t7 F x && pE F x && !(x==("__debug__":Str))
theorem ck.v {F:FD} {l:List Str} (V:ck F l=ab) {x:Str} (hx:l.contains x=ab):t7 F x=ab∧pE F x=ab∧(x==("__debug__":Str))=an:=by
 have p:=(bR _ _).mp (db.mp V x (e9.mp hx));have q:=(bR _ _).mp p.1;exact⟨q.1,q.2,(jI _).mp p.2⟩
variable{l:List Str}
theorem nv {x:Str} {pos:Pos} {v:SV} {Q:QV} {X:QX} (V:ck F l=ab) (hx:fr.lookup x=aa v) (hq:Q v h) (hl:autoParam (l.contains x=ab) bn):WE G F b fr h (.Name x pos) Q X:=Nn hx (ck.v V hl).1 (ck.v V hl).2.2 hq
theorem oT {x:Str} {pos:Pos} {v:SV} {Q:QF} {X:d0} (V:ck F l=ab) (hq:Q (fr.put x v) h) (hl:autoParam (l.contains x=ab) bn):WA G F b fr h (.Name x pos) v Q X:=MJ (ck.v V hl).2.1 hq
noncomputable def stN:List bI→Nat→bI
 |[],_=>.Pass ⟨0,0,0,0⟩
 |s::_,0=>s
 |_::r,n+1=>stN r n
noncomputable def kS:bI→List bI×List bI×Option Expr×cu
 |.FunctionDef _ _ b _ _ _ sc _ _ _=>(b,[],af,sc)
 |.ClassDef _ _ _ b _ _ _ _ _ _ _=>(b,[],af,default)
 |.While _ b o _=>(b,o,af,default)
 |.For _ e b o _=>(b,o,aa e,default)
 |.If e b o _=>(b,o,aa e,default)
 |.Try b _ _ _ _=>(b,[],af,default)
 |.Return e _=>([],[],e,default)
 |.Assign _ e _=>([],[],aa e,default)
 |_=>([],[],af,default)
noncomputable def Pq (s:bI):List bI:=(kS s).1
noncomputable def UN (s:bI):cu:=(kS s).2.2.2
noncomputable def Xb:List (Nat×Nat×Option Nat):=[(39,4,af),(62,7,aa 2),(83,7,aa 5),(118,8,aa 0),(146,9,af),(172,11,aa 0),(201,11,aa 4),(209,11,aa 5),(258,11,aa 12),(265,11,aa 13),(273,11,aa 14),(280,11,aa 15),
 (318,15,af),(333,16,aa 0),(340,16,aa 1),(347,16,aa 2),(354,16,aa 3),(424,16,aa 13),(438,18,af),(446,20,af),(453,21,af),(458,22,af),(463,23,af),(468,24,af),(473,25,af),(478,26,af)]
noncomputable def Kh (a:ax):bI:=match Xb.lookup a with
 |some (i,af)=>stN PySem.Challenge.pw_te0019_03.main.body i
 |some (i,aa j)=>stN (Pq (stN PySem.Challenge.pw_te0019_03.main.body i)) j
 |none=>.Pass ⟨0,0,0,0⟩
noncomputable def bc (a:ax):List bI:=Pq (Kh a)
noncomputable def cg (a:ax):cu:=UN (Kh a)
noncomputable def Sz (x:Str):Data→Option (Option Value)
 |.dict es _=>getL x es.toList
 |_=>af
noncomputable def xF (K:Frag) (x:Str):Option (Option Value):=(K.lookup uk).bind λo=>Sz x o.data
theorem W6 {x:Str} {es:List dK} {r:Option Value} (h:getL x es=aa r):(es.find? λe=>e.key.isStr x).map (·.val)=r:=by
 unfold getL at h
 cases q:es.find? (λe=>e.key.isStr x) with
 |some y=>rw[q] at h;exact aU h
 |none=>
  rw[q] at h;exact if z:es.any (·.refKey)=ab then a8 ((aO z).symm.trans h) else aU ((aK z).symm.trans h)
theorem mg_of {G:Gl} {x:Str} {r:Option Value} (hl:xF G.K x=aa r):G.mg x=r:=
 aj (Option.bind_eq_some_iff.mp hl) λo e hd=>ky G.g λo' es ep h1 h2 h3=>by
  obtain rfl:=aU ((G.fT uk o e).symm.trans h1);rw[h2] at hd;rw[←h3.2 x];exact(ay (oZ DictEntry.val) Array.find?_toList.symm).trans (W6 hd)
noncomputable def ve:Value→Tok
 |.int _ t=>t
 |.str _ t=>t
 |_=>0
noncomputable def tokOf (o:Option (Option Value)):Tok:=ve ((o.getD af).getD .none)
noncomputable def xy:Data→Nat→Value
 |.seq xs _,i=>xs.getD i .none
 |_,_=>.none
noncomputable def Wd:Data→Nat
 |.seq _ n=>n
 |_=>0
noncomputable def G9:List (Str×ax):=[("_place",318),("_is_identifier",39),("rightmost_terminal",146),("Production",100),("LRItem",135),("Grammar",283),("LRGeneratedTable",427),("_law_NAMES",438),("_law_SYMBOLS",439),("_law_ASKED",446),("_law_next",453),("_law_rule",458),("_law_corners",463),("_law_added",468),("_law_told",473)]
noncomputable def sJ:List String:=["len","all","any","sorted"]
noncomputable def t_:List String:=["tuple","list","set","range","enumerate","IndexError","KeyError"]
noncomputable def yO:List (ax×List Str):=[(100,["name","prod","number","func","callable","file","line","prec","len","usyms","lr_items","lr_next","str","lr0_added","reduced"]),(135,["name","prod","number","lr_index","lookaheads","len","usyms","lr_after","lr_before","lr_next"]),
 (283,["Productions","Prodnames","Prodmap","Terminals","Nonterminals","First","Follow","Precedence","UsedPrecedence","Start"]),
 (427,["grammar","lr_method","lr_action","lr_goto","lr_productions","lr_goto_cache","lr0_cidhash","_add_count","sr_conflict","rr_conflict","conflicts","sr_conflicts","rr_conflicts"])]
noncomputable def Ge:List (ax×ax):=[(100,62),(135,118),(283,172),(427,333)]
noncomputable def Gi:List (ax×Str×ax):=[(283,"add_production",201),(283,"set_start",209),(283,"_first",258),(283,"compute_first",265),(283,"compute_follow",273),(283,"build_lritems",280),(427,"lr0_closure",340),(427,"lr0_goto",347),(427,"lr0_items",354),(427,"lr_parse_table",424)]
noncomputable def JQ:List ax:=[39,62,83,118,146,172,201,209,258,265,273,280,318,333,340,347,354,424,438,446,453,458,463,468,473,100,135,283,427]
noncomputable def F4:List ax:=[100,135,283,427]
noncomputable def vq:List Str:=["lr0_added","reduced"]
noncomputable def zt (K:Frag) (a:Str):Value:=.int 0 (tokOf (h_ K (.ref 100) a))
noncomputable def Zf (K:Frag) (o:Obj):Obj:={o with cls:=.type "list",data:=.seq #[.str "a" (ve (xy o.data 0)),.str "A" (ve (xy o.data 1)),.str "b" (ve (xy o.data 2)),.str "B" (ve (xy o.data 3)),.str "error" (ve (xy o.data 4))] (Wd o.data)}
structure KC (K:Frag):Prop where
 EE:xF K "_IDENTIFIER"=aa (aa (.str "abcdefghijklmnopqrstuvwxyzABCDEFGHIJKLMNOPQRSTUVWXYZ0123456789_-" (tokOf (xF K "_IDENTIFIER"))))
 sym:K.lookup 439=aa (Zf K ((K.lookup 439).getD {cls:=.none,data:=.plain}))
 refs:G9.map (λx=>xF K x.1)=G9.map λx=>aa (aa (.ref x.2))
 boot:(sJ++t_).map (λx:String=>xF K x)=(sJ++t_).map λ_=>aa af
 cls:F4.map (λC=>(zA K C "",Df K C,h_ K (.ref C) "__setattr__",Hy K C))=F4.map λ_=>(ab,ab,aa (aa (.builtin "object.__setattr__")),ab)
 RJ:yO.map (λx=>x.2.map λa=>((h_ K (.ref x.1) a).isSome,noGet K ((h_ K (.ref x.1) a).getD af),takerIn K x.1 a))=yO.map λx=>x.2.map λ_=>(ab,ab,aa af)
 zero:vq.map (λa=>(h_ K (.ref 100) a,specialIn K (zt K a) "__get__"))=vq.map λa=>(aa (aa (zt K a)),aa af)
 ini:Ge.map (λx=>(makesIn K x.1,h_ K (.ref x.1) "__init__",typeIn K (.ref x.2)))=Ge.map λx=>(ab,aa (aa (.ref x.2)),aa (.type "function"))
 Xj:Gi.map (λx=>(zA K x.1 x.2.1,h_ K (.ref x.1) x.2.1,isFn K (.ref x.2.2)))=Gi.map λx=>(ab,aa (aa (.ref x.2.2)),ab)
 keep:(JQ.all λa=>keepIn K (.ref a))=ab
 LI:(h_ K (.ref 135) "__bool__",h_ K (.ref 135) "__len__")=(aa af,aa af)
 plen:(h_ K (.ref 100) "__len__",isFn K (.ref 83))=(aa (aa (.ref 83)),ab)
structure KD (G:Gl):Prop where
 c:KC G.K
 ident:dZ G 39 1 ["s"] [] (bc 39) (cg 39)
 prodinit7:dZ G 62 8 ["self","number","name","prod","precedence","func","file","line"] [] (bc 62) (cg 62)
 prodinit3:dZ G 62 4 ["self","number","name","prod","precedence","func","file","line"] [.tup [.str "right",.int 0],.none,.str "",.int 0] (bc 62) (cg 62)
 plen:dZ G 83 1 ["self"] [] (bc 83) (cg 83)
 iteminit:dZ G 118 3 ["self","p","n"] [] (bc 118) (cg 118)
 rightmost:dZ G 146 2 ["symbols","terminals"] [] (bc 146) (cg 146)
 graminit:dZ G 172 2 ["self","terminals"] [] (bc 172) (cg 172)
 addprod:dZ G 201 3 ["self","prodname","syms","func","file","line"] [.none,.str "",.int 0] (bc 201) (cg 201)
 setstart:dZ G 209 1 ["self","start"] [.none] (bc 209) (cg 209)
 first:dZ G 258 2 ["self","beta"] [] (bc 258) (cg 258)
 cfirst:dZ G 265 1 ["self"] [] (bc 265) (cg 265)
 cfollow:dZ G 273 1 ["self","start"] [.none] (bc 273) (cg 273)
 blr:dZ G 280 1 ["self"] [] (bc 280) (cg 280)
 place:dZ G 318 1 ["I"] [] (bc 318) (cg 318)
 tabinit:dZ G 333 3 ["self","grammar","method","log"] [.none] (bc 333) (cg 333)
 clo:dZ G 340 2 ["self","I"] [] (bc 340) (cg 340)
 goto:dZ G 347 3 ["self","I","x"] [] (bc 347) (cg 347)
 items:dZ G 354 1 ["self"] [] (bc 354) (cg 354)
 ptable:dZ G 424 1 ["self"] [] (bc 424) (cg 424)
 NAMES:dZ G 438 0 [] [] (bc 438) (cg 438)
 ASKED:dZ G 446 0 [] [] (bc 446) (cg 446)
 next:dZ G 453 1 ["tape"] [] (bc 453) (cg 453)
 rule:dZ G 458 2 ["tape","name"] [] (bc 458) (cg 458)
 corners:dZ G 463 1 ["rules"] [] (bc 463) (cg 463)
 added:dZ G 468 3 ["rules","corners","items"] [] (bc 468) (cg 468)
 told:dZ G 473 1 ["items"] [] (bc 473) (cg 473)
theorem q9 {α β:Type} {f g:α→β} {l:List α} [BEq α] [LawfulBEq α] (e:l.map f=l.map g) {a:α} (h:l.contains a=ab):f a=g a:=Dy.mp e a (e9.mp h)
theorem KD.ref (K:KD G) {x:Str} {a:ax} (h:G9.contains (x,a)=ab):ji G x (.glob a):=.ref (mg_of (q9 K.c.refs h))
theorem TU:sJ.map (λx:String=>Hu x)=sJ.map λx=>aa (.builtin x):=by kernel_rfl
theorem Q5:t_.map (λx:String=>Hu x)=t_.map λx=>aa (.type x):=by kernel_rfl
theorem O6:((sJ++t_).all λx:String=>(x:Str) !="__name__")=ab:=by kernel_rfl
theorem KD.bi (K:KD G) {x:String} (h:sJ.contains x=ab):ji G x (.bi x):=
 have hm:=i6 t_ (e9.mp h)
 .bi (mg_of (Dy.mp K.c.boot x hm)) ((G.blt _ (bne_iff_ne.mp (db.mp O6 x hm))).trans (q9 TU h))
theorem KD.ty (K:KD G) {x:String} (h:t_.contains x=ab):ji G x (.ty x):=
 have hm:=kd sJ (e9.mp h)
 .ty (mg_of (Dy.mp K.c.boot x hm)) ((G.blt _ (bne_iff_ne.mp (db.mp O6 x hm))).trans (q9 Q5 h))
theorem KD.EE (K:KD G):ji G "_IDENTIFIER" (.str "abcdefghijklmnopqrstuvwxyzABCDEFGHIJKLMNOPQRSTUVWXYZ0123456789_-"):=.str (mg_of K.c.EE)
theorem KD.sym (K:KD G):BL G 439 [.str "a",.str "A",.str "b",.str "B",.str "error"]:=
 ⟨_,⟨_,G.fT _ _ K.c.sym,rfl,_,rfl⟩,λP m _=>⟨_,_,rfl,⟨_,rfl⟩,_,_,rfl,⟨_,rfl⟩,_,_,rfl,⟨_,rfl⟩,_,_,rfl,⟨_,rfl⟩,_,_,rfl,⟨_,rfl⟩,rfl⟩⟩
noncomputable def qj (C:ax) (a:Str):Bool:=F4.contains C && (yO.lookup C).any λl=>l.contains a
theorem mem_lookup {α β:Type} [BEq α] [LawfulBEq α] {a:α} {o:β} {l:List (α×β)} (h:l.lookup a=aa o):(a,o)∈l:=by
 induction l with
 |nil=>exact a8 h
 |cons p r ih=>
  rw[kX] at h
  cases q:a==p.1 with
  |true=>rw[q] at h;exact aU h▸eW.mp q▸.head _
  |false=>rw[q] at h;exact .tail _ (ih h)
theorem EN {α β γ:Type} {a a':α} {b b':β} {c c':γ} (h:(a,b,c)=(a',b',c')) {C:Prop} (k:a=a'→b=b'→c=c'→C):C:=k (gh h).1 (gh (gh h).2).1 (gh (gh h).2).2
theorem KD.fld (K:KD G) {C:ax} {a:Str} (ok:qj C a=ab) {R:Prop} (k:zA G.K C ""=ab→Df G.K C=ab→h_ G.K (.ref C) "__setattr__"=aa (aa (.builtin "object.__setattr__"))→Hy G.K C=ab→
  (h_ G.K (.ref C) a).isSome=ab→noGet G.K ((h_ G.K (.ref C) a).getD af)=ab→takerIn G.K C a=aa af→R):R:=by
 have ok:=(bR _ _).mp ok;have hl:∃l,yO.lookup C=aa l∧l.contains a=ab:=by
  cases e:yO.lookup C with
  |none=>rw[e] at ok;exact cJ ok.2
  |some l=>rw[e] at ok;exact⟨l,rfl,ok.2⟩
 refine aj hl λl e hl=>?_;have c:=q9 K.c.cls ok.1;exact EN (Dy.mp (Dy.mp K.c.RJ (C,l) (mem_lookup e)) a (e9.mp hl)) (k (gh c).1 (gh (gh c).2).1 (gh (gh (gh c).2).2).1 (gh (gh (gh c).2).2).2)
theorem KD.keep (K:KD G) {a:ax} (h:JQ.contains a=ab):callable G (.glob a)=ab:=db.mp K.c.keep a (e9.mp h)
theorem u7 {n:Nat} (h:wF n 100=ab):n≤aZ:=ah (jD h) aJ
theorem lG.ne {v:SV} (hb:lG v=ab) (id:String):v≠.bi id:=λe=>cJ (show lG (.bi id)=ab from e▸hb)
theorem Ft (K:KD G) {n:Nm} {C:ax} {fs:SF} {a:Str} {v:SV} {Q:QV} {X:QX} (ok:qj C a=ab) (hn:h n=aa (.inst C fs)) (hf:fs.lookup a=aa v) (hb:lG v=ab) (hq:Q v h):WO G F b fr h [.ref n] (mF λx=>mT x a ab) Q X:=
 K.fld ok λh1 h2 _ _ h5 h6 _=>Ya hn h1 h2 (Option.eq_some_iff_get_eq.mpr ⟨h5,Option.get_eq_getD _⟩) h6 hf (lG.ne hb) hq
theorem Ku (K:KD G) {n:Nm} {fs:SF} {a:Str} {Q:QV} {X:QX} (ok:vq.contains a=ab) (hn:h n=aa (.inst 100 fs)) (hf:fs.lookup a=af) (hq:Q (.int 0) h):WO G F b fr h [.ref n] (mF λx=>mT x a ab) Q X:=
 have z:=q9 K.c.zero ok;have hc:(vq.map λa=>copiedNames.contains a)=vq.map λ_=>an:=aV
 K.fld (C:=100) (a:="name") rfl λh1 h2 _ _ _ _ _=>Tn (v:=.int 0) hn h1 h2 (gh z).1 (gh z).2 rfl (q9 hc ok) hf (λ_ _=>⟨_,rfl⟩) hq
theorem DM (K:KD G) {n:Nm} {C:ax} {fs:SF} {a:Str} {v:SV} {Q:QV} {X:QX} (ok:qj C a=ab) (hn:h n=aa (.inst C fs)) (hz:fs.length≤1000) (hq:Q .none (h.set n (.inst C (fs.put a v)))):
  WO G F b fr h [.ref n,v] (bx λx y=>do Dd x a y;pure .none) Q X:=
 K.fld ok λ_ h2 h3 h4 _ _ h7=>Τ hn h3 h4 h7 h2 hz hq
theorem at_ {e:Expr} {a:Str} {pos:Pos} {Q:QV} {X:QX} (w:WE G F b fr h e (λv ag=>WO G F b fr ag [v] (mF λx=>mT x a ab) Q X) X) (hb:∀(ae:Env) w,uo e a ae w=w:=by intro _ _;rfl):WE G F b fr h (.Attribute e a pos) Q X:=z9 hb w
theorem B9 {t e:Expr} {pos:Pos} {Q:QS} {X:d0} (w:WE G F b fr h e (λv ag=>WA G F b fr ag t v (λfr' h'=>Q .next fr' h') X) (λx h=>X x fr h)) (hs:∀ae,De [t] e pos.line ae=pure an:=by intro _;rfl) (hw:∀ae,wP [t] e ae=pure af:=by intro _;rfl) (ha:∀ae,(qx [t] ae).map (·.2)=[o8 t ae]:=by intro _;rfl):
  WS G F b fr h (.Assign [t] e pos) Q X:=aa7 hs hw ha w
theorem ye {Q:Option Int→SH→Prop} {X:QX} (hq:Q af h):ya G F b fr h af Q X:=hq
theorem xM {e:Expr} {Q:Option Int→SH→Prop} {X:QX} (w:WE G F b fr h e (λv h'=>∃i,v=.int i∧Q (aa i) h') X):ya G F b fr h (aa e) Q X:=w
theorem YP (vs:List SV):fg vs af af=vs:=by simp[fg]
noncomputable def B8 (K:Frag) (a:ax):Option HA:=match K.lookup a with
 |some o=>(match o.data with|.func fd=>aa fd|_=>af)
 |none=>af
noncomputable def fdOf (K:Frag) (a:ax):HA:=match B8 K a with|some fd=>fd|none=>default
noncomputable def Et (K:Frag) (a:ax):Bool:=match B8 K a with
 |some fd=>fd.globals==uk && fd.builtins==zy && fd.closure.isEmpty && codeIn K fd.code fd.qualname && (match fd.body with|.stmts _=>ab|_=>an)
 |none=>an
noncomputable def EW (fd:HA):List bI:=match fd.body with|.stmts b=>b|_=>[]
variable{H:Frag}
theorem uJ (hK:G.K=H) {a:ax} {k:Nat} {ps:List Str} {ez:List SV} (ds:List Value) (hl:Et H a=ab) (hB:EW (fdOf H a)=bc a) (hS:(fdOf H a).scope=cg a) (qh:Ci (cg a) ps=ab) (c5:ps.length=k+ez.length)
  (hb:∀S (vals:List Value),vals.length=k→peek H S (uq (fdOf H a) ⟨vals,[]⟩)=aa (ps.zip (vals++ds)))
  (kC:∀(P:aW) (m:Mu),(∀a o,G.base.get? a=aa o→P a=aa o)→aY P m ez ds):dZ G a k ps ez (bc a) (cg a):=by
 subst hK;unfold Et at hl;unfold fdOf at hB hS hb
 cases hf:B8 G.K a with
 |none=>rw[hf] at hl;exact cJ hl
 |some fd=>
  rw[hf] at hl hB hS hb;simp only[bR,eW,List.isEmpty_iff] at hl;obtain⟨⟨⟨⟨h1,h2⟩,h3⟩,h4⟩,h5⟩:=hl;have jL:=hf;unfold B8 at jL
  cases hl:G.K.lookup a with
  |none=>rw[hl] at jL;(first|exact a8 jL|obtain rfl:=aU jL)
  |some o=>
   rw[hl] at jL;simp only at jL
   split at jL
   ·rename_i fd' hd
    obtain rfl:=aU jL;refine⟨⟨o,fd',ds,hl,hd,hS,?_,h1,h2,h3,codeRec_of G.fT h4,hb,kC⟩,qh,c5⟩;rw[←hB];unfold EW
    split at h5
    ·rename_i b hb;simp only[hb]
    ·exact cJ h5
   ·exact a8 jL
theorem x_ {l:List Value} (h:l.length=1):∃v,l=[v]:=List.length_eq_one_iff.mp h
theorem lq {l:List Value} {n:Nat} (h:l.length=n+1):∃v r,l=v::r∧r.length=n:=by
 cases l with
 |nil=>cases h
 |cons v r=>exact(zp v r rfl (Dp h))
def u5 (H:Frag) (a:ax) (ps:List Str):Prop:=Et H a=ab∧EW (fdOf H a)=bc a∧(fdOf H a).scope=cg a∧Ci (cg a) ps=ab
theorem Lk (hK:G.K=H) {a:ax} (A:u5 H a []) (hb:∀S,peek H S (uq (fdOf H a) ⟨[],[]⟩)=aa []):dZ G a 0 [] [] (bc a) (cg a):=
 uJ hK [] A.1 A.2.1 A.2.2.1 A.2.2.2 rfl (λS vals hv=>by obtain rfl:=ahi.mp hv;exact hb S) λ_ _ _=>rfl
theorem mA (hK:G.K=H) {a:ax} {x:Str} {ez:List SV} (xs:List Str) (ds:List Value) (A:u5 H a (x::xs)) (c5:(x::xs).length=1+ez.length)
  (hb:∀S v,peek H S (uq (fdOf H a) ⟨[v],[]⟩)=aa ((x,v)::xs.zip ds)) (kC:∀(P:aW) (m:Mu),(∀a o,G.base.get? a=aa o→P a=aa o)→aY P m ez ds):
  dZ G a 1 (x::xs) ez (bc a) (cg a):=
 uJ hK ds A.1 A.2.1 A.2.2.1 A.2.2.2 c5 (λS vals hv=>by refine xE (x_ hv) λv bu=>?_;subst bu;exact hb S v) kC
theorem yF (hK:G.K=H) {a:ax} {x y:Str} {ez:List SV} (xs:List Str) (ds:List Value) (A:u5 H a (x::y::xs)) (c5:(x::y::xs).length=2+ez.length)
  (hb:∀S v w,peek H S (uq (fdOf H a) ⟨[v,w],[]⟩)=aa ((x,v)::(y,w)::xs.zip ds)) (kC:∀(P:aW) (m:Mu),(∀a o,G.base.get? a=aa o→P a=aa o)→aY P m ez ds):
  dZ G a 2 (x::y::xs) ez (bc a) (cg a):=
 uJ hK ds A.1 A.2.1 A.2.2.1 A.2.2.2 c5 (λS vals hv=>by refine eA (lq hv) λv r ar hr=>?_;subst ar;refine xE (x_ hr) λw bu=>?_;subst bu;exact hb S v w) kC
theorem yx (hK:G.K=H) {a:ax} {x y z:Str} {ez:List SV} (xs:List Str) (ds:List Value) (A:u5 H a (x::y::z::xs)) (c5:(x::y::z::xs).length=3+ez.length)
  (hb:∀S v w u,peek H S (uq (fdOf H a) ⟨[v,w,u],[]⟩)=aa ((x,v)::(y,w)::(z,u)::xs.zip ds)) (kC:∀(P:aW) (m:Mu),(∀a o,G.base.get? a=aa o→P a=aa o)→aY P m ez ds):
  dZ G a 3 (x::y::z::xs) ez (bc a) (cg a):=
 uJ hK ds A.1 A.2.1 A.2.2.1 A.2.2.2 c5 (λS vals hv=>by refine eA (lq hv) λv r ar hr=>?_;subst ar;refine eA (lq hr) λw r' ar qY=>?_;subst ar;refine xE (x_ qY) λu bu=>?_;subst bu;exact hb S v w u) kC
theorem Yh (hK:G.K=H) {a:ax} {x1 x2 x3 x4 x5 x6 x7 x8:Str} (A:u5 H a [x1,x2,x3,x4,x5,x6,x7,x8])
  (hb:∀S v1 v2 v3 v4 v5 v6 v7 v8,peek H S (uq (fdOf H a) ⟨[v1,v2,v3,v4,v5,v6,v7,v8],[]⟩)=aa [(x1,v1),(x2,v2),(x3,v3),(x4,v4),(x5,v5),(x6,v6),(x7,v7),(x8,v8)]):
  dZ G a 8 [x1,x2,x3,x4,x5,x6,x7,x8] [] (bc a) (cg a):=
 uJ hK [] A.1 A.2.1 A.2.2.1 A.2.2.2 rfl (λS vals hv=>by
  refine eA (lq hv) λv1 r1 ar h1=>?_;subst ar;refine eA (lq h1) λv2 r2 ar h2=>?_;subst ar;refine eA (lq h2) λv3 r3 ar h3=>?_;subst ar;refine eA (lq h3) λv4 r4 ar h4=>?_;subst ar;refine eA (lq h4) λv5 r5 ar h5=>?_;subst ar;refine eA (lq h5) λv6 r6 ar h6=>?_;subst ar;refine eA (lq h6) λv7 r7 ar h7=>?_;subst ar;refine xE (x_ h7) λv8 bu=>?_;subst bu;exact hb S v1 v2 v3 v4 v5 v6 v7 v8) λ_ _ _=>rfl
theorem WR (hK:G.K=H) {a:ax} {x1 x2 x3 x4:Str} {xs:List Str} {ez:List SV} (ds:List Value) (A:u5 H a (x1::x2::x3::x4::xs)) (c5:xs.length=ez.length)
  (hb:∀S v1 v2 v3 v4,peek H S (uq (fdOf H a) ⟨[v1,v2,v3,v4],[]⟩)=aa ((x1,v1)::(x2,v2)::(x3,v3)::(x4,v4)::xs.zip ds))
  (kC:∀(P:aW) (m:Mu),(∀a o,G.base.get? a=aa o→P a=aa o)→aY P m ez ds):
  dZ G a 4 (x1::x2::x3::x4::xs) ez (bc a) (cg a):=
 uJ hK ds A.1 A.2.1 A.2.2.1 A.2.2.2 (by show xs.length+1+1+1+1=_;rw[c5];exact rZ ez.length 4) (λS vals hv=>by
  refine eA (lq hv) λv1 r1 ar h1=>?_;subst ar;refine eA (lq h1) λv2 r2 ar h2=>?_;subst ar;refine eA (lq h2) λv3 r3 ar h3=>?_;subst ar;refine xE (x_ h3) λv4 bu=>?_;subst bu;exact hb S v1 v2 v3 v4) kC
noncomputable def I4 (H:Frag) (a:ax):Obj:=match H.lookup a with|some o=>o|none=>default
theorem WG {G:Gl} {H:Frag} (hK:G.K=H) {P:aW} (hb:∀a o,G.base.get? a=aa o→P a=aa o) {a:ax} (e:H.lookup a=aa (I4 H a)) {T:Prop} (c:P a=aa (I4 H a)→T):T:=c (hb _ _ (G.fT a _ (hK▸e)))
theorem G5 {a:ax} {o:Obj}:∀{l:List (ax×Obj)},l.lookup a=aa o→(a,o)∈l
 |(k,v)::r,h=>by
  rw[kX] at h
  cases q:a==k with
  |true=>rw[q] at h;(first|exact a8 h|obtain rfl:=aU h);rw[eW.mp q];exact dv
  |false=>rw[q] at h;exact eS _ (G5 h)
noncomputable def pQ (base:cO) (ex:List (ax×Obj)):aW:=λa=>(base.get? a).or (ex.lookup a)
theorem Rel.start {G:Gl} {F:FD} {b:Nat} {ae:Env} {A:dP} {s:ak} {fr:SF} {L:ax} {ex:List (ax×Obj)} {own:List ax}
  (hg:s.gens=#[]) (ho:s.os=G.os) (hb:∀a o,G.base.get? a=aa o→s.heap.get? a=aa o)
  (hex:∀p∈ex,s.heap.get? p.1=aa p.2∧p.1∉own) (tK:∀a∈own,G.base.get? a=af)
  (hA:A.frames=aa [ae]) (hL:ae.frame=aa L) (NM:L∈own) (hk:ae.scope.kind≠.module) (Ok:∃o,s.heap.get? L=aa o∧∀vs,o.data≠.fields vs)
  (hF:FrR F own ae (pQ G.base ex) (λ_=>af) fr s.heap)
  (hd:A.depth+b<Hv) (hu:A.units+8*b+8<ew) (Ts:A.guards=aa []) (hq:F.q=ab→A.handled=af):
  Rel G F b own ae A (pQ G.base ex) (λ_=>af) fr (λ_=>af) s where
 gens:=hg
 os:=ho
 bs:=hb
 basePR:=λa o e=>by unfold pQ;rw[e];rfl
 frs:=by
  refine⟨[ae],hA,?_,zp ae ([]) rfl rfl,λa ha=>?_,λa o e=>?_⟩
  ·refine aj Ok λo h1 h2=>?_;clear Ok
   exact⟨hk,⟨L,o,hL,tK L NM,h1,h2⟩,trivial⟩
  ·rw[qC,hL] at ha
   have:a=L:=by simpa using ha
   exact .inl (this▸NM)
  ·unfold pQ at e
   cases yC:G.base.get? a with
   |some o'=>
    rw[yC] at e;obtain rfl:o'=o:=by simpa using e
    exact(aT o'.slots (hb a o' yC) (λ_=>rfl))
   |none=>
    rw[yC] at e;refine xA (hex (a,o) (G5 (by simpa using e))) λh1 _=>?_;exact(aT o.slots h1 (λ_=>rfl))
 obj:=λn so e=>by exact a8 e
 dom:=λ_ _=>rfl
 inj:=λ_ _ _ _ e=>by exact a8 e
 sep:=λ_ _ e=>by exact a8 e
 ownP:=λa ha=>by
  unfold pQ;rw[tK a ha]
  cases e:ex.lookup a with
  |none=>rfl
  |some o=>exact bd ha (hex (a,o) (G5 e)).2
 f:=hF
 depth:=hd
 units:=hu
 guards:=Ts
 quiet:=hq
noncomputable def cW (F:FD) (l:List Str):Bool:=l.all λx=>(F.sc.names.lookup x==aa .globalImplicit) && !(x==("__debug__":Str))
structure FI where
 G:Gl
 b:Nat
 K:KD G
 F:FD
 l:List Str
 gs:List Str
 V:ck F l=ab
 W:cW F gs=ab
 q:F.q=ab
def SF.sub (fr fr':SF):Prop:=∀y v,fr.lookup y=aa v→fr'.lookup y=aa v
theorem SF.sub.put {fr fr':SF} (s:fr.sub fr') (x:Str) (v:SV):(fr.put x v).sub (fr'.put x v):=λy u h=>
 have h:=(gi fr x v y).symm.trans h
 (gi fr' x v y).trans (if e:y=x then(aO e).trans ((aO e).symm.trans h) else(aK e).trans (s y u ((aK e).symm.trans h)))
theorem bt {fr:SF}:SF.sub [] fr:=λ_ _ h=>a8 h
theorem ai {y:Str} {v:SV} {r fr:SF} (t:r.sub fr) (h:autoParam (fr.lookup y=aa v) dI):SF.sub ((y,v)::r) fr:=λz u q=>
 if e:z=y then(ay (fr.lookup ·) e).trans (h.trans ((jg (p:=(y,v)) e).symm.trans q)) else t z u ((gT (p:=(y,v)) e).symm.trans q)
theorem SF.sub.rfl {fr:SF}:fr.sub fr:=λ_ _ h=>h
theorem SF.sub.trans {a b c:SF} (x:a.sub b) (y:b.sub c):a.sub c:=λz v h=>y z v (x z v h)
variable{i:FI} {ag aC cM:SH} {e l r:Expr} {u v w:SV}
structure EV (i:FI) (fr:SF) (h:SH) (e:Expr) (v:SV) (h':SH):Prop where
 run:∀fr',fr.sub fr'→∀Q X,Q v h'→WE i.G i.F i.b fr' h e Q X
structure EP (i:FI) (fr:SF) (h:SH) (e:Expr) (Q:QV):Prop where
 run:∀fr',fr.sub fr'→∀(Q':QV) X,(∀v h,Q v h→Q' v h)→WE i.G i.F i.b fr' h e Q' X
structure EB (i:FI) (fr:SF) (h:SH) (e:Expr) (t:Bool) (h':SH):Prop where
 run:∀fr',fr.sub fr'→∀Q X,Q t h'→WB i.G i.F i.b fr' h e Q X
structure ES (i:FI) (fr:SF) (h:SH) (es:List Expr) (vs:List SV) (h':SH):Prop where
 run:∀fr',fr.sub fr'→∀Q X,Q vs h'→j5 i.G i.F i.b fr' h es Q X
structure OV (i:FI) (h:SH) (vs:List SV) (t:List Value→Sem Value) (v:SV) (h':SH):Prop where
 run:∀fr' Q X,Q v h'→WO i.G i.F i.b fr' h vs t Q X
structure TV (i:FI) (h:SH) (v:SV) (t:Bool):Prop where
 run:∀fr' (Q:Bool→SH→Prop) X,Q t h→WT i.G i.F i.b fr' h v Q X
structure CP (i:FI) (h:SH) (f:SV) (vs:List SV) (Q:QV):Prop where
 run:∀fr' (Q':QV) X,(∀v h,Q v h→Q' v h)→WC i.G i.F i.b fr' h f vs Q' X
structure MV (i:FI) (h:SH) (u:SV) (name:Str) (f:SV):Prop where
 run:∀fr',GM i.G i.F i.b fr' h u name f
structure FP (i:FI) (h:SH) (f:SV) (vs:List SV) (Q:QV):Prop where
 run:∀(F:FD) fr',F.q=ab→∀Q':QV,(∀v h,Q v h→Q' v h)→CC i.G F i.b fr' h f vs Q'
structure EI (i:FI) (fr:SF) (h:SH) (e:Expr) (k:dB) (h':SH):Prop where
 run:∀fr',fr.sub fr'→∀Q X,Q k h'→WI i.G i.F i.b fr' h e Q X
structure AT (i:FI) (fr:SF) (h:SH) (t:Expr) (v:SV) (bA:SF) (h':SH):Prop where
 run:∀fr',fr.sub fr'→∀(Q:QF) X,(∀et,bA.sub et→Q et h')→WA i.G i.F i.b fr' h t v Q X
abbrev is (v:SV) (h:SH):QV:=λv' h'=>v'=v∧h'=h
theorem FP.cp {f:SV} {vs:List SV} {Q:QV} (w:FP i h f vs Q):CP i h f vs Q:=⟨λfr' Q' X hq=>RI (w.run i.F fr' i.q Q' hq)⟩
theorem EV.ep (w:EV i fr h e v h'):EP i fr h e (is v h'):=⟨λfr' s Q' X hq=>w.run fr' s Q' X (hq _ _ ⟨rfl,rfl⟩)⟩
theorem EP.ev (w:EP i fr h e (is v h')):EV i fr h e v h':=⟨λfr' s Q' X hq=>w.run fr' s Q' X λv h q=>by refine xA q λcP bu=>?_;clear q;subst cP;subst bu;exact hq⟩
theorem EP.imp {Q Q':QV} (w:EP i fr h e Q) (hq:∀v h,Q v h→Q' v h):EP i fr h e Q':=⟨λfr' s pD X h2=>w.run fr' s pD X λv h q=>h2 v h (hq v h q)⟩
theorem cW.get {F:FD} {l:List Str} (V:cW F l=ab) {x:Str} (hx:l.contains x=ab):F.sc.names.lookup x=aa .globalImplicit∧(x==("__debug__":Str))=an:=
 have q:=(bR _ _).mp (db.mp V x (e9.mp hx));⟨eq_of_beq q.1,(jI _).mp q.2⟩
theorem n_ {x:Str} {pos:Pos} (hx:autoParam (fr.lookup x=aa v) dI) (hl:autoParam (i.l.contains x=ab) bn):EV i fr h (.Name x pos) v h:=
 ⟨λfr' s Q X hq=>nv i.V (s _ _ hx) hq hl⟩
theorem g_ {x:Str} {pos:Pos} (hg:ji i.G x v) (hl:autoParam (i.gs.contains x=ab) bn):EV i fr h (.Name x pos) v h:=
 ⟨λfr' s Q X hq=>Fu hg (cW.get i.W hl).1 (cW.get i.W hl).2 hq⟩
theorem bG {n:Int} {k:Nat} {pos:Pos}:EV i fr h (.Constant (.int n) k pos) (.int n) h:=⟨λfr' s Q X hq=>const_int hq⟩
theorem cx {n:Str} {k:Nat} {pos:Pos}:EV i fr h (.Constant (.str n) k pos) (.str n) h:=⟨λfr' s Q X hq=>MC hq⟩
theorem jy {n:Bool} {k:Nat} {pos:Pos}:EV i fr h (.Constant (.bool n) k pos) (.bool n) h:=⟨λfr' s Q X hq=>Up hq⟩
theorem kJ {k:Nat} {pos:Pos}:EV i fr h (.Constant .none k pos) .none h:=⟨λfr' s Q X hq=>const_none hq⟩
def xd (e:Expr):Prop:=∀(a:Str) (ae:Env) (w:Sem Value),uo e a ae w=w
def qe (e:Expr):Prop:=∀o j:Value,subscripted e an o j=operate [o,j] (i5 o j)
theorem a_ {n:Nm} {C:ax} {fs:SF} {a:Str} {pos:Pos} (w:EV i fr h e (.ref n) ag) (hn:ag n=aa (.inst C fs)) (hf:autoParam (fs.lookup a=aa v) dI) (ok:autoParam ((qj C a && lG v)=ab) bn) (qr:autoParam (xd e) xf):EV i fr h (.Attribute e a pos) v ag:=by
 have p:=(bR _ _).mp ok;exact⟨λfr' s Q X hq=>at_ (w.run fr' s _ _ (Ft i.K p.1 hn hf p.2 hq)) (qr _)⟩
theorem Zb {n:Nm} {fs:SF} {a:Str} {pos:Pos} (w:EV i fr h e (.ref n) ag) (hn:ag n=aa (.inst 100 fs)) (hf:fs.lookup a=af) (ok:autoParam (vq.contains a=ab) bn) (qr:autoParam (xd e) xf):EV i fr h (.Attribute e a pos) (.int 0) ag:=
 ⟨λfr' s Q X hq=>at_ (w.run fr' s _ _ (Ku i.K ok hn hf hq)) (qr _)⟩
theorem y0 {k:Expr} {pos:Pos} (a:EV i fr h e u ag) (b:EV i fr ag k w aC) (g:GI i.G aC u) (o:OV i aC [u,w] (bx i5) v cM) (ok:autoParam (qe k) jn):EV i fr h (.Subscript e k pos) v cM:=
 ⟨λfr' s Q X hq=>B7 (ok) (a.run fr' s _ _ (b.run fr' s _ _ ⟨g,o.run fr' _ _ hq⟩))⟩
theorem g7 {n:Nm} {es:List (SV×SV)} {k:Expr} {pos:Pos} (a:EV i fr h e (.ref n) ag) (b:EV i fr ag k w aC) (hn:aC n=aa (.dict es)) (hl:es.lookup w=aa v) (ok:autoParam (SV.key 6 w=ab) bn) (E0:autoParam (qe k) jn):EV i fr h (.Subscript e k pos) v aC:=
 y0 a b (.dict hn) ⟨λfr' Q X hq=>Wk hn ok hl hq⟩ E0
theorem mM {vs:List SV} {k:Expr} {pos:Pos} {j:Nat} (a:EV i fr h e u ag) (b:EV i fr ag k (.int j) aC) (hl:dc i.G aC u vs) (hj:j<2^62) (hv:vs[j]? =aa v) (ok:autoParam (qe k) jn):EV i fr h (.Subscript e k pos) v aC:=y0 a b (.lst hl) ⟨λfr' Q X hq=>Tf hl (Dn aV (jp j)) (ahj (h9.mpr hj) aV) (Eg ((cU.mp hv).1)) hv hq⟩ ok
theorem mj {vs:List SV} {k:Expr} {pos:Pos} {j:Nat} (a:EV i fr h e (.tup vs) ag) (b:EV i fr ag k (.int j) aC) (hj:j<2^62) (hv:vs[j]? =aa v) (ok:autoParam (qe k) jn):EV i fr h (.Subscript e k pos) v aC:=y0 a b .tup ⟨λfr' Q X hq=>LD (Dn aV (jp j)) (ahj (h9.mpr hj) aV) (Eg ((cU.mp hv).1)) hv hq⟩ ok
theorem c_ {op:CmpOp} {pos:Pos} (a:EV i fr h l u ag) (b:EV i fr ag r w aC) (o:OV i aC [u,w] (bx (cZ op)) v cM) (ok:autoParam (Dc op r=an) dI):EV i fr h (.Compare l [op] [r] pos) v cM:=
 ⟨λfr' s Q X hq=>AQ ok (a.run fr' s _ _ (b.run fr' s _ _ (o.run fr' _ _ hq)))⟩
theorem bv {op:CmpOp} {pos:Pos} {t:Bool} (a:EV i fr h l u ag) (b:EV i fr ag r w aC) (o:OV i aC [u,w] (bx (cZ op)) (.bool t) cM) (ok:autoParam (Dc op r=an) dI):EB i fr h (.Compare l [op] [r] pos) t cM:=
 ⟨λfr' s Q X hq=>Mc ok (a.run fr' s _ _ (b.run fr' s _ _ (o.run fr' _ _ (BV hq))))⟩
theorem fH {op:wM} {pos:Pos} (a:EV i fr h l u ag) (b:EV i fr ag r w aC) (o:OV i aC [u,w] (bx (mS op)) v cM):EV i fr h (.BinOp l op r pos) v cM:=
 ⟨λfr' s Q X hq=>NG (a.run fr' s _ _ (b.run fr' s _ _ (o.run fr' _ _ hq)))⟩
theorem Ct {n:Int} {pos:Pos} (a:EV i fr h e (.int n) ag):EV i fr h (.UnaryOp .USub e pos) (.int (-n)) ag:=⟨λfr' s Q X hq=>Tx (a.run fr' s _ _ (Sd hq))⟩
theorem Jq {t:Expr} {pos:Pos} (a:EB i fr h t ab ag) (b:EV i fr ag l v aC):EV i fr h (.IfExp t l r pos) v aC:=⟨λfr' s Q X hq=>NL (a.run fr' s _ _ (b.run fr' s _ _ hq))⟩
theorem OF {t:Expr} {pos:Pos} (a:EB i fr h t an ag) (b:EV i fr ag r v aC):EV i fr h (.IfExp t l r pos) v aC:=⟨λfr' s Q X hq=>NL (a.run fr' s _ _ (b.run fr' s _ _ hq))⟩
theorem p_ {t:Bool} (a:EV i fr h e v ag) (o:TV i ag v t) (ok:autoParam (A8 e=ab) bn):EB i fr h e t ag:=⟨λfr' s Q X hq=>abx ok (a.run fr' s _ _ (o.run fr' _ _ hq))⟩
theorem fw {t:Bool} {pos:Pos} (a:EB i fr h e t ag):EB i fr h (.UnaryOp .Not e pos) (!t) ag:=⟨λfr' s Q X hq=>Tq (a.run fr' s _ _ hq)⟩
theorem lQ {es:List Expr} {t:Bool} {pos:Pos} (a:EB i fr h e ab ag) (b:EB i fr ag (.BoolOp .And es pos) t aC):EB i fr h (.BoolOp .And (e::es) pos) t aC:=⟨λfr' s Q X hq=>I_ (a.run fr' s _ _ (by rw[aO rfl];exact b.run fr' s _ _ hq))⟩
theorem oE {es:List Expr} {pos:Pos} (a:EB i fr h e an ag):EB i fr h (.BoolOp .And (e::es) pos) an ag:=⟨λfr' s Q X hq=>I_ (a.run fr' s _ _ (by rw[aK iB];exact hq))⟩
theorem Bw {pos:Pos}:EB i fr h (.BoolOp .And [] pos) ab h:=⟨λfr' s Q X hq=>Sg hq⟩
theorem qc {es:List Expr} {t:Bool} {pos:Pos} (a:EB i fr h e an ag) (b:EB i fr ag (.BoolOp .Or es pos) t aC):EB i fr h (.BoolOp .Or (e::es) pos) t aC:=⟨λfr' s Q X hq=>ED (a.run fr' s _ _ (by rw[aK iB];exact b.run fr' s _ _ hq))⟩
theorem yU {es:List Expr} {pos:Pos} (a:EB i fr h e ab ag):EB i fr h (.BoolOp .Or (e::es) pos) ab ag:=⟨λfr' s Q X hq=>ED (a.run fr' s _ _ (by rw[aO rfl];exact hq))⟩
theorem AR {pos:Pos}:EB i fr h (.BoolOp .Or [] pos) an h:=⟨λfr' s Q X hq=>Ω hq⟩
theorem jf {t:Bool}:TV i h (.bool t) t:=⟨λfr' Q X hq=>BV hq⟩
theorem m8:TV i h .none an:=⟨λfr' Q X hq=>V0 hq⟩
theorem M0 {n:Int}:TV i h (.int n) (n !=0):=⟨λfr' Q X hq=>VB hq⟩
theorem lO {vs:List SV} (hl:dc i.G h u vs) (hz:vs.length<2^62):TV i h u (!vs.isEmpty):=⟨λfr' Q X hq=>Α hl hz hq⟩
theorem CF {vs:List SV} (hz:vs.length<2^62):TV i h (.tup vs) (!vs.isEmpty):=⟨λfr' Q X hq=>acf hz hq⟩
theorem yd {n:Nm} {es:List (SV×SV)} (hn:h n=aa (.dict es)) (hz:es.length<2^62):TV i h (.ref n) (!es.isEmpty):=⟨λfr' Q X hq=>Zc hn hz hq⟩
theorem yv (ok:autoParam ((SV.data 6 u && SV.data 6 w)=ab) bn):OV i h [u,w] (bx (cZ .Eq)) (.bool (decide (u=w))) h:=by rw[bR] at ok;exact⟨λfr' Q X hq=>Wm ok.1 ok.2 hq⟩
theorem nK (hu:u=w) (ok:autoParam ((SV.data 6 u && SV.data 6 w)=ab) bn):OV i h [u,w] (bx (cZ .Eq)) (.bool ab) h:=eP hu▸yv ok
theorem lT (hu:u≠w) (ok:autoParam ((SV.data 6 u && SV.data 6 w)=ab) bn):OV i h [u,w] (bx (cZ .Eq)) (.bool an) h:=iZ hu▸yv ok
theorem Kv (ok:autoParam ((SV.data 6 u && SV.data 6 w)=ab) bn):OV i h [u,w] (bx (cZ .NotEq)) (.bool (!decide (u=w))) h:=by rw[bR] at ok;exact⟨λfr' Q X hq=>ac3 ok.1 ok.2 hq⟩
theorem y5 {x y:Int}:OV i h [.int x,.int y] (bx (cZ .Lt)) (.bool (decide (x<y))) h:=⟨λfr' Q X hq=>To hq⟩
theorem JU {x y:Int}:OV i h [.int x,.int y] (bx (cZ .Gt)) (.bool (decide (x > y))) h:=⟨λfr' Q X hq=>US hq⟩
theorem Hc {x y:Int}:OV i h [.int x,.int y] (bx (cZ .GtE)) (.bool (decide (x≥y))) h:=⟨λfr' Q X hq=>Rr hq⟩
theorem ny {x y:Int}:OV i h [.int x,.int y] (bx (mS .Add)) (.int (x+y)) h:=⟨λfr' Q X hq=>adz hq⟩
theorem Ag {x y:Int}:OV i h [.int x,.int y] (bx (mS .Sub)) (.int (x-y)) h:=⟨λfr' Q X hq=>acs hq⟩
theorem wB {x y:Int}:OV i h [.int x,.int y] (bx (sd .Add)) (.int (x+y)) h:=⟨λfr' Q X hq=>aay hq⟩
theorem K4 {x y:Int}:OV i h [.int x,.int y] (bx (sd .Sub)) (.int (x-y)) h:=⟨λfr' Q X hq=>ZO hq⟩
theorem sL {x y:Int} (hy:0<y):OV i h [.int x,.int y] (bx (mS .Mod)) (.int (x % y)) h:=⟨λfr' Q X hq=>ac7 hy hq⟩
theorem pX {n:Nm} {es:List (SV×SV)} (hn:h n=aa (.dict es)) (ok:autoParam (SV.key 6 u=ab) bn):OV i h [u,.ref n] (bx (cZ .In)) (.bool (es.lookup u).isSome) h:=⟨λfr' Q X hq=>aa3 hn ok hq⟩
theorem JB {n:Nm} {es:List (SV×SV)} (hn:h n=aa (.dict es)) (ok:autoParam (SV.key 6 u=ab) bn):OV i h [u,.ref n] (bx (cZ .NotIn)) (.bool (!(es.lookup u).isSome)) h:=⟨λfr' Q X hq=>η hn ok hq⟩
theorem Gq {vs:List SV} (hl:dc i.G h w vs) (hd:eH 6 vs=ab) (ok:autoParam (SV.data 6 u=ab) bn):OV i h [u,w] (bx (cZ .In)) (.bool (decide (u∈vs))) h:=⟨λfr' Q X hq=>Sr hl hd ok hq⟩
theorem B5 {vs:List SV} (hl:dc i.G h w vs) (hd:eH 6 vs=ab) (ok:autoParam (SV.data 6 u=ab) bn):OV i h [u,w] (bx (cZ .NotIn)) (.bool (!decide (u∈vs))) h:=⟨λfr' Q X hq=>Xl hl hd ok hq⟩
theorem OE {x y:Str}:OV i h [.str y,.str x] (bx (cZ .In)) (.bool (Cz y x)) h:=⟨λfr' Q X hq=>Uj hq⟩
theorem vf (ok:autoParam (lG u=ab) bn):OV i h [u,.none] (bx (cZ .IsNot)) (.bool (!isNone u)) h:=⟨λfr' Q X hq=>adn ok hq⟩
theorem aL:ES i fr h [] [] h:=⟨λfr' s Q X hq=>tC hq⟩
theorem aB {es:List Expr} {vs:List SV} (a:EV i fr h e v ag) (b:ES i fr ag es vs aC) (ok:autoParam (iJ e=ab) bn):ES i fr h (e::es) (v::vs) aC:=⟨λfr' s Q X hq=>tA (a.run fr' s _ _ (b.run fr' s _ _ hq)) ok⟩
theorem eY {es:List Expr} {vs:List SV} {k:Nat} {pos:Pos} (a:ES i fr h es vs ag) (hl:autoParam (vs.length=es.length) dI) (hz:autoParam (wF es.length 100=ab) bn):EV i fr h (.Tuple es k pos) (.tup vs) ag:=⟨λfr' s Q X hq=>tuple (u7 hz) (a.run fr' s _ _ ⟨hl,hq⟩)⟩
theorem ey {es:List Expr} {vs:List SV} {pos:Pos} {n:Nm} (a:ES i fr h es vs ag) (hn:ag n=af) (hl:autoParam (vs.length=es.length) dI) (hz:autoParam (wF es.length 100=ab) bn):EV i fr h (.List es pos) (.ref n) (ag.set n (.list vs)):=⟨λfr' s Q X hq=>list (u7 hz) (a.run fr' s _ _ (rt hl n hn hq))⟩
theorem gZ {pos:Pos} {n:Nm} (hn:h n=af):EV i fr h (.Dict [] [] pos) (.ref n) (h.set n (.dict [])):=⟨λfr' s Q X hq=>Zo hn hq⟩
theorem nF {x:Str} {q pos:Pos} {args:List Expr} {f:SV} {vs:List SV} {Q:QV} (hg:ji i.G x f) (hc:callable i.G f=ab) (a:ES i fr h args vs ag) (b:CP i ag f vs Q) (ok:autoParam ((i.gs.contains x && args.all iJ)=ab) bn):EP i fr h (.Call (.Name x q) args [] pos) Q:=by
 rw[bR] at ok;exact⟨λfr' s Q' X hq=>Pr hg (cW.get i.W ok.1).1 hc (a.run fr' s _ _ (b.run fr' _ _ hq)) (cW.get i.W ok.1).2 ok.2⟩
theorem de {o:Expr} {name:Str} {gI pos:Pos} {args:List Expr} {f:SV} {vs:List SV} {Q:QV} (a:EV i fr h o u ag) (m:MV i ag u name f) (hc:callable i.G f=ab) (b:ES i fr ag args vs aC) (d:CP i aC f (u::vs) Q) (ok:autoParam ((args.all iJ && (gI.endLine==pos.line && decide (args.length<20)))=ab) bn) (qr:autoParam (xd o) xf):
  EP i fr h (.Call (.Attribute o name gI) args [] pos) Q:=by
 have p:=(bR _ _).mp ok;exact⟨λfr' s Q' X hq=>LX (a.run fr' s _ _ (cL f hc (m.run fr') (b.run fr' s _ _ (d.run fr' _ _ hq)))) (qr _) p.1 p.2⟩
theorem b9 {x:Str} {q pos:Pos} {args:List Expr} {f:SV} {vs:List SV} (hg:ji i.G x f) (hc:callable i.G f=ab) (a:ES i fr h args vs ag) (b:CP i ag f vs (is v aC)) (ok:autoParam ((i.gs.contains x && args.all iJ)=ab) bn):EV i fr h (.Call (.Name x q) args [] pos) v aC:=EP.ev (nF hg hc a b ok)
theorem hG {o:Expr} {name:Str} {gI pos:Pos} {args:List Expr} {f:SV} {vs:List SV} (a:EV i fr h o u ag) (m:MV i ag u name f) (hc:callable i.G f=ab) (b:ES i fr ag args vs aC) (d:CP i aC f (u::vs) (is v cM)) (ok:autoParam ((args.all iJ && (gI.endLine==pos.line && decide (args.length<20)))=ab) bn) (qr:autoParam (xd o) xf):
  EV i fr h (.Call (.Attribute o name gI) args [] pos) v cM:=EP.ev (de a m hc b d ok qr)
theorem ga {n:Nm} {vs:List SV} (hn:h n=aa (.list vs)):MV i h (.ref n) "append" (.bi "list.append"):=⟨λfr'=>E9 hn PySem.F.slot_list_append PySem.F.type_list_append⟩
theorem ja {n:Nm} {es:List (SV×SV)} (hn:h n=aa (.dict es)):MV i h (.ref n) "get" (.bi "dict.get"):=⟨λfr'=>UJ hn HX PySem.F.type_dict_get⟩
theorem fU {n:Nm} {vs:List SV} (hn:h n=aa (.list vs)) (hz:vs.length≤aZ):CP i h (.bi "list.append") [.ref n,v] (is .none (h.set n (.list (vs++[v])))):=⟨λfr' Q X hq=>Zm hn hz (hq _ _ ⟨rfl,rfl⟩)⟩
theorem xL {n:Nm} {es:List (SV×SV)} (hn:h n=aa (.dict es)) (ok:autoParam (SV.key 6 v=ab) bn):CP i h (.bi "dict.get") [.ref n,v,w] (is ((es.lookup v).getD w) h):=⟨λfr' Q X hq=>TD hn ok (hq _ _ ⟨rfl,rfl⟩)⟩
theorem oS {vs:List SV} (hl:dc i.G h u vs) (hz:vs.length<2^62):CP i h (.bi "len") [u] (is (.int vs.length) h):=⟨λfr' Q X hq=>U6 hl hz (hq _ _ ⟨rfl,rfl⟩)⟩
theorem CO {vs:List SV} (hz:vs.length<2^62):CP i h (.bi "len") [.tup vs] (is (.int vs.length) h):=⟨λfr' Q X hq=>ZQ hz (hq _ _ ⟨rfl,rfl⟩)⟩
variable{o:Expr} {rest:List bI} {k:List (List bI)} {Q:QS}
noncomputable def up (Q:QS):QS:=λf fr h=>∃d_,d_.sub fr∧Q f d_ h
noncomputable def j7 (i:FI) (Q:QS):List (List bI)→QS
 |[]=>Q
 |b::k=>λf fr h=>match f with
  |.next=>jN i.G i.F i.b fr h b (j7 i Q k) nX
  |f=>Q f fr h
structure SS (i:FI) (fr:SF) (h:SH) (k:List (List bI)) (Q:QS):Prop where
 run:∀fr',fr.sub fr'→j7 i (up Q) k .next fr' h
structure ST (i:FI) (fr:SF) (h:SH) (st:bI) (k:List (List bI)) (Q:QS):Prop where
 run:∀fr',fr.sub fr'→∀Q':QS,(∀bA ag f,j7 i (up Q) k f bA ag→Q' f bA ag)→WS i.G i.F i.b fr' h st Q' nX
theorem Ir {k:List (List bI)} {f:tX} (hf:f≠.next) {fr:SF} {h:SH}:j7 i Q k f fr h=Q f fr h:=by
 cases k with
 |nil=>rfl
 |cons b k=>cases f<;>first|exact bd rfl hf|rfl
theorem SS.sub {d_:SF} (w:SS i d_ h k Q) (s:d_.sub fr):SS i fr h k Q:=⟨λfr' s'=>w.run fr' (s.trans s')⟩
theorem bN (hq:Q .next fr h):SS i fr h [] Q:=⟨λfr' s=>⟨fr,s,hq⟩⟩
theorem aH (w:SS i fr h k Q):SS i fr h ([]::k) Q:=⟨λfr' s=>vE (w.run fr' s)⟩
theorem fM {st:bI} (w:ST i fr h st (rest::k) Q):SS i fr h ((st::rest)::k) Q:=⟨λfr' s=>xk (w.run fr' s _ λbA ag f q=>by
 cases f with
 |next=>exact q
 |brk=>exact(Ir (by simp)).mpr q
 |cont=>exact(Ir (by simp)).mpr q
 |ret v=>exact(Ir (by simp)).mpr q)⟩
noncomputable def iq (e:Expr):Bool:=!([8,9,10,25].contains e.ctorIdx)
noncomputable def u_ (e:Expr):Bool:=[20,21,23,25].contains e.ctorIdx
theorem Is {t:Option Expr} (ok:iq e=ab) {n:Nat} {ae:Env}:Dg e t n ae=pure an:=by
 refine @wO (λe=>iq e=ab→Dg e t n ae=pure an) e ?_ ?_ ?_ ?_ ?_ ?_ ?_ ?_ ?_ ?_ ?_ ?_ ?_ ?_ ?_ ?_ ?_ ?_ ?_ ?_ ?_ ?_ ?_ ?_ ?_ ?_ ?_ ok<;>intros<;>first|rfl|exact cJ ‹_›
theorem QQ {t:Expr} (ok:iq e=ab) {n:Nat} {ae:Env}:De [t] e n ae=pure an:=Is ok
theorem QR {t:Expr} (ok:iq e=ab) (ot:u_ t=ab) {ae:Env}:wP [t] e ae=pure af:=by
 refine @wO (λt=>u_ t=ab→wP [t] e ae=pure af) t ?_ ?_ ?_ ?_ ?_ ?_ ?_ ?_ ?_ ?_ ?_ ?_ ?_ ?_ ?_ ?_ ?_ ?_ ?_ ?_ ?_ ?_ ?_ ?_ ?_ ?_ ?_ ot<;>first|(intros;first|rfl|(exact cJ ‹_›;done))|(intros;refine @wO (λe=>iq e=ab→wP _ e ae=pure af) e ?_ ?_ ?_ ?_ ?_ ?_ ?_ ?_ ?_ ?_ ?_ ?_ ?_ ?_ ?_ ?_ ?_ ?_ ?_ ?_ ?_ ?_ ?_ ?_ ?_ ?_ ?_ ok<;>(intros;first|rfl|exact cJ ‹_›))
theorem QT {t:Expr} (ok:u_ t=ab) {ae:Env}:(qx [t] ae).map (·.2)=[o8 t ae]:=by
 refine @wO (λt=>u_ t=ab→(qx [t] ae).map (·.2)=[o8 t ae]) t ?_ ?_ ?_ ?_ ?_ ?_ ?_ ?_ ?_ ?_ ?_ ?_ ?_ ?_ ?_ ?_ ?_ ?_ ?_ ?_ ?_ ?_ ?_ ?_ ?_ ?_ ?_ ok<;>(intros;first|rfl|exact cJ ‹_›)
theorem sV {t:Expr} {pos:Pos} (P:QV) (a:EP i fr h e P) (b:∀v ag,P v ag→∀fr',fr.sub fr'→∀Q':QF,(∀bA aC,j7 i (up Q) k .next bA aC→Q' bA aC)→WA i.G i.F i.b fr' ag t v Q' nX) (ok:autoParam ((iq e && u_ t)=ab) bn):ST i fr h (.Assign [t] e pos) k Q:=by
 rw[bR] at ok;exact⟨λfr' s Q' hq=>B9 (a.run fr' s _ _ λv ag hp=>b v ag hp fr' s _ λbA aC q=>hq _ _ _ q) (λae=>QQ ok.1) (λae=>QR ok.1 ok.2) λae=>QT ok.2⟩
theorem bO {x:Str} {q pos:Pos} (a:EV i fr h e v ag) (b:SS i (fr.put x v) ag (rest::k) Q) (ok:autoParam ((i.l.contains x && iq e)=ab) bn):SS i fr h ((.Assign [.Name x q] e pos::rest)::k) Q:=by
 rw[bR] at ok;exact fM (sV _ a.ep (λv' aC e fr' s Q' hq=>by refine xA e λcP bu=>?_;clear e;subst cP;subst bu;exact oT i.V (hq _ _ (b.run _ (s.put _ _))) ok.1) (by rw[ok.2];rfl))
theorem ku {x:Str} {q pos:Pos} {P:QV} (a:EP i fr h e P) (b:∀v ag,P v ag→SS i (fr.put x v) ag (rest::k) Q) (ok:autoParam ((i.l.contains x && iq e)=ab) bn):SS i fr h ((.Assign [.Name x q] e pos::rest)::k) Q:=by
 rw[bR] at ok;exact fM (sV _ a (λv' aC e fr' s Q' hq=>oT i.V (hq _ _ ((b v' aC e).run _ (s.put _ _))) ok.1) (by rw[ok.2];rfl))
theorem jB {n:Nm} {C:ax} {fs:SF} {a:Str} {q pos:Pos} (x:EV i fr h e v ag) (y:EV i fr ag o (.ref n) aC) (hn:aC n=aa (.inst C fs)) (hz:fs.length≤1000) (b:SS i fr (aC.set n (.inst C (fs.put a v))) (rest::k) Q) (ok:autoParam ((qj C a && iq e)=ab) bn):
  SS i fr h ((.Assign [.Attribute o a q] e pos::rest)::k) Q:=by
 rw[bR] at ok;exact fM (sV _ x.ep (λv' aC e fr' s Q' hq=>by refine xA e λcP bu=>?_;clear e;subst cP;subst bu;exact NE (y.run fr' s _ _ (DM i.K ok.1 hn hz (hq _ _ (b.run _ s))))) (by rw[ok.2];rfl))
theorem d9 {n:Nm} {es:List (SV×SV)} {kx:Expr} {q pos:Pos} (x:EV i fr h e v ag) (y:EV i fr ag o (.ref n) aC) (z:EV i fr aC kx w cM) (hn:cM n=aa (.dict es)) (hz:es.length≤aZ) (b:SS i fr (cM.set n (.dict (bl es w v))) (rest::k) Q) (ok:autoParam ((SV.key 6 w && iq e)=ab) bn):
  SS i fr h ((.Assign [.Subscript o kx q] e pos::rest)::k) Q:=by
 rw[bR] at ok;exact fM (sV _ x.ep (λv' aC e fr' s Q' hq=>by refine xA e λcP bu=>?_;clear e;subst cP;subst bu;exact Gh (y.run fr' s _ _ (z.run fr' s _ _ (N9 hn ok.1 hz (hq _ _ (b.run _ s)))))) (by rw[ok.2];rfl))
theorem yn {x:Str} {q pos:Pos} {op:wM} (hx:fr.lookup x=aa v) (a:EV i fr h e u ag) (d:OV i ag [v,u] (bx (sd op)) w aC) (b:SS i (fr.put x w) aC (rest::k) Q) (ok:autoParam (i.l.contains x=ab) bn):SS i fr h ((.AugAssign (.Name x q) op e pos::rest)::k) Q:=
 fM ⟨λfr' s Q' hq=>ad9 (s _ _ hx) (ck.v i.V ok).1 (ck.v i.V ok).2.1 (ck.v i.V ok).2.2 (a.run fr' s _ _ (d.run fr' _ _ (hq _ _ .next (b.run _ (s.put _ _)))))⟩
theorem DZ {n:Nm} {C:ax} {fs:SF} {a:Str} {q pos:Pos} {op:wM} (x:EV i fr h o (.ref n) ag) (hn:ag n=aa (.inst C fs)) (hf:OV i ag [.ref n] (mF λx=>mT x a ab) v ag) (y:EV i fr ag e u aC) (d:OV i aC [v,u] (bx (sd op)) w cM) (yc:cM n=aa (.inst C fs)) (hz:fs.length≤1000)
  (b:SS i fr (cM.set n (.inst C (fs.put a w))) (rest::k) Q) (ok:autoParam (qj C a=ab) bn):SS i fr h ((.AugAssign (.Attribute o a q) op e pos::rest)::k) Q:=
 fM ⟨λfr' s Q' hq=>Zu (x.run fr' s _ _ (hf.run fr' _ _ (y.run fr' s _ _ (d.run fr' _ _ (DM i.K ok yc hz (hq _ _ .next (b.run _ s)))))))⟩
theorem Oc {n:Nm} {C:ax} {fs:SF} {a:Str} (hn:h n=aa (.inst C fs)) (hf:autoParam (fs.lookup a=aa v) dI) (ok:autoParam ((qj C a && lG v)=ab) bn):OV i h [.ref n] (mF λx=>mT x a ab) v h:=by
 rw[bR] at ok;exact⟨λfr' Q X hq=>Ft i.K ok.1 hn hf ok.2 hq⟩
theorem rE {P:QV} {pos:Pos} (a:EP i fr h e P) (b:∀v ag,P v ag→SS i fr ag (rest::k) Q) (ok:autoParam (iq e=ab) bn):SS i fr h ((.Expr e pos::rest)::k) Q:=
 fM ⟨λfr' s Q' hq=>NY (λae=>Is ok) (a.run fr' s _ _ λv ag hp=>hq _ _ .next ((b v ag hp).run _ s))⟩
theorem fF {pos:Pos} (a:EP i fr h e (is v ag)) (b:SS i fr ag (rest::k) Q) (ok:autoParam (iq e=ab) bn):SS i fr h ((.Expr e pos::rest)::k) Q:=
 rE a (λ_ _ q=>by refine xA q λcP bu=>?_;clear q;subst cP;subst bu;exact b) ok
theorem τ {pos:Pos} (b:SS i fr h (rest::k) Q):SS i fr h ((.Pass pos::rest)::k) Q:=fM ⟨λfr' s Q' hq=>ab4 (hq _ _ .next (b.run _ s))⟩
theorem Ad {pos:Pos} (b:Q .brk fr h):SS i fr h ((.Break pos::rest)::k) Q:=fM ⟨λfr' s Q' hq=>brk (hq _ _ .brk ⟨fr,s,b⟩)⟩
theorem G7 {pos:Pos} (b:Q .cont fr h):SS i fr h ((.Continue pos::rest)::k) Q:=fM ⟨λfr' s Q' hq=>cont (hq _ _ .cont ⟨fr,s,b⟩)⟩
theorem gv {pos:Pos} (a:EV i fr h e v ag) (b:Q (.ret v) fr ag):SS i fr h ((.Return (aa e) pos::rest)::k) Q:=fM ⟨λfr' s Q' hq=>ret (a.run fr' s _ _ (hq _ _ (.ret v) ⟨fr,s,b⟩))⟩
theorem YN {P:QV} {pos:Pos} (a:EP i fr h e P) (b:∀v ag,P v ag→Q (.ret v) fr ag):SS i fr h ((.Return (aa e) pos::rest)::k) Q:=fM ⟨λfr' s Q' hq=>ret (a.run fr' s _ _ λv ag hp=>hq _ _ (.ret v) ⟨fr,s,b v ag hp⟩)⟩
theorem cR {t:Expr} {body eX:List bI} {pos:Pos} (a:EB i fr h t ab ag) (b:SS i fr ag (body::rest::k) Q):SS i fr h ((.If t body eX pos::rest)::k) Q:=
 fM ⟨λfr' s Q' hq=>Eb (a.run fr' s _ _ (by rw[aO rfl];exact iY.imp (b.run _ s) (λf bA ag q=>hq _ _ f q) λ_ _ _ q=>q))⟩
theorem cf {t:Expr} {body eX:List bI} {pos:Pos} (a:EB i fr h t an ag) (b:SS i fr ag (eX::rest::k) Q):SS i fr h ((.If t body eX pos::rest)::k) Q:=
 fM ⟨λfr' s Q' hq=>Eb (a.run fr' s _ _ (by rw[aK iB];exact iY.imp (b.run _ s) (λf bA ag q=>hq _ _ f q) λ_ _ _ q=>q))⟩
theorem GZ {t:Expr} {body eX:List bI} {pos:Pos} {c:Bool} (a:EB i fr h t c ag) (b:c=ab→SS i fr ag (body::rest::k) Q) (d:c=an→SS i fr ag (eX::rest::k) Q):SS i fr h ((.If t body eX pos::rest)::k) Q:=by
 cases c with
 |true=>exact cR a (b rfl)
 |false=>exact cf a (d rfl)
noncomputable def LQ (i:FI) {σ:Type} (fi:σ→SF) (hi:σ→SH) (J:σ→Prop) (k:List (List bI)) (Q:QS):QS:=λf fr h=>match f with
 |.next=>∃s,J s∧(fi s).sub fr∧hi s=h
 |.cont=>∃s,J s∧(fi s).sub fr∧hi s=h
 |.brk=>SS i fr h k Q
 |.ret v=>Q (.ret v) fr h
variable{σ:Type} {fi:σ→SF} {hi:σ→SH} {J:σ→Prop}
theorem LQ.next (s:σ) (hJ:J s) (sb:(fi s).sub fr) (eh:autoParam (hi s=h) dI):LQ i fi hi J k Q .next fr h:=⟨s,hJ,sb,eh⟩
theorem LQ.cont (s:σ) (hJ:J s) (sb:(fi s).sub fr) (eh:autoParam (hi s=h) dI):LQ i fi hi J k Q .cont fr h:=⟨s,hJ,sb,eh⟩
theorem LQ.out {i:FI} {σ:Type} {fi:σ→SF} {hi:σ→SH} {J:σ→Prop} {rest:List bI} {k:List (List bI)} {Q Q':QS} {K:SF→SH→Prop} (hK:∀s fr h,J s→(fi s).sub fr→hi s=h→K fr h)
  (hq:∀f bA ag,j7 i (up Q) (rest::k) f bA ag→Q' f bA ag) {f:tX} {fr:SF} {h:SH} (q:up (LQ i fi hi J (rest::k) Q) f fr h):
  match (generalizing:=false) f with
   |.next=>K fr h
   |.cont=>K fr h
   |.brk=>Q' .next fr h
   |.ret v=>Q' (.ret v) fr h:=by
 refine aj q λd_ s q=>?_
 cases f with
 |next=>refine bM q λt a b c=>?_;clear q;exact hK t fr h a (b.trans s) c
 |cont=>refine bM q λt a b c=>?_;clear q;exact hK t fr h a (b.trans s) c
 |brk=>exact hq _ _ _ (q.run _ s)
 |ret v=>exact hq _ _ _ ⟨d_,s,q⟩
theorem rR {σ:Type} (fi:σ→SF) (hi:σ→SH) (J:σ→Nat→Prop) (dG:σ) (xj:Nat) {t:Expr} {body eX:List bI} {pos:Pos} (h0:J dG xj) (sb:(fi dG).sub fr)
  (turn:∀s m,J s m→∃c h',EB i (fi s) (hi s) t c h'∧(c=an→SS i (fi s) h' (eX::rest::k) Q)∧(c=ab→SS i (fi s) h' [body] (LQ i fi hi (λs'=>∃m',m'<m∧J s' m') (rest::k) Q))) (eh:autoParam (hi dG=h) dI):
  SS i fr h ((.While t body eX pos::rest)::k) Q:=
 fM ⟨λfr' s Q' hq=>Vs (λm fr h=>∃t,J t m∧(fi t).sub fr∧hi t=h) xj ⟨dG,h0,sb.trans s,eh⟩ λm bA ag q=>bM q λt a b c=>by
  subst c;refine bC (turn t m a) λc h' x y z=>?_;refine x.run bA b _ _ ?_
  cases c with
  |false=>exact iY.imp ((y rfl).run bA b) (λf et aC q=>hq _ _ f q) λ_ _ _ q=>q
  |true=>exact iY.imp ((z rfl).run bA b) (λf et aC q=>LQ.out (K:=λfr h=>∃k,k<m∧∃t,J t k∧(fi t).sub fr∧hi t=h) (λs fr h q c d=>aj q λm' a b=>⟨m',a,s,b,c,d⟩) (λf fr h q=>hq fr h f q) q) λ_ _ _ q=>q⟩
def TR (i:FI) (fr:SF) (h:SH) (t:Expr) (v:SV) (body:List bI) (Q:QS):Prop:=∃bA,AT i fr h t v bA h∧SS i bA h [body] Q
theorem lU {x:Str} {q:Pos} (ok:autoParam (i.l.contains x=ab) bn):AT i fr h (.Name x q) v (fr.put x v) h:=⟨λfr' s Q X hq=>oT i.V (hq _ (s.put _ _)) ok⟩
theorem at2 {x y:Str} {q q' zi:Pos} {n:Nat} (ok:autoParam ((i.l.contains x && i.l.contains y)=ab) bn):AT i fr h (.Tuple [.Name x q,.Name y q'] n zi) (.tup [v,w]) ((fr.put x v).put y w) h:=by
 rw[bR] at ok;exact⟨λfr' s Q X hq=>GK i.q (λ_=>rfl) rfl (oT i.V (oT i.V (hq _ ((s.put _ _).put _ _)) ok.2) ok.1)⟩
theorem dV {x:Str} {q:Pos} {body:List bI} (b:SS i (fr.put x v) h [body] Q) (ok:autoParam (i.l.contains x=ab) bn):TR i fr h (.Name x q) v body Q:=⟨_,lU ok,b⟩
theorem Hg {x y:Str} {q q' zi:Pos} {n:Nat} {body:List bI} (b:SS i ((fr.put x v).put y w) h [body] Q) (ok:autoParam ((i.l.contains x && i.l.contains y)=ab) bn):TR i fr h (.Tuple [.Name x q,.Name y q'] n zi) (.tup [v,w]) body Q:=⟨_,at2 ok,b⟩
def rf (e:Expr):Prop:=∀(ae:Env) (x:Value),wT e ae x=pure x
theorem Q6 {j m n:Nat} (y:j+m=n) (hj:j<n):m-1<m∧j+1+(m-1)=n:=have h:0<m:=nU λz=>dp hj (z▸y:j+0=n);⟨rY h oX,(aes ..).trans ((ay (j+·) ((rZ ..).trans (qG h))).trans y)⟩
theorem A9 {σ:Type} (fi:σ→SF) (hi:σ→SH) (J:σ→Nat→Nat→Prop) (dG:σ) (xj:Nat) {t iter:Expr} {body eX:List bI} {pos:Pos} {kk:dB} (a:EI i fr h iter kk ag) (h0:J dG 0 xj) (sb:(fi dG).sub fr)
  (turn:∀s j m,J s j m→∃o,jo kk j (hi s)=aa o∧(o=af→SS i (fi s) (hi s) (eX::rest::k) Q)∧∀v,o=aa v→TR i (fi s) (hi s) t v body (LQ i fi hi (λs'=>∃m',m'<m∧J s' (j+1) m') (rest::k) Q))
  (ok:autoParam (rf iter) jn) (pK:mC kk t:=by first|exact .tup|exact .name rfl) (eh:autoParam (hi dG=ag) dI):SS i fr h ((.For t iter body eX pos::rest)::k) Q:=by
 exact fM ⟨λfr' s Q' hq=>ad4 i.q ok (a.run fr' s _ _ ⟨pK,λm j fr h=>∃t,J t j m∧(fi t).sub fr∧hi t=h,⟨xj,dG,h0,sb.trans s,eh⟩,λm j bA ag q=>bM q λt a b c=>by
  subst c;refine bM (turn t j m a) λo e y z=>?_;rw[e]
  cases o with
  |none=>exact iY.imp ((y rfl).run bA b) (λf et aC q=>hq _ _ f q) λ_ _ _ q=>q
  |some v=>
   refine aj (z v rfl) λet x z=>?_;exact x.run bA b _ _ λj8 ef=>iY.imp (z.run j8 ef) (λf et aC q=>LQ.out (K:=λfr h=>∃k,k<m∧∃t,J t (j+1) k∧(fi t).sub fr∧hi t=h) (λs fr h q c d=>aj q λm' a b=>⟨m',a,s,b,c,d⟩) (λf fr h q=>hq fr h f q) q) λ_ _ _ q=>q⟩)⟩
theorem eo {σ:Type} (fi:σ→SF) (hi:σ→SH) (J:σ→Nat→Prop) (dG:σ) (items:List SV) {t iter:Expr} {body eX:List bI} {pos:Pos} {kk:dB} (a:EI i fr h iter kk ag) (h0:J dG 0) (sb:(fi dG).sub fr) (hit:∀s j,J s j→jo kk j (hi s)=aa items[j]?)
  (turn:∀s j v,J s j→items[j]? =aa v→TR i (fi s) (hi s) t v body (LQ i fi hi (λs'=>J s' (j+1)) (rest::k) Q))
  (fin:∀s,J s items.length→SS i (fi s) (hi s) (eX::rest::k) Q)
  (ok:autoParam (rf iter) jn) (pK:mC kk t:=by first|exact .tup|exact .name rfl) (eh:autoParam (hi dG=ag) dI):SS i fr h ((.For t iter body eX pos::rest)::k) Q:=by
 refine A9 fi hi (λs j m=>J s j∧j+m=items.length) dG items.length a ⟨h0,mP _⟩ sb (λs j m q=>⟨_,hit s j q.1,λe=>fin s ((qD (q.2▸b7 _ _) (ke.mp e):j=items.length)▸q.1),λv e=>aj (turn s j v q.1 e) λbA b c=>⟨bA,b,⟨λfr' s=>?_⟩⟩⟩) ok pK eh;have f:=Q6 q.2 (cU.mp e).1;refine iY.imp (c.run fr' s) (λf' et aC q=>aj q λd_ bz q=>⟨d_,bz,?_⟩) λ_ _ _ q=>q
 cases f' with
 |next=>exact aj q λs a b=>⟨s,⟨m-1,f.1,a,f.2⟩,b⟩
 |cont=>exact aj q λs a b=>⟨s,⟨m-1,f.1,a,f.2⟩,b⟩
 |brk=>exact q
 |ret v=>exact q
theorem ei {kk:dB} (a:EV i fr h e v ag) (b:rC ag v kk):EI i fr h e kk ag:=⟨λfr' s Q X hq=>ac8 (a.run fr' s _ _ (aT kk b hq))⟩
theorem d7 {n:Nm} {vs:List SV} (a:EV i fr h e (.ref n) ag) (hn:ag n=aa (.list vs)):EI i fr h e (.list n) ag:=ei a (.lst hn)
theorem N0 {vs:List SV} (a:EV i fr h e (.tup vs) ag):EI i fr h e (.tup vs) ag:=ei a .tup
theorem uI {n:Nm} {es:List (SV×SV)} (a:EV i fr h e (.ref n) ag) (hn:ag n=aa (.dict es)) (ok:oK es=ab):EI i fr h e (.keys n es.length) ag:=ei a (.dct hn ok)
theorem tq {n:Nat} (a:EV i fr h e (.range 0 n) ag) (hn:n<2^40):EI i fr h e (.range 0 n) ag:=ei a (.rng hn)
theorem Ja {x:Expr} {q pos:Pos} {kk:dB} (hg:ji i.G "enumerate" (.ty "enumerate")) (a:EV i fr h x v ag) (b:zX i.G ag [v] kk) (ok:autoParam ((i.gs.contains "enumerate" && iJ x)=ab) bn):EI i fr h (.Call (.Name "enumerate" q) [x] [] pos) kk ag:=by
 rw[bR] at ok;exact⟨λfr' s Q X hq=>UH (MT _ _ _ _) (w8 (by rw[Ds,ok.2];rfl) _) ((g_ (h:=h) hg ok.1).run fr' s _ _ ⟨rfl,tA (a.run fr' s _ _ (tC (aT kk b hq))) ok.2⟩)⟩
theorem d6 {n:Nm} {vs:List SV} {j:Nat} (hn:h n=aa (.list vs)):jo (.list n) j h=aa vs[j]? :=ay (yV · λvs=>vs[j]?) hn
theorem uM {n:Nm} {es:List (SV×SV)} {j:Nat} (hn:h n=aa (.dict es)) (ok:oK es=ab):jo (.keys n es.length) j h=aa ((es.map (·.1))[j]?):=(ay (D4 · λes'=>if es'.length=es.length∧oK es'=ab then aa (es'[j]?.map (@mR SV SV)) else af) hn).trans ((aO ⟨rfl,ok⟩).trans (ay aa dq.symm))
noncomputable def bE (a:ax):FD:=⟨cg a,iT (cg a),ab⟩
noncomputable def FI.fn (i:FI) (b:Nat) (a:ax) (l gs:List Str) (V:ck (bE a) l=ab) (W:cW (bE a) gs=ab):FI:=⟨i.G,b,i.K,bE a,l,gs,V,W,rfl⟩
theorem enter {a:ax} {n b:Nat} {ps l gs:List Str} {ez vs:List SV} {P:QV} (H:dZ i.G a n ps ez (bc a) (cg a)) (V:ck (bE a) l=ab) (W:cW (bE a) gs=ab) (hb:i.b=b+1) (hk:vs.length=n)
  (w:SS (i.fn b a l gs V W) (ps.zip (vs++ez)) h [bc a] (λf _ h'=>P f.val h')):FP i h (.glob a) vs P:=⟨λF fr' hF Q' hq=>by
 rw[hb];refine Q_ H hk ?_;rw[hF];exact iY.imp (w.run _ .rfl) (λf bA ag q=>by refine aj q λd_ s q=>?_;exact hq _ _ q) λ_ _ _ q=>q⟩
noncomputable def FI.dn (i:FI) (b:Nat):FI:={i with b:=b}
theorem cls {C fI:ax} {n:Nm} {b:Nat} {vs:List SV} {P:QV} (ok:Ge.contains (C,fI)=ab) (hb:i.b=b+1) (hn:h n=af) (w:FP (i.dn b) (h.set n (.inst C [])) (.glob fI) (.ref n::vs) (λv h'=>v=.none∧P (.ref n) h')):FP i h (.glob C) vs P:=⟨λF fr' hF Q' hq=>by
 rw[hb];exact EN (q9 i.K.c.ini ok) λh1 h2 h3=>call_cls (fI:=fI) h1 h2 h3 hn (w.run F fr' hF _ λv h q=>⟨q.1,hq _ _ q.2⟩)⟩
theorem iL {n:Nm} {C f:ax} {fs:SF} {name:Str} (hn:h n=aa (.inst C fs)) (ok:Gi.contains (C,name,f)=ab) (hl:autoParam (fs.lookup name=af) dI):MV i h (.ref n) name (.glob f):=⟨λfr'=>EN (q9 i.K.c.Xj ok) λh1 h2 h3=>adi hn h1 h2 h3 hl⟩
theorem FO {n:Nm} {fs:SF} (hn:h n=aa (.inst 135 fs)):TV i h (.ref n) ab:=⟨λfr' Q X hq=>ab1 hn (gh i.K.c.LI).1 (gh i.K.c.LI).2 hq⟩
theorem X2 {n:Nm} {fs:SF} {b k:Nat} (hb:i.b=b+1) (hn:h n=aa (.inst 100 fs)) (hk:k<2^62) (w:FP (i.dn b) h (.glob 83) [.ref n] (is (.int k) h)):CP i h (.bi "len") [.ref n] (is (.int k) h):=⟨λfr' Q' X hq=>by
 rw[hb];exact abt hn (gh i.K.c.plen).1 (gh i.K.c.plen).2 (w.run i.F fr' i.q _ λv h' q=>xA q λe e'=>e▸e'▸⟨k,rfl,hk,hq _ _ ⟨rfl,rfl⟩⟩)⟩
theorem My {n m:Nm} {vs:List SV} {p pos:Pos} (a:EV i fr h e (.ref n) ag) (hn:ag n=aa (.list vs)) (hz:vs.length≤aZ) (hm:ag m=af):EV i fr h (.Subscript e (.Slice af af af p) pos) (.ref m) (ag.set m (.list vs)):=
 ⟨λfr' s Q X hq=>xJ (a.run fr' s _ _ (ye (ye (.inr (nQ vs (.own hn) hz m hm (by rw[YP _];exact hq))))))⟩
theorem ZG {n m:Nm} {vs:List SV} {lo:Expr} {j:Int} {p pos:Pos} (a:EV i fr h e (.ref n) ag) (b:EV i fr ag lo (.int j) aC) (hn:aC n=aa (.list vs)) (hz:vs.length≤aZ) (hm:aC m=af):EV i fr h (.Subscript e (.Slice (aa lo) af af p) pos) (.ref m) (aC.set m (.list (fg vs (aa j) af))):=
 ⟨λfr' s Q X hq=>xJ (a.run fr' s _ _ (xM (b.run fr' s _ _ (aT j rfl (ye (.inr (nQ vs (.own hn) hz m hm hq)))))))⟩
theorem Wg {vs:List SV} {lo:Expr} {j:Int} {p pos:Pos} (a:EV i fr h e (.tup vs) ag) (b:EV i fr ag lo (.int j) aC) (hz:vs.length≤aZ):EV i fr h (.Subscript e (.Slice (aa lo) af af p) pos) (.tup (fg vs (aa j) af)) aC:=
 ⟨λfr' s Q X hq=>xJ (a.run fr' s _ _ (xM (b.run fr' s _ _ (aT j rfl (ye (.inl (cL vs rfl hz hq)))))))⟩
theorem adm {vs:List SV} {lo hi:Expr} {j k:Int} {p pos:Pos} (a:EV i fr h e (.tup vs) ag) (b:EV i fr ag lo (.int j) aC) (c:EV i fr aC hi (.int k) cM) (hz:vs.length≤aZ):EV i fr h (.Subscript e (.Slice (aa lo) (aa hi) af p) pos) (.tup (fg vs (aa j) (aa k))) cM:=
 ⟨λfr' s Q X hq=>xJ (a.run fr' s _ _ (xM (b.run fr' s _ _ (aT j rfl (xM (c.run fr' s _ _ (aT k rfl (.inl (cL vs rfl hz hq)))))))))⟩
theorem NX {n m:Nm} {vs:List SV} {hi:Expr} {j:Int} {p pos:Pos} (hl:dc i.G aC u vs) (a:EV i fr h e u ag) (b:EV i fr ag hi (.int j) aC) (hz:vs.length≤aZ) (hm:aC m=af):EV i fr h (.Subscript e (.Slice af (aa hi) af p) pos) (.ref m) (aC.set m (.list (fg vs af (aa j)))):=
 ⟨λfr' s Q X hq=>xJ (a.run fr' s _ _ (ye (xM (b.run fr' s _ _ (aT j rfl (.inr (nQ vs hl hz m hm hq)))))))⟩
noncomputable def FI.comp (i:FI) (sc:cu) (l gs:List Str) (V:ck (da sc i.F) l=ab) (W:cW (da sc i.F) gs=ab):FI:=⟨i.G,i.b,i.K,da sc i.F,l,gs,V,W,i.q⟩
theorem VV {sc:cu} {fr:SF} {y:Str} {v:SV} (h1:sc.names.lookup y=aa .free) (h2:fr.lookup y=aa v):(g6 sc fr).lookup y=aa v:=by
 induction fr with
 |nil=>exact a8 h2
 |cons p r ih=>
  rw[show g6 sc (p::r)=if(sc.names.lookup p.1==aa .free)=ab then p::g6 sc r else g6 sc r from HJ];exact if e:y=p.1 then nE (P:=λl:SF=>l.lookup y=aa v) (eW.mpr ((ay (sc.names.lookup ·) e).symm.trans h1)) ((jg e).trans ((jg e).symm.trans h2))
   else have q:=ih ((gT e).symm.trans h2);CH (P:=λl:SF=>l.lookup y=aa v) (λ_=>(gT e).trans q) λ_=>q
theorem KO {sc:cu} {fr fr':SF} (s:fr.sub fr'):(g6 sc fr).sub (g6 sc fr'):=λy v h=>have q:=E6 h;VV q.1 (s y v q.2)
structure AC (i:FI) (fr:SF) (h:SH) (ifs:List Expr) (t:Bool) (h':SH):Prop where
 run:∀fr',fr.sub fr'→∀Q:Bool→SH→Prop,Q t h'→Fh i.G i.F i.b fr' h ifs Q
theorem LW:AC i fr h [] ab h:=⟨λ_ _ Q q=>q⟩
theorem Bf {t:Bool} (a:EB i fr h e t h'):AC i fr h [e] t h':=⟨λfr' s Q q=>a.run fr' s _ _ q⟩
def EF (i:FI) (fr:SF) (h:SH) (ifs:List Expr) (t:Bool):Prop:=AC i fr h ifs t h
theorem yq:EF i fr h [] ab:=LW
theorem Fa {t:Bool} (a:EB i fr h e t h):EF i fr h [e] t:=Bf a
structure CL (i:FI) (fr:SF) (h:SH) (elt:Expr) (gens:List dT) (sc:cu) (pos:Pos) (acc:Nm) (d:Nat) (kk:dB) (Q:SH→Prop):Prop where
 run:∀fr',fr.sub fr'→∀Q':QF,(∀bA h,fr.sub bA→Q h→Q' bA h)→Aq i.G i.F i.b fr' h elt gens sc pos acc d kk 0 Q'
structure CB (i:FI) (fr:SF) (h:SH) (elt:Expr) (gens:List dT) (sc:cu) (pos:Pos) (acc:Nm) (d:Nat) (Q:SH→Prop):Prop where
 run:∀fr',fr.sub fr'→∀Q':QF,(∀bA h,fr.sub bA→Q h→Q' bA h)→zb i.G i.F i.b fr' h elt gens sc pos acc d Q'
theorem yW {elt:Expr} {g:dT} {gs:List dT} {sc:cu} {pos:Pos} {kk:dB} {acc:Nm} {l ls:List Str} {P:SH→Prop} (V:ck (da sc i.F) l=ab) (W:cW (da sc i.F) ls=ab) (ok:(py sc i.F && lR (g::gs))=ab) (a:EI i fr h g.iter kk ag) (ha:ag acc=af)
  (b:CL (i.comp sc l ls V W) (g6 sc fr) (ag.set acc (.list [])) elt (g::gs) sc pos acc 0 kk P) (on:autoParam (rf g.iter) jn):EP i fr h (.ListComp elt (g::gs) sc pos) (λv h'=>v=.ref acc∧P h'):=
 have q:=(bR _ _).mp ok
 ⟨λfr' s Q X hq=>JM q.2 q.1 on (a.run fr' s _ _ (aT acc ha (b.run _ (KO s) _ λbA aC _ p=>hq _ _ ⟨rfl,p⟩)))⟩
theorem vb {x:Str} {q gI:Pos} {elt:Expr} {g:dT} {gs:List dT} {sc:cu} {pos:Pos} {kk:dB} {acc:Nm} {l ls:List Str} {P:SH→Prop} (V:ck (da sc i.F) l=ab) (W:cW (da sc i.F) ls=ab) (ok:(py sc i.F && lR (g::gs))=ab) (a:EI i fr h g.iter kk ag) (ha:ag acc=af)
  (b:CL (i.comp sc l ls V W) (g6 sc fr) (ag.set acc (.list [])) elt (g::gs) sc pos acc 0 kk P) (c:∀aC,P aC→SS i (fr.put x (.ref acc)) aC (rest::k) Q) (Ws:autoParam (i.l.contains x=ab) bn) (on:autoParam (rf g.iter) jn):SS i fr h ((.Assign [.Name x q] (.ListComp elt (g::gs) sc pos) gI::rest)::k) Q:=
 have q:=(bR _ _).mp ok
 fM ⟨λfr' s Q' hq=>Zn q.2 q.1 on (ck.v i.V Ws).2.1 (a.run fr' s _ _ (aT acc ha (b.run _ (KO s) _ λbA aC _ p=>hq _ _ .next ((c aC p).run _ (s.put _ _)))))⟩
theorem pJ {elt:Expr} {gens:List dT} {sc:cu} {pos:Pos} {acc:Nm} {d:Nat} {P:QV} {P':SH→Prop} (a:EP i fr h elt P) (b:∀v ag,P v ag→∃vs,ag acc=aa (.list vs)∧vs.length≤aZ∧P' (ag.set acc (.list (vs++[v])))) (hd:autoParam (gens[d+1]? =af) dI):CB i fr h elt gens sc pos acc d P':=
 ⟨λfr' s Q hq=>RK hd (a.run fr' s _ _ λv ag p=>by refine bM (b v ag p) λvs x y z=>?_;exact(cL vs x y (hq _ _ s z)))⟩
theorem KV {elt:Expr} {g:dT} {gens:List dT} {sc:cu} {pos:Pos} {acc:Nm} {d:Nat} {P':SH→Prop} {kk:dB} (a:EI i fr h g.iter kk ag) (b:CL i fr ag elt gens sc pos acc (d+1) kk P') (hd:autoParam (gens[d+1]? =aa g) dI) (ok:autoParam (lR gens=ab) bn) (on:autoParam (rf g.iter) jn):CB i fr h elt gens sc pos acc d P':=
 ⟨λfr' s Q hq=>ab0 hd ok on (a.run fr' s _ _ (b.run fr' s _ hq))⟩
theorem Ab {σ:Type} {elt:Expr} {g:dT} {gens:List dT} {sc:cu} {pos:Pos} {acc:Nm} {d:Nat} {kk:dB} {P:SH→Prop} (hi:σ→SH) (J:σ→Nat→Prop) (dG:σ) (n:Nat) (h0:J dG 0)
  (turn:∀s j,J s j→∃o,jo kk j (hi s)=aa o∧(o=af→P (hi s))∧∀v,o=aa v→j<n∧∃bA t h',AT i fr (hi s) g.target v bA (hi s)∧fr.sub bA∧AC i bA (hi s) g.ifs t h'∧(t=an→∃s',J s' (j+1)∧hi s'=h')∧(t=ab→CB i bA h' elt gens sc pos acc d (λh'=>∃s',J s' (j+1)∧hi s'=h')))
  (hd:autoParam (gens[d]? =aa g) dI) (ok:autoParam (lR gens=ab) bn) (eh:autoParam (hi dG=h) dI) (pK:mC kk g.target:=by first|exact .tup|exact .name rfl):CL i fr h elt gens sc pos acc d kk P:=by
 refine⟨λfr' s Q hq=>YO hd ok i.q pK (λm j bA h=>m=n-j∧fr.sub bA∧∃t,J t j∧hi t=h) n ⟨rfl,s,dG,h0,eh⟩ λm j bA ag q=>WF q λzm a5 t a zh=>?_⟩;subst zm;subst zh;refine bM (turn t j a) λo e x y=>?_;rw[e]
 cases o with
 |none=>exact hq _ _ a5 (x rfl)
 |some v=>
  have z:=y v rfl;have lt:=ahk z.1 (dm j);refine z.2.elim λet z=>z.elim λc z=>z.elim λh' z=>z.1.run bA a5 _ _ λj8 ef=>z.2.2.1.run j8 ef _ ?_
  cases c with
  |false=>exact⟨n- (j+1),lt,rfl,z.2.1.trans ef,z.2.2.2.1 rfl⟩
  |true=>exact(z.2.2.2.2 rfl).run j8 ef _ λx9 j1 nr q=>⟨n- (j+1),lt,rfl,z.2.1.trans nr,q⟩
theorem rS {σ:Type} {elt:Expr} {g:dT} {gens:List dT} {sc:cu} {pos:Pos} {acc:Nm} {d:Nat} {kk:dB} {P:SH→Prop} (hi:σ→SH) (J:σ→Nat→Prop) (dG:σ) (n:Nat) (h0:J dG 0) (hJ:∀s j,J s j→j≤n)
  (turn:∀s j,J s j→∃o,jo kk j (hi s)=aa o∧(o=af→P (hi s))∧∀v,o=aa v→j<n∧∃bA t,AT i fr (hi s) g.target v bA (hi s)∧fr.sub bA∧EF i bA (hi s) g.ifs t∧(t=an→∃s',J s' (j+1)∧hi s'=hi s)∧(t=ab→CB i bA (hi s) elt gens sc pos acc d (λh'=>∃s',J s' (j+1)∧hi s'=h')))
  (hd:autoParam (gens[d]? =aa g) dI) (ok:autoParam (lR gens=ab) bn) (eh:autoParam (hi dG=h) dI) (pK:mC kk g.target:=by first|exact .tup|exact .name rfl):CL i fr h elt gens sc pos acc d kk P:=
 Ab hi J dG n h0 (λs j a=>bM (turn s j a) λo e x y=>⟨o,e,x,λv w=>have z:=y v w;⟨z.1,z.2.elim λbA z=>z.elim λt z=>⟨bA,t,_,z⟩⟩⟩) hd ok eh pK
theorem gM {x:Str} {v:SV} (hx:fr.lookup x=af):fr.sub (fr.put x v):=λy u e=>(gi fr x v y).trans ((aK λz=>a8 (hx.symm.trans (z▸e))).trans e)
theorem Es {elt iter t:Expr} {sc:cu} {pos:Pos} {kk:dB} {acc:Nm} {vs us:List SV} (pK:mC kk t) (hit:∀(ws:List SV) (j:Nat),jo kk j (ag.set acc (.list ws))=aa vs[j]?) (hl:us.length=vs.length) (hz:vs.length≤aZ)
  (b:∀(ws:List SV) (j:Nat) (v u:SV),vs[j]? =aa v→us[j]? =aa u→∃bA,AT i fr (ag.set acc (.list ws)) t v bA (ag.set acc (.list ws))∧fr.sub bA∧EV i bA (ag.set acc (.list ws)) elt u (ag.set acc (.list ws))):
  CL i fr (ag.set acc (.list [])) elt [⟨t,iter,[],0⟩] sc pos acc 0 kk (λh'=>h'=ag.set acc (.list us)):=
 rS (λj=>ag.set acc (.list (us.take j))) (λs j=>s=j∧j≤vs.length) 0 vs.length ⟨rfl,cb _⟩ (λ_ _ e=>e.2) (λs j e=>xA e λz hj=>by
  subst z;exact⟨_,hit _ _,λe=>ay (λl=>ag.set acc (.list l)) (mX (ah (bH hl) (ke.mp e))),λv e=>
   have hlt:=(cU.mp e).1;have hu:us[s]? =aa (us[s]'(hl.symm▸hlt)):=fb _
   bM (b _ s v _ e hu) λbA at' sb ev=>⟨hlt,bA,ab,at',sb,yq,λe=>iQ e,λ_=>pJ ev.ep λv' h' q=>q.1.symm▸q.2.symm▸⟨_,aR,ah (ah (bH jE) (pi _ _)) (ah (bH hl) hz),s+1,⟨rfl,hlt⟩,
    (ay (λl=>ag.set acc (.list l)) (jK.trans (ay (λo:Option SV=>us.take s++o.toList) hu))).trans iD.symm⟩⟩⟩) rfl rfl rfl pK
structure Ok1 (c o e:Bool):Prop where
 c:c=ab
 o:o=ab
 e:e=ab
theorem F8 {c o e:Bool} (ok:(c && o && e)=ab):Ok1 c o e:=have q:=(bR _ _).mp ok;have p:=(bR _ _).mp q.1;⟨p.1,p.2,q.2⟩
theorem vk {c:Bool} (hc:c=ab):(c && ab)=ab:=(bR _ _).mpr ⟨hc,rfl⟩
theorem Bd {elt iter:Expr} {x:Str} {q:Pos} {sc:cu} {pos:Pos} {kk:dB} {acc:Nm} {l ls:List Str} {vs us:List SV} (V:ck (da sc i.F) l=ab) (W:cW (da sc i.F) ls=ab) (ok:(py sc i.F && l.contains x && !DX kk)=ab) (a:EI i fr h iter kk ag) (ha:ag acc=af)
  (hit:∀(ws:List SV) (j:Nat),jo kk j (ag.set acc (.list ws))=aa vs[j]?) (hl:us.length=vs.length) (hz:vs.length≤aZ) (hx:(g6 sc fr).lookup x=af)
  (b:∀(ws:List SV) (j:Nat) (v u:SV),vs[j]? =aa v→us[j]? =aa u→EV (i.comp sc l ls V W) ((g6 sc fr).put x v) (ag.set acc (.list ws)) elt u (ag.set acc (.list ws))) (on:autoParam (rf iter) jn):EV i fr h (.ListComp elt [⟨.Name x q,iter,[],0⟩] sc pos) (.ref acc) (ag.set acc (.list us)):=
 have o:=F8 ok
 EP.ev (yW V W (vk o.c) a ha (Es (.name ((jI _).mp o.e)) hit hl hz λws j v u e hu=>⟨_,lU o.o,gM hx,b ws j v u e hu⟩) on)
theorem CI {vs:List SV} (hl:dc i.G h u vs) (hz:vs.length≤aZ):CP i h (.ty "tuple") [u] (is (.tup vs) h):=⟨λfr' Q X hq=>R_ hl hz (hq _ _ ⟨rfl,rfl⟩)⟩
abbrev bp:=List (Str×List Str)
abbrev aF:=Nat×Nat
noncomputable def aG (R:bp) (i:Nat):List Str:=(R[i]?.map (·.2)).getD []
noncomputable def bF (R:bp) (i:Nat):Str:=(R[i]?.map (·.1)).getD ""
noncomputable def dN (R:bp) (q:aF):List Nat:=match (aG R q.1)[q.2]? with
 |none=>[]
 |some s=>(bq R.length).filter λj=>decide (j≠0) && decide (bF R j=s)
noncomputable def kV (J:List aF) (ad:List Nat):List Nat→List aF×List Nat
 |[]=>(J,ad)
 |x::xs=>if x∈ad then kV J ad xs else kV (J++[(x,0)]) (ad++[x]) xs
inductive eU (R:bp):Nat→List aF→List Nat→List aF→List Nat→Prop
 |done {k:Nat} {J:List aF} {ad:List Nat} (h:J.length≤k):eU R k J ad J ad
 |step {k:Nat} {J J':List aF} {ad bg:List Nat} {q:aF} (h:J[k]? =aa q) (w:eU R (k+1) (kV J ad (dN R q)).1 (kV J ad (dN R q)).2 J' bg):eU R k J ad J' bg
theorem eU.det {R:bp} {k:Nat} {J Nd Jj:List aF} {ad Ka AD:List Nat} (h:eU R k J ad Nd Ka):eU R k J ad Jj AD→Nd=Jj∧Ka=AD:=by
 induction h with
 |done h=>
  intro g
  cases g with
  |done=>exact⟨rfl,rfl⟩
  |step e _=>rw[lY h] at e;exact a8 e
 |step e _ ih=>
  intro g
  cases g with
  |done h=>rw[lY h] at e;exact a8 e
  |step e' w=>rw[e] at e';obtain rfl:=aU e';exact ih w
theorem Bb:∀(l:List Nat) (J:List aF) (ad:List Nat),∃x,kV J ad l=(J++x.map (·,0),ad++x)∧(ad.Nodup→(ad++x).Nodup)∧(∀y∈x,y∈l)∧(∀y∈l,y∈ad++x)
 |[],J,ad=>(ik ([]) (by rw[Dx,gO,gO];rfl) (by rw[gO];exact id) (λ_ h=>cS h) (λ_ h=>cS h))
 |y::l,J,ad=>by
  show ∃x,(if y∈ad then kV J ad l else kV (J++[(y,0)]) (ad++[y]) l)=_∧_
  by_cases h:y∈ad
  ·rw[aO h]
   refine g9 (Bb l J ad) λx e h1 h2 h3=>?_;exact(ik x e h1 (λz hz=>eS _ (h2 z hz)) (λz hz=>by
    rcases dA.mp hz with rfl|hz
    ·exact i6 _ h
    ·exact h3 z hz))
  ·rw[aK h]
   refine g9 (Bb l (J++[(y,0)]) (ad++[y])) λx e h1 h2 h3=>?_;refine(ik (y::x) (by rw[e];simp) (λhn=>?_) (λz hz=>?_) (λz hz=>?_))
   ·have:=h1 (by rw[propext k_];exact(cI hn (by simp) (λa ha b hb=>by simp at hb;subst hb;exact λe=>h (e▸ha))))
    simpa using this
   ·rcases dA.mp hz with rfl|hz
    ·exact dv
    ·exact eS _ (h2 z hz)
   ·rcases dA.mp hz with rfl|hz
    ·simp
    ·have:=h3 z hz;simpa using this
theorem Zv {l:List Nat} {J:List aF} {ad:List Nat} (h:∀y∈l,y∈ad):kV J ad l=(J,ad):=by
 induction l with
 |nil=>rfl
 |cons y l ih=>show(if y∈ad then _ else _)=_;rw[aO (h y dv)];exact ih λz hz=>h z (eS _ hz)
structure UE (R:bp) (J:List aF) (ad:List Nat) (J':List aF) (bg:List Nat):Prop where
 ext:∃x,J'=J++x.map (·,0)∧bg=ad++x
 nd:ad.Nodup→bg.Nodup
 src:∀y∈bg,y∈ad∨∃q∈J',y∈dN R q
theorem eU.prop {R:bp} {k:Nat} {J J':List aF} {ad bg:List Nat} (h:eU R k J ad J' bg):UE R J ad J' bg∧∀i q,k≤i→J'[i]? =aa q→∀y∈dN R q,y∈bg:=by
 induction h with
 |done h=>exact⟨⟨(aT ([]) (by simp) (by simp)),id,λy hy=>.inl hy⟩,λi q hi e=>by rw[lY (ah ‹_› ‹_›)] at e;exact a8 e⟩
 |@step k J J' ad bg q e w ih=>
  refine g9 (Bb (dN R q) J ad) λx ex h1 h2 h3=>?_;rw[ex] at ih;obtain⟨⟨⟨z,e1,e2⟩,hn,hs⟩,hc⟩:=ih;have hk:J'[k]? =aa q:=by
   have hlt:=(cU.mp e).1;dsimp only at e1;rw[e1,wL _ _ _,C5 hlt];exact e
  refine⟨⟨(aT (x++z) (by simpa using e1) (by simpa using e2)),λhd=>hn (h1 hd),λy hy=>?_⟩,λi q' hi fS y hy=>?_⟩
  ·rcases hs y hy with hy'|hy'
   ·rcases du.mp hy' with h'|h'
    ·exact .inl h'
    ·exact .inr (aT q (bQ hk) (h2 y h'))
   ·exact .inr hy'
  ·rcases wJ hi with rfl|hlt
   ·rw[hk] at fS;obtain rfl:=aU fS
    rw[e2];exact i6 _ (h3 y hy)
   ·exact hc i q' hlt fS y hy
theorem eU.same {R:bp}:∀{k:Nat} {J:List aF} {ad:List Nat},(∀i q,k≤i→J[i]? =aa q→∀y∈dN R q,y∈ad)→eU R k J ad J ad:=by
 intro k J ad;generalize hn:J.length-k=n
 induction n generalizing k with
 |zero=>exact λ_=>.done (Nat.le_of_sub_eq_zero hn)
 |succ n ih=>
  intro h;have hlt:k<J.length:=Nat.lt_of_sub_eq_succ hn;refine .step (fb hlt) ?_;rw[Zv (h k _ (au _) (fb hlt))];exact ih (by rw[Nat.sub_add_eq _ _ _,hn];rfl) λi q hi=>h i q (cj ‹_›)
noncomputable def gN (k:Nat):Nm:=.mk 99 [k]
noncomputable def zr (N:Nat):Nm→Bool
 |.mk t l=>t==99 && l.head?==aa N
noncomputable def SH.bX (h:SH) (N:Nat) (g:SH):SH:=λx=>if zr N x=ab then g x else h x
def br (h:SH) (N:Nat):Prop:=∀k l,N≤k→h (.mk 99 (k::l))=af
theorem br.at {h:SH} {N:Nat} (B:br h N) {l:List Nat}:h (.mk 99 (N::l))=af:=B N l (au _)
theorem br.same {h h':SH} {N:Nat} (B:br h N) (e:∀k l,N≤k→h' (.mk 99 (k::l))=h (.mk 99 (k::l))):br h' N:=λk l hk=>(e k l hk).trans (B k l hk)
theorem my {M N:Nat} {l l':List Nat} (h:Nm.mk 99 (M::l)=.mk 99 (N::l')):M=N:=by injection h with _ h;injection h
theorem br.new {h:SH} {N:Nat} (B:br h N) (l:List Nat) (o:cy):br (h.set (.mk 99 (N::l)) o) (N+1):=λk l' hk=>by
 rw[aq (λe=>l6 hk (bH (my e)))];exact B k l' (cj ‹_›)
theorem y9 {N:Nat} {x:Nm}:zr N x=ab↔∃l,x=.mk 99 (N::l):=by
 obtain⟨t,l⟩:=x
 cases l with
 |nil=>simp[zr]
 |cons a l=>simp[zr]
theorem K2 {h g:SH} {N M:Nat} {l:List Nat} (e:M≠N):(h.bX N g) (.mk 99 (M::l))=h (.mk 99 (M::l)):=aK λq=>by obtain⟨l',q⟩:=y9.mp q;exact e (my q)
theorem br.bX {h g:SH} {N:Nat} (B:br h N):br (h.bX N g) (N+1):=λk l hk=>(K2 (dF ‹_›)).trans (B k l (cj ‹_›))
theorem Kt {h:SH} {N:Nat}:h.bX N h=h:=funext λx=>ite_self _
theorem adr {h g:SH} {N:Nat} {l:List Nat} {o:cy}:(h.bX N g).set (.mk 99 (N::l)) o=h.bX N (g.set (.mk 99 (N::l)) o):=funext λx=>by
 unfold SH.set SH.bX
 by_cases e:x=.mk 99 (N::l)
 ·rw[aO e,aO (y9.mpr ⟨l,e⟩)];exact(aO e).symm
 ·rw[aK e];exact ay (λz=>if zr N x=ab then z else h x) (aK e).symm
theorem XR {h:SH} {N:Nat} {l:List Nat} {o:cy}:h.set (.mk 99 (N::l)) o=h.bX N (h.set (.mk 99 (N::l)) o):=by rw[←adr,Kt]
noncomputable def bk (q:aF):Nm:=.mk 20 [q.1,q.2]
noncomputable def bh (j:Nat):Nm:=.mk 10 [j]
noncomputable def dg:Nm:=.mk 30 []
noncomputable def ba (q:aF):SV:=.ref (bk q)
noncomputable def bB (j:Nat):SV:=.ref (bh j)
noncomputable def sym (s:Str):Nat:=(["S","A","B","a","b","error","$end","<empty>","c"]:List Str).idxOf s
noncomputable def pO (s:Str):Bool:=(["S","A","B"]:List Str).contains s
noncomputable def vi (R:bp) (q:aF):List Nat:=match (aG R q.1)[q.2]? with
 |some s=>if pO s then [sym s] else [q.1,q.2]
 |none=>[q.1,q.2]
noncomputable def gH (R:bp) (q:aF):Nm:=.mk 40 (vi R q)
noncomputable def iN (R:bp) (q:aF):List Str:=(aG R q.1).take q.2++dL "."::(aG R q.1).drop q.2
noncomputable def vB (R:bp) (q:aF):Str:=if q.2=0 then(iN R q).getLastD "" else((aG R q.1)[q.2-1]?).getD ""
noncomputable def rF (R:bp) (q:aF):SV:=if q.2< (aG R q.1).length then ba (q.1,q.2+1) else .none
noncomputable def dW (R:bp) (q:aF):SF:=[("name",.str (bF R q.1)),("prod",.tup ((iN R q).map .str)),("number",.int q.1),("lr_index",.int q.2),("lookaheads",.ref (.mk 60 [q.1,q.2])),("len",.int ((aG R q.1).length+1:Nat)),("usyms",.ref (.mk 42 [q.1])),
 ("lr_after",.ref (gH R q)),("lr_before",.str (vB R q)),("lr_next",rF R q)]
def cY (R:bp) (q:aF):Prop:=q.1<R.length∧q.2≤(aG R q.1).length
noncomputable def p7 (R:bp) (j:Nat):List Str:=(aG R j).foldl (λu s=>if s∈u then u else u++[s]) []
def uZ (R:bp) (h:SH):Prop:=∀q,cY R q→h (bk q)=aa (.inst 135 (dW R q))∧h (gH R q)=aa (.list ((dN R q).map bB))∧h (.mk 42 [q.1])=aa (.list ((p7 R q.1).map .str))
noncomputable def wz:SV:=.tup [.str "right",.int 0]
noncomputable def Φ (R:bp) (j:Nat):Str:=if aG R j=[] then bF R j++dL " -> <empty>" else bF R j++dL " -> "++zQ (dL " ") (aG R j)
noncomputable def gc (R:bp) (j:Nat):SF:=[("name",.str (bF R j)),("prod",.tup ((aG R j).map .str)),("number",.int j),("func",.none),("callable",.none),("file",.str ""),("line",.int 0),("prec",wz),("len",.int (aG R j).length),("usyms",.ref (.mk 42 [j])),
 ("lr_items",.ref (.mk 43 [j])),("lr_next",ba (j,0)),("str",.str (Φ R j))]
structure gV (c:Int) (x:SF):Prop where
 len:x.length≤(if(x.lookup ("lr0_added":Str)).isSome then 1 else 0)+(if(x.lookup ("reduced":Str)).isSome then 1 else 0)
 add:x.lookup ("lr0_added":Str)=af∨∃k,k≤c∧x.lookup ("lr0_added":Str)=aa (.int k)
 red:x.lookup ("reduced":Str)=af∨∃k,x.lookup ("reduced":Str)=aa (.int k)
def VX (R:bp) (c:Int) (h:SH):Prop:=∀j,j<R.length→∃x,h (bh j)=aa (.inst 100 (gc R j++x))∧gV c x
noncomputable def aX:Nm:=.mk 34 []
noncomputable def nA (c:Int):SF:=[("grammar",.ref aX),("lr_method",.str "SLR"),("lr_action",.ref (.mk 51 [])),("lr_goto",.ref (.mk 52 [])),("lr_productions",.ref (.mk 35 [])),("lr_goto_cache",.ref (.mk 32 [])),("lr0_cidhash",.ref (.mk 33 [])),("_add_count",.int c),("sr_conflict",.int 0),("rr_conflict",.int 0),
 ("conflicts",.ref (.mk 53 [])),("sr_conflicts",.ref (.mk 54 [])),("rr_conflicts",.ref (.mk 55 []))]
structure gY (R:bp) (c:Int) (N:Nat) (h:SH):Prop where
 free:br h N
 it:uZ R h
 pr:VX R c h
 tb:h dg=aa (.inst 427 (nA c))
 hc:0≤c
 hR:R.length≤20
 hr:∀j,(aG R j).length≤10
theorem JT {α:Type} {f:α→Nat} {k:Nat}:∀{l:List α},(∀y∈l,f y≤k)→(l.map f).sum≤l.length*k
 |[],_=>cb _
 |a::r,h=>by
  have:=JT (l:=r) λy hy=>h y (eS _ hy);have:=h a dv;rw[sp,List.sum_cons,iC,QA _ _,rZ _ _];exact fp ‹_› ‹_›
theorem FV (x:Str) (v:SV):∀fs:SF,(fs.put x v).length=fs.length+if(fs.lookup x).isSome then 0 else 1
 |[]=>rfl
 |(y,u)::r=>by
  show(if x=y then(y,v)::r else(y,u)::SF.put r x v:SF).length=_;rw[kX]
  by_cases e:x=y
  ·subst e
   rw[aO rfl,qu _];rfl
  ·rw[aK e,kW.mpr e,iC,iC,FV x v r,ur _ _ _]
theorem gV.small {c:Int} {x:SF} (L:gV c x):x.length≤2:=ah L.len (by split<;>split<;>exact aJ)
theorem gV.le {c:Int} {x:SF} (L:gV c x) {R:bp} {j:Nat}:(gc R j++x).length≤1000:=by
 rw[cT];exact ah (eZ L.small 13) aJ
theorem gV.up {c d:Int} {x:SF} (L:gV c x) (h:c≤d):gV d x:=⟨L.len,L.add.imp id λ⟨k,a,b⟩=>⟨k,Dn a h,b⟩,L.red⟩
theorem gV.mark {c:Int} {x:SF} (L:gV c x):gV (c+1) (x.put "lr0_added" (.int (c+1))):=by
 have e1:(x.put "lr0_added" (.int (c+1))).lookup ("lr0_added":Str)=aa (.int (c+1)):=by rw[gi,aO rfl]
 have e2:(x.put "lr0_added" (.int (c+1))).lookup ("reduced":Str)=x.lookup ("reduced":Str):=by rw[gi,aK aV]
 refine⟨?_,.inr (aT _ (QB _) e1),by rw[e2];exact L.red⟩;have:=L.len;rw[FV _ _ _,e1,e2];revert this
 cases(x.lookup ("lr0_added":Str)).isSome<;>simp<;>lia
section
theorem ZF {J:List aF} {ad:List Nat} {x:Nat} {xs:List Nat} (h:x∈ad):kV J ad (x::xs)=kV J ad xs:=aO h
theorem SJ {J:List aF} {ad:List Nat} {x:Nat} {xs:List Nat} (h:x∉ad):kV J ad (x::xs)=kV (J++[(x,0)]) (ad++[x]) xs:=aK h
theorem zg {R:bp} {q:aF} {j:Nat} (h:j∈dN R q):j<R.length:=by
 unfold dN at h
 split at h
 ·exact cS h
 ·exact dQ.mp (mU.mp h).1
structure CS where
 J:List aF
 ad:List Nat
 fl:Bool
 h:SH
section
variable(R:bp) (c:Int) (N:Nat) (aA:SH) (I:List aF)
def mk1 (ad:List Nat) (j:Nat) (x:SF):Prop:=(j∈ad→gV (c+1) x∧x.lookup ("lr0_added":Str)=aa (.int (c+1)))∧(j∉ad→gV c x)
structure jU (s:CS):Prop where
 list:s.h (gN N)=aa (.list (s.J.map ba))
 pr:∀j,j<R.length→∃x,s.h (bh j)=aa (.inst 100 (gc R j++x))∧mk1 c s.ad j x
 same:∀k l,k≠10→.mk k l≠gN N→s.h (.mk k l)=aA (.mk k l)
 ok:∀q∈s.J,cY R q
 nd:s.ad.Nodup
 src:∀y∈s.ad,y<R.length
 len:s.J.length≤30+s.ad.length
structure C0:Prop where
 tb:aA dg=aa (.inst 427 (nA (c+1)))
 it:uZ R aA
 hR:R.length≤20
 hc:0≤c
 hr:∀j,(aG R j).length≤10
noncomputable def Fy (s:CS):SF:=[("self",.ref dg),("J",.ref (gN N)),("didadd",.bool s.fl)]
def Lc (s:CS) (m:Nat):Prop:=jU R c N aA s∧((s.fl=ab∧s.J=I∧s.ad=[]∧m=2)∨(eU R 0 I [] s.J s.ad∧m=if s.fl then 1 else 0))
def rM (t:CS) (s:CS) (i m:Nat):Prop:=m=60-i∧jU R c N aA s∧(∀J' a',eU R i s.J s.ad J' a'→eU R 0 t.J t.ad J' a')∧t.ad.length≤s.ad.length∧(s.fl=ab→t.ad.length<s.ad.length)∧i≤s.J.length
def rO (L:Nat) (t:CS) (q:aF) (s:CS) (i:Nat):Prop:=jU R c N aA s∧kV s.J s.ad ((dN R q).drop i)=kV t.J t.ad (dN R q)∧L≤s.ad.length∧(s.fl=ab→L<s.ad.length)∧t.J.length≤s.J.length
end
variable{R:bp} {c:Int} {N:Nat} {aA:SH} {I:List aF} {s t:CS}
theorem mz {k:Nat} {l:List Nat} (hk:k≠99):Nm.mk k l≠gN N:=λe=>by injection e with e;exact hk e
theorem jU.items (X:jU R c N aA s) (O:C0 R c aA):uZ R s.h:=λq hq=>
 have A:=O.it q hq
 (cI ((X.same _ _ bJ (mz bJ)).trans A.1) ((X.same _ _ bJ (mz bJ)).trans A.2.1) ((X.same _ _ bJ (mz bJ)).trans A.2.2))
theorem jU.table (X:jU R c N aA s) (O:C0 R c aA):s.h dg=aa (.inst 427 (nA (c+1))):=(X.same 30 [] bJ (mz bJ)).trans O.tb
theorem jU.bw (X:jU R c N aA s) (O:C0 R c aA):s.J.length≤50:=by
 have:=fO X.nd (λy hy=>dQ.mpr (X.src y hy));rw[dR] at this;exact ah X.len (eZ (ah this O.hR) 30)
theorem jU.done (X:jU R c N aA s) (O:C0 R c aA) (B:br aA (N+1)):gY R (c+1) (N+1) s.h:=
 ⟨B.same λk l hk=>X.same _ _ bJ λe=>by have:=my e;exact dF ‹_› ‹_›,X.items O,λj hj=>by
  refine bM (X.pr j hj) λx a b1 b2=>?_
  by_cases e:j∈s.ad
  ·exact(aT x a ((b1 e).1))
  ·exact(aT x a ((b2 e).up (ahl (QB c)))),X.table O,ahl O.hc,O.hR,O.hr⟩
theorem jU.add (X:jU R c N aA s) {j:Nat} {x:SF} (hj:j<R.length) (UP:j∉s.ad) (hx:gV c x):
  jU R c N aA ⟨s.J++[(j,0)],s.ad++[j],ab,(s.h.set (gN N) (.list (s.J.map ba++[ba (j,0)]))).set (bh j) (.inst 100 (gc R j++x.put "lr0_added" (.int (c+1))))⟩:=by
 have ng:∀i,bh i≠gN N:=λi e=>by injection e with e;cases e
 refine⟨?_,λi hi=>?_,λk l hk Km=>?_,λq hq=>?_,?_,λy hy=>?_,?_⟩
 ·show((s.h.set (gN N) (.list (s.J.map ba++[ba (j,0)]))).set (bh j) (.inst 100 (gc R j++x.put "lr0_added" (.int (c+1))))) (gN N)=_
  rw[aq (ng j).symm,aR,dM];rfl
 ·by_cases e:i=j
  ·subst e
   exact⟨_,aR,λ_=>⟨hx.mark,by rw[gi,aO rfl]⟩,λz=>bd (kd _ (bU.mpr rfl)) z⟩
  ·refine aj (X.pr i hi) λx' h1 h2=>?_
   refine⟨x',(aq (λq=>by injection q with _ q;injection q with q;exact e q)).trans ((aq (ng i)).trans h1),λz=>h2.1 ((du.mp z).resolve_right λz=>e (bU.mp z)),λz=>h2.2 λy=>z (i6 _ y)⟩
 ·exact(aq (λq=>by injection q with q;exact hk q)).trans ((aq Km).trans (X.same k l hk Km))
 ·rcases du.mp hq with q'|q'
  ·exact X.ok q q'
  ·rw[bU.mp q'];exact⟨hj,cb _⟩
 ·exact k_.mpr (cI X.nd (kf _ _) (λa ha b hb e=>UP (bU.mp hb▸e▸ha)))
 ·rcases du.mp hy with q'|q'
  ·exact X.src y q'
  ·rw[bU.mp q'];exact hj
 ·have:=X.len
  simp only[cT,zI];exact eE ‹_›
theorem rM.stop {m i:Nat} {n:Nat} (hm:(t.J=I∧t.ad=[]∧n=2)∨(eU R 0 I [] t.J t.ad∧n=1)) (X:rM R c N aA t s i m) (sN:s.J.length≤i):∃k,k<n∧Lc R c N aA I s k:=by
 refine Ez X λ_ X eN _ iA _=>?_;have C1:=eN _ _ (eU.done sN);rcases hm with⟨e1,e2,rfl⟩|⟨hC,rfl⟩
 ·rw[e1,e2] at C1
  exact⟨if s.fl then 1 else 0,by split<;>exact bj,X,.inr ⟨C1,rfl⟩⟩
 ·refine xA ((eU.same λi q pz e=>hC.prop.2 i q (cb _) e:eU R 0 t.J t.ad t.J t.ad).det C1) λe1 e2=>?_
  have:s.fl=an:=by
   cases e:s.fl with
   |false=>rfl
   |true=>have:=iA e;rw[e2] at this;exact bd this (fo _)
  exact⟨0,oX,X,.inr ⟨by rw[←e1,←e2];exact hC,by rw[this];rfl⟩⟩
theorem rO.old {L:Nat} {q:aF} {i j:Nat} (X:rO R c N aA L t q s i) (hj:(dN R q)[i]? =aa j) (Bo:j∈s.ad):rO R c N aA L t q s (i+1):=by
 obtain⟨hi,hj⟩:=cU.mp hj;refine⟨X.1,?_,X.2.2⟩;rw[←X.2.1,Ij hi,hj,ZF Bo]
theorem rO.new {L:Nat} {q:aF} {i j:Nat} {x:SF} (X:rO R c N aA L t q s i) (hj:(dN R q)[i]? =aa j) (Bo:j∉s.ad) (hx:gV c x):rO R c N aA L t q ⟨s.J++[(j,0)],s.ad++[j],ab,(s.h.set (gN N) (.list (s.J.map ba++[ba (j,0)]))).set (bh j) (.inst 100 (gc R j++x.put "lr0_added" (.int (c+1))))⟩ (i+1):=by
 refine⟨X.1.add (zg (bQ hj)) Bo hx,?_,?_,λ_=>?_,?_⟩
 ·obtain⟨hi,hj⟩:=cU.mp hj
  rw[←X.2.1,Ij hi,hj,SJ Bo]
 ·exact ah X.2.2.1 (cT▸b7 _ _)
 ·exact bf X.2.2.1 (cT▸dm _)
 ·exact ah X.2.2.2.2 (cT▸b7 _ _)
theorem rM.next {q:aF} {s':CS} {i m:Nat} (X:rM R c N aA t s i m) (O:C0 R c aA) (hq:s.J[i]? =aa q) (Y:rO R c N aA t.ad.length s q s' (dN R q).length):∃k,k<m∧rM R c N aA t s' (i+1) k:=by
 obtain⟨rfl,X,eN,_,_,_⟩:=X;obtain⟨Y,e,d,d',g⟩:=Y;have hi:=(cU.mp hq).1;rw[List.drop_length] at e;exact⟨60- (i+1),ahk (bK hi (ah (X.bw O) aJ)) (dm _),rfl,Y,λJ' a' w=>eN J' a' (.step hq (by rw[←e];exact w)),d,d',ah hi g⟩
theorem dH {α β:Type} {l:List α} {f:α→β} {i:Nat} {v:β} (e:(l.map f)[i]? =aa v):∃q,l[i]? =aa q∧v=f q:=by
 rw[dq] at e;refine aj (C8.mp e) λq a b=>?_;exact(aT q a b.symm)
end
variable{R:bp} {c:Int} {N:Nat} {I:List aF}
noncomputable def abi:List Str:=["self","I","J","didadd","j","x"]
theorem ab6:ck (bE 340) abi=ab:=by kernel_rfl
theorem w_none {a:ax}:cW (bE a) []=ab:=rfl
theorem ir {G:Gl}:callable G (.bi "list.append")=ab:=rfl
structure yT (R:bp) (c:Int) (N:Nat) (h:SH) (I:List aF) (v:SV) (h':SH) (J:List aF) (ad:List Nat):Prop where
 v:v=.ref (gN N)
 clo:eU R 0 I [] J ad
 list:h' (gN N)=aa (.list (J.map ba))
 ok:∀q∈J,cY R q
 tb:gY R (c+1) (N+1) h'
 same:∀k l,k≠10→k≠30→.mk k l≠gN N→h' (.mk k l)=h (.mk k l)
theorem Bv {n:Nm} (hb:i.b=b+1) (T:gY R c N h) (hn:h n=aa (.list (I.map ba))) (hI:∀q∈I,cY R q) (hl:I.length≤30):FP i h (.glob 340) [.ref dg,.ref n] (λv h'=>∃J ad,yT R c N h I v h' J ad):=by
 refine enter i.K.clo ab6 w_none hb rfl ?_;refine DZ n_ T.tb (Oc T.tb) bG wB T.tb (jD rfl) ?_;refine bO (My (m:=gN N) n_ ((aq λe=>by rw[e,T.tb] at hn;cases hn).trans hn) (by rw[aI _];unfold aZ;exact ah ‹_› aJ) T.free.at) ?_;refine bO jy ?_;have O:C0 R c ((h.set dg (.inst 427 ((nA c).put "_add_count" (.int (c+1))))).set (gN N) (.list (I.map ba))):=⟨rfl,T.it,T.hR,T.hc,T.hr⟩;have X:jU R c N ((h.set dg (.inst 427 ((nA c).put "_add_count" (.int (c+1))))).set (gN N) (.list (I.map ba))) ⟨I,[],ab,(h.set dg (.inst 427 ((nA c).put "_add_count" (.int (c+1))))).set (gN N) (.list (I.map ba))⟩:=
  ⟨aR,λj hj=>by refine aj (T.pr j hj) λx a b=>?_;exact⟨x,a,λz=>(cS z),λ_=>b⟩,λ_ _ _ _=>rfl,hI,.nil,λ_ z=>(cS z),by exact hl⟩
 generalize hh:(h.set dg (.inst 427 ((nA c).put "_add_count" (.int (c+1))))).set (gN N) (.list (I.map ba))=aA at O X ⊢;refine rR (Fy N) CS.h (Lc R c N aA I) ⟨I,[],ab,aA⟩ 2 ⟨X,.inl (oQ rfl rfl rfl rfl)⟩ (ai (ai (ai bt))) ?_;clear X;rintro s m ⟨X,kL⟩;refine(mB s.fl s.h (p_ n_ jf) (λe=>?_) (λe=>?_))
 ·refine aH (gv n_ ?_)
  rcases kL with⟨e',_⟩|⟨C,_⟩
  ·rw[e] at e';exact cJ e'
  ·exact⟨s.J,s.ad,rfl,C,X.list,X.ok,X.done O (hh▸br.new (T.free.same (h':=h.set dg (.inst 427 ((nA c).put "_add_count" (.int (c+1))))) λ_ _ _=>rfl) _ _),λk l h1 h2 h3=>(X.same k l h1 h3).trans (hh▸(aq h3).trans (aq λe=>by injection e with e;exact h2 e))⟩
 ·have hm:(s.J=I∧s.ad=[]∧m=2)∨(eU R 0 I [] s.J s.ad∧m=1):=kL.imp (λq=>q.2) λq=>⟨q.1,by rw[q.2,e];rfl⟩
  clear kL;refine bO jy ?_;refine A9 (Fy N) CS.h (rM R c N aA s) ⟨s.J,s.ad,an,s.h⟩ 60 (d7 n_ X.list) ⟨rfl,⟨X.list,X.pr,X.same,X.ok,X.nd,X.src,X.len⟩,λ_ _ x=>x,au _,λe=>(cJ e),cb _⟩ (ai (ai (ai bt))) ?_;intro s1 j m1 Y;refine(cL _ (d6 Y.2.1.list) (λe1=>?_) (λv e1=>?_))
  ·refine aj (rM.stop hm Y (by have:=ke.mp e1;rwa [aI] at this)) λk hk W=>?_
   exact aH (aH (bN (LQ.next s1 (aT k hk W) .rfl)))
  ·refine aj (dH e1) λq hq ar=>?_;subst ar
   have hit:=Y.2.1.items O q (Y.2.1.ok q (bQ hq));refine dV (eo (Fy N) CS.h (rO R c N aA s.ad.length s1 q) s1 ((dN R q).map bB) (d7 (a_ n_ hit.1) hit.2.1) ⟨Y.2.1,rfl,Y.2.2.2.1,Y.2.2.2.2.1,au _⟩ (ai (ai (ai bt))) (λs2 j2 Z=>d6 (Z.1.items O q (Y.2.1.ok q (bQ hq))).2.1) (λs2 j2 v2 Z e2=>?_) λs2 Z=>?_)
   ·refine aj (dH e2) λy hy ar=>?_;subst ar
    refine bM (Z.1.pr y (zg (bQ hy))) λx hx y6 TP=>?_;refine dV ?_
    by_cases zZ:y∈s2.ad
    ·refine cR (bv (a_ n_ hx (y6 zZ).2) (a_ n_ (Z.1.table O)) (nK rfl)) (G7 ?_)
     exact LQ.cont s2 (Z.old hy zZ) (ai (ai (ai bt)))
    ·have hL:=TP zZ
     refine cf (ag:=s2.h) ?_ ?_
     ·rcases hL.add with e3|⟨k,hk,e3⟩
      ·exact bv (Zb n_ hx e3) (a_ n_ (Z.1.table O)) (lT λe=>by injection e with e;exact QC (ahm O.hc) e)
      ·exact bv (a_ n_ hx e3) (a_ n_ (Z.1.table O)) (lT λe=>by injection e with e;exact QC (ahm hk) e)
     ·refine aH (fF (de n_ (ga Z.1.list) ir (aB (a_ n_ hx) aL) (fU Z.1.list ?_)) ?_)
      ·rw[aI _];have:=Z.1.bw O;unfold aZ;exact ah ‹_› aJ
      refine jB (n:=bh y) (a_ (n:=dg) n_ (Z.1.table O)) n_ hx hL.le ?_;refine bO jy ?_;exact aH (bN (LQ.next _ (Z.new hy zZ hL) (ai (ai (ai bt)))))
   ·refine aj (rM.next Y O hq (by rw[aI] at Z;exact Z)) λk hk W=>?_
    exact aH (aH (bN (LQ.next s2 (aT k hk W) .rfl)))
noncomputable def aM (q:aF):SV:=.tup [.int q.1,.int q.2]
noncomputable def df (I:List aF):SV:=.tup (I.map aM)
theorem Vm:ck (bE 318) ["I"]=ab:=by kernel_rfl
theorem SO:cW (bE 318) ["tuple"]=ab:=by kernel_rfl
def Told (h:SH) (v:SV) (I:List aF):Prop:=(v=.none∧I=[])∨∃n,v=.ref n∧h n=aa (.list (I.map ba))
noncomputable def eO (N:Nat) (I:List aF) (h:SH):SH:=if I=[] then h else h.set (gN N) (.list (I.map aM))
theorem td {v:SV} (hb:i.b=b+1) (hv:Told h v I) (hI:∀q∈I,cY R q) (it:uZ R h) (B:br h N) (hz:I.length≤1000):FP i h (.glob 318) [v] (is (df I) (h.bX N (eO N I h))):=by
 refine enter i.K.place Vm SO hb rfl ?_
 by_cases rV:I=[]
 ·subst rV
  refine cR (ag:=h) (fw (t:=an) (p_ n_ ?_)) (gv (eY aL) ⟨rfl,Kt.symm⟩);rcases hv with⟨rfl,_⟩|⟨n,rfl,hn⟩
  ·exact m8
  ·exact lO (.own hn) bj
 ·refine aj (hv.resolve_left λe=>rV e.2) λn bu hn=>?_;subst bu
  have hz':(I.map ba).length≤1000:=by rw[aI _];exact hz
  have ng:n≠gN N:=λe=>by rw[e,gN,B.at] at hn;exact a8 hn
  refine cf (fw (t:=ab) (p_ n_ ((by cases I with|nil=>exact bd rfl rV|cons _ _=>rfl:(!(I.map ba).isEmpty)=ab)▸lO (.own hn) (bf ‹_› bj)))) (aH (gv (b9 (i.K.ty rfl) rfl (aB (Bd (l:=["p"]) (ls:=[]) (us:=I.map aM) ?_ rfl ?_ (d7 n_ hn) (B.at (l:=[])) (λws j=>d6 ((aq ng).trans hn)) (by rw[aI _,aI _]) (by unfold aZ;exact ah ‹_› aJ) rfl ?_) aL) (CI (.own aR) ?_)) ⟨rfl,XR.trans (ay _ (aK rV).symm)⟩))
  ·kernel_rfl
  ·kernel_rfl
  ·intro ws j v u e1 e2
   refine aj (dH e1) λq hq ar=>?_;subst ar;rw[dq,hq] at e2
   (first|exact a8 e2|obtain rfl:=aU e2)
   have A:=(it q (hI q (bQ hq))).1;exact eY (aB (a_ (n:=bk q) n_ A) (aB (a_ (n:=bk q) n_ A) aL))
  ·rw[aI _];unfold aZ;exact ah ‹_› aJ
noncomputable def jC (R:bp) (x:Str) (q:aF):Option aF:=if(aG R q.1)[q.2]? =aa x then aa (q.1,q.2+1) else af
noncomputable def cF (R:bp) (I:List aF) (x:Str):List aF:=I.filterMap (jC R x)
def dE (R:bp) (ps L:List aF):Prop:=(ps=[]∧L=[])∨(ps≠[]∧∃ad,eU R 0 ps [] L ad)
theorem dE.det {ps L L':List aF} (a:dE R ps L) (b:dE R ps L'):L=L':=
 a.elim (λa=>b.elim (λb=>a.2.trans b.2.symm) λb=>bd a.1 b.1) λa=>b.elim (λb=>bd b.1 a.1) λb=>a.2.elim λ_ c=>b.2.elim λ_ c'=>(c.det c').1
theorem dE.nil {ps L:List aF} (a:dE R ps L):L=[]↔ps=[]:=
 a.elim (λa=>⟨λ_=>a.1,λ_=>a.2⟩) λa=>⟨λe2=>a.2.elim λad c=>aj c.prop.1.ext λx e1 _=>(ahn.mp (e1.symm.trans e2)).1,λz=>bd z a.1⟩
noncomputable def Sy:List Str:=["S","A","B","a","b","error","c"]
theorem acm {x y:Str} (hx:x∈Sy) (hy:y∈Sy) (e:sym x=sym y):x=y:=by
 have:∀x∈Sy,∀y∈Sy,sym x=sym y→x=y:=by decide +kernel
 exact this x hx y hy e
noncomputable def DI (ps:List aF):List Nat:=ps.flatMap λq=>[q.1,q.2]
theorem ab2 {ps:List aF}:∀{qs:List aF},DI ps=DI qs→ps=qs:=by
 induction ps with
 |nil=>exact λ{qs} e=>by cases qs with
  |nil=>rfl
  |cons q r=>exact vS e
 |cons p r ih=>exact λ{qs} e=>by cases qs with
  |nil=>exact jz e
  |cons q t=>exact have z:=lh e;have y:=lh z.2;congr (ay Dt (jv z.1 y.1)) (ih y.2)
noncomputable def cG (x:Str) (ps:List aF):Nm:=.mk 31 (sym x::DI ps)
theorem MX {x y:Str} {ps qs:List aF} (hx:x∈Sy) (hy:y∈Sy) (e:cG x ps=cG y qs):x=y∧ps=qs:=by
 have z:=lh (Nm.mk.inj e).2;exact⟨acm hx hy z.1,ab2 z.2⟩
noncomputable def i9:Nm:=.mk 32 []
def jS (N:Nat) (h:SH) (v:SV) (L:List aF):Prop:=(v=.none∧L=[])∨∃k,k<N∧v=.ref (gN k)∧h (gN k)=aa (.list (L.map ba))
theorem jS.told {v:SV} {L:List aF} (t:jS N h v L):Told h v L:=t.imp id λz=>bM z λk _ e a=>⟨_,e,a⟩
def fz (N:Nat) (h h':SH):Prop:=∀k l,k<N→h' (.mk 99 (k::l))=h (.mk 99 (k::l))
theorem fz.rfl {N:Nat} {h:SH}:fz N h h:=λ_ _ _=>Eq.refl _
theorem jS.mono {v:SV} {L:List aF} {M:Nat} (t:jS N h v L) (s:fz N h h') (hM:N≤M):jS M h' v L:=t.imp id λz=>bM z λk a b c=>⟨k,bK a hM,b,(s k [] a).trans c⟩
abbrev b8:=List (SV×SV)
abbrev dw:=Str→List aF→Option b8
noncomputable def tY:SV:=.str "$end"
def tZ (R:bp) (N:Nat) (h:SH) (T:dw) (x:Str) (ps:List aF) (k v:SV):Prop:=(k=tY∧∃L,dE R ps L∧jS N h v L)∨∃q,cY R q∧k=aM q∧v=.ref (cG x (ps++[q]))∧(T x (ps++[q])).isSome=ab
def vP (R:bp) (U:List (List aF)) (N:Nat) (h:SH) (T:dw) (k v:SV):Prop:=(∃x∈Sy,k=.str x∧v=.ref (cG x [])∧(T x []).isSome=ab)∨∃I∈U,∃x∈Sy,k=.tup [df I,.str x]∧∃L,dE R (cF R I x) L∧jS N h v L
structure eB (R:bp) (U:List (List aF)) (N:Nat) (h:SH) (W:Str→List aF→Prop) (T:dw) (es:b8):Prop where
 ca:h i9=aa (.dict es)
 nd:(es.map (·.1)).Nodup
 ent:∀k v,es.lookup k=aa v→vP R U N h T k v
 heap:∀x∈Sy,∀ps,h (cG x ps)=(T x ps).map .dict
 node:∀x∈Sy,∀ps ds,T x ps=aa ds→(ds≠[]∨W x ps)∧(ds.map (·.1)).Nodup∧∀k v,ds.lookup k=aa v→tZ R N h T x ps k v
 root:∀x∈Sy,(T x []).isSome=ab→es.lookup (.str x)=aa (.ref (cG x []))
 up:∀x∈Sy,∀ps q,(T x (ps++[q])).isSome=ab→∃ds,T x ps=aa ds∧ds.lookup (aM q)=aa (.ref (cG x (ps++[q])))
variable{U:List (List aF)} {W W':Str→List aF→Prop} {T:dw} {es:b8} {x:Str} {ps:List aF} {M:Nat}
theorem tZ.mono {k v:SV} (e:tZ R N h T x ps k v) (s:fz N h h') (hM:N≤M) {T':dw} (hT:∀x ps,(T x ps).isSome=ab→(T' x ps).isSome=ab):tZ R M h' T' x ps k v:=
 e.imp (λz=>⟨z.1,aj z.2 λL b c=>⟨L,b,c.mono s hM⟩⟩) λz=>g9 z λq a b c d=>⟨q,a,b,c,hT _ _ d⟩
theorem vP.mono {k v:SV} (e:vP R U N h T k v) (s:fz N h h') (hM:N≤M) {T':dw} (hT:∀x ps,(T x ps).isSome=ab→(T' x ps).isSome=ab):vP R U M h' T' k v:=
 e.imp (λz=>g9 z λx hx a b c=>⟨x,hx,a,b,hT _ _ c⟩) λz=>z.elim λI z=>z.2.elim λx w=>w.2.2.elim λL y=>⟨I,z.1,x,w.1,w.2.1,L,y.1,y.2.mono s hM⟩
theorem eB.mono (C:eB R U N h W T es) (s:fz N h h') (hM:N≤M) (e1:∀l,h' (.mk 31 l)=h (.mk 31 l)) (e2:h' i9=h i9):eB R U M h' W T es:=
 ⟨e2.trans C.ca,C.nd,λk v e=>(C.ent k v e).mono s hM λ_ _=>id,λx hx ps=>(e1 _).trans (C.heap x hx ps),λx hx ps ds e=>(cI ((C.node x hx ps ds e).1) ((C.node x hx ps ds e).2.1) (λk v q=>((C.node x hx ps ds e).2.2 k v q).mono s hM λ_ _=>id)),C.root,C.up⟩
theorem FU {q:aF}:ps++[q]≠ps:=λe=>agl _ (cT.symm.trans (ay nY e))
theorem II {q:aF}:ps++[q]≠[]:=λe=>jz (ahn.mp e).2
noncomputable def dw.put (T:dw) (x:Str) (ps:List aF) (ds:b8):dw:=λy qs=>if y=x∧qs=ps then aa ds else T y qs
theorem DD {ds:b8}:T.put x ps ds x ps=aa ds:=aO ⟨rfl,rfl⟩
theorem w4 {ds:b8} {y:Str} {qs:List aF} (e:y=x∧qs=ps):T.put x ps ds y qs=aa ds:=aO e
theorem oc {ds:b8} {y:Str} {qs:List aF} (e:¬(y=x∧qs=ps)):T.put x ps ds y qs=T y qs:=aK e
theorem DE {ds:b8} (y:Str) (qs:List aF) (e:(T y qs).isSome=ab):(T.put x ps ds y qs).isSome=ab:=CH (P:=λo:Option b8=>o.isSome=ab) (λ_=>rfl) λ_=>e
theorem Hd (C:∀x∈Sy,∀ps,h (cG x ps)=(T x ps).map cy.dict) (hx:x∈Sy) (ds:b8):∀y∈Sy,∀qs,(h.set (cG x ps) (.dict ds)) (cG y qs)=(T.put x ps ds y qs).map .dict:=λy hy qs=>
 if e:y=x∧qs=ps then(aO (congr (ay cG e.1) e.2)).trans (ay (oZ cy.dict) (w4 e)).symm
 else(aq λz=>e (MX hy hx z)).trans ((C y hy qs).trans (ay (oZ cy.dict) (oc e)).symm)
theorem BG:cG x ps≠i9:=λe=>nomatch (Nm.mk.inj e).1
theorem tx {o:cy}:fz N h (h.set (cG x ps) o):=λk l _=>aq λe=>nomatch (Nm.mk.inj e).1
theorem zW {o:cy}:fz N h (h.set i9 o):=λk l _=>aq λe=>nomatch (Nm.mk.inj e).1
theorem xK {p q:aF} (e:aM p=aM q):p=q:=have z:=lh (SV.tup.inj e);jv (wW (SV.int.inj z.1)) (wW (SV.int.inj (lh z.2).1))
theorem He {I J:List aF} (e:df I=df J):I=J:=by
 replace e:=SV.tup.inj e
 induction I generalizing J with
 |nil=>cases J with
  |nil=>rfl
  |cons _ _=>exact vS e
 |cons a r ih=>cases J with
  |nil=>exact jz e
  |cons c t=>exact have z:=lh e;congr (ay Dt (xK z.1)) (ih z.2)
theorem Xs {es:b8} {k v:SV}:bl es k v≠[]:=λe=>a8 ((ay (wU k) e).symm.trans ((ft k).trans (aO rfl)))
theorem Fj {es:b8} {k v k' v':SV} {C:SV→SV→Prop} (w:(bl es k v).lookup k'=aa v') (h1:C k v) (h2:es.lookup k'=aa v'→C k' v'):C k' v':=
 have w:=(ft k').symm.trans w
 if q:k'=k then aU ((aO q).symm.trans w)▸q▸h1 else h2 ((aK q).symm.trans w)
theorem eB.XN (C:eB R U N h (λ_ _=>False) T es) (hx:x∈Sy) (hT:T x []=af):
  eB R U N ((h.set (cG x []) (.dict [])).set i9 (.dict (bl es (.str x) (.ref (cG x []))))) (λy qs=>y=x∧qs=[]) (T.put x [] []) (bl es (.str x) (.ref (cG x []))):=by
 have st:fz N h ((h.set (cG x []) (.dict [])).set i9 (.dict (bl es (.str x) (.ref (cG x []))))):=λk l hk=>(zW k l hk).trans (tx k l hk);refine⟨aR,oq C.nd,λk v e=>Fj (C:=vP R U N _ _) e (.inl ⟨x,hx,rfl,rfl,ay uF DD⟩) λe=>(C.ent k v e).mono st (au _) DE,λy hy qs=>(aq BG).trans (Hd C.heap hx [] y hy qs),λy hy qs ds e=>?_,λy hy e=>?_,λy hy qs q e=>?_⟩
 ·exact if z:y=x∧qs=[] then have e:([]:b8)=ds:=aU ((w4 z).symm.trans e);e▸⟨.inr z,.nil,λ_ _ q=>a8 q⟩
   else have n:=C.node y hy qs ds ((oc z).symm.trans e);⟨.inl (n.1.resolve_right id),n.2.1,λk v q=>(n.2.2 k v q).mono st (au _) DE⟩
 ·exact(ft _).trans (if z:y=x then(aO (ay SV.str z)).trans (z▸rfl) else(aK λw=>z (SV.str.inj w)).trans (C.root y hy ((ay uF (oc λq=>z q.1)).symm.trans e)))
 ·exact aj (C.up y hy qs q ((ay uF (oc λz=>II z.2)).symm.trans e)) λds a b=>⟨ds,(oc λz=>a8 (((congr (ay T z.1) z.2).trans hT).symm.trans a)).trans a,b⟩
theorem eB.grow {ds:b8} {k:SV} {t9:dw} {ag:SH} (C:eB R U N h W T es) (hx:x∈Sy) (hT:T x ps=aa ds) (sm:∀y qs,(T y qs).isSome=ab→t9 y qs=T y qs)
  (nw:∀y qs oy,t9 y qs=aa oy→T y qs=aa oy∨oy=[]∧W' y qs∧∃q,(y=x∧qs=ps++[q])∧aM q=k) (he:tZ R N h t9 x ps k v)
  (hp:∀y∈Sy,∀qs,ag (cG y qs)=(t9 y qs).map .dict) (st:fz N h ag) (ca:ag i9=h i9) (hW:∀y qs,W y qs→(y=x∧qs=ps)∨W' y qs):
  eB R U N (ag.set (cG x ps) (.dict (bl ds k v))) W' (t9.put x ps (bl ds k v)) es:=by
 have st:fz N h (ag.set (cG x ps) (.dict (bl ds k v))):=λk l hk=>(tx k l hk).trans (st k l hk);have sT:∀{y qs d},T y qs=aa d→(T y qs).isSome=ab:=λe=>ay uF e;have D2:∀y qs,(T y qs).isSome=ab→(t9.put x ps (bl ds k v) y qs).isSome=ab:=λy qs e=>DE y qs ((ay uF (sm y qs e)).trans e);have lk:∀q,ds.lookup (aM q)=aa (.ref (cG x (ps++[q])))∨aM q=k→(bl ds k v).lookup (aM q)=aa (.ref (cG x (ps++[q]))):=λq h=>(ft _).trans (if w:aM q=k then(aO w).trans (ay aa ((λq w=>he.elim (λe=>nomatch w.trans e.1) λe=>e.elim λq' e=>xK (w.trans e.2.1)▸e.2.2.1:∀q,aM q=k→v=.ref (cG x (ps++[q]))) q w)) else(aK w).trans (h.resolve_right w));have cur:∀{y qs},y=x∧qs=ps→T y qs=aa ds:=λz=>(congr (ay T z.1) z.2).trans hT;have back:∀y qs,(t9.put x ps (bl ds k v) y qs).isSome=ab→(T y qs).isSome=ab∨∃q,(y=x∧qs=ps++[q])∧aM q=k:=λy qs e=>
  if z:y=x∧qs=ps then .inl (sT (cur z)) else(zD.mp ((ay uF (oc z)).symm.trans e)).elim λoy e=>(nw y qs oy e).imp sT λn=>n.2.2
 refine⟨(aq (Ne.symm BG)).trans (ca.trans C.ca),C.nd,λk v e=>(C.ent k v e).mono st (au _) D2,Hd hp hx _,λy hy qs oy e=>?_,λy hy e=>C.root y hy ((back y [] e).resolve_right λq=>q.elim λq n=>II n.1.2.symm),λy hy qs q e=>(back y (qs++[q]) e).elim (λe=>aj (C.up y hy qs q e) λd a b=>?_) λn=>n.elim λq' n=>?_⟩
 ·exact if z:y=x∧qs=ps then have n:=C.node y hy qs ds (cur z);have e:=aU ((w4 z).symm.trans e)
    e▸⟨.inl Xs,oq n.2.1,λk' v' w=>Fj (C:=tZ R N _ _ y qs) w (z.1.symm▸z.2.symm▸he.mono st (au _) DE) λw=>(n.2.2 k' v' w).mono st (au _) D2⟩
   else(nw y qs oy ((oc z).symm.trans e)).elim (λe=>have n:=C.node y hy qs oy e;⟨n.1.imp id λw=>(hW y qs w).resolve_left z,n.2.1,λk v q=>(n.2.2 k v q).mono st (au _) D2⟩) λn=>n.1.symm▸⟨.inr n.2.1,.nil,λ_ _ q=>a8 q⟩
 ·exact if z:y=x∧qs=ps then⟨_,w4 z,z.1.symm▸z.2.symm▸lk q (.inl (z.1▸z.2▸aU (a.symm.trans (cur z))▸b))⟩ else⟨d,(oc z).trans ((sm y qs (sT a)).trans a),b⟩
 ·exact have z:=List.append_inj' n.1.2 rfl;⟨_,w4 ⟨n.1.1,z.1⟩,(lh z.2).1.symm▸z.1.symm▸n.1.1.symm▸lk q' (.inr n.2)⟩
theorem eB.Fq {ds:b8} {k:SV} (C:eB R U N h W T es) (hx:x∈Sy) (hT:T x ps=aa ds) (he:tZ R N h T x ps k v) (hW:∀y qs,W y qs→(y=x∧qs=ps)∨W' y qs):
  eB R U N (h.set (cG x ps) (.dict (bl ds k v))) W' (T.put x ps (bl ds k v)) es:=C.grow hx hT (λ_ _ _=>rfl) (λ_ _ _=>.inl) he C.heap .rfl rfl hW
theorem eB.addChild {ds:b8} {q:aF} (C:eB R U N h W T es) (hx:x∈Sy) (hT:T x ps=aa ds) (hq:cY R q) (hn:ds.lookup (aM q)=af) (hW:∀y qs,W y qs→y=x∧qs=ps):
  eB R U N ((h.set (cG x (ps++[q])) (.dict [])).set (cG x ps) (.dict (bl ds (aM q) (.ref (cG x (ps++[q])))))) (λy qs=>y=x∧qs=ps++[q]) ((T.put x (ps++[q]) []).put x ps (bl ds (aM q) (.ref (cG x (ps++[q]))))) es:=
 C.grow hx hT (λy qs e=>oc λz=>(zD.mp e).elim λd e=>aj (C.up x hx ps q (ay uF ((congr (ay T z.1) z.2).symm.trans e))) λoy a b=>a8 (hn.symm.trans (aU (hT.symm.trans a)▸b)))
  (λy qs oy e=>if z:y=x∧qs=ps++[q] then .inr ⟨(aU ((w4 z).symm.trans e)).symm,z,q,z,rfl⟩ else .inl ((oc z).symm.trans e))
  (.inr ⟨q,hq,rfl,rfl,ay uF DD⟩) (Hd C.heap hx []) tx (aq (Ne.symm BG)) λy qs w=>.inl (hW y qs w)
theorem eB.UO {L:List aF} (C:eB R U N h W T es) (hx:x∈Sy) (hI:I∈U) (hr:dE R (cF R I x) L) (hv:jS N h v L):eB R U N (h.set i9 (.dict (bl es (.tup [df I,.str x]) v))) W T (bl es (.tup [df I,.str x]) v):=by
 have st:fz N h (h.set i9 (.dict (bl es (.tup [df I,.str x]) v))):=zW;exact⟨aR,oq C.nd,λk w e=>Fj (C:=vP R U N _ _) e (.inr ⟨I,hI,x,hx,rfl,L,hr,hv.mono st (au _)⟩) λe=>(C.ent k w e).mono st (au _) λ_ _=>id,λy hy qs=>(aq BG).trans (C.heap y hy qs),
  λy hy qs ds e=>have n:=C.node y hy qs ds e;⟨n.1,n.2.1,λk v q=>(n.2.2 k v q).mono st (au _) λ_ _=>id⟩,λy hy e=>(ft _).trans ((aK λz=>nomatch z).trans (C.root y hy e)),C.up⟩
theorem eB.bw (C:eB R U N h W T es):es.length≤7+7*U.length:=by
 have:(es.map (·.1)).length≤(Sy.map SV.str++U.flatMap λI=>Sy.map λx=>SV.tup [df I,.str x]).length:=fO C.nd λk hk=>by
  cases e:es.lookup k with
  |none=>exact bd hk (lB.mp e)
  |some v=>
   exact du.mpr ((C.ent k v e).imp (λz=>aj z λx hx a=>bD.mpr ⟨x,hx,a.1.symm⟩) λz=>z.elim λI z=>z.2.elim λx w=>sA.mpr ⟨I,z.1,bD.mpr ⟨x,w.1,w.2.1.symm⟩⟩)
 rw[aI,cT,aI,QD] at this;rw[(aho▸ahp λ_ _=>aI _:(U.map λI=>(Sy.map λx=>SV.tup [df I,.str x]).length)=uB U.length 7),ahq] at this;exact Nat.mul_comm 7 _▸this
theorem eB.move (C:eB R U N h W T es) (hW:∀y qs,W y qs→(∀ds,T y qs=aa ds→ds≠[])∨W' y qs):eB R U N h W' T es:=
 ⟨C.ca,C.nd,C.ent,C.heap,λy hy qs ds e=>⟨(C.node y hy qs ds e).1.elim .inl λw=>(hW y qs w).imp (λz=>z ds e) id,(C.node y hy qs ds e).2⟩,C.root,C.up⟩
variable{L:List aF} {k:Nat}
theorem gY.CX {l:List Nat} {o:cy} (T:gY R c N h):gY R c N (h.set (.mk 31 l) o):=⟨T.free.same λ_ _ _=>rfl,T.it,T.pr,T.tb,T.hc,T.hR,T.hr⟩
theorem gY.Iz {l:List Nat} {o:cy} (T:gY R c N h):gY R c N (h.set (.mk 32 l) o):=⟨T.free.same λ_ _ _=>rfl,T.it,T.pr,T.tb,T.hc,T.hR,T.hr⟩
theorem gY.g {l:List Nat} {o:cy} (T:gY R c N h):gY R c (N+1) (h.set (.mk 99 (N::l)) o):=⟨T.free.new _ _,T.it,T.pr,T.tb,T.hc,T.hR,T.hr⟩
theorem gY.bX {g:SH} (T:gY R c N h):gY R c (N+1) (h.bX N g):=⟨T.free.bX,T.it,T.pr,T.tb,T.hc,T.hR,T.hr⟩
theorem nj {l:List Nat} {o:cy} (hM:N≤M):fz N h (h.set (.mk 99 (M::l)) o):=λk l' hk=>aq λe=>by have:=my e;exact l6 hk (ah hM (bH this.symm))
theorem lE {g:SH} (hM:N≤M):fz N h (h.bX M g):=λk l' hk=>K2 (dp (bK hk hM))
theorem fz.trans {mI:SH} (a:fz N h h') (b:fz M h' mI) (hM:N≤M):fz N h mI:=λk l hk=>(b k l (bK hk hM)).trans (a k l hk)
theorem rj {n:Nat}:SV.key (n+2) (df I)=ab:=by
 show SV.keys (n+1) (I.map aM)=ab
 induction I with
 |nil=>rfl
 |cons a r ih=>exact ih
structure cX (R:bp) (U:List (List aF)) (c:Int) (N:Nat) (h:SH):Prop where
 tb:gY R c N h
 ca:∃T es,eB R U N h (λ_ _=>False) T es
 hU:U.length≤2000000
def Kp (N:Nat) (h h':SH):Prop:=(∀k l,k≠10→k≠30→k≠31→k≠32→k≠99→h' (.mk k l)=h (.mk k l))∧fz N h h'
theorem Kp.trans {mI:SH} (a:Kp N h h') (b:Kp M h' mI) (hM:N≤M):Kp N h mI:=⟨λk l h1 h2 h3 h4 h5=>(b.1 k l h1 h2 h3 h4 h5).trans (a.1 k l h1 h2 h3 h4 h5),a.2.trans b.2 hM⟩
structure ε (R:bp) (U:List (List aF)) (N:Nat) (h:SH) (ps:List aF) (v:SV) (h':SH) (L:List aF) (c:Int) (M:Nat):Prop where
 res:dE R ps L
 told:jS M h' v L
 w:cX R U c M h'
 le:N≤M
 kp:Kp N h h'
noncomputable def oO (R:bp) (U:List (List aF)) (N:Nat) (h:SH) (ps:List aF):QV:=λv h'=>∃L c M,ε R U N h ps v h' L c M
noncomputable def Ob:List Str:=["self","I","x","g","s","gs","p","n","s1"]
theorem OW:ck (bE 347) Ob=ab:=by kernel_rfl
theorem w_go:cW (bE 347) ["_place"]=ab:=by kernel_rfl
theorem vw (t:jS N h v L) (hz:L.length≤1000):TV i h v (!L.isEmpty):=by
 rcases t with⟨rfl,rfl⟩|⟨k,_,rfl,e⟩
 ·exact m8
 ·have:=lO (i:=i) (.own e) (by rw[aI _];exact bf ‹_› bj)
  rwa [List.isEmpty_map] at this
theorem uR:(cF R I x).length≤I.length:=uG _ _
theorem BH (hI:∀q∈I,cY R q):∀q∈cF R I x,cY R q:=λq hq=>by
 refine aj (gP.mp hq) λp hp e=>?_;unfold jC at e
 split at e
 ·next z=>obtain rfl:=aU e;exact⟨(hI p hp).1,(cU.mp z).1⟩
 ·exact a8 e
theorem dE.len (r:dE R ps L) (hp:ps.length≤30) (hR:R.length≤20):L.length≤50:=by
 rcases r with⟨rfl,rfl⟩|⟨_,ad,C⟩
 ·exact cb _
 ·refine aj C.prop.1.ext λx e e2=>?_
  have:=C.prop.1.nd .nil;have:=fO this (l₂:=bq R.length) λy hy=>dQ.mpr (by
   rcases C.prop.1.src y hy with z|⟨q,_,z⟩
   ·exact cS z
   ·exact zg z)
  rw[e,cT,aI _];rw[e2,dR,aey] at this;exact ah (fp hp this) (ah (eZ hR _) aJ)
theorem dE.ok (r:dE R ps L) (hp:∀q∈ps,cY R q):∀q∈L,cY R q:=by
 rcases r with⟨rfl,rfl⟩|⟨_,ad,C⟩
 ·exact hp
 ·refine aj C.prop.1.ext λx e e2=>?_
  intro q hq;rw[e] at hq;rcases du.mp hq with z|z
  ·exact hp q z
  ·refine aj (bD.mp z) λy hy ar=>?_;subst ar
   rcases C.prop.1.src y (e2▸kd _ hy) with z|⟨q,_,z⟩
   ·exact cS z
   ·exact⟨zg z,cb _⟩
noncomputable def oP (i:FI) (b:Nat):FI:=i.fn (b+1) 347 Ob ["_place"] OW w_go
structure kR (R:bp) (U:List (List aF)) (x:Str) (I:List aF):Prop where
 ok:∀q∈I,cY R q
 len:I.length≤30
 hU:I∈U
 hx:x∈Sy
theorem Ai {aA:SH} {aN:Nat} (A:kR R U x I) (w:gY R c M h) (C:eB R U M h (λ_ _=>False) T es) (hU:U.length≤2000000) (res:dE R (cF R I x) L) (told:jS M h v L) (le:aN≤M) (kp:Kp aN aA h) (hk:k<M) (hn:h (gN k)=aa (.list (I.map ba))) (nb:lG v=ab)
  (f1:fr.lookup ("self":Str)=aa (.ref dg)) (f2:fr.lookup ("I":Str)=aa (.ref (gN k))) (f3:fr.lookup ("x":Str)=aa (.str x)) (f4:fr.lookup ("g":Str)=aa v):
  SS (oP i b) fr h [(bc 347).drop 8] (λf _ h'=>oO R U aN aA (cF R I x) f.val h'):=by
 refine d9 (n:=i9) (es:=es) (n_ f4) (a_ (n_ f1) w.tb) (eY (aB (b9 (i.K.ref rfl) (i.K.keep rfl) (aB (n_ f2) aL) (td (b:=b) rfl (.inr (aT _ rfl hn)) A.ok w.it w.free (by have:=A.len;exact ah ‹_› aJ)).cp) (aB (n_ f3) aL))) C.ca (by unfold aZ;exact ah C.bw (ah (eZ (pg _ hU) _) aJ)) ?_ (by rw[show SV.key 6 (.tup [df I,.str x])=ab from by show(SV.key 5 (df I) && (SV.key 5 (.str x) && ab))=ab;rw[rj];rfl];rfl);refine gv (n_ f4) ⟨L,c,M+1,res,?_,⟨(w.bX).Iz,(tT T _ ((C.mono (lE (au _)) (bT _) (λ_=>rfl) rfl).UO A.hx A.hU res (told.mono (lE (au _)) (bT _)))),hU⟩,c7 le,kp.trans ⟨λk l h1 h2 h3 h4 h5=>?_,(lE (au _)).trans zW (au _)⟩ le⟩
 ·exact told.mono ((lE (au _)).trans zW (au _)) (bT _)
 ·refine(aq λe=>by injection e with e;exact h4 e).trans (aK λz=>?_)
  obtain⟨l,z⟩:=y9.mp z;injection z with z;exact h5 z
theorem uV {n:Nm} {es:b8} {w:SV} (hn:h n=aa (.dict es)) (hl:es.lookup v=aa w) (ok:autoParam (SV.key 6 v=ab) bn):CP i h (.bi "dict.get") [.ref n,v] (is w h):=⟨λfr' Q X hq=>Ou hn ok (by rw[hl];exact hq _ _ ⟨rfl,rfl⟩)⟩
theorem wn {n:Nm} {es:b8} (hn:h n=aa (.dict es)) (hl:es.lookup v=af) (ok:autoParam (SV.key 6 v=ab) bn):CP i h (.bi "dict.get") [.ref n,v] (is .none h):=⟨λfr' Q X hq=>Ou hn ok (by rw[hl];exact hq _ _ ⟨rfl,rfl⟩)⟩
structure GS where
 ps:List aF
 T:dw
 ds:b8
 h:SH
structure GJ (R:bp) (U:List (List aF)) (c:Int) (N:Nat) (I:List aF) (x:Str) (es:b8) (aA:SH) (aN:Nat) (s:GS) (j:Nat):Prop where
 ps:s.ps=cF R (I.take j) x
 tb:gY R c (N+1) s.h
 ca:eB R U N s.h (λy qs=>y=x∧qs=s.ps) s.T es
 cur:s.T x s.ps=aa s.ds
 gs:s.h (gN N)=aa (.list (s.ps.map ba))
 kp:Kp aN aA s.h
 st:fz N aA s.h
noncomputable def AY (x:Str) (k N:Nat) (s:GS):SF:=[("self",.ref dg),("I",.ref (gN k)),("x",.str x),("s",.ref (cG x s.ps)),("gs",.ref (gN N))]
theorem GJ.node {es:b8} {aA:SH} {aN:Nat} {s:GS} {j:Nat} (J:GJ R U c N I x es aA aN s j) (hx:x∈Sy):s.h (cG x s.ps)=aa (.dict s.ds):=by rw[J.ca.heap x hx s.ps,J.cur];rfl
theorem GJ.nd {es:b8} {aA:SH} {aN:Nat} {s:GS} {j:Nat} (J:GJ R U c N I x es aA aN s j) (hx:x∈Sy):s.ds.length≤1000:=by
 have A:=(J.ca.node x hx s.ps s.ds J.cur);have:(s.ds.map (·.1)).length≤(tY::(bq R.length).flatMap λj=>(bq ((aG R j).length+1)).map λd=>aM (j,d)).length:=fO A.2.1 λk hk=>by
  cases e:s.ds.lookup k with
  |none=>exact bd hk (lB.mp e)
  |some v=>
   rcases A.2.2 k v e with⟨rfl,_⟩|⟨q,hq,rfl,_⟩
   ·exact dv
   ·exact eS _ (sA.mpr (aT q.1 (dQ.mpr hq.1) (bD.mpr (aT q.2 (dQ.mpr (kY hq.2)) rfl))))
 rw[aI,iC,QD] at this;have:=ah this (eE (JT (k:=11) λj _=>by
  rw[aI _,dR];exact eE (J.tb.hr j)))
 rw[dR] at this;exact ah ‹_› (ah (eE (qE _ J.tb.hR)) aJ)
theorem Uv {q:aF} {s:Str} (e:(aG R q.1)[q.2]? =aa s):rF R q=ba (q.1,q.2+1):=aO (cU.mp e).1
theorem V1 {q:aF} (e:(aG R q.1)[q.2]? =af):rF R q=.none:=aK (jr.mpr (ke.mp e))
theorem Ux {q:aF} {s:Str} (e:(aG R q.1)[q.2]? =aa s):vB R (q.1,q.2+1)=s:=by
 unfold vB;rw[aK (zO _),Qd _ _,e];rfl
theorem Iy {j:Nat} {q:aF} (e:I[j]? =aa q) (hs:(aG R q.1)[q.2]? =aa x):cF R (I.take (j+1)) x=cF R (I.take j) x++[(q.1,q.2+1)]:=by
 unfold cF;rw[jK,e,se];exact ay _ (by show uE (jC R x) [q]=_;rw[qC,jC,aO hs];rfl)
theorem Zh {j:Nat} {q:aF} (e:I[j]? =aa q) (hs:(aG R q.1)[q.2]? ≠aa x):cF R (I.take (j+1)) x=cF R (I.take j) x:=by
 unfold cF;rw[jK,e,se];show _++uE (jC R x) [q]=_;rw[qC,jC,aK hs];exact gO _
theorem GJ.skip {es:b8} {aA:SH} {aN:Nat} {s:GS} {j:Nat} {q:aF} (J:GJ R U c N I x es aA aN s j) (e:I[j]? =aa q) (hs:(aG R q.1)[q.2]? ≠aa x):GJ R U c N I x es aA aN s (j+1):=
 ⟨J.ps.trans (Zh e hs).symm,J.tb,J.ca,J.cur,J.gs,J.kp,J.st⟩
theorem GJ.old {es:b8} {aA:SH} {aN:Nat} {s:GS} {j:Nat} {q:aF} {w:SV} (A:kR R U x I) (J:GJ R U c N I x es aA aN s j) (e:I[j]? =aa q) (hs:(aG R q.1)[q.2]? =aa x) (hw:s.ds.lookup (aM (q.1,q.2+1))=aa w) (le:aN≤N):
  w=.ref (cG x (s.ps++[(q.1,q.2+1)]))∧∃d,s.h (cG x (s.ps++[(q.1,q.2+1)]))=aa (.dict d)∧(!d.isEmpty)=ab∧d.length≤1000∧
   GJ R U c N I x es aA aN ⟨s.ps++[(q.1,q.2+1)],s.T,d,s.h.set (gN N) (.list (s.ps.map ba++[ba (q.1,q.2+1)]))⟩ (j+1):=by
 rcases(J.ca.node x A.hx s.ps s.ds J.cur).2.2 _ _ hw with⟨z,_⟩|⟨q',fS,z,rfl,hT⟩
 ·cases z
 ·cases xK z
  refine xE (zD.mp hT) λd hd=>?_;have dh:d≠[]:=(J.ca.node x A.hx _ d hd).1.resolve_right λz=>FU z.2;have J':GJ R U c N I x es aA aN ⟨s.ps++[(q.1,q.2+1)],s.T,d,s.h.set (gN N) (.list (s.ps.map ba++[ba (q.1,q.2+1)]))⟩ (j+1):=
   ⟨by rw[J.ps,Iy e hs],⟨J.tb.free.same λk l hk=>aq λe=>(by have:=my e;exact dF ‹_› ‹_›),J.tb.it,J.tb.pr,J.tb.tb,J.tb.hc,J.tb.hR,J.tb.hr⟩,
    (J.ca.mono (nj (au _)) (au _) (λ_=>rfl) rfl).move (λy qs z=>by
     refine xA z λcP bu=>?_;clear z;subst cP;subst bu;exact .inl λds z=>by rw[J.cur] at z;obtain rfl:=aU z;exact λz=>by rw[z] at hw;(first|exact a8 hw|obtain rfl:=aU hw)),hd,by rw[dM];exact aR,⟨λk l h1 h2 h3 h4 h5=>(aq λe=>by injection e with e;exact h5 e).trans (J.kp.1 k l h1 h2 h3 h4 h5),λk l hk=>(J.st.trans (nj (au _)) (au _)) k l (bK hk le)⟩,J.st.trans (nj (au _)) (au _)⟩
  exact⟨rfl,d,(J.ca.heap x A.hx _).trans (by rw[hd];rfl),by cases d with|nil=>exact bd rfl dh|cons _ _=>rfl,J'.nd A.hx,J'⟩
theorem GJ.new {es:b8} {aA:SH} {aN:Nat} {s:GS} {j:Nat} {q:aF} (A:kR R U x I) (J:GJ R U c N I x es aA aN s j) (e:I[j]? =aa q) (hs:(aG R q.1)[q.2]? =aa x) (hw:s.ds.lookup (aM (q.1,q.2+1))=af) (le:aN≤N):
  GJ R U c N I x es aA aN ⟨s.ps++[(q.1,q.2+1)],(s.T.put x (s.ps++[(q.1,q.2+1)]) []).put x s.ps (bl s.ds (aM (q.1,q.2+1)) (.ref (cG x (s.ps++[(q.1,q.2+1)])))),[],
   ((s.h.set (cG x (s.ps++[(q.1,q.2+1)])) (.dict [])).set (cG x s.ps) (.dict (bl s.ds (aM (q.1,q.2+1)) (.ref (cG x (s.ps++[(q.1,q.2+1)])))))).set (gN N) (.list (s.ps.map ba++[ba (q.1,q.2+1)]))⟩ (j+1):=by
 have LH:=J.st.trans (((tx (x:=x) (ps:=s.ps++[(q.1,q.2+1)]) (o:=.dict [])).trans (tx (x:=x) (ps:=s.ps) (o:=.dict (bl s.ds (aM (q.1,q.2+1)) (.ref (cG x (s.ps++[(q.1,q.2+1)])))))) (au N)).trans (nj (l:=[]) (o:=.list (s.ps.map ba++[ba (q.1,q.2+1)])) (au N)) (au N):fz N s.h _) (au N);refine⟨by rw[J.ps,Iy e hs],⟨J.tb.free.same λk l hk=>aq λe=>(by have:=my e;exact dF ‹_› ‹_›),J.tb.it,J.tb.pr,J.tb.tb,J.tb.hc,J.tb.hR,J.tb.hr⟩,(J.ca.addChild A.hx J.cur (⟨(A.ok q (bQ e)).1,(cU.mp hs).1⟩:cY R (q.1,q.2+1)) hw λ_ _=>id).mono (nj (au _)) (au _) (λ_=>rfl) rfl,(oc λz=>FU z.2).trans DD,by rw[dM];exact aR,
  ⟨λk l h1 h2 h3 h4 h5=>(aq λe=>by injection e with e;exact h5 e).trans ((aq λe=>by injection e with e;exact h3 e).trans ((aq λe=>by injection e with e;exact h3 e).trans (J.kp.1 k l h1 h2 h3 h4 h5))),λk l hk=>LH k l (bK hk le)⟩,LH⟩
theorem GJ.fresh {es:b8} {aA:SH} {aN:Nat} {s:GS} {j:Nat} {q:aF} (A:kR R U x I) (J:GJ R U c N I x es aA aN s j) (hw:s.ds.lookup (aM q)=af):s.h (cG x (s.ps++[q]))=af:=by
 rw[J.ca.heap x A.hx _]
 cases z:s.T x (s.ps++[q]) with
 |none=>rfl
 |some d=>
  refine aj (J.ca.up x A.hx s.ps q (by rw[z];rfl)) λds a b=>?_;rw[J.cur] at a;obtain rfl:=aU a;rw[hw] at b;exact a8 b
theorem XG {aA:SH} {aN:Nat} {dG:GS} {rest:List bI} {Q:QS} (A:kR R U x I) (IP:GJ R U c N I x es aA aN dG 0) (le:aN≤N) (hk:k<aN) (hn:aA (gN k)=aa (.list (I.map ba))) (sb:(AY x k N dG).sub fr)
  (fin:∀s,GJ R U c N I x es aA aN s I.length→SS (oP i b) (AY x k N s) s.h [(bc 347).drop 6] Q):SS (oP i b) fr dG.h [(bc 347).drop 5] Q:=by
 have hI:∀s j,GJ R U c N I x es aA aN s j→s.h (gN k)=aa (.list (I.map ba)):=λs j J=>(J.kp.2 k [] hk).trans hn;refine eo (AY x k N) GS.h (GJ R U c N I x es aA aN) dG (I.map ba) (d7 (n_ (sb _ _ rfl)) (hI dG 0 IP)) IP sb (λs j J=>d6 (hI s j J)) (λs j v J e=>?_) λs J=>aH (fin s (by rw[aI] at J;exact J));refine aj (dH e) λq hq ar=>?_;subst ar;have hit:=(J.tb.it q (A.ok q (bQ hq))).1;refine dV ?_
 cases hs:(aG R q.1)[q.2]? with
 |none=>
  refine bO (v:=.none) (a_ (n:=bk q) n_ hit (ay aa (V1 hs))) ?_;exact cf (oE (p_ n_ m8)) (aH (aH (bN (LQ.next s (J.skip hq (by rw[hs];exact λz=>by exact a8 z)) (ai (ai (ai (ai (ai bt)))))))))
 |some y=>
  have f9:=(J.tb.it (q.1,q.2+1) ⟨(A.ok q (bQ hq)).1,(cU.mp hs).1⟩).1;refine bO (v:=ba (q.1,q.2+1)) (a_ (n:=bk q) n_ hit (ay aa (Uv hs))) ?_;have be:(dW R (q.1,q.2+1)).lookup ("lr_before":Str)=aa (.str y):=ay (λz=>aa (SV.str z)) (Ux hs)
  by_cases hy:y=x
  ·subst hy
   refine cR (lQ (p_ n_ (FO f9)) (lQ (bv (a_ (n:=bk (q.1,q.2+1)) n_ f9 be) n_ (nK rfl)) Bw)) ?_;have bw:s.ps.length≤100:=by rw[J.ps];exact ah uR (by rw[jE];have:=A.len;exact ah (pi _ _) (ah this aJ))
   cases hw:s.ds.lookup (aM (q.1,q.2+1)) with
   |some w=>
    obtain⟨rfl,d,hd,dh,xH,J'⟩:=J.old A hq hs hw le;refine bO (hG (n_ (v:=.ref (cG y s.ps))) (ja (J.node A.hx)) rfl (aB (eY (aB (a_ (n:=bk (q.1,q.2+1)) n_ f9) (aB (a_ (n:=bk (q.1,q.2+1)) n_ f9) aL))) aL) (uV (J.node A.hx) hw)) ?_;refine cf (fw (t:=ab) (p_ n_ (dh▸yd hd (bf ‹_› bj)))) (aH ?_);refine fF (de n_ (ga J.gs) ir (aB n_ aL) (fU J.gs (by rw[aI _];unfold aZ;exact ah ‹_› aJ))) ?_;exact bO n_ (aH (aH (bN (LQ.next _ J' (ai (ai (ai (ai (ai bt)))))))))
   |none=>
    refine bO (hG (n_ (v:=.ref (cG y s.ps))) (ja (J.node A.hx)) rfl (aB (eY (aB (a_ (n:=bk (q.1,q.2+1)) n_ f9) (aB (a_ (n:=bk (q.1,q.2+1)) n_ f9) aL))) aL) (wn (J.node A.hx) hw)) ?_;refine cR (fw (t:=an) (p_ n_ m8)) ?_;refine bO (gZ (J.fresh A hw)) ?_;refine d9 (n:=cG y s.ps) n_ n_ (eY (aB (a_ (n:=bk (q.1,q.2+1)) n_ f9) (aB (a_ (n:=bk (q.1,q.2+1)) n_ f9) aL))) ((aq λe=>FU (MX A.hx A.hx e).2.symm).trans (J.node A.hx)) (by have:=J.nd A.hx;unfold aZ;exact ah ‹_› aJ) ?_;refine aH (fF (de n_ (ga (n:=gN N) (vs:=s.ps.map ba) J.gs) ir (aB n_ aL) (fU (n:=gN N) (vs:=s.ps.map ba) J.gs (by rw[aI _];unfold aZ;exact ah ‹_› aJ))) ?_);exact bO n_ (aH (aH (bN (LQ.next _ (J.new A hq hs hw le) (ai (ai (ai (ai (ai bt)))))))))
  ·refine cf (lQ (p_ n_ (FO f9)) (oE (bv (a_ (n:=bk (q.1,q.2+1)) n_ f9 be) n_ (lT λz=>hy (by injection z))))) ?_
   exact aH (aH (bN (LQ.next s (J.skip hq (by rw[hs];exact λz=>hy (aU z))) (ai (ai (ai (ai (ai bt))))))))
theorem jS.nb (t:jS N h v L):lG v=ab:=by rcases t with⟨rfl,_⟩|⟨k,_,rfl,_⟩<;>rfl
theorem Kp.BB {l:List Nat} {o:cy}:Kp N h (h.set (.mk 31 l) o):=⟨λk l' h1 h2 h3 h4 h5=>aq λe=>by injection e with e;exact h3 e,λk l' hk=>aq λe=>by injection e with e;cases e⟩
theorem Kp.ad5 {l:List Nat} {o:cy}:Kp N h (h.set (.mk 32 l) o):=⟨λk l' h1 h2 h3 h4 h5=>aq λe=>by injection e with e;exact h4 e,λk l' hk=>aq λe=>by injection e with e;cases e⟩
theorem Kp.Ln {l:List Nat} {o:cy} (hM:N≤M):Kp N h (h.set (.mk 99 (M::l)) o):=⟨λk l' h1 h2 h3 h4 h5=>aq λe=>by injection e with e;exact h5 e,nj hM⟩
theorem WU {aA:SH} {aN:Nat} {s:GS} (A:kR R U x I) (J:GJ R U c N I x es aA aN s I.length) (hU:U.length≤2000000) (le:aN≤N) (hk:k<aN) (hn:aA (gN k)=aa (.list (I.map ba))):
  SS (oP i b) (AY x k N s) s.h [(bc 347).drop 6] (λf _ h'=>oO R U aN aA (cF R I x) f.val h'):=by
 have e0:s.ps=cF R I x:=by rw[J.ps,zK]
 have hI:s.h (gN k)=aa (.list (I.map ba)):=(J.kp.2 k [] hk).trans hn;have len:s.ps.length≤30:=by rw[e0];exact ah uR A.len
 have nd:=J.node A.hx;have Sj:=J.nd A.hx;have C1:eB R U (N+1) s.h (λy qs=>y=x∧qs=s.ps) s.T es:=J.ca.mono (λ_ _ _=>rfl) (bT _) (λ_=>rfl) rfl
 cases hw:s.ds.lookup tY with
 |some v=>
  rcases(J.ca.node x A.hx s.ps s.ds J.cur).2.2 tY v hw with⟨_,L,res,told⟩|⟨q,_,z,_⟩
  ·have C0:eB R U (N+1) s.h (λ_ _=>False) s.T es:=C1.move λy qs z=>by
    refine xA z λcP bu=>?_;clear z;subst cP;subst bu;exact .inl λds z e=>by rw[J.cur] at z;obtain rfl:=aU z;rw[e] at hw;(first|exact a8 hw|obtain rfl:=aU hw)
   have told:=told.mono (M:=N+1) (λ_ _ _=>rfl) (bT _);have nb:=told.nb;have Va:=res.len len J.tb.hR;refine bO (hG (n_ (v:=.ref (cG x s.ps))) (ja nd) rfl (aB cx aL) (uV nd hw)) ?_
   by_cases hL:L=[]
   ·subst hL
    have hp:s.ps=[]:=res.nil.mp rfl;refine cR (fw (t:=an) (p_ n_ (vw told (cb _)))) (cf (p_ n_ (t:=an) ?_) ?_)
    ·have:=lO (i:=oP i b) (.own J.gs) (by rw[aI _];exact bf ‹_› bj)
     rwa [hp] at this
    ·refine d9 (n:=cG x s.ps) (es:=s.ds) n_ n_ cx nd (by unfold aZ;exact ah ‹_› aJ) ?_
     refine aH (aH (Ai A (es:=es) (T:=s.T.put x s.ps (bl s.ds tY (.ref (gN N)))) J.tb.CX ?_ hU (e0▸res) (told.mono tx (au _)) (ah ‹_› (b7 _ _)) (J.kp.trans .BB (au _)) (ah ‹_› (ah ‹_› (b7 _ _)):k<N+1) ((aq λe=>by injection e with e;cases e).trans hI) nb rfl rfl rfl rfl));refine C1.Fq A.hx J.cur (.inl (rt rfl ([]) res (.inr (cL N (dm _) rfl ?_)))) λy qs z=>.inl z;rw[J.gs,hp]
   ·have ne:(!L.isEmpty)=ab:=by cases L with|nil=>exact bd rfl hL|cons _ _=>rfl
    refine cf (fw (t:=ab) (p_ n_ (ne▸vw told (ah ‹_› aJ)))) (aH ?_);exact Ai A J.tb C0 hU (e0▸res) told (ah ‹_› (b7 _ _)) J.kp (ah ‹_› (ah ‹_› (b7 _ _)):k<N+1) hI nb rfl rfl rfl rfl
  ·cases z
 |none=>
  refine bO (hG (n_ (v:=.ref (cG x s.ps))) (ja nd) rfl (aB cx aL) (wn nd hw)) (cR (fw (t:=an) (p_ n_ m8)) ?_)
  by_cases hp:s.ps=[]
  ·refine cf (p_ n_ (t:=an) ?_) ?_
   ·have:=lO (i:=oP i b) (.own J.gs) (by rw[aI _];exact bf ‹_› bj)
    rwa [hp] at this
   ·refine d9 (n:=cG x s.ps) (es:=s.ds) n_ n_ cx nd (by unfold aZ;exact ah ‹_› aJ) ?_
    refine aH (aH (Ai A (es:=es) (T:=s.T.put x s.ps (bl s.ds tY (.ref (gN N)))) (L:=[]) J.tb.CX ?_ hU (.inl ⟨by rw[←e0,hp],rfl⟩) (.inl ⟨rfl,rfl⟩) (ah ‹_› (b7 _ _)) (J.kp.trans .BB (au _)) (ah ‹_› (ah ‹_› (b7 _ _)):k<N+1) ((aq λe=>by injection e with e;cases e).trans hI) rfl rfl rfl rfl rfl));refine C1.Fq A.hx J.cur (.inl (rt rfl ([]) (.inl ⟨hp,rfl⟩) (.inr (cL N (dm _) rfl ?_)))) λy qs z=>.inl z;rw[J.gs,hp]
  ·have ne:(!(s.ps.map ba).isEmpty)=ab:=by
    cases e:s.ps with
    |nil=>exact bd e hp
    |cons _ _=>rfl
   refine cR (p_ n_ (t:=ab) (ne▸lO (.own J.gs) (by rw[aI _];exact bf ‹_› bj))) ?_;have Xr:∀q∈s.ps,cY R q:=by rw[e0];exact BH A.ok
   refine ku (de n_ (iL (J.tb.tb) rfl) (i.K.keep rfl) (aB n_ aL) (Bv (b:=b) rfl J.tb J.gs Xr len).cp) ?_;rintro v h2 ⟨L,ad,W⟩;have sm:fz (N+1) s.h h2:=λk' l dX=>W.same _ _ bJ bJ λe=>by have:=my e;exact dp ‹_› ‹_›
   have res:dE R s.ps L:=.inr (Au hp ad W.clo);have told:jS (N+2) h2 v L:=.inr (cL (N+1) (dm _) W.v W.list);have kp:Kp aN aA h2:=J.kp.trans (M:=N+1) ⟨λk' l h1 h2 h3 h4 h5=>W.same k' l h1 h2 λe=>by injection e with e;exact h5 e,sm⟩ (ah ‹_› (b7 _ _));refine d9 (n:=cG x s.ps) (es:=s.ds) n_ n_ cx ((W.same _ _ bJ bJ (mz bJ)).trans nd:h2 (cG x s.ps)=aa (.dict s.ds)) (by unfold aZ;exact ah ‹_› aJ) ?_ (by rfl);exact aH (aH (Ai A (es:=es) (T:=s.T.put x s.ps (bl s.ds tY v)) W.tb.CX ((C1.mono sm (bT _) (λl=>W.same _ _ bJ bJ (mz bJ)) (W.same _ _ bJ bJ (mz bJ)):eB R U (N+2) h2 (λy qs=>y=x∧qs=s.ps) s.T es).Fq A.hx J.cur (.inl (rt rfl L res told)) λy qs z=>.inl z) hU (e0▸res) (told.mono tx (au _)) (c7 (c7 le)) (kp.trans .BB (au _)) (ah ‹_› (ah ‹_› (b7 _ _)):k<N+2) ((aq λe=>by injection e with e;cases e).trans ((kp.2 k [] hk).trans hn)) told.nb rfl rfl rfl rfl))
theorem j7.imp {Q Q':QS} (hq:∀f fr h,Q f fr h→Q' f fr h):∀{k:List (List bI)} {f:tX} {fr:SF} {h:SH},j7 i Q k f fr h→j7 i Q' k f fr h
 |[],_,_,_,w=>hq _ _ _ w
 |b::k,.next,_,_,w=>iY.imp w (λf fr h q=>j7.imp hq q) λ_ _ _ q=>q
 |b::k,.brk,_,_,w=>hq _ _ _ w
 |b::k,.cont,_,_,w=>hq _ _ _ w
 |b::k,.ret v,_,_,w=>hq _ _ _ w
theorem SS.imp {Q Q':QS} {k:List (List bI)} (w:SS i fr h k Q) (hq:∀f fr h,Q f fr h→Q' f fr h):SS i fr h k Q':=
 ⟨λfr' s=>j7.imp (λf fr h ⟨d_,s,q⟩=>⟨d_,s,hq _ _ _ q⟩) (w.run fr' s)⟩
theorem Nx {aA:SH} {ds:b8} (A:kR R U x I) (w:gY R c N h) (C:eB R U N h (λy qs=>y=x∧qs=[]) T es) (hT:T x []=aa ds) (hU:U.length≤2000000) (kp:Kp N aA h) (hk:k<N) (hn:aA (gN k)=aa (.list (I.map ba)))
  (f1:fr.lookup ("self":Str)=aa (.ref dg)) (f2:fr.lookup ("I":Str)=aa (.ref (gN k))) (f3:fr.lookup ("x":Str)=aa (.str x)) (f4:fr.lookup ("s":Str)=aa (.ref (cG x []))):
  SS (oP i b) fr h [(bc 347).drop 4] (λf _ h'=>oO R U N aA (cF R I x) f.val h'):=by
 refine bO (ey (n:=gN N) aL w.free.at) ?_;have st:fz N h (h.set (gN N) (.list [])):=nj (au _);refine XG (rest:=[]) (N:=N) (dG:=⟨[],T,ds,h.set (gN N) (.list [])⟩) A ⟨rfl,w.g,C.mono st (au _) (λ_=>rfl) rfl,hT,aR,kp.trans (.Ln (au _)) (au _),kp.2.trans st (au _)⟩ (au _) hk hn ?_ λs J=>WU A J hU (au _) hk hn;have g:∀y,y≠("gs":Str)→∀z,fr.lookup y=aa z→(fr.put "gs" (.ref (gN N))).lookup y=aa z:=λy hy z e=>by rw[gi,aK hy];exact e
 exact ai (ai (ai (ai (ai bt (by rw[gi,aO rfl])) (g _ aV _ f4)) (g _ aV _ f3)) (g _ aV _ f2)) (g _ aV _ f1)
theorem XC (A:kR R U x I) (w:gY R c N h) (C:eB R U N h (λ_ _=>False) T es) (hU:U.length≤2000000) (hk:k<N) (hn:h (gN k)=aa (.list (I.map ba)))
  (f1:fr.lookup ("self":Str)=aa (.ref dg)) (f2:fr.lookup ("I":Str)=aa (.ref (gN k))) (f3:fr.lookup ("x":Str)=aa (.str x)):
  SS (oP i b) fr h [(bc 347).drop 2] (λf _ h'=>oO R U N h (cF R I x) f.val h'):=by
 have bw:=C.bw;have g:∀u y,y≠("s":Str)→∀z,fr.lookup y=aa z→(fr.put "s" u).lookup y=aa z:=λu y hy z e=>by rw[gi,aK hy];exact e
 cases hw:es.lookup (.str x) with
 |some v=>
  obtain⟨y,hy,e1,e2,e3⟩|⟨_,_,_,_,z,_⟩:=C.ent _ _ hw
  ·obtain rfl:=Mine.Internal.SV.str.inj e1
   refine xE (zD.mp e3) λds hT=>?_;have nd:=C.node x hy [] ds hT;have hd:h (cG x [])=aa (.dict ds):=by rw[C.heap x hy _,hT];rfl
   have ne:(!ds.isEmpty)=ab:=by cases ds with|nil=>exact bd rfl (nd.1.resolve_right id)|cons _ _=>rfl
   refine bO (hG (a_ (n_ f1) w.tb) (ja C.ca) rfl (aB (n_ f3) aL) (uV C.ca hw)) ?_;have Sj:ds.length≤1000:=GJ.nd (s:=⟨[],T,ds,h.set (gN N) (.list [])⟩) (j:=0) (N:=N) (aA:=h) (aN:=N) (I:=I) ⟨rfl,w.g,(C.mono (nj (au _)) (au _) (λ_=>rfl) rfl).move λ_ _ z=>z.elim,hT,aR,.Ln (au _),nj (au _)⟩ hy;subst e2;refine cf (fw (t:=ab) (p_ (n_ (v:=.ref (cG x [])) (by rw[gi,aO rfl])) (ne▸yd hd (bf ‹_› bj)))) (aH ?_);exact Nx A w (C.move λ_ _ z=>z.elim) hT hU ⟨λ_ _ _ _ _ _ _=>rfl,.rfl⟩ hk hn (g _ _ aV _ f1) (g _ _ aV _ f2) (g _ _ aV _ f3) (by rw[gi,aO rfl])
  ·exact nomatch z
 |none=>
  have hT:T x []=af:=by
   cases e:T x [] with
   |none=>rfl
   |some ds=>have:=C.root x A.hx (by rw[e];rfl);rw[hw] at this;exact a8 this
  have hz:h (cG x [])=af:=by rw[C.heap x A.hx _,hT];rfl
  refine bO (hG (a_ (n_ f1) w.tb) (ja C.ca) rfl (aB (n_ f3) aL) (wn C.ca hw)) ?_;refine cR (fw (t:=an) (p_ (n_ (v:=.none) (by rw[gi,aO rfl])) m8)) ?_;refine bO (gZ hz) ?_;have g2:∀u y,y≠("s":Str)→∀z,fr.lookup y=aa z→((fr.put "s" .none).put "s" u).lookup y=aa z:=λu y hy z e=>by rw[gi,aK hy];exact g _ y hy z e
  refine d9 (n:=i9) (es:=es) (n_ (v:=.ref (cG x [])) (by rw[gi,aO rfl])) (a_ (n_ (g2 _ _ aV _ f1)) w.tb) (n_ (g2 _ _ aV _ f3)) ((aq λe=>by injection e with e;cases e).trans C.ca) (by unfold aZ;exact ah bw (ah (eZ (pg _ hU) _) aJ)) (aH ?_);exact Nx A w.CX.Iz (C.XN A.hx hT) DD hU (Kp.trans (M:=N) .BB .ad5 (au _)) hk hn (g2 _ _ aV _ f1) (g2 _ _ aV _ f2) (g2 _ _ aV _ f3) (by rw[gi,aO rfl])
theorem oO.up {hx:SH} (kp:Kp N h hx) (hM:N≤M) (g:oO R U M hx ps v h'):oO R U N h ps v h':=by
 refine th g λL c M' g=>?_;exact⟨L,c,M',g.res,g.told,g.w,ah hM g.le,kp.trans g.kp hM⟩
theorem Kp.bX {g:SH}:Kp N h (h.bX N g):=⟨λk l h1 h2 h3 h4 h5=>aK λz=>by refine xE (y9.mp z) λl z=>?_;injection z with z;exact h5 z,lE (au _)⟩
theorem yf (hb:i.b=b+2) (A:kR R U x I) (W:cX R U c N h) (hk:k<N) (hn:h (gN k)=aa (.list (I.map ba))):FP i h (.glob 347) [.ref dg,.ref (gN k),.str x] (oO R U N h (cF R I x)):=by
 refine enter i.K.goto OW w_go hb rfl ?_;obtain⟨w,⟨T,es,C⟩,hU⟩:=W;have key:SV.key 6 (.tup [df I,.str x])=ab:=by show(SV.key 5 (df I) && (SV.key 5 (.str x) && ab))=ab;rw[rj];rfl
 have P:FP ((oP i b).dn (b+1)) h (.glob 318) [.ref (gN k)] (is (df I) (h.bX N (eO N I h))):=td (b:=b) rfl (.inr (aT _ rfl hn)) A.ok w.it w.free (by have:=A.len;exact ah ‹_› aJ);have C1:eB R U (N+1) (h.bX N (eO N I h)) (λ_ _=>False) T es:=C.mono (lE (au _)) (bT _) (λ_=>rfl) rfl;have CG:(h.bX N (eO N I h)) (gN k)=aa (.list (I.map ba)):=(lE (au _) k [] hk).trans hn;have rest:∀v,SS (oP i b) (SF.put [("self",.ref dg),("I",.ref (gN k)),("x",.str x)] "g" v) (h.bX N (eO N I h)) [(bc 347).drop 2] (λf _ h'=>oO R U N h (cF R I x) f.val h'):=λv=>by
  exact(XC (i:=i) (b:=b) (fr:=SF.put [("self",.ref dg),("I",.ref (gN k)),("x",.str x)] "g" v) A w.bX C1 hU (ah ‹_› (b7 _ _):k<N+1) CG rfl rfl rfl).imp λf fr h q=>q.up .bX (bT _)
 cases hw:es.lookup (.tup [df I,.str x]) with
 |some v=>
  obtain⟨_,_,z,_⟩|⟨I',hI',y,hy,e1,L,res,told⟩:=C1.ent _ _ hw
  ·cases z
  ·injection e1 with e1;injection e1 with e1 e2;injection e2 with e2;injection e2 with e2
   cases He e1
   subst e2;refine bO (hG (a_ n_ w.tb) (ja C1.ca) rfl (aB (eY (aB (b9 (i.K.ref rfl) (i.K.keep rfl) (aB n_ aL) P.cp) (aB n_ aL))) aL) (uV C1.ca hw key)) ?_;have Va:=res.len (ah uR A.len) w.hR
   by_cases hL:L=[]
   ·subst hL
    exact cf (p_ n_ (t:=an) (vw told (cb _))) (aH (rest v))
   ·have ne:(!L.isEmpty)=ab:=by cases L with|nil=>exact bd rfl hL|cons _ _=>rfl
    exact cR (p_ n_ (t:=ab) (ne▸vw told (ah ‹_› aJ))) (gv n_ ⟨L,c,N+1,res,told,⟨w.bX,(tT T es C1),hU⟩,bT _,.bX⟩)
 |none=>
  refine bO (hG (a_ n_ w.tb) (ja C1.ca) rfl (aB (eY (aB (b9 (i.K.ref rfl) (i.K.keep rfl) (aB n_ aL) P.cp) (aB n_ aL))) aL) (wn C1.ca hw key)) ?_;exact cf (p_ n_ (t:=an) m8) (aH (rest .none))
noncomputable def vm {α:Type} [DecidableEq α]:Nat→List α→List (List α)
 |0,_=>[[]]
 |n+1,K=>[]::K.flatMap λq=>(vm n (K.erase q)).map (q::·)
theorem JO {α:Type} [DecidableEq α]:∀{n:Nat} {K ps:List α},ps.Nodup→ps ⊆ K→K.length≤n→ps∈vm n K
 |0,K,ps,_,hs,hn=>by
  have:K=[]:=ahi.mp (Ic.mp hn);subst this;rw[List.subset_nil.mp hs];exact bU.mpr rfl
 |n+1,K,[],_,_,_=>dv
 |n+1,K,q::r,nd,hs,hn=>by
  refine eS _ (sA.mpr (aT q (hs dv) (bD.mpr (aT r (JO (k8.mp nd).2 (λx hx=>?_) ?_) rfl))))
  ·exact(List.mem_erase_of_ne λe=>(k8.mp nd).1 (by rw[←e];exact hx)).mpr (hs (eS _ hx))
  ·rw[ahr (hs dv)];exact Qp hn
noncomputable def cnt:Nat→Nat
 |0=>1
 |n+1=>1+(n+1)*cnt n
theorem MB {α:Type} [DecidableEq α]:∀{n:Nat} {K:List α},K.length=n→(vm n K).length=cnt n
 |0,_,_=>rfl
 |n+1,K,hn=>by
  have:(K.map λq=>((vm n (K.erase q)).map (q::·)).length)=uB K.length (cnt n):=by
   rw[←aho];exact ahp λq hq=>by rw[aI _];exact MB (by rw[ahr hq];exact Nat.sub_eq_of_eq_add hn)
  rw[vm,iC,QD,this,ahq,hn,cnt,rZ _ _]
noncomputable def rD (R:bp):List aF:=(bq R.length).tail.flatMap λj=>(bq (aG R j).length).map λd=>(j,d+1)
theorem CW {n j:Nat}:j∈(bq n).tail↔0<j∧j<n:=by
 cases n with
 |zero=>exact⟨λh=>(cS h),λh=>bd h.2 (mQ _)⟩
 |succ n=>
  rw[Qj,List.tail_cons,propext bD]
  constructor
  ·rintro⟨a,ha,rfl⟩;exact⟨dJ _,ph (dQ.mp ha)⟩
  ·rintro⟨h1,h2⟩;exact(aT (j-1) (dQ.mpr (Nat.sub_lt_right_of_lt_add (sn h1) h2)) (by show j-1+1=j;exact qG ‹_›))
theorem yw {R:bp} {q:aF}:q∈rD R↔0<q.1∧q.1<R.length∧0<q.2∧q.2≤(aG R q.1).length:=by
 constructor
 ·intro h
  refine aj (sA.mp h) λj hj h=>?_;refine aj (bD.mp h) λd hd ar=>?_;subst ar;exact(oQ ((CW.mp hj).1) ((CW.mp hj).2) (dJ _) (dQ.mp hd))
 ·rintro⟨h0,h1,h2,h3⟩
  exact sA.mpr (aT q.1 (CW.mpr ⟨h0,h1⟩) (bD.mpr (aT (q.2-1) (dQ.mpr (bK (rY ‹_› oX) ‹_›)) (by obtain⟨a,b⟩:=q;exact ay (a,·) (by dsimp only at h2 ⊢;exact qG ‹_›)))))
noncomputable def FH (R:bp) (ps:List aF):List aF:=open Classical in if h:∃L,dE R ps L then afz h else []
theorem WK {R:bp} {ps L:List aF} (h:dE R ps L):FH R ps=L:=by
 unfold FH;rw[dif_pos ⟨L,h⟩];exact(Qc (⟨L,h⟩:∃L,dE R ps L)).det h
def St (R:bp) (L:List aF):Prop:=∃ps,ps≠[]∧dE R ps L∧(ps=[(0,0)]∨ps=[(0,1)]∨(ps.Nodup∧ps ⊆ rD R))
noncomputable def gG (R:bp):List (List aF):=([(0,0)]::[(0,1)]::vm (rD R).length (rD R)).map (FH R)
theorem St.mem {R:bp} {L:List aF}:St R L→L∈gG R:=λ⟨ps,_,r,h⟩=>by
 refine bD.mpr (aT ps ?_ (WK r));rcases h with rfl|rfl|⟨a,b⟩
 ·exact dv
 ·exact eS _ dv
 ·exact eS _ (eS _ (JO a b (au _)))
structure GR (R:bp):Prop where
 len:R.length≤5
 pos:0<R.length
 xu:bF R 0="S'"
 pL:aG R 0=([("S":Str)]:List Str)
 rD:(rD R).length≤8
 nm:∀j,0<j→j<R.length→bF R j="S"∨bF R j="A"∨bF R j="B"
 bw:∀j,(aG R j).length≤2
 sy:∀j s,0<j→s∈aG R j→s∈(["a","A","b","B","error"]:List Str)
 all:∀s∈(["S","A","B"]:List Str),∃j,0<j∧j<R.length∧bF R j=s
theorem Rx:∀m<9,cnt m≤109601:=by decide +kernel
theorem Gw (g:GR R):(gG R).length≤109603:=by
 unfold gG;rw[aI _,iC,iC,MB rfl];exact eE (eE (Rx _ (kY g.rD)))
theorem St.from(h:St R L) (g:GR R):∃ps,ps≠[]∧dE R ps L∧ps.Nodup∧ps.length≤8∧(∀q∈ps,cY R q)∧(ps=[(0,0)]∨∀q∈ps,0<q.2):=by
 obtain⟨ps,h1,h2,rfl|rfl|⟨h3,h4⟩⟩:=h
 ·exact(xg _ h1 h2 (kf _ _) aJ (λq hq=>by rw[bU.mp hq];exact⟨g.pos,cb _⟩) (.inl rfl))
 ·exact(xg _ h1 h2 (kf _ _) aJ (λq hq=>by rw[bU.mp hq];exact⟨g.pos,by show 1≤(aG R 0).length;rw[g.pL];exact au _⟩) (.inr λq hq=>by rw[bU.mp hq];exact oX))
 ·exact(xg ps h1 h2 h3 (ah (fO h3 h4) g.rD) (λq hq=>⟨(yw.mp (h4 hq)).2.1,(yw.mp (h4 hq)).2.2.2⟩) (.inr λq hq=>(yw.mp (h4 hq)).2.2.1))
theorem St.ok (h:St R L) (g:GR R):∀q∈L,cY R q:=by
 refine Jc (h.from g) λps _ r _ _ ok _=>?_;exact r.ok ok
theorem dE.add (r:dE R ps L):∃x:List Nat,L=ps++x.map (·,0)∧x.Nodup∧∀y∈x,y<R.length∧∃q∈L,y∈dN R q:=by
 rcases r with⟨rfl,rfl⟩|⟨_,ad,C⟩
 ·exact(cL ([]) rfl .nil (λ_ h=>by exact cS h))
 ·refine aj C.prop.1.ext λx e e2=>?_
  have e2:ad=x:=by rw[e2];rfl
  subst e2;exact(cL ad e (C.prop.1.nd .nil) (λy hy=>by
   rcases C.prop.1.src y hy with z|⟨q,hq,z⟩
   ·exact cS z
   ·exact(rt (zg z) q hq z)))
theorem St.len (h:St R L) (g:GR R):L.length≤14:=by
 refine jA (h.from g) λps _ r _ l _=>?_;obtain⟨x,e,nd,s⟩:=r.add;have:=fO nd (l₂:=bq R.length) λy hy=>dQ.mpr (s y hy).1;rw[dR] at this;rw[e,cT,aI _];exact fp l (ah ‹_› (c7 g.len))
theorem UU {q:aF} {y:Nat} (h:y∈dN R q):0<y:=by
 unfold dN at h
 split at h
 ·exact cS h
 ·have:=(mU.mp h).2
  rw[bR,hH] at this;exact nU this.1
theorem St.nd (h:St R L) (g:GR R):L.Nodup:=by
 refine Jc (h.from g) λps _ r nd _ _ hk=>?_;obtain⟨x,e,nx,s⟩:=r.add;rw[e,propext k_];refine(cI nd (Ik _ (λa b z e=>z (ay mR e)) nx) (λa ha b hb e=>?_));subst e;refine aj (bD.mp hb) λy hy ar=>?_;subst ar;rcases hk with rfl|hk
 ·have:=bU.mp ha
  injection this with this;refine aj ((s y hy).2) λq _ z=>?_;have:=UU z;exact dF ‹_› ‹_›
 ·exact bd (hk _ ha) (fo _)
theorem Zq {q q' p:aF} (h:jC R x q=aa p) (h':jC R x q'=aa p):q=q':=by
 unfold jC at h h';obtain⟨a,c⟩:=q;obtain⟨a',c'⟩:=q'
 split at h<;>cases h
 split at h'<;>cases h'
 rfl
theorem Gy {I:List aF} (h:I.Nodup):(cF R I x).Nodup:=by
 unfold cF
 induction I with
 |nil=>exact .nil
 |cons q r ih=>
  refine xA (k8.mp h) λh1 h2=>?_;rw[qC]
  split
  ·exact ih h2
  ·next p e=>
   refine k8.mpr ⟨λz=>?_,ih h2⟩;refine aj (gP.mp z) λq' hq e'=>?_;exact h1 (Zq e e'▸hq)
theorem Ha {I:List aF} {p:aF} (h:∀q∈I,cY R q) (hp:p∈cF R I x):p.1<R.length∧0<p.2∧p.2≤(aG R p.1).length∧(aG R p.1)[p.2-1]? =aa x:=by
 refine aj (gP.mp hp) λq hq e=>?_;unfold jC at e
 split at e
 ·next z=>obtain rfl:=aU e;exact(oQ ((h q hq).1) (dJ _) ((cU.mp z).1) z)
 ·exact a8 e
theorem St.next {L':List aF} (h:St R L) (g:GR R) (r:dE R (cF R L x) L') (hL:L'≠[]):St R L':=by
 have ne:cF R L x≠[]:=λe=>hL (r.nil.mpr e);refine⟨_,ne,r,?_⟩
 by_cases hx:x="S"
 ·refine .inr (.inl ?_)
  have all:∀p∈cF R L x,p=(0,1):=λp hp=>by
   refine mE (Ha (h.ok g) hp) λa c d e=>?_;rcases sv p.1 with z|z
   ·rw[z,g.pL] at d
    have:p.2=1:=qD d c;obtain⟨u,w⟩:=p;exact jv z this
   ·have:=g.sy p.1 x z (bQ e)
    rw[hx] at this;exact bd this aV
  have nd:=Gy (R:=R) (x:=x) (h.nd g)
  cases hm:cF R L x with
  |nil=>exact bd hm ne
  |cons p t=>
   rw[hm] at all nd
   cases t with
   |nil=>rw[all p dv]
   |cons p' t'=>
    exact bd dv ((all p' (eS _ dv))▸(all p dv)▸(k8.mp nd).1)
 ·refine .inr (.inr ⟨Gy (h.nd g),λp hp=>?_⟩)
  refine mE (Ha (h.ok g) hp) λa c d e=>?_;refine yw.mpr (oQ (nU λz=>hx ?_) a c d);have:=bQ e;rw[z,g.pL] at this;exact bU.mp this
theorem St.first {L' L0:List aF} (h:St R L) (g:GR R) (r:dE R (cF R L x) L') (hL:L'≠[]) (h0:dE R [(0,0)] L0):L'≠L0:=λe=>by
 obtain⟨a,e1,_⟩:=r.add;obtain⟨c,e2,_⟩:=h0.add
 cases hm:cF R L x with
 |nil=>exact(λz=>hL (r.nil.mpr z):cF R L x≠[]) hm
 |cons p t=>
  rw[e1,e2,hm] at e;injection e with e _;have:=(Ha (R:=R) (x:=x) (h.ok g) (p:=p) (by rw[hm];exact dv)).2.1;rw[e] at this
  cases this
theorem St.one (h:St R L) (g:GR R) (hm:(0,1)∈L):L=[(0,1)]:=by
 refine bM h λps _ r hk=>?_;clear h;obtain⟨a,e,_,hs⟩:=r.add;have ej:(0,1)∈ps:=by
  rw[e] at hm;refine(du.mp hm).resolve_right λz=>?_;refine aj (bD.mp z) λy _ z=>?_;injection z with _ z
  cases z
 rcases hk with rfl|rfl|⟨_,hk⟩
 ·have:=bU.mp ej;cases this
 ·refine dE.det r (.inr ⟨by exact Il _ _,[],eU.same λi q _ hq y hy=>?_⟩)
  rw[bU.mp (bQ hq)] at hy;have:dN R (0,1)=[]:=by unfold dN;rw[show(aG R (0,1).1)[(0,1).2]? =af from by rw[show aG R (0,1).1=aG R 0 from rfl,g.pL];rfl]
  rw[this] at hy;exact cS hy
 ·exact bd (yw.mp (hk ej)).1 (fo _)
noncomputable def eu (s:bI):List bI:=(kS s).1
noncomputable def xz (s:bI):List bI:=(kS s).2.1
noncomputable def iG:Nm:=.mk 33 []
noncomputable def fL:Nat→List (List aF)→b8
 |_,[]=>[]
 |n,L::r=>(df L,.int n)::fL (n+1) r
theorem GP:∀{S:List (List aF)} {n:Nat} {k:SV},k∈(fL n S).map (·.1)↔∃L∈S,k=df L
 |[],n,k=>⟨λh=>(cS h),λ⟨_,h,_⟩=>(cS h)⟩
 |L::r,n,k=>by
  rw[fL,sp,propext dA,propext GP]
  constructor
  ·rintro(h|⟨L',h,e⟩)
   ·exact(aT L dv h)
   ·exact(aT L' (eS _ h) e)
  ·rintro⟨L',h,e⟩
   rcases dA.mp h with rfl|h
   ·exact .inl e
   ·exact .inr (aT L' h e)
theorem Lp:∀{S:List (List aF)} {n:Nat} {L:List aF},fL n (S++[L])=fL n S++[(df L,.int (n+S.length:Nat))]
 |[],n,L=>rfl
 |M::r,n,L=>by
  rw[ahs,fL,fL,Lp,ahs,iC,show n+1+r.length=n+(r.length+1) from ur n 1 r.length]
theorem Kj:∀{S:List (List aF)} {n:Nat},(fL n S).length=S.length
 |[],_=>rfl
 |_::r,n=>ay (· +1) Kj
theorem BQ:∀{S:List (List aF)} {n:Nat} {L:List aF} {v:SV},(fL n S).lookup (df L)=aa v→∃j,S[j]? =aa L∧v=.int (n+j:Nat)
 |[],n,L,v,h=>by(first|exact a8 h|obtain rfl:=aU h)
 |M::r,n,L,v,h=>by
  rw[fL,kX] at h
  cases e:df L==df M with
  |true=>
   rw[e] at h;(first|exact a8 h|obtain rfl:=aU h);have:=He (eq_of_beq e);exact(aT 0 (by rw[this];rfl) rfl)
  |false=>
   rw[e] at h;refine aj (BQ h) λj a b=>?_;exact(aT (j+1) a (by rw[b,show n+1+j=n+(j+1) from ur n 1 j]))
structure sE (R:bp) (U:List (List aF)) (c:Int) (N:Nat) (h:SH) (P:List (Nat×List aF)):Prop where
 w:cX R U c N h
 jY:h iG=aa (.dict (fL 0 (P.map (·.2))))
 nd:(P.map (·.2)).Nodup
 each:∀p∈P,p.1<N∧h (gN p.1)=aa (.list (p.2.map ba))∧St R p.2
 hU:gG R ⊆ U
def Kq (B:List Nat) (N:Nat) (h h':SH):Prop:=(∀k l,(99::B).contains k=an→h' (.mk k l)=h (.mk k l))∧fz N h h'
variable{c':Int} {P:List (Nat×List aF)}
variable{B:List Nat}
theorem iy {a k:Nat} {B:List Nat} (h:B.contains k=an) (ha:B.contains a=ab):k≠a:=λe=>by rw[e,ha] at h;exact iQ h
theorem tj {L L':List Nat} {k:Nat} (hk:L'.contains k=an) (h:autoParam (L.all L'.contains=ab) bn):L.contains k=an:=Do.mpr λz=>iy hk (db.mp h k (e9.mp z)) (Eq.refl _)
theorem V6 {L L':List Nat} {k:Nat} (hk:k∈L) (h:autoParam (L.all L'.contains=ab) bn):k∈L':=e9.mp (db.mp h k hk)
theorem mx {L L':List Nat} {k:Nat} (hk:k∈L) (h:autoParam ((L.all λk=>!L'.contains k)=ab) bn):L'.contains k=an:=(jI _).mp (db.mp h k hk)
theorem tw {L l l':List Nat} {a:Nat} {o:cy} (hk:L.contains k=an) (ha:autoParam (L.contains a=ab) bn):(h.set (.mk a l') o) (.mk k l)=h (.mk k l):=aq λe=>iy hk ha (Nm.mk.inj e).1
theorem Kp.q (a:Kp N h h') (hB:autoParam (([10,30,31,32,99]:List Nat).all (99::B).contains=ab) bn):Kq B N h h':=⟨λk l hk=>
 have f:=λx hx=>iy hk (db.mp hB x hx)
 a.1 k l (f _ (.head _)) (f _ (.tail _ (.head _))) (f _ (.tail _ (.tail _ (.head _)))) (f _ (.tail _ (.tail _ (.tail _ (.head _))))) (f _ (.tail _ (.tail _ (.tail _ (.tail _ (.head _)))))),a.2⟩
theorem Kq.trans {mI:SH} (a:Kq B N h h') (b:Kq B M h' mI) (hM:N≤M):Kq B N h mI:=⟨λk l hk=>(b.1 k l hk).trans (a.1 k l hk),a.2.trans b.2 hM⟩
theorem Kq.same:Kq B N h h:=⟨λ_ _ _=>Eq.refl _,.rfl⟩
theorem Kq.set {k:Nat} {l:List Nat} {o:cy} (hk:autoParam ((B.contains k && k !=99)=ab) bn):Kq B N h (h.set (.mk k l) o):=by
 rw[bR,bne_iff_ne] at hk;exact⟨λk' l' h1=>aq λe=>by injection e with e;subst e;exact iy h1 (by rw[wX,hk.1,HI _]) rfl,λk' l' _=>aq λe=>by injection e with e;exact hk.2 e.symm⟩
theorem Kq.new {o:cy} {l:List Nat} (hM:N≤M):Kq B N h (h.set (.mk 99 (M::l)) o):=⟨λk l' hk=>aq λe=>by injection e with e;exact iy hk (by subst e;rfl) rfl,nj hM⟩
theorem Kq.bX {g:SH} (hM:N≤M):Kq B N h (h.bX M g):=⟨λk l hk=>aK λz=>by refine xE (y9.mp z) λl z=>?_;injection z with z;exact iy hk (by subst z;rfl) rfl,lE hM⟩
theorem Kq.mono {B':List Nat} (a:Kq B N h h') (hB:autoParam (B.all (99::B').contains=ab) bn):Kq B' N h h':=⟨λk l hk=>a.1 k l (tj hk ((bR _ _).mpr ⟨Eq.refl _,hB⟩)),a.2⟩
noncomputable def yY:List Nat:=[10,20,30,31,32,40,42]
theorem cX.set {o:cy} {l:List Nat} (w:cX R U c N h) (hk:autoParam (((99::yY).contains k)=an) dI):cX R U c N (h.set (.mk k l) o):=by
 have ne:∀{a:Nat} {l':List Nat},(99::yY).contains a=ab→(h.set (.mk k l) o) (.mk a l')=h (.mk a l'):=λha=>aq λe=>by injection e with e;exact iy hk ha e.symm
 exact⟨⟨w.tb.free.same λ_ _ _=>ne rfl,λq hq=>(cI ((ne rfl).trans (w.tb.it q hq).1) ((ne rfl).trans (w.tb.it q hq).2.1) ((ne rfl).trans (w.tb.it q hq).2.2)),λj hj=>by refine aj (w.tb.pr j hj) λx e l=>?_;exact(aT x ((ne rfl).trans e) l),(ne rfl).trans w.tb.tb,w.tb.hc,w.tb.hR,w.tb.hr⟩,
  w.ca.imp λT ⟨es,C⟩=>⟨es,C.mono (λ_ _ _=>ne rfl) (au _) (λ_=>ne rfl) (ne rfl)⟩,w.hU⟩
theorem cX.bX {g:SH} (w:cX R U c N h):cX R U c (N+1) (h.bX N g):=
 ⟨w.tb.bX,w.ca.imp λT ⟨es,C⟩=>⟨es,C.mono (lE (au _)) (bT _) (λ_=>rfl) rfl⟩,w.hU⟩
theorem cX.new {o:cy} (w:cX R U c N h):cX R U c (N+1) (h.set (gN N) o):=
 ⟨w.tb.g,w.ca.imp λT ⟨es,C⟩=>⟨es,C.mono (nj (au _)) (bT _) (λ_=>rfl) rfl⟩,w.hU⟩
noncomputable def oF (p:Nat×List aF):SV:=.ref (gN p.1)
noncomputable def gQ:Nm:=.mk 56 []
noncomputable def ig (n:Nat):Nm:=.mk 57 [n]
noncomputable def q_:List Nat:=[10,30,31,32,33,56,57]
structure IS where
 P:List (Nat×List aF)
 n:Nat
 c:Int
 N:Nat
 h:SH
structure lv (R:bp) (U:List (List aF)) (aN:Nat) (aA:SH) (s:IS):Prop where
 it:sE R U s.c s.N s.h s.P
 C:s.h gQ=aa (.list (s.P.map oF))
 A:∀j,s.n≤j→s.h (ig j)=af
 kq:Kq q_ aN aA s.h
 le:aN≤s.N
 first:∃k L0 r,s.P=(k,L0)::r∧dE R [(0,0)] L0
noncomputable def Ug (s:IS):SF:=[("self",.ref dg),("C",.ref gQ),("i",.int s.n)]
noncomputable def oI (n:Nat) (k:Nat):SF:=[("self",.ref dg),("C",.ref gQ),("i",.int ((n+1:Nat):Int)),("I",.ref (gN k)),("asyms",.ref (ig n))]
noncomputable def K8:List Str:=["self","C","i","I","asyms","ii","s","x","g"]
theorem LO:ck (bE 354) K8=ab:=by kernel_rfl
theorem w_it:cW (bE 354) ["_place","len"]=ab:=by kernel_rfl
noncomputable def u4 (i:FI) (b:Nat):FI:=i.fn (b+2) 354 K8 ["_place","len"] LO w_it
theorem sE.bw (w:sE R U c N h P) (hU:U.length≤2000000):P.length≤U.length:=by
 have:=fO w.nd (l₂:=U) λL hL=>by refine aj (bD.mp hL) λp hp ar=>?_;subst ar;exact w.hU (w.each p hp).2.2.mem
 rwa [aI] at this
theorem St.go (s:St R I) (g:GR R) (hU:gG R ⊆ U) (hx:x∈Sy):kR R U x I:=⟨s.ok g,ah (s.len g) aJ,hU s.mem,hx⟩
theorem sE.step (w:sE R U c N h P) (W:cX R U c' M h') (kp:Kq q_ N h h') (e:h' iG=h iG) (le:N≤M):sE R U c' M h' P:=
 ⟨W,e.trans w.jY,w.nd,λp hp=>(cI (bK (w.each p hp).1 le) ((kp.2 p.1 [] (w.each p hp).1).trans (w.each p hp).2.1) ((w.each p hp).2.2)),w.hU⟩
theorem Ru {u:List Str}:∀{l:List Str} {s:Str},s∈l.foldl (λu s=>if s∈u then u else u++[s]) u→s∈u∨s∈l:=by
 intro l
 induction l generalizing u with
 |nil=>exact λh=>.inl h
 |cons a r ih=>
  intro s h;rcases ih h with h|h
  ·dsimp only at h
   split at h
   ·exact .inl h
   ·rcases du.mp h with h|h
    ·exact .inl h
    ·exact .inr (by rw[bU.mp h];exact dv)
  ·exact .inr (eS _ h)
theorem GR.p7 (g:GR R) {j:Nat} {s:Str} (h:s∈p7 R j):s∈Sy:=by
 have h:=(Ru h).resolve_left (λh=>by exact cS h);rcases sv j with rfl|hj
 ·rw[g.pL,bU] at h;subst h;exact aV
 ·have:∀s∈(["a","A","b","B","error"]:List Str),s∈Sy:=aV
  exact this s (g.sy j s hj h)
def io (es:b8):Prop:=(es.map (·.1)).Nodup∧∀k∈es.map (·.1),∃x∈Sy,k=.str x
theorem io.put {es:b8} {s:Str} (a:io es) (hs:s∈Sy):io (bl es (.str s) .none):=⟨oq a.1,λk hk=>by
 rcases(wD k).mp hk with rfl|hk
 ·exact(aT s hs rfl)
 ·exact a.2 k hk⟩
theorem io.str {es:b8} (a:io es):oK es=ab:=db.mpr λp hp=>by
 refine aj (a.2 p.1 (bD.mpr (aT p hp rfl))) λx _ e=>?_;rw[e]
theorem io.len {es:b8} (a:io es):es.length≤7:=by
 have:=fO a.1 (l₂:=Sy.map SV.str) λk hk=>by refine aj (a.2 k hk) λx hx e=>?_;exact bD.mpr (aT x hx e.symm)
 rwa [aI] at this
theorem lv.go {aA:SH} {aN:Nat} {s:IS} (J:lv R U aN aA s) {B:List Nat} (W:cX R U c' M h') (kp:Kq B s.N s.h h') (le:s.N≤M) (hB:autoParam ((B.all (99::q_).contains && !B.contains 33 && !B.contains 56 && !B.contains 57)=ab) bn):lv R U aN aA ⟨s.P,s.n,c',M,h'⟩:=by
 simp only[bR,jI] at hB;obtain⟨⟨⟨h1,h2⟩,h3⟩,h4⟩:=hB;have k2:Kq q_ s.N s.h h':=kp.mono h1;have f:∀{k l},B.contains k=an→k≠99→h' (.mk k l)=s.h (.mk k l):=λ{k l} e n=>kp.1 k l (by rw[wX,e,Bool.or_false _];exact kW.mpr n);exact⟨J.it.step W k2 (f h2 bJ) le,(f h3 bJ).trans J.C,λj hj=>(f h4 bJ).trans (J.A j hj),J.kq.trans k2 J.le,ah J.le le,J.first⟩
theorem lv.add {aA:SH} {aN n:Nat} (J:lv R U aN aA ⟨P,n,c,N,h⟩) (i8:L∉P.map (·.2)) (hk:k<N) (hv:h (gN k)=aa (.list (L.map ba))) (S:St R L):
  lv R U aN aA ⟨P++[(k,L)],n,c,N,(h.set iG (.dict (bl (fL 0 (P.map (·.2))) (df L) (.int ((P.map oF).length:Nat))))).set gQ (.list (P.map oF++[.ref (gN k)]))⟩:=by
 have FK:bl (fL 0 (P.map (·.2))) (df L) (.int ((P.map oF).length:Nat))=fL 0 ((P++[(k,L)]).map (·.2)):=by
  rw[N7 (λz=>by refine aj (GP.mp z) λL' Bl e=>?_;exact i8 (He e▸Bl)),dM];refine Eq.trans ?_ Lp.symm;rw[aI _,aI _,mP _]
 have g:∀m,((h.set iG (.dict (bl (fL 0 (P.map (·.2))) (df L) (.int ((P.map oF).length:Nat))))).set gQ (.list (P.map oF++[.ref (gN k)]))) (gN m)=h (gN m):=λm=>rfl;refine⟨⟨(J.it.w.set (k:=33) (l:=[])).set,ay (λz=>aa (cy.dict z)) FK,?_,λp' bY=>?_,J.it.hU⟩,?_,λj hj=>J.A j hj,(J.kq.trans (M:=N) Kq.set J.le).trans (M:=N) Kq.set J.le,J.le,?_⟩
 ·rw[dM]
  exact k_.mpr (cI J.it.nd (kf _ _) (λa ha b hb e=>i8 (by have:=bU.mp hb;rw[e,this] at ha;exact ha)))
 ·rcases du.mp bY with q|q
  ·exact J.it.each p' q
  ·rw[bU.mp q]
   exact(cI hk hv S)
 ·show aa (cy.list (P.map oF++[.ref (gN k)]))=_
  rw[dM];rfl
 ·obtain⟨k0,L0,r,e,z⟩:=J.first
  exact⟨k0,L0,(r++[(k,L)]),(by rw[show P=(k0,L0)::r from e];rfl),z⟩
theorem aed {aA:SH} {aN:Nat} {n:Nat} {p:Nat×List aF} {es:b8} {Q:QS} (g:GR R) (hU:U.length≤2000000) (J:lv R U aN aA ⟨P,n+1,c,N,h⟩) (hp:p∈P) (hx:x∈Sy) (as:h (ig n)=aa (.dict es))
  (fin:∀P' c' N' h' fr,lv R U aN aA ⟨P',n+1,c',N',h'⟩→P.length≤P'.length→p∈P'→h' (ig n)=aa (.dict es)→(oI n p.1).sub fr→Q .next fr h'∧Q .cont fr h'):
  SS (u4 i b) ((oI n p.1).put "x" (.str x)) h [eu (stN (eu (stN (bc 354) 4)) 4)] Q:=by
 have E:=J.it.each p hp;refine ku (de n_ (iL J.it.w.tb.tb rfl) (i.K.keep rfl) (aB n_ (aB n_ aL)) (yf (b:=b) rfl (E.2.2.go g J.it.hU hx:kR R U x p.2) J.it.w E.1 E.2.1).cp) ?_;rintro v h2 ⟨L,c',M,G⟩;have kp:Kq [10,30,31,32] N h h2:=G.kp.q;have J2:=J.go G.w kp G.le;have FT:∀{fr:SF},(oI n p.1).sub (((oI n p.1).put "x" (.str x)).put "g" v):=ai (ai (ai (ai (ai bt))));have Am:h2 (ig n)=aa (.dict es):=(kp.1 _ _ rfl).trans as
 by_cases hL:L=[]
 ·subst hL
  refine cR (yU (fw (t:=an) (p_ n_ (vw G.told (cb _))))) (G7 (fin P c' M h2 _ J2 (au _) hp Am (FT (fr:=[]))).2)
 ·have S2:St R L:=E.2.2.next g G.res hL
  have ne:(!L.isEmpty)=ab:=by cases L with|nil=>exact bd rfl hL|cons _ _=>rfl
  have NJ:=S2.len g;have tv:=vw (i:=u4 i b) G.told (ah ‹_› aJ);have pl:FP ((u4 i b).dn (b+2)) h2 (.glob 318) [v] (is (df L) (h2.bX M (eO M L h2))):=td (b:=b+1) rfl (G.told.told:Told h2 v L) (S2.ok g) G.w.tb.it G.w.tb.free (ah ‹_› aJ);have J3:=J2.go (B:=[]) (c':=c') (M:=M+1) (h':=h2.bX M (eO M L h2)) G.w.bX (.bX (au _)) (bT _)
  by_cases i8:L∈P.map (·.2)
  ·have:((fL 0 (P.map (·.2))).lookup (df L)).isSome=ab:=by
    cases e:(fL 0 (P.map (·.2))).lookup (df L) with
    |some _=>rfl
    |none=>exact bd (GP.mpr (aT L i8 rfl)) (lB.mp e)
   refine cR (qc (fw (t:=ab) (p_ n_ (ne▸tv))) (yU (bv (b9 (i.K.ref rfl) (i.K.keep rfl) (aB n_ aL) pl.cp) (a_ n_ J3.it.w.tb.tb) (this▸pX J3.it.jY rj)))) (G7 (fin P c' (M+1) _ _ J3 (au _) hp Am (FT (fr:=[]))).2)
  ·have:((fL 0 (P.map (·.2))).lookup (df L)).isSome=an:=by
    cases e:(fL 0 (P.map (·.2))).lookup (df L) with
    |none=>rfl
    |some v=>
     refine aj (BQ e) λj e _=>?_;exact bd (bQ e) i8
   refine cf (qc (fw (t:=ab) (p_ n_ (ne▸tv))) (qc (bv (b9 (i.K.ref rfl) (i.K.keep rfl) (aB n_ aL) pl.cp) (a_ n_ J3.it.w.tb.tb) (this▸pX J3.it.jY rj)) AR)) (aH ?_);have bw:P.length≤aZ:=ah (J3.it.bw hU) (ah hU (by unfold aZ;exact aJ));have O0:FP ((u4 i b).dn (b+2)) (h2.bX M (eO M L h2)) (.glob 318) [v] (is (df L) ((h2.bX M (eO M L h2)).bX (M+1) (eO (M+1) L (h2.bX M (eO M L h2))))):=td (b:=b+1) rfl (G.told.mono (lE (au _)) (bT _):jS (M+1) (h2.bX M (eO M L h2)) v L).told (S2.ok g) J3.it.w.tb.it J3.it.w.tb.free (ah ‹_› aJ);have J4:=J3.go (B:=[]) (c':=c') (M:=M+2) (h':=(h2.bX M (eO M L h2)).bX (M+1) (eO (M+1) L (h2.bX M (eO M L h2)))) J3.it.w.bX (.bX (au _)) (bT _);generalize O':(h2.bX M (eO M L h2)).bX (M+1) (eO (M+1) L (h2.bX M (eO M L h2)))=h4 at O0 J4;refine bM (G.told.resolve_left λz=>hL z.2) λk hk ar hv=>?_;subst ar;refine d9 (n:=iG) (b9 (i.K.bi rfl) rfl (aB n_ aL) (oS (.own J3.C) (by rw[aI _];exact bf bw (by unfold aZ;exact bj)))) (a_ n_ J3.it.w.tb.tb) (b9 (i.K.ref rfl) (i.K.keep rfl) (aB n_ aL) O0.cp) J4.it.jY (by rw[Kj,aI _];exact bw) ?_ (by rw[rj];rfl);refine fF (de n_ (ga (n:=gQ) ((aq aV).trans J4.C)) ir (aB n_ aL) (fU (n:=gQ) ((aq aV).trans J4.C) (by rw[aI _];exact bw))) ?_;refine aH (bN (fin (P++[(k,L)]) c' (M+2) _ _ (J4.add i8 (pn (pn hk)) (O'▸(lE (au _) k [] (pn hk)).trans ((lE (au _) k [] hk).trans hv):h4 (gN k)=aa (.list (L.map ba))) S2) (by rw[cT];exact bT _) (i6 _ hp) (by rw[←O'];exact Am) (FT (fr:=[]))).1)
variable{kk:List (List bI)}
theorem Uc {pos:Pos} {n:Nm} {P:QV} (a:EP i fr h e P) (hn:∀v ag,P v ag→ag n=af) (ok:autoParam (iJ e=ab) bn):EP i fr h (.List [e] pos) (λv h'=>∃u ag,P u ag∧v=.ref n∧h'=ag.set n (.list [u])):=
 ⟨λfr' s Q X hq=>list (u7 rfl) (tA (a.run fr' s _ _ λv ag hp=>tC (rt rfl n (hn v ag hp) (hq _ _ (mB v ag hp rfl rfl)))) ok)⟩
theorem cX.clo {J:List aF} {ad:List Nat} (W:cX R U c N h) (C:yT R c N h I v h' J ad):cX R U (c+1) (N+1) h':=
 ⟨C.tb,W.ca.imp λT ⟨es,X⟩=>⟨es,X.mono (λk l hk=>C.same _ _ bJ bJ λe=>by have:=my e;exact dp ‹_› ‹_›) (bT _) (λl=>C.same _ _ bJ bJ (mz bJ)) (C.same _ _ bJ bJ (mz bJ))⟩,W.hU⟩
theorem yT.kq {J:List aF} {ad:List Nat} (C:yT R c N h I v h' J ad):Kq [10,30] N h h':=
 ⟨λk l hk=>C.same k l (iy hk rfl) (iy hk rfl) λe=>by injection e with e;exact iy hk (a:=99) rfl e,λk l hk=>C.same _ _ bJ bJ λe=>by have:=my e;exact dp ‹_› ‹_›⟩
theorem Xh {n:Nat} (g:GR R) (it:uZ R h) (ok:∀q∈L,cY R q) (hL:h (gN k)=aa (.list (L.map ba))) (h0:h (ig n)=af)
  (fin:∀es,io es→SS (u4 i b) (oI n k) (h.set (ig n) (.dict es)) ((eu (stN (bc 354) 4)).drop 4::kk) Q):
  SS (u4 i b) (oI n k) (h.set (ig n) (.dict [])) ((eu (stN (bc 354) 4)).drop 3::kk) Q:=by
 have yl:∀(es:b8) q,cY R q→(h.set (ig n) (.dict es)) (bk q)=aa (.inst 135 (dW R q))∧(h.set (ig n) (.dict es)) (.mk 42 [q.1])=aa (.list ((p7 R q.1).map .str)):=λes q hq=>⟨(it q hq).1,(it q hq).2.2⟩;refine eo (σ:=b8) (λ_=>oI n k) (λes=>h.set (ig n) (.dict es)) (λes _=>io es) [] (L.map ba) (d7 (n:=gN k) n_ hL) ⟨.nil,λ_ h=>by exact cS h⟩ .rfl (λes j _=>d6 (n:=gN k) hL) (λes j v A e=>?_) λes A=>aH (fin es A);refine aj (dH e) λq hq ar=>?_;subst ar;have Q1:=yl es q (ok q (bQ hq));refine dV (eo (σ:=b8) (λ_=>oI n k) (λes=>h.set (ig n) (.dict es)) (λes _=>io es) es ((p7 R q.1).map .str) (d7 (a_ (n:=bk q) n_ Q1.1) Q1.2) A (ai (ai (ai (ai (ai bt))))) (λes' j _=>d6 (yl es' q (ok q (bQ hq))).2) (λes' j' v' A' e'=>?_) λes' A'=>aH (aH (bN (LQ.next es' A' .rfl))));refine aj (dH e') λs hs ar=>?_;subst ar;refine dV (d9 (n:=ig n) kJ n_ n_ aR (by have:=A'.len;unfold aZ;exact ah ‹_› aJ) ?_);exact aH (bN (LQ.next (bl es' (.str s) .none) (A'.put (g.p7 (bQ hs))) (ai (ai (ai (ai (ai bt))))) (iD.symm)))
theorem S7 {gf:SF} (hb:i.b=b+3) (g:GR R) (B3:gG R ⊆ U) (W:cX R U c N h) (FK:h iG=aa (.dict [])) (nN:h aX=aa (.inst 283 gf)) (hP:gf.lookup ("Productions":Str)=aa (.ref (.mk 35 [])))
  (hl:h (.mk 35 [])=aa (.list ((bq R.length).map bB))) (hC:h gQ=af) (hA:∀j,h (ig j)=af):FP i h (.glob 354) [.ref dg] (λv h'=>v=.ref gQ∧∃P n c' N',lv R U N h ⟨P,n,c',N',h'⟩):=by
 refine enter i.K.items LO w_it hb rfl ?_;have hU:=W.hU;refine aj (W.tb.pr 0 g.pos) λx px AN=>?_;have p0:((bq R.length).map bB)[0]? =aa (bB 0):=by
  rw[dq,wY g.pos];rfl
 refine ku (Uc (n:=gQ) (de n_ (iL W.tb.tb rfl) (i.K.keep rfl) (aB (ey (n:=gN N) (aB (a_ (n:=bh 0) (mM (j:=0) (a_ (n:=aX) (a_ n_ W.tb.tb) nN hP) bG (.own hl) bj p0) px) aL) W.tb.free.at) aL) (Bv (I:=[(0,0)]) (b:=b+1) rfl W.tb.g aR (λq hq=>by rw[bU.mp hq];exact⟨g.pos,cb _⟩) aJ).cp) ?_) ?_
 ·rintro v h1 ⟨J,ad,C⟩
  exact(C.same 56 [] bJ bJ (mz bJ)).trans hC
 rintro v h2 ⟨u,h1,⟨J,ad,C⟩,rfl,rfl⟩;have K1:Kq q_ N h h1:=(Kq.new (au _)).trans (C.kq.mono) (bT _);have S0:St R J:=⟨[(0,0)],by exact Il _ _,.inr ⟨by exact Il _ _,ad,C.clo⟩,.inl rfl⟩;have l0:=S0.len g;obtain rfl:=C.v;have W2:cX R U (c+1) (N+2) (h1.set gQ (.list [.ref (gN (N+1))])):=(W.new.clo C:cX R U (c+1) (N+2) h1).set;have G6:(h1.set gQ (.list [.ref (gN (N+1))])) (gN (N+1))=aa (.list (J.map ba)):=C.list;generalize rN:h1.set gQ (.list [.ref (gN (N+1))])=h2 at W2 G6 ⊢;have Ah:h2 gQ=aa (.list [.ref (gN (N+1))]):=rN▸aR;refine bO bG ?_;refine eo (σ:=Nat) (λs=>[("self",.ref dg),("C",.ref gQ),("i",.int s)]) (λs=>if s=0 then h2 else(h2.bX (N+2) (eO (N+2) J h2)).set iG (.dict [(df J,.int 0)])) (λs j=>s=j) 0 [.ref (gN (N+1))] (d7 n_ Ah) rfl (ai (ai (ai bt))) (λs j e=>?_) (λs j v e ev=>?_) (λs e=>?_)
 ·refine d6 (n:=gQ) ?_
  split
  ·exact Ah
  ·exact Ah
 ·subst e
  match s,ev with
  |0,ev=>
   (first|exact a8 ev|obtain rfl:=aU ev)
   refine dV (d9 (n:=iG) (es:=[]) n_ (a_ n_ W2.tb.tb) (b9 (i.K.ref rfl) (i.K.keep rfl) (aB n_ aL) (td (b:=b+1) rfl (.inr (aT _ rfl G6)) (S0.ok g) W2.tb.it W2.tb.free (ah ‹_› aJ)).cp) (rN▸(aq aV).trans ((K1.1 33 []|> λ_=>(C.same 33 [] bJ bJ (mz bJ))).trans FK):h2 iG=aa (.dict [])) (cb _) ?_ (by rw[rj];rfl));exact yn rfl bG wB (aH (bN (LQ.next 1 rfl (ai (ai (ai bt))))))
 ·obtain rfl:s=1:=e
  refine aH (bO bG ?_);have J0:lv R U N h ⟨[(N+1,J)],0,c+1,N+3,(h2.bX (N+2) (eO (N+2) J h2)).set iG (.dict [(df J,.int 0)])⟩:=by
   refine⟨⟨W2.bX.set,(show((h2.bX (N+2) (eO (N+2) J h2)).set iG (.dict [(df J,.int 0)])) iG=aa (.dict [(df J,.int 0)]) from aR),kf _ _,λp hp=>?_,B3⟩,Ah,λj _=>?_,(((rN▸K1.trans (M:=N+2) Kq.set (b7 _ _):Kq q_ N h h2).trans (M:=N+2) (.bX (au _)) (b7 _ _)).trans (M:=N+3) Kq.set (b7 _ _)),(b7 _ _:N≤N+3),⟨N+1,J,[],rfl,(.inr (Au (Il _ _) ad C.clo))⟩⟩
   ·rw[bU.mp hp]
    exact(cI (by show N+1<N+3;exact bT _) ((lE (au _) (N+1) [] (dm _)).trans G6) S0)
   ·show h2 (ig j)=af
    rw[←rN];exact(C.same 57 [j] bJ bJ (mz bJ)).trans (hA j)
  generalize (h2.bX (N+2) (eO (N+2) J h2)).set iG (.dict [(df J,.int 0)])=h3 at J0;refine rR (σ:=IS) Ug IS.h (λs m=>m+s.n=U.length+1∧s.n≤s.P.length∧lv R U N h s) ⟨[(N+1,J)],0,c+1,N+3,h3⟩ (U.length+1) (cI rfl (cb _) J0) (ai (ai (ai bt))) ?_;rintro s m ⟨hm,hn,Js⟩;have bw:=Js.it.bw hU;refine(mB _ s.h (bv n_ (b9 (i.K.bi rfl) rfl (aB n_ aL) (oS (.own Js.C) (by rw[aI _];exact bf bw (bf hU bj)))) y5) (λe=>?_) (λe=>?_))
  ·exact aH (gv n_ ⟨rfl,s.P,s.n,s.c,s.N,Js⟩)
  ·have e:s.n<s.P.length:=by
    have:=fD e;rw[aI] at this;exact h9.mp this
   obtain⟨p,hp⟩:∃p,s.P[s.n]? =aa p:=⟨_,fb e⟩;have Pl:=bQ hp;have E:=Js.it.each p Pl;refine bO (v:=oF p) (mM (j:=s.n) n_ n_ (.own Js.C) (bK e (ah bw (ah hU aJ))) (by rw[dq,hp];rfl)) ?_;refine yn rfl bG wB ?_;refine bO (gZ (Js.A s.n (au _))) ?_;refine SS.sub (d_:=oI s.n p.1) ?_ (ai (ai (ai (ai (ai bt)))));refine Xh (b:=b) g Js.it.w.tb.it (E.2.2.ok g) E.2.1 (Js.A s.n (au _)) λes A=>?_;have kA:=A.str;have h7:=A.len;have J1:lv R U N h ⟨s.P,s.n+1,s.c,s.N,s.h.set (ig s.n) (.dict es)⟩:=
    ⟨⟨Js.it.w.set,Js.it.jY,Js.it.nd,λp hp=>(cI ((Js.it.each p hp).1) ((Js.it.each p hp).2.1) ((Js.it.each p hp).2.2)),B3⟩,Js.C,λj hj=>(aq λe=>by injection e with _ e;injection e with e;have:s.n+1≤j:=hj;exact dF ‹_› ‹_›).trans (Js.A j (ah (bT _) hj)),Js.kq.trans (M:=s.N) Kq.set Js.le,Js.le,Js.first⟩
   refine A9 (σ:=IS) (λ_=>oI s.n p.1) IS.h (λt j m=>j+m=es.length∧lv R U N h ⟨t.P,s.n+1,t.c,t.N,t.h⟩∧p∈t.P∧t.h (ig s.n)=aa (.dict es)∧s.n<t.P.length) ⟨s.P,0,s.c,s.N,s.h.set (ig s.n) (.dict es)⟩ es.length (uI n_ aR kA) (t8 (mP _) J1 Pl aR e) .rfl ?_;rintro t j m2 ⟨hj,Jt,Ψ,ht,hlt⟩;refine(cL _ (uM ht kA) (λ_=>?_) (λv ev=>?_))
   ·exact aH (aH (bN (LQ.next ⟨t.P,s.n+1,t.c,t.N,t.h⟩ (ik (m-1) (J9 hm (bK e (c7 bw))) (Nu hm (bK e (c7 bw))) hlt Jt) (ai (ai (ai bt))))))
   ·have ii:=(cU.mp ev).1
    rw[aI] at ii;refine aj (A.2 v (bQ ev)) λx hx ar=>?_;subst ar;refine dV (aed (b:=b) g hU Jt Ψ hx ht λP' c' N' h' fr J' BY bY jP sb=>?_);have lt':s.n<P'.length:=bK hlt BY;exact⟨LQ.next ⟨P',0,c',N',h'⟩ (xg (m2-1) (CV hj ii) (Cs hj ii) J' bY jP lt') sb,LQ.cont ⟨P',0,c',N',h'⟩ (xg (m2-1) (CV hj ii) (Cs hj ii) J' bY jP lt') sb⟩
theorem Sb {x y:Str} {p q tp pos:Pos} {k:Nat} {e:Expr} {Q:QS} {X:d0} (hq:F.q=ab) (hx:pE F x=ab) (hy:pE F y=ab)
  (hs:∀ae:Env,ae.scope=F.sc→De [.Tuple [.Name x p,.Name y q] k tp] e pos.line ae=pure an) (hw:∀ae:Env,ae.scope=F.sc→wP [.Tuple [.Name x p,.Name y q] k tp] e ae=pure (aa [x,y]))
  (w:WE G F b fr h e (λv ag=>∃u u',v=.tup [u,u']∧Q .next ((fr.put y u').put x u) ag) (λx h=>X x fr h)):WS G F b fr h (.Assign [.Tuple [.Name x p,.Name y q] k tp] e pos) Q X:=by
 refine .mk ?_;intro own ae A P m s Q' E' R c d;refine Assign_Tuple_swapped (names:=[x,y]) (w.run own ae A P m s _ _ R (λv ag v' a5 bW bV Lq hP hm hv a7=>?_) d.jW) (hs ae R.f.sc) (hw ae R.f.sc);refine eA Lq λu u' ar hQ=>?_;clear Lq;subst ar;obtain⟨a,o,items,n,rfl,hp,h1,h2,h3⟩:=hv;refine bM (a7.rn hp) λo' e1 e2 e3=>?_;obtain⟨v1,r1,e4,D3,v2,r2,rfl,Gf,rfl⟩:=h3;have hz:[x,y].length=items.size:=by rw[←fQ,e4];rfl
 rw[hz];refine unpackItems_tuple (a7.quiet hq) ⟨o',e1,by rw[e2,h1],n,by rw[e3,h2]⟩ λhh he=>?_;rw[e4];refine PG (bindName_ (B6 (a7.grow (s':={a5 with heap:=hh}) (λa o e=>he a o (dp (jF e)) e) rfl rfl) Gf hy λef cV=>?_));refine PG (bindName_ (B6 cV D3 hx λnr fY=>?_));exact ae1 (c _ _ _ _ _ _ _ hQ hP hm rfl fY)
variable{k:List (List bI)}
theorem Ak {x y:Str} {p q tp pos:Pos} {n:Nat} (a:EV i fr h e (.tup [u,w]) ag) (b:SS i ((fr.put x u).put y w) ag (rest::k) Q) (ok:autoParam ((i.l.contains x && i.l.contains y && iq e)=ab) bn):SS i fr h ((.Assign [.Tuple [.Name x p,.Name y q] n tp] e pos::rest)::k) Q:=by
 simp only[bR] at ok;exact fM (sV _ a.ep (λv' aC e fr' s Q' hq=>by refine xA e λcP bu=>?_;clear e;subst cP;subst bu;exact GK i.q (λ_=>rfl) rfl (oT i.V (oT i.V (hq _ _ (b.run _ ((s.put _ _).put _ _))) ok.1.2) ok.1.1)) (by rw[ok.2];rfl))
theorem ZP {x y:Str} {p q tp pos:Pos} {n:Nat} (a:EV i fr h e (.tup [u,w]) ag) (b:SS i ((fr.put y w).put x u) ag (rest::k) Q) (hs:∀ae:Env,ae.scope=i.F.sc→De [.Tuple [.Name x p,.Name y q] n tp] e pos.line ae=pure an)
  (hw:∀ae:Env,ae.scope=i.F.sc→wP [.Tuple [.Name x p,.Name y q] n tp] e ae=pure (aa [x,y])) (ok:autoParam ((i.l.contains x && i.l.contains y)=ab) bn):SS i fr h ((.Assign [.Tuple [.Name x p,.Name y q] n tp] e pos::rest)::k) Q:=by
 rw[bR] at ok;exact fM ⟨λfr' s Q' hq=>Sb i.q (ck.v i.V ok.1).2.1 (ck.v i.V ok.2).2.1 hs hw (a.run fr' s _ _ (zp u w rfl (hq _ _ .next (b.run _ ((s.put _ _).put _ _)))))⟩
theorem SF.sub.b_ {d_ fr:SF} (s:d_.sub fr) {x:Str} {v:SV} (hx:autoParam (d_.lookup x=af) dI):d_.sub (fr.put x v):=λy u e=>by
 rw[gi,aK (λz=>by subst z;rw[hx] at e;exact a8 e)];exact s y u e
theorem JF {n:Nm} {fs:SF} (hn:h n=aa (.inst 100 fs)) (hf:fs.lookup ("reduced":Str)=af∨∃k,fs.lookup ("reduced":Str)=aa (.int k)):∃k,OV i h [.ref n] (mF λx=>mT x "reduced" ab) (.int k) h:=by
 rcases hf with hf|⟨k,hf⟩
 ·exact⟨0,⟨λfr' Q X hq=>Ku i.K rfl hn hf hq⟩⟩
 ·exact⟨k,Oc hn hf⟩
theorem Fc (hu:u=w) (ok:autoParam ((SV.data 6 u && SV.data 6 w)=ab) bn):OV i h [u,w] (bx (cZ .NotEq)) (.bool an) h:=by
 have:=Kv (i:=i) (h:=h) ok
 rwa [eP hu] at this
theorem Jo (hu:u≠w) (ok:autoParam ((SV.data 6 u && SV.data 6 w)=ab) bn):OV i h [u,w] (bx (cZ .NotEq)) (.bool ab) h:=by
 have:=Kv (i:=i) (h:=h) ok
 rwa [iZ hu] at this
theorem Wi {n m:Int} {pos:Pos} (a:EV i fr h e (.int n) ag) (hm:m=-n):EV i fr h (.UnaryOp .USub e pos) (.int m) ag:=hm▸Ct a
variable{a:Int}
theorem Cp (z:a > c):OV i h [.int a,.int c] (bx (cZ .Gt)) (.bool ab) h:=eP z▸JU
theorem xC (z:¬a > c):OV i h [.int a,.int c] (bx (cZ .Gt)) (.bool an) h:=iZ z▸JU
theorem Nj (z:a<c):OV i h [.int a,.int c] (bx (cZ .Lt)) (.bool ab) h:=eP z▸y5
theorem ZA (z:¬a<c):OV i h [.int a,.int c] (bx (cZ .Lt)) (.bool an) h:=iZ z▸y5
theorem Jv (z:a≥c):OV i h [.int a,.int c] (bx (cZ .GtE)) (.bool ab) h:=eP z▸Hc
theorem Mz (z:¬a≥c):OV i h [.int a,.int c] (bx (cZ .GtE)) (.bool an) h:=iZ z▸Hc
theorem ti {es:b8} {k v:SV}:(bl es k v).length≤es.length+1:=by
 induction es with
 |nil=>exact au _
 |cons p r ih=>
  obtain⟨a,c⟩:=p;show(if _ then _ else _:b8).length≤_
  split
  ·exact bT _
  ·exact eE ih
variable{s:Str} {k m:Nat} {fu fK:b8}
noncomputable def pI:SF:=[("Productions",.ref (.mk 35 [])),("Prodnames",.ref (.mk 36 [])),("Prodmap",.ref (.mk 37 [])),("Terminals",.ref (.mk 38 [])),("Nonterminals",.ref (.mk 39 [])),("First",.ref (.mk 45 [])),("Follow",.ref (.mk 46 [])),("Precedence",.ref (.mk 49 [])),("UsedPrecedence",.ref (.mk 50 [])),("Start",.str "S")]
noncomputable def dY:List Str:=["a","b","error"]
noncomputable def j6:List Str:=["a","b","error","$end"]
structure iV (R:bp) (h:SH):Prop where
 gr:h aX=aa (.inst 283 pI)
 fk:h (.mk 35 [])=aa (.list ((bq R.length).map bB))
 term:∃es,h (.mk 38 [])=aa (.dict es)∧∀s,(es.lookup (.str s)).isSome=dY.contains s
 iu:∃es,h (.mk 39 [])=aa (.dict es)∧∀s,(es.lookup (.str s)).isSome=pO s
 nz:∃es,h (.mk 46 [])=aa (.dict es)∧∀s,pO s=ab→es.lookup (.str s)=aa (.ref (.mk 48 [sym s]))∧∃fs:List Str,h (.mk 48 [sym s])=aa (.list (fs.map .str))∧fs.Nodup∧∀f∈fs,f∈j6
 prec:h (.mk 49 [])=aa (.dict [])
noncomputable def rx:List Nat:=[34,35,38,39,46,48,49]
theorem iV.same (g:iV R h) (e:∀k l,rx.contains k=ab→h' (.mk k l)=h (.mk k l)):iV R h':=
 ⟨(e _ _ rfl).trans g.gr,(e _ _ rfl).trans g.fk,aj g.term λes a b=>⟨es,(e _ _ rfl).trans a,b⟩,aj g.iu λes a b=>⟨es,(e _ _ rfl).trans a,b⟩,
  aj g.nz λes a b=>⟨es,(e _ _ rfl).trans a,λs hs=>l_ (b s hs) λp fs q r=>⟨p,fs,(e _ _ rfl).trans q,r⟩⟩,(e _ _ rfl).trans g.prec⟩
theorem iV.kq {B:List Nat} (g:iV R h) (kq:Kq B N h h') (hB:autoParam ((rx.all λk=>!(99::B).contains k)=ab) bn):iV R h':=
 g.same λk l hk=>kq.1 k l (mx (e9.mp hk) hB)
theorem iV.set {l:List Nat} {o:cy} (g:iV R h) (hk:autoParam (rx.contains k=an) dI):iV R (h.set (.mk k l) o):=
 g.same λk' l' dX=>aq λe=>by injection e with e;subst e;rw[hk] at dX;exact cJ dX
noncomputable def vJ:List Nat:=[10,30,31,32,33,51,52,54,55,56,57,61,62,63,64,65]
structure cr (R:bp) (U:List (List aF)) (P:List (Nat×List aF)) (aN:Nat) (aA:SH) (st m:Nat) (c:Int) (N:Nat) (h:SH):Prop where
 it:sE R U c N h P
 C:h gQ=aa (.list (P.map oF))
 gr:iV R h
 kq:Kq vJ aN aA h
 le:aN≤N
 ap:∃es,h (.mk 65 [])=aa (.dict es)∧es.length≤st
 ac:∃es,h (.mk 51 [])=aa (.dict es)∧es.length≤st
 go:∃es,h (.mk 52 [])=aa (.dict es)∧es.length≤st
 sr:∃vs,h (.mk 54 [])=aa (.list vs)∧vs.length≤m
 rr:∃vs,h (.mk 55 [])=aa (.list vs)∧vs.length≤m
 first:∃k L0 r,P=(k,L0)::r∧dE R [(0,0)] L0
 fresh:∀k∈([61,62,63,64]:List Nat),∀j,st<j→h (.mk k [j])=af
variable{aN st:Nat} {aA:SH}
theorem kB {k a:Nat} {l l':List Nat} {B:List Nat} (hk:k∈B) (ha:autoParam (B.contains a=an) dI):Nm.mk k l≠Nm.mk a l':=λe=>by
 injection e with e;subst e;rw[e9.mpr hk] at ha;exact iQ ha
theorem cr.yg {B:List Nat} (p:cr R U P aN aA st m c N h) (W:cX R U c' M h') (kq:Kq B N h h') (le:N≤M) (hB:(B.all (99::vJ).contains && ((33::51::52::54::55::56::65::rx).all λk=>!(99::B).contains k))=ab)
  (hf:∀k∈([61,62,63,64]:List Nat),∀j,st<j→h' (.mk k [j])=af):cr R U P aN aA st m c' M h':=by
 rw[bR] at hB;have f:∀{k l},(33::51::52::54::55::56::65::rx).contains k=ab→h' (.mk k l)=h (.mk k l):=λ{k l} hk=>kq.1 k l (mx (e9.mp hk) hB.2);have e:=p.it;exact⟨⟨W,(f (k:=33) rfl).trans e.jY,e.nd,λq hq=>(cI (bK (e.each q hq).1 le) ((kq.2 q.1 [] (e.each q hq).1).trans (e.each q hq).2.1) ((e.each q hq).2.2)),e.hU⟩,(f (k:=56) rfl).trans p.C,p.gr.same λk l hk=>f (by simp only[wX,hk,HI]),p.kq.trans (kq.mono hB.1) p.le,ah p.le le,
  p.ap.imp λes q=>⟨(f rfl).trans q.1,q.2⟩,p.ac.imp λes q=>⟨(f rfl).trans q.1,q.2⟩,p.go.imp λes q=>⟨(f rfl).trans q.1,q.2⟩,p.sr.imp λes q=>⟨(f rfl).trans q.1,q.2⟩,p.rr.imp λes q=>⟨(f rfl).trans q.1,q.2⟩,p.first,hf⟩
theorem cr.move {B:List Nat} (p:cr R U P aN aA st m c N h) (W:cX R U c' M h') (kq:Kq B N h h') (le:N≤M) (hB:autoParam ((B.all (99::vJ).contains && ((33::51::52::54::55::56::65::rx).all λk=>!(99::B).contains k))=ab) bn)
  (hF:autoParam ((([61,62,63,64]:List Nat).all λk=>!(99::B).contains k)=ab) bn):cr R U P aN aA st m c' M h':=
 p.yg W kq le hB λk hk j hj=>(kq.1 k [j] (mx hk hF)).trans (p.fresh k hk j hj)
theorem cr.iF {o:cy} (p:cr R U P aN aA st m c N h) (hk:autoParam (([61,62,63,64]:List Nat).contains k=ab) bn):cr R U P aN aA st m c N (h.set (.mk k [st]) o):=by
 have hf:∀k'∈([61,62,63,64]:List Nat),∀j,st<j→(h.set (.mk k [st]) o) (.mk k' [j])=af:=λk' dX j hj=>(aq λe=>by injection e with _ e;injection e with e;exact dF ‹_› ‹_›).trans (p.fresh k' dX j hj);have:k=61∨k=62∨k=63∨k=64:=by simpa using hk
 rcases this with rfl|rfl|rfl|rfl
 ·exact p.yg (B:=[61]) p.it.w.set .set (au _) rfl hf
 ·exact p.yg (B:=[62]) p.it.w.set .set (au _) rfl hf
 ·exact p.yg (B:=[63]) p.it.w.set .set (au _) rfl hf
 ·exact p.yg (B:=[64]) p.it.w.set .set (au _) rfl hf
theorem cr.up {m':Nat} (p:cr R U P aN aA st m c N h) (hm:m≤m'):cr R U P aN aA st m' c N h:=
 {p with sr:=p.sr.imp λ_ q=>⟨q.1,ah q.2 hm⟩,rr:=p.rr.imp λ_ q=>⟨q.1,ah q.2 hm⟩}
theorem cr.Kz {vs:List SV} (p:cr R U P aN aA st m c N h) (hv:h (.mk 54 [])=aa (.list vs)):cr R U P aN aA st (m+1) c N (h.set (.mk 54 []) (.list (vs++[v]))):=by
 obtain⟨a6,e,hl⟩:=p.sr;rw[hv] at e;cases e;exact⟨⟨(p.it.w.set:cX R U c N (h.set (.mk 54 []) (.list (vs++[v])))),p.it.jY,p.it.nd,p.it.each,p.it.hU⟩,p.C,p.gr.set,p.kq.trans (M:=N) .set p.le,p.le,p.ap,p.ac,p.go,(aT _ aR (by rw[cT];exact eE hl)),p.rr.imp λ_ q=>⟨q.1,c7 q.2⟩,p.first,λk hk j hj=>(aq (kB hk)).trans (p.fresh k hk j hj)⟩
theorem cr.WZ {vs:List SV} (p:cr R U P aN aA st m c N h) (hv:h (.mk 55 [])=aa (.list vs)):cr R U P aN aA st (m+1) c N (h.set (.mk 55 []) (.list (vs++[v]))):=by
 obtain⟨a6,e,hl⟩:=p.rr;rw[hv] at e;cases e;exact⟨⟨(p.it.w.set:cX R U c N (h.set (.mk 55 []) (.list (vs++[v])))),p.it.jY,p.it.nd,p.it.each,p.it.hU⟩,p.C,p.gr.set,p.kq.trans (M:=N) .set p.le,p.le,p.ap,p.ac,p.go,p.sr.imp λ_ q=>⟨q.1,c7 q.2⟩,(aT _ aR (by rw[cT];exact eE hl)),p.first,λk hk j hj=>(aq (kB hk)).trans (p.fresh k hk j hj)⟩
theorem gV.tH {x:SF} (L:gV c x) (k:Int):gV c (x.put "reduced" (.int k)):=by
 have e1:(x.put "reduced" (.int k)).lookup ("reduced":Str)=aa (.int k):=by rw[gi,aO rfl]
 have e2:(x.put "reduced" (.int k)).lookup ("lr0_added":Str)=x.lookup ("lr0_added":Str):=by rw[gi,aK aV]
 refine⟨?_,by rw[e2];exact L.add,.inr ⟨k,e1⟩⟩;have:=L.len;rw[FV _ _ _,e1,e2];revert this
 cases(x.lookup ("reduced":Str)).isSome
 ·exact λq=>eE q
 ·exact λq=>q
theorem cX.tH {j:Nat} {x:SF} (W:cX R U c N h) (L:gV c x):cX R U c N (h.set (bh j) (.inst 100 (gc R j++x))):=
 ⟨⟨W.tb.free.same λ_ _ _=>rfl,W.tb.it,λj' fj=>by
  by_cases e:j'=j
  ·subst e;exact(aT x aR L)
  ·refine aj (W.tb.pr j' fj) λx' a l=>?_
   exact(aT x' ((aq λz=>by injection z with _ z;injection z with z;exact e z).trans a) l),W.tb.tb,W.tb.hc,W.tb.hR,W.tb.hr⟩,W.ca.imp λT ⟨es,C⟩=>⟨es,C.mono (λ_ _ _=>rfl) (au _) (λ_=>rfl) rfl⟩,W.hU⟩
theorem cr.tH {j:Nat} {x:SF} (p:cr R U P aN aA st m c N h) (L:gV c x):cr R U P aN aA st m c N (h.set (bh j) (.inst 100 (gc R j++x))):=
 p.move (B:=[10]) (p.it.w.tH L) .set (au _)
def Gg (R:bp) (S:List (List aF)) (L:List aF) (s:Str) (v:SV):Prop:=
 (∃n:Nat,0<n∧n<R.length∧v=.int (-(n:Int)))∨∃(j:Nat) (L':List aF),0<j∧v=.int j∧dE R (cF R L s) L'∧(fL 0 S).lookup (df L')=aa (.int j)
structure kI (R:bp) (S:List (List aF)) (L:List aF) (fu fK:b8):Prop where
 nd:(fu.map (·.1)).Nodup
 ze:(fK.map (·.1)).Nodup
 key:∀k v,fu.lookup k=aa v→∃s∈j6,k=.str s∧(L=[(0,1)]∨Gg R S L s v)
 pk:∀k v,fu.lookup k=aa v→L=[(0,1)]∨∃q,cY R q∧fK.lookup k=aa (ba q)
 xY:∀k∈fK.map (·.1),∃s∈j6,k=.str s
variable{S:List (List aF)}
theorem yk {es:b8} (nd:(es.map (·.1)).Nodup) (h:∀k∈es.map (·.1),∃s∈j6,k=.str s):es.length≤4:=by
 have:=fO nd (l₂:=j6.map SV.str) λk hk=>by refine aj (h k hk) λx hx e=>?_;exact bD.mpr (aT x hx e.symm)
 rwa [aI] at this
theorem kI.bw (a:kI R S L fu fK):fu.length≤4:=yk a.nd λk hk=>by
 cases e:fu.lookup k with
 |none=>exact bd hk (lB.mp e)
 |some v=>refine bM (a.key k v e) λs h1 h2 _=>?_;exact(aT s h1 h2)
theorem kI.put {q:aF} (a:kI R S L fu fK) (hs:s∈j6) (hv:L=[(0,1)]∨Gg R S L s v) (hq:cY R q):kI R S L (bl fu (.str s) v) (bl fK (.str s) (ba q)):=by
 refine⟨oq a.nd,oq a.ze,λk w e=>?_,λk w e=>?_,λk hk=>?_⟩
 ·rw[ft] at e
  split at e
  ·next z=>obtain rfl:=aU e;exact(cL s hs z hv)
  ·exact a.key k w e
 ·rw[ft] at e
  split at e
  ·next z=>obtain rfl:=aU e;exact .inr (aT q hq (by rw[ft _,aO z]))
  ·next z=>exact(a.pk k w e).imp id λ⟨q,hq,z'⟩=>⟨q,hq,by rw[ft _,aK z];exact z'⟩
 ·rcases(wD k).mp hk with rfl|hk
  ·exact(aT s hs rfl)
  ·exact a.xY k hk
theorem kI.nil:kI R S L [] []:=⟨.nil,.nil,λ_ _ e=>(by(first|exact a8 e|obtain rfl:=aU e)),λ_ _ e=>(by(first|exact a8 e|obtain rfl:=aU e)),λ_ e=>(cS e)⟩
variable{q:aF}
noncomputable def J8:List Str:=["self","Productions","Precedence","goto","action","actionp","C","st","I","st_action","st_actionp","st_goto","p","laheads","a","r","sprec","slevel","rprec","rlevel","oldp","pp","chosenp","rejectp","i","g","j","nkeys","ii","s","n"]
theorem OT:ck (bE 424) J8=ab:=by kernel_rfl
theorem w_pt:cW (bE 424) ["_place"]=ab:=by kernel_rfl
noncomputable def mi (i:FI) (b:Nat):FI:=i.fn (b+3) 424 J8 ["_place"] OT w_pt
noncomputable def vN:List bI:=eu (stN (bc 424) 8)
noncomputable def Nw:bI:=stN (eu (stN vN 3)) 0
noncomputable def ptR:List bI:=xz (stN (eu Nw) 0)
noncomputable def MM:List bI:=eu (stN ptR 1)
noncomputable def ptS:List bI:=xz Nw
noncomputable def ff (st:Nat):Nm:=.mk 61 [st]
noncomputable def fy (st:Nat):Nm:=.mk 62 [st]
noncomputable def jk (st:Nat):Nm:=.mk 63 [st]
noncomputable def vD (st k:Nat):SF:=[("self",.ref dg),("Productions",.ref (.mk 35 [])),("Precedence",.ref (.mk 49 [])),("goto",.ref (.mk 52 [])),("action",.ref (.mk 51 [])),("actionp",.ref (.mk 65 [])),("C",.ref gQ),("st",.int st),("I",.ref (gN k)),("st_action",.ref (ff st)),("st_actionp",.ref (fy st)),("st_goto",.ref (jk st))]
noncomputable def sF (st k:Nat) (q:aF):SF:=(vD st k).put "p" (ba q)
theorem az {k k':Nat} {l l':List Nat} (h:autoParam ((k==k')=an) dI):Nm.mk k l≠Nm.mk k' l':=λe=>by injection e with e;exact kW.mp h e
theorem CE {j:Nat} (hj:j<R.length):((bq R.length).map bB)[j]? =aa (bB j):=by rw[dq,wY hj];rfl
theorem Xu (g:GR R) (p:cr R U P aN aA st m c N h) (a:kI R (P.map (·.2)) L fu fK) (h1:h (ff st)=aa (.dict fu)) (h2:h (fy st)=aa (.dict fK)) (hq:cY R q) (hn:0<q.1) (hs:s∈j6) {v0:SV}
  (fin:∀rH qZ h' fr,cr R U P aN aA st (m+1) c N h'→kI R (P.map (·.2)) L rH qZ→h' (ff st)=aa (.dict rH)→h' (fy st)=aa (.dict qZ)→Kq [10,54,55,61,62] N h h'→(sF st k q).sub fr→Q .next fr h'):
  SS (mi i b) (((sF st k q).put "a" (.str s)).put "r" v0) h [xz (stN MM 1),[]] Q:=by
 refine d9 (v:=.int (-(q.1:Int))) (n:=ff st) (Ct (a_ (n:=bk q) n_ ((p.it.w.tb.it q hq).1))) n_ n_ h1 (by have:=a.bw;unfold aZ;exact ah ‹_› aJ) ?_;refine d9 (v:=ba q) (n:=fy st) (es:=fK) n_ n_ n_ h2 (by have:=yk a.ze a.xY;unfold aZ;exact ah ‹_› aJ) ?_;have p2:cr R U P aN aA st m c N ((h.set (ff st) (.dict (bl fu (.str s) (.int (-(q.1:Int)))))).set (fy st) (.dict (bl fK (.str s) (ba q)))):=cr.iF (k:=62) (cr.iF (k:=61) p);refine aj (p2.it.w.tb.pr q.1 hq.1) λx hx AN=>?_;refine xE (JF (i:=mi i b) hx (AN.red.imp (λe=>e) (λ⟨k,e⟩=>⟨k,e⟩))) λkr hr=>?_;refine DZ (n:=bh q.1) (mM (j:=q.1) n_ (a_ (n:=bk q) n_ (p2.it.w.tb.it q hq).1) (.own p2.gr.fk) (by have:=g.len;have:=hq.1;exact i2 (bK ‹_› ‹_›) bj) (CE hq.1)) hx hr bG wB hx AN.le ?_;exact aH (aH (bN (fin _ _ _ _ ((p2.tH (AN.tH _)).up (bT _)) (a.put hs (.inr (.inl (cL q.1 hn hq.1 rfl))) hq) ((aq az).trans ((aq az).trans aR)) ((aq az).trans aR) (((Kq.set (k:=61)).trans (Kq.set (k:=62)) (au _)).trans (Kq.set (k:=10)) (au _)) ((SF.sub.rfl.b_).b_))))
theorem kw {j:Nat} {e:Expr} {pos:Pos} {k:Expr} {h1:SH} (a:EV i fr h e (.ref (.mk 35 [])) h1) (w:EV i fr h1 k (.int j) h1) (pr:h1 (.mk 35 [])=aa (.list ((bq R.length).map bB))) (hR:R.length≤5) (hj:j<R.length) (ok:autoParam (qe k) jn):EV i fr h (.Subscript e k pos) (bB j) h1:=
 mM (j:=j) a w (.own pr) (i2 (bK ‹_› ‹_›) bj) (CE hj) ok
theorem UB (g:GR R) (p:cr R U P aN aA st m c N h) (hm:m≤10000000) (a:kI R (P.map (·.2)) L fu fK) (h1:h (ff st)=aa (.dict fu)) (h2:h (fy st)=aa (.dict fK)) (hq:cY R q) (hn:0<q.1) (hL:L≠[(0,1)]) (hs:s∈j6)
  (fin:∀rH qZ h' fr,cr R U P aN aA st (m+1) c N h'→kI R (P.map (·.2)) L rH qZ→h' (ff st)=aa (.dict rH)→h' (fy st)=aa (.dict qZ)→Kq [10,54,55,61,62] N h h'→(sF st k q).sub fr→Q .next fr h'):
  SS (mi i b) ((sF st k q).put "a" (.str s)) h [MM] Q:=by
 have it:=(p.it.w.tb.it q hq).1
 cases e:fu.lookup (.str s) with
 |none=>
  refine bO (hG n_ (ja h1) rfl (aB n_ aL) (wn h1 e)) ?_;exact cf (bv (u:=.none) n_ kJ vf) (Xu g p a h1 h2 hq hn hs fin)
 |some v=>
  refine bM (a.key _ _ e) λs' gU z av=>?_;obtain rfl:=Mine.Internal.SV.str.inj z;have av:=av.resolve_left hL;refine bO (hG n_ (ja h1) rfl (aB n_ aL) (uV h1 e)) ?_;refine aj (p.it.w.tb.pr q.1 hq.1) λxq tV A7=>?_;rcases av with⟨n,n0,nR,rfl⟩|⟨j,L',j0,rfl,res,hj⟩
  ·refine aj (p.it.w.tb.pr n nR) λxn Rw akg=>?_
   refine cR (bv (u:=.int (-(n:Int))) n_ kJ vf) ?_;refine cf (bv n_ bG (xC L7)) (cR (bv n_ bG (Nj (IR n0))) ?_);refine bO (v:=bB n) (kw n_ (Wi n_ (Int.neg_neg _).symm) p.gr.fk g.len nR) ?_;refine bO (v:=bB q.1) (kw n_ (a_ (n:=bk q) n_ it) p.gr.fk g.len hq.1) ?_;refine cf (bv (a_ (n:=bh n) n_ Rw) (a_ (n:=bh q.1) n_ tV) (xC aV)) ?_;refine ZP (u:=bB n) (w:=bB q.1) (eY (aB n_ (aB n_ aL))) ?_ ?_ ?_
   ·obtain⟨vs,hv,hl⟩:=p.rr
    refine aH (fF (de (u:=.ref (.mk 55 [])) (a_ n_ p.it.w.tb.tb) (ga hv) ir (aB (eY (aB n_ (aB n_ (aB n_ aL)))) aL) (fU hv (by unfold aZ;exact ah (ah ‹_› ‹_›) aJ))) ?_)
    repeat refine aH ?_
    refine(bN (fin _ _ _ _ (p.WZ hv) a ((aq az).trans h1) ((aq az).trans h2) .set ?_));exact(((((SF.sub.rfl.b_).b_).b_).b_).b_).b_
   ·exact λae he=>rfl
   ·intro ae he;cases ae;subst he;kernel_rfl
  ·refine cR (bv (u:=.int j) n_ kJ vf) (cR (bv n_ bG (Cp (h9.mpr j0))) ?_)
   refine Ak (u:=.str "right") (w:=.int 0) (hG n_ (ja p.gr.prec) rfl (aB n_ (aB (eY (aB cx (aB bG aL))) aL)) (xL p.gr.prec)) ?_;refine Ak (u:=.str "right") (w:=.int 0) (a_ (n:=bh q.1) (kw n_ (a_ (n:=bk q) n_ it) p.gr.fk g.len hq.1) tV) ?_;refine cf (qc (bv n_ n_ (ZA aV)) (qc (lQ (bv n_ n_ (nK rfl)) (oE (bv n_ cx (lT aV)))) AR)) ?_;refine cf (lQ (bv n_ n_ (nK rfl)) (oE (bv n_ cx (lT aV)))) ?_;refine cR (fw (t:=an) (p_ n_ M0)) ?_;obtain⟨vs,hv,hl⟩:=p.sr;refine fF (de (u:=.ref (.mk 54 [])) (a_ n_ p.it.w.tb.tb) (ga hv) ir (aB (eY (aB n_ (aB n_ (aB cx aL)))) aL) (fU hv (by unfold aZ;exact ah (ah ‹_› ‹_›) aJ))) ?_
   repeat refine aH ?_
   refine(bN (fin _ _ _ _ (p.Kz hv) a ((aq az).trans h1) ((aq az).trans h2) .set ?_));exact(((((SF.sub.rfl.b_).b_).b_).b_).b_).b_
theorem GA (hx:(aG R q.1)[q.2]? =aa x):((iN R q).map SV.str)[q.2+1]? =aa (.str x):=by
 have e:((aG R q.1).take q.2).length=q.2:=jE.trans (r9 (cj ((cU.mp hx).1)));unfold iN;rw[dq,QE (ah (bH e) (bT _)),e,(show q.2.succ-q.2=1 from ui q.2 1),aht,Pw,Nat.add_zero _,hx];rfl
noncomputable def Ki:List Nat:=[10,30,31,32,54,61,62]
theorem Zz (g:GR R) (p:cr R U P aN aA st m c N h) (hm:m≤10000000) (a:kI R (P.map (·.2)) L fu fK) (h1:h (ff st)=aa (.dict fu)) (h2:h (fy st)=aa (.dict fK)) (hP:(k,L)∈P) (oN:q∈L) (hx:(aG R q.1)[q.2]? =aa x)
  (fin:∀rH qZ c' N' h' fr,cr R U P aN aA st (m+1) c' N' h'→kI R (P.map (·.2)) L rH qZ→h' (ff st)=aa (.dict rH)→h' (fy st)=aa (.dict qZ)→Kq Ki N h h'→N≤N'→(vD st k).sub fr→Q .next fr h'):
  SS (mi i b) (sF st k q) h [ptS] Q:=by
 refine jw (p.it.each _ hP) λkN hk S=>?_;have hq:=S.ok g q oN;have it:=(p.it.w.tb.it q hq).1;have hL:L≠[(0,1)]:=λe=>by
  rw[e] at oN;rw[bU.mp oN] at hx;rw[show aG R (0,1).1=aG R 0 from rfl,g.pL] at hx
  (first|exact a8 hx|obtain rfl:=aU hx)
 refine bO (a_ (n:=bk q) n_ it) ?_;refine bO (v:=.str x) (mj (j:=q.2+1) (a_ (n:=bk q) n_ it) (fH n_ bG ny) (ph (bK ((cU.mp hx).1) (ah (g.bw q.1) aJ))) (GA hx)) ?_;obtain⟨LL,ht,lH⟩:=p.gr.term
 cases i8:dY.contains x with
 |false=>
  refine cf (bv n_ (a_ (n:=aX) (a_ n_ p.it.w.tb.tb) p.gr.gr) ((lH x).trans i8▸pX ht)) (aH (aH (bN (fin fu fK c N h _ (p.up (bT _)) a h1 h2 .same (au _) (((SF.sub.rfl.b_).b_).b_)))))
 |true=>
  refine cR (bv n_ (a_ (n:=aX) (a_ n_ p.it.w.tb.tb) p.gr.gr) ((lH x).trans i8▸pX ht)) ?_;have Mi:x∈dY:=e9.mp i8;have Pc:x∈j6:=(aV:∀x∈dY,x∈j6) x Mi;have X_:x∈Sy:=(aV:∀x∈dY,x∈Sy) x Mi;refine ku (de n_ (iL p.it.w.tb.tb rfl) (i.K.keep rfl) (aB n_ (aB n_ aL)) (yf (b:=b+1) rfl (S.go g p.it.hU X_) p.it.w kN hk).cp) ?_;rintro v gJ ⟨L',c',M,G⟩;have dh:cF R L x≠[]:=λe=>by
   have:(q.1,q.2+1)∈cF R L x:=gP.mpr (aT q oN (aO hx));rw[e] at this;exact cS this
  have Bl:L'≠[]:=λe=>dh (G.res.nil.mp e);have S':=S.next g G.res Bl;have NJ:=S'.len g;have nb:=G.told.nb;have jQ:Kq [10,30,31,32] N h gJ:=G.kp.q;have p2:=p.move G.w jQ G.le;have p3:cr R U P aN aA st m c' (M+1) (gJ.bX M (eO M L' gJ)):=p2.move (B:=[]) G.w.bX (.bX (au _)) (bT _);have gX:Kq [10,30,31,32] N h (gJ.bX M (eO M L' gJ)):=jQ.trans (.bX (au _)) G.le;have pl:FP ((mi i b).dn (b+3)) gJ (.glob 318) [v] (is (df L') (gJ.bX M (eO M L' gJ))):=td (b:=b+2) rfl G.told.told (S'.ok g) G.w.tb.it G.w.tb.free (ah ‹_› aJ);generalize gJ.bX M (eO M L' gJ)=mD at p3 gX pl;have qK:mD (ff st)=aa (.dict fu):=(gX.1 _ _ rfl).trans h1;have vt:mD (fy st)=aa (.dict fK):=(gX.1 _ _ rfl).trans h2;refine bO (v:=((fL 0 (P.map (·.2))).lookup (df L')).getD (.int (-1))) (hG (a_ n_ p2.it.w.tb.tb) (ja p2.it.jY) rfl (aB (b9 (i.K.ref rfl) (i.K.keep rfl) (aB n_ aL) pl.cp) (aB (Ct bG) aL)) (xL p3.it.jY rj)) ?_
  cases hj:(fL 0 (P.map (·.2))).lookup (df L') with
  |none=>
   refine cf (bv (u:=.int (-1)) n_ bG (Mz aV)) ?_
   repeat refine aH ?_
   refine bN (fin fu fK c' (M+1) mD _ (p3.up (bT _)) a qK vt (gX.mono) (c7 G.le) ?_);exact(((((SF.sub.rfl.b_).b_).b_).b_).b_)
  |some w=>
   refine aj (BQ hj) λj Fn ar=>?_;subst ar;rw[mP] at hj ⊢;have j0:0<j:=nU λz=>by
    obtain⟨k0,L0,r,e,Ut⟩:=p.first;subst z;rw[e] at Fn;exact S.first g G.res Bl Ut (aU Fn).symm
   have AV:Gg R (P.map (·.2)) L x (.int j):=.inr ⟨j,L',j0,rfl,G.res,hj⟩;refine cR (bv (u:=.int j) n_ bG (Jv (jp _))) ?_
   cases e:fu.lookup (.str x) with
   |none=>
    refine bO (hG n_ (ja qK) rfl (aB n_ aL) (wn qK e)) (cf (bv (u:=.none) n_ kJ vf) ?_);refine d9 (v:=.int j) (n:=ff st) n_ n_ n_ qK (by have:=a.bw;unfold aZ;exact ah ‹_› aJ) ?_;refine d9 (v:=ba q) (n:=fy st) (es:=fK) n_ n_ n_ ((aq az).trans vt) (by have:=yk a.ze a.xY;unfold aZ;exact ah ‹_› aJ) ?_;have p4:=cr.iF (k:=62) (o:=.dict (bl fK (.str x) (ba q))) (cr.iF (k:=61) (o:=.dict (bl fu (.str x) (.int j))) p3)
    repeat refine aH ?_
    refine bN (fin _ _ c' (M+1) _ _ (p4.up (bT _)) (a.put Pc (.inr AV) hq) ((aq az).trans aR) aR ((gX.mono.trans (M:=M+1) (.set (k:=61)) (c7 G.le)).trans (M:=M+1) (.set (k:=62)) (c7 G.le)) (c7 G.le) ((((((SF.sub.rfl.b_).b_).b_).b_).b_).b_))
   |some w=>
    refine bM (a.key _ _ e) λs' gU z av=>?_;obtain rfl:=Mine.Internal.SV.str.inj z;have av:=av.resolve_left hL;refine bO (hG n_ (ja qK) rfl (aB n_ aL) (uV qK e)) ?_;rcases av with⟨n,n0,nR,rfl⟩|⟨j',L2,Tj,rfl,TX,qT⟩
    ·refine cR (bv (u:=.int (-(n:Int))) n_ kJ vf) (cf (bv n_ bG (xC L7)) (cR (bv n_ bG (Nj (IR n0))) ?_))
     refine aj ((a.pk _ _ e).resolve_left hL) λq' fS bY=>?_;refine aj (p3.it.w.tb.pr q'.1 fS.1) λxq tV A7=>?_;have yb:=(p3.it.w.tb.it q' fS).1;refine Ak (u:=.str "right") (w:=.int 0) (hG n_ (ja p3.gr.prec) rfl (aB n_ (aB (eY (aB cx (aB bG aL))) aL)) (xL p3.gr.prec)) ?_;refine Ak (u:=.str "right") (w:=.int 0) (a_ (n:=bh q'.1) (kw n_ (a_ (n:=bk q') (g7 n_ n_ vt bY) yb) p3.gr.fk g.len fS.1) tV) ?_;refine cR (qc (bv n_ n_ (xC aV)) (yU (lQ (bv n_ n_ (nK rfl)) (lQ (bv n_ cx (nK rfl)) Bw)))) ?_;refine xE (JF (i:=mi i b) tV (A7.red.imp (λe=>e) (λ⟨k,e⟩=>⟨k,e⟩))) λkr hr=>?_;refine DZ (n:=bh q'.1) (kw n_ (a_ (n:=bk q') (g7 n_ n_ vt bY) yb) p3.gr.fk g.len fS.1) tV hr bG K4 tV A7.le ?_;have p4:cr R U P aN aA st m c' (M+1) (mD.set (bh q'.1) (.inst 100 ((gc R q'.1++xq).put "reduced" (.int (kr-1))))):=p3.tH (A7.tH _);have Mh:Kq Ki N h (mD.set (bh q'.1) (.inst 100 ((gc R q'.1++xq).put "reduced" (.int (kr-1))))):=gX.mono.trans (M:=M+1) .set (c7 G.le);have Mo:(mD.set (bh q'.1) (.inst 100 ((gc R q'.1++xq).put "reduced" (.int (kr-1))))) (ff st)=aa (.dict fu):=qK;have L3:(mD.set (bh q'.1) (.inst 100 ((gc R q'.1++xq).put "reduced" (.int (kr-1))))) (fy st)=aa (.dict fK):=vt;generalize mD.set (bh q'.1) (.inst 100 ((gc R q'.1++xq).put "reduced" (.int (kr-1))))=h4 at p4 Mh Mo L3 ⊢;refine d9 (v:=.int j) (n:=ff st) n_ n_ n_ Mo (by have:=a.bw;unfold aZ;exact ah ‹_› aJ) ?_;refine d9 (v:=ba q) (n:=fy st) (es:=fK) n_ n_ n_ ((aq az).trans L3) (by have:=yk a.ze a.xY;unfold aZ;exact ah ‹_› aJ) ?_;have p5:=cr.iF (k:=62) (o:=.dict (bl fK (.str x) (ba q))) (cr.iF (k:=61) (o:=.dict (bl fu (.str x) (.int j))) p4);refine cR (fw (t:=an) (p_ n_ M0)) ?_;obtain⟨vs,hv,hl⟩:=p5.sr;refine fF (de (u:=.ref (.mk 54 [])) (a_ n_ p5.it.w.tb.tb) (ga hv) ir (aB (eY (aB n_ (aB n_ (aB cx aL)))) aL) (fU hv (by unfold aZ;exact ah (ah ‹_› ‹_›) aJ))) ?_
     repeat refine aH ?_
     refine bN (fin _ _ c' (M+1) _ _ (p5.Kz hv) (a.put Pc (.inr AV) hq) ((aq az).trans ((aq az).trans aR)) ((aq az).trans aR) (((Mh.trans (M:=M+1) (.set (k:=61)) (c7 G.le)).trans (M:=M+1) (.set (k:=62)) (c7 G.le)).trans (M:=M+1) (.set (k:=54)) (c7 G.le)) (c7 G.le) ?_);exact(((((((((SF.sub.rfl.b_).b_).b_).b_).b_).b_).b_).b_).b_).b_
    ·obtain rfl:=TX.det G.res
     rw[hj] at qT
     cases qT
     refine cR (bv (u:=.int j) n_ kJ vf) (cR (bv n_ bG (Cp (h9.mpr Tj))) (cf (bv n_ n_ (Fc rfl)) ?_))
     repeat refine aH ?_
     refine bN (fin fu fK c' (M+1) mD _ (p3.up (bT _)) a qK vt (gX.mono) (c7 G.le) ?_);exact(((((SF.sub.rfl.b_).b_).b_).b_).b_).b_
structure TS where
 ea:b8
 ep:b8
 c:Int
 N:Nat
 h:SH
noncomputable def RY:List Nat:=[10,30,31,32,54,55,61,62]
structure TJ (R:bp) (U:List (List aF)) (P:List (Nat×List aF)) (L:List aF) (aN:Nat) (aA:SH) (uO:Nat) (ag:SH) (st m:Nat) (s:TS):Prop where
 p:cr R U P aN aA st m s.c s.N s.h
 a:kI R (P.map (·.2)) L s.ea s.ep
 ta:s.h (ff st)=aa (.dict s.ea)
 tp:s.h (fy st)=aa (.dict s.ep)
 kq:Kq RY uO ag s.h
 le:uO≤s.N
variable{uO:Nat}
theorem MH {a c:cy}:((h.set (ff st) a).set (fy st) c) (ff st)=aa a:=(aq az).trans aR
theorem UK {t:TS} (g:GR R) (J:TJ R U P L aN aA uO ag st m t) (hm:m≤9999990) (hP:(k,L)∈P) (oN:q∈L)
  (fin:∀ea ep c N h fr,TJ R U P L aN aA uO ag st (m+4) ⟨ea,ep,c,N,h⟩→(vD st k).sub fr→Q .next fr h):
  SS (mi i b) (sF st k q) t.h [eu (stN vN 3)] Q:=by
 refine jw (J.p.it.each _ hP) λkN hk S=>?_;have hq:=S.ok g q oN;have it:=(J.p.it.w.tb.it q hq).1;have h3:=g.bw q.1
 by_cases hc:q.2=(aG R q.1).length
 ·refine cR (bv (a_ (n:=bk q) n_ it) (fH (a_ (n:=bk q) n_ it) bG ny) (nK (by rw[hc];rfl))) ?_
  rcases sv q.1 with z|hn
  ·have hL:L=[(0,1)]:=by
    rw[z,g.pL] at hc;obtain⟨u,w⟩:=q;subst z;subst hc;exact S.one g oN
   refine cR (bv (a_ (n:=bk q) n_ it) cx (nK (by rw[z,g.xu]))) ?_;refine d9 (v:=.int 0) (n:=ff st) bG n_ cx J.ta (by have:=J.a.bw;unfold aZ;exact ah ‹_› aJ) ?_;refine d9 (v:=ba q) (n:=fy st) (es:=t.ep) n_ n_ cx ((aq az).trans J.tp) (by have:=yk J.a.ze J.a.xY;unfold aZ;exact ah ‹_› aJ) ?_
   repeat refine aH ?_
   exact bN (fin (bl t.ea (.str "$end") (.int 0)) (bl t.ep (.str "$end") (ba q)) t.c t.N _ _ ⟨(cr.iF (k:=62) (o:=.dict (bl t.ep (.str "$end") (ba q))) (cr.iF (k:=61) (o:=.dict (bl t.ea (.str "$end") (.int 0))) J.p)).up (b7 _ _),J.a.put aV (.inl hL) hq,MH (c:=.dict (bl t.ep (.str "$end") (ba q))),aR,(J.kq.trans (M:=t.N) (.set (k:=61)) J.le).trans (M:=t.N) (.set (k:=62)) J.le,J.le⟩ (SF.sub.rfl.b_))
  ·have xp:pO (bF R q.1)=ab:=by rcases g.nm q.1 hn hq.1 with e|e|e<;>rw[e]<;>rfl
   have lJ:bF R q.1≠"S'":=λe=>by rw[e] at xp;revert xp;exact aV
   have hL:L≠[(0,1)]:=λe=>by
    rw[e] at oN;rw[bU.mp oN] at hn;exact bd hn (fo _)
   refine cf (bv (a_ (n:=bk q) n_ it) cx (lT λe=>lJ (by injection e))) ?_;refine cf (bv (a_ n_ J.p.it.w.tb.tb) cx (lT aV)) ?_;obtain⟨Hl,hf,Gj⟩:=J.p.gr.nz;refine yG (Gj _ xp) λe1 fs e2 nd iA=>?_;have l4:fs.length≤4:=fO nd (l₂:=j6) iA;refine bO (g7 (a_ (n:=aX) (a_ n_ J.p.it.w.tb.tb) J.p.gr.gr) (a_ (n:=bk q) n_ it) hf e1) ?_;refine aH ?_;refine eo (σ:=TS) (λ_=>sF st k q) TS.h (λt' j=>TJ R U P L aN aA uO ag st (m+j) t'∧t'.h (.mk 48 [sym (bF R q.1)])=aa (.list (fs.map .str))) t (fs.map .str) (d7 n_ e2) ⟨J,e2⟩ (SF.sub.rfl.b_) (λt' j Z=>d6 Z.2) (λt' j v Z e=>?_) λt' Z=>?_
   ·refine aj (dH e) λs hs ar=>?_;subst ar
    refine dV (UB g Z.1.p (ah (fp hm (cj (bK ((cU.mp hs).1) l4))) aJ) Z.1.a Z.1.ta Z.1.tp hq hn hL (iA s (bQ hs)) λea ep h' fr p' a' ha hp kq sb=>LQ.next ⟨ea,ep,t'.c,t'.N,h'⟩ ⟨⟨p',a',ha,hp,Z.1.kq.trans (M:=t'.N) kq.mono Z.1.le,Z.1.le⟩,(kq.1 _ _ rfl).trans Z.2⟩ sb)
   ·repeat refine aH ?_
    rw[aI] at Z;exact bN (fin t'.ea t'.ep t'.c t'.N t'.h _ ⟨Z.1.p.up (eZ l4 _),Z.1.a,Z.1.ta,Z.1.tp,Z.1.kq,Z.1.le⟩ (SF.sub.rfl.b_))
 ·have hlt:q.2< (aG R q.1).length:=wI hq.2 hc
  refine cf (bv (a_ (n:=bk q) n_ it) (fH (a_ (n:=bk q) n_ it) bG ny) (lT λe=>by injection e with e;exact dF (ph hlt) (wW e))) ?_;have:=Zz (i:=i) (b:=b) (Q:=Q) g J.p (ah ‹_› aJ) J.a J.ta J.tp hP oN (fb hlt) λea ep c' N' h' fr p' a' ha hp kq le sb=>fin ea ep c' N' h' fr ⟨p'.up (eZ aJ _),a',ha,hp,J.kq.trans (M:=t.N) kq.mono J.le,ah J.le le⟩ sb;exact⟨λfr' s=>iY.imp (this.run fr' s) (λf fr h q=>by
   cases f with
   |next=>exact vE q
   |_=>exact q) λ_ _ _ q=>q⟩
noncomputable def ib (st:Nat):Nm:=.mk 64 [st]
noncomputable def qP (st k:Nat):SF:=(vD st k).put "nkeys" (.ref (ib st))
theorem Ti (g:GR R) (p:cr R U P aN aA st m c N h) (ok:∀q∈L,cY R q) (hL:h (gN k)=aa (.list (L.map ba)))
  (fin:∀es,io es→SS (mi i b) (qP st k) (h.set (ib st) (.dict es)) (vN.drop 6::kk) Q):
  SS (mi i b) (qP st k) (h.set (ib st) (.dict [])) (vN.drop 5::kk) Q:=by
 have it:=p.it.w.tb.it;have yl:∀(es:b8) q,cY R q→(h.set (ib st) (.dict es)) (bk q)=aa (.inst 135 (dW R q))∧(h.set (ib st) (.dict es)) (.mk 42 [q.1])=aa (.list ((p7 R q.1).map .str)):=λes q hq=>⟨(it q hq).1,(it q hq).2.2⟩;refine eo (σ:=b8) (λ_=>qP st k) (λes=>h.set (ib st) (.dict es)) (λes _=>io es) [] (L.map ba) (d7 (n:=gN k) n_ hL) ⟨.nil,λ_ h=>by exact cS h⟩ .rfl (λes j _=>d6 (n:=gN k) hL) (λes j v A e=>?_) λes A=>aH (fin es A);refine aj (dH e) λq hq ar=>?_;subst ar;have Q1:=yl es q (ok q (bQ hq));refine dV (eo (σ:=b8) (λ_=>qP st k) (λes=>h.set (ib st) (.dict es)) (λes _=>io es) es ((p7 R q.1).map .str) (d7 (a_ (n:=bk q) n_ Q1.1) Q1.2) A (SF.sub.rfl.b_) (λes' j _=>d6 (yl es' q (ok q (bQ hq))).2) (λes' j' v' A' e'=>?_) λes' A'=>aH (aH (bN (LQ.next es' A' .rfl))));refine aj (dH e') λs hs ar=>?_;subst ar;obtain⟨j4,hn,wa⟩:=p.gr.iu
 cases i8:pO s with
 |false=>
  exact dV (cf (bv n_ (a_ (n:=aX) (a_ (n:=dg) n_ p.it.w.tb.tb) p.gr.gr) ((wa s).trans i8▸pX (h:=h.set (ib st) (.dict es')) (n:=.mk 39 []) hn)) (aH (aH (bN (LQ.next es' A' (SF.sub.rfl.b_))))))
 |true=>
  refine dV (cR (bv n_ (a_ (n:=aX) (a_ (n:=dg) n_ p.it.w.tb.tb) p.gr.gr) ((wa s).trans i8▸pX (h:=h.set (ib st) (.dict es')) (n:=.mk 39 []) hn)) ?_);refine d9 (n:=ib st) kJ n_ n_ aR (by have:=A'.len;unfold aZ;exact ah ‹_› aJ) ?_;exact aH (aH (bN (LQ.next (bl es' (.str s) .none) (A'.put (g.p7 (bQ hs))) (SF.sub.rfl.b_) (iD.symm))))
theorem io.VG {es:b8} (a:io es) (hs:s∈Sy):io (bl es (.str s) v):=⟨oq a.1,λk hk=>by
 rcases(wD k).mp hk with rfl|hk
 ·exact(aT s hs rfl)
 ·exact a.2 k hk⟩
theorem Sx {eg:b8} (g:GR R) (p:cr R U P aN aA st m c N h) (hP:(k,L)∈P) (hx:x∈Sy) (hg:h (jk st)=aa (.dict eg)) (A:io eg)
  (fin:∀K_ c' N' h' fr,cr R U P aN aA st m c' N' h'→h' (jk st)=aa (.dict K_)→io K_→Kq [10,30,31,32,63] N h h'→N≤N'→(qP st k).sub fr→Q .next fr h'):
  SS (mi i b) ((qP st k).put "n" (.str x)) h [eu (stN vN 6)] Q:=by
 refine jw (p.it.each _ hP) λkN hk S=>?_;refine ku (de n_ (iL p.it.w.tb.tb rfl) (i.K.keep rfl) (aB n_ (aB n_ aL)) (yf (b:=b+1) rfl (S.go g p.it.hU hx) p.it.w kN hk).cp) ?_;rintro v gJ ⟨L',c',M,G⟩;have NJ:L'.length≤50:=G.res.len (ah uR (ah (S.len g) aJ)) p.it.w.tb.hR;have nb:=G.told.nb;have jQ:Kq [10,30,31,32] N h gJ:=G.kp.q;have p2:=p.move G.w jQ G.le;have p3:cr R U P aN aA st m c' (M+1) (gJ.bX M (eO M L' gJ)):=p2.move (B:=[]) G.w.bX (.bX (au _)) (bT _);have gX:Kq [10,30,31,32] N h (gJ.bX M (eO M L' gJ)):=jQ.trans (.bX (au _)) G.le;have pl:FP ((mi i b).dn (b+3)) gJ (.glob 318) [v] (is (df L') (gJ.bX M (eO M L' gJ))):=td (b:=b+2) rfl G.told.told (G.res.ok (BH (S.ok g))) G.w.tb.it G.w.tb.free (ah ‹_› aJ);generalize gJ.bX M (eO M L' gJ)=mD at p3 gX pl;have MF:mD (jk st)=aa (.dict eg):=(gX.1 _ _ rfl).trans hg;refine bO (v:=((fL 0 (P.map (·.2))).lookup (df L')).getD (.int (-1))) (hG (a_ n_ p2.it.w.tb.tb) (ja p2.it.jY) rfl (aB (b9 (i.K.ref rfl) (i.K.keep rfl) (aB n_ aL) pl.cp) (aB (Ct bG) aL)) (xL p3.it.jY rj)) ?_
 cases hj:(fL 0 (P.map (·.2))).lookup (df L') with
 |none=>
  refine cf (bv (u:=.int (-1)) n_ bG (Mz aV)) ?_
  repeat refine aH ?_
  exact bN (fin eg c' (M+1) mD _ p3 MF A gX.mono (c7 G.le) (((SF.sub.rfl.b_).b_).b_))
 |some w=>
  refine aj (BQ hj) λj Fn ar=>?_;subst ar;refine cR (bv (u:=.int (0+j:Nat)) n_ bG (Jv (jp _))) ?_;refine d9 (v:=.int (0+j:Nat)) (n:=jk st) n_ n_ n_ MF (by have:=A.len;unfold aZ;exact ah ‹_› aJ) ?_
  repeat refine aH ?_
  exact bN (fin (bl eg (.str x) (.int (0+j:Nat))) c' (M+1) _ _ (cr.iF (k:=63) (o:=.dict (bl eg (.str x) (.int (0+j:Nat)))) p3) aR (A.VG hx) (gX.mono.trans (M:=M+1) (.set (k:=63)) (c7 G.le)) (c7 G.le) (((SF.sub.rfl.b_).b_).b_))
structure OS where
 st:Nat
 c:Int
 N:Nat
 h:SH
def Ep (h:SH) (st:Nat):Prop:=∀k∈([61,62,63,64]:List Nat),∀j,st≤j→h (.mk k [j])=af
structure OJ (R:bp) (U:List (List aF)) (P:List (Nat×List aF)) (aN:Nat) (aA:SH) (s:OS) (j:Nat):Prop where
 st:s.st=j
 p:cr R U P aN aA j (56*j) s.c s.N s.h
 fr:Ep s.h j
noncomputable def DW (s:OS):SF:=[("self",.ref dg),("Productions",.ref (.mk 35 [])),("Precedence",.ref (.mk 49 [])),("goto",.ref (.mk 52 [])),("action",.ref (.mk 51 [])),("actionp",.ref (.mk 65 [])),("C",.ref gQ),("st",.int s.st)]
theorem aic {v1 v2 v3:SV} {e1 e2 e3:b8} (p:cr R U P aN aA st m c N h) (h1:h (.mk 51 [])=aa (.dict e1)) (h2:h (.mk 65 [])=aa (.dict e2)) (h3:h (.mk 52 [])=aa (.dict e3)):
  cr R U P aN aA (st+1) m c N (((h.set (.mk 51 []) (.dict (bl e1 (.int st) v1))).set (.mk 65 []) (.dict (bl e2 (.int st) v2))).set (.mk 52 []) (.dict (bl e3 (.int st) v3))):=by
 obtain⟨a1,b1,c1⟩:=p.ac;obtain⟨a2,b2,c2⟩:=p.ap;obtain⟨a3,b3,c3⟩:=p.go;rw[h1] at b1;cases b1;rw[h2] at b2;cases b2;rw[h3] at b3;cases b3;have w1:cX R U c N (h.set (.mk 51 []) (.dict (bl e1 (.int st) v1))):=p.it.w.set;have w2:cX R U c N ((h.set (.mk 51 []) (.dict (bl e1 (.int st) v1))).set (.mk 65 []) (.dict (bl e2 (.int st) v2))):=w1.set;exact⟨⟨(w2.set:cX R U c N (((h.set (.mk 51 []) (.dict (bl e1 (.int st) v1))).set (.mk 65 []) (.dict (bl e2 (.int st) v2))).set (.mk 52 []) (.dict (bl e3 (.int st) v3)))),p.it.jY,p.it.nd,p.it.each,p.it.hU⟩,p.C,p.gr.same λk l hk=>(aq λe=>by injection e with e;subst e;exact cJ hk).trans ((aq λe=>by injection e with e;subst e;exact cJ hk).trans (aq λe=>by injection e with e;subst e;exact cJ hk)),((p.kq.trans (M:=N) (.set (k:=51)) p.le).trans (M:=N) (.set (k:=65)) p.le).trans (M:=N) (.set (k:=52)) p.le,p.le,
  (aT _ ((aq az).trans aR) (ah ti (eE c2))),(aT _ ((aq az).trans ((aq az).trans aR)) (ah ti (eE c1))),(aT _ aR (ah ti (eE c3))),p.sr,p.rr,p.first,λk hk j hj=>(aq (kB hk)).trans ((aq (kB hk)).trans ((aq (kB hk)).trans (p.fresh k hk j (n8 hj))))⟩
theorem Yc {s:OS} {j:Nat} (g:GR R) (J:OJ R U P aN aA s j) (hj:j<109603) (hP:(k,L)∈P)
  (fin:∀c' N' h' fr,OJ R U P aN aA ⟨j+1,c',N',h'⟩ (j+1)→(DW ⟨j+1,c',N',h'⟩).sub fr→Q .next fr h'):
  SS (mi i b) ((DW s).put "I" (.ref (gN k))) s.h [vN] Q:=by
 obtain⟨rfl,p,p8⟩:=J;refine jw (p.it.each _ hP) λkN hk S=>?_;have Kb:L.length≤14:=S.len g;refine bO (gZ (n:=ff s.st) (p8 61 bS _ (au _))) ?_;refine bO (gZ (n:=fy s.st) ((aq az).trans (p8 62 bS _ (au _)))) ?_;refine bO (gZ (n:=jk s.st) ((aq az).trans ((aq az).trans (p8 63 bS _ (au _))))) ?_;have p1:cr R U P aN aA s.st (56*s.st) s.c s.N (((s.h.set (ff s.st) (.dict [])).set (fy s.st) (.dict [])).set (jk s.st) (.dict [])):=cr.iF (k:=63) (o:=.dict []) (cr.iF (k:=62) (o:=.dict []) (cr.iF (k:=61) (o:=.dict []) p));have jQ:Kq [61,62,63] s.N s.h (((s.h.set (ff s.st) (.dict [])).set (fy s.st) (.dict [])).set (jk s.st) (.dict [])):=((Kq.set (k:=61)).trans (Kq.set (k:=62)) (au _)).trans (Kq.set (k:=63)) (au _);have NA:(((s.h.set (ff s.st) (.dict [])).set (fy s.st) (.dict [])).set (jk s.st) (.dict [])) (ff s.st)=aa (.dict []):=(aq az).trans MH;have IV:(((s.h.set (ff s.st) (.dict [])).set (fy s.st) (.dict [])).set (jk s.st) (.dict [])) (fy s.st)=aa (.dict []):=(aq az).trans aR;have Jz:(((s.h.set (ff s.st) (.dict [])).set (fy s.st) (.dict [])).set (jk s.st) (.dict [])) (jk s.st)=aa (.dict []):=aR;generalize ((s.h.set (ff s.st) (.dict [])).set (fy s.st) (.dict [])).set (jk s.st) (.dict [])=h1 at p1 jQ NA IV Jz ⊢;refine SS.sub (d_:=vD s.st k) ?_ (ai (ai (ai (ai (ai (ai (ai (ai (ai (ai (ai (ai bt))))))))))));have rg:h1 (gN k)=aa (.list (L.map ba)):=(jQ.2 k [] kN).trans hk;refine eo (σ:=TS) (λ_=>vD s.st k) TS.h (λt j=>TJ R U P L aN aA s.N h1 s.st (56*s.st+4*j) t) ⟨[],[],s.c,s.N,h1⟩ (L.map ba) (d7 n_ rg) ⟨p1,.nil,NA,IV,.same,au _⟩ .rfl (λt j J=>d6 ((J.kq.2 k [] kN).trans rg)) (λt j v J e=>?_) λt J=>?_
 ·refine aj (dH e) λq hq ar=>?_;subst ar
  exact dV (UK g J (ah (fp (pg 56 (eQ hj)) (pg 4 (ah (cj ((cU.mp hq).1)) Kb))) aJ) hP (bQ hq) λea ep c N h fr J' sb=>LQ.next ⟨ea,ep,c,N,h⟩ ⟨J'.p.up (au _),J'.a,J'.ta,J'.tp,J'.kq,J'.le⟩ sb)
 ·rw[aI] at J
  refine aH ?_;refine bO (gZ (n:=ib s.st) ((J.kq.1 _ _ rfl).trans ((jQ.1 _ _ rfl).trans (p8 64 bS _ (au _))):t.h (ib s.st)=af)) ?_;refine SS.sub (d_:=qP s.st k) (Ti g J.p (S.ok g) ((J.kq.2 k [] kN).trans rg:t.h (gN k)=aa (.list (L.map ba))) λes A=>?_) .rfl;have kA:=A.str;have p2:cr R U P aN aA s.st (56*s.st+4*L.length) t.c t.N (t.h.set (ib s.st) (.dict es)):=cr.iF (k:=64) (o:=.dict es) J.p;have gX:Kq [10,30,31,32,54,55,61,62,63,64] s.N s.h (t.h.set (ib s.st) (.dict es)):=(jQ.mono.trans J.kq.mono (au _)).trans (M:=t.N) (.set (k:=64)) J.le;have Ky:(t.h.set (ib s.st) (.dict es)) (jk s.st)=aa (.dict []):=(aq az).trans ((J.kq.1 _ _ rfl).trans Jz:t.h (jk s.st)=aa (.dict []));have Ec:(t.h.set (ib s.st) (.dict es)) (ib s.st)=aa (.dict es):=aR;generalize t.h.set (ib s.st) (.dict es)=h2 at p2 gX Ky Ec ⊢;refine eo (σ:=TS) (λ_=>qP s.st k) TS.h (λu j=>cr R U P aN aA s.st (56*s.st+4*L.length) u.c u.N u.h∧u.h (jk s.st)=aa (.dict u.ea)∧io u.ea∧u.h (ib s.st)=aa (.dict es)∧Kq [10,30,31,32,54,55,61,62,63,64] s.N s.h u.h∧s.N≤u.N) ⟨[],[],t.c,t.N,h2⟩ (es.map (·.1)) (uI n_ Ec kA) ⟨p2,Ky,⟨.nil,λ_ h=>by exact cS h⟩,Ec,gX,J.le⟩ .rfl (λu j J=>uM J.2.2.2.1 kA) (λu j v Z e=>?_) λu Z=>?_
  ·refine aj (A.2 v (bQ e)) λx hx ar=>?_;subst ar
   refine Ez Z λz1 z2 z3 z4 z5 z6=>?_;clear Z;exact dV (Sx g z1 hP hx z2 z3 λeg c N h fr p' hg A' kq le sb=>LQ.next ⟨eg,[],c,N,h⟩ ⟨p',hg,A',(kq.1 _ _ rfl).trans z4,(z5.trans (M:=u.N) kq.mono z6),ah z6 le⟩ sb)
  ·refine Ez Z λz1 z2 z3 z4 z5 z6=>?_;clear Z
   refine aH ?_;obtain⟨e1,q1,l1⟩:=z1.ac;obtain⟨e2,q2,l2⟩:=z1.ap;obtain⟨e3,q3,l3⟩:=z1.go;refine d9 (n:=.mk 51 []) n_ n_ n_ q1 (by unfold aZ;exact cj (bf l1 (bK hj aJ))) ?_;refine d9 (n:=.mk 65 []) n_ n_ n_ ((aq az).trans q2) (by unfold aZ;exact cj (bf l2 (bK hj aJ))) ?_;refine d9 (n:=.mk 52 []) n_ n_ n_ ((aq az).trans ((aq az).trans q3)) (by unfold aZ;exact cj (bf l3 (bK hj aJ))) ?_;refine yn rfl bG wB (aH (bN (fin u.c u.N _ _ ⟨rfl,((aic (v1:=.ref (ff s.st)) (v2:=.ref (fy s.st)) (v3:=.ref (jk s.st)) z1 q1 q2 q3).up (m':=56*(s.st+1)) (eZ (ah (pg _ Kb) aJ) _)),λk hk j hj=>(aq (kB hk)).trans ((aq (kB hk)).trans ((aq (kB hk)).trans (z1.fresh k hk j hj)))⟩ ?_)));exact ai (ai (ai (ai (ai (ai (ai (ai bt)))))))
structure I6 (R:bp) (h:SH):Prop where
 gr:iV R h
 jY:h iG=aa (.dict [])
 cl:h gQ=af
 as:∀j,h (ig j)=af
 ac:h (.mk 51 [])=aa (.dict [])
 go:h (.mk 52 [])=aa (.dict [])
 sr:h (.mk 54 [])=aa (.list [])
 rr:h (.mk 55 [])=aa (.list [])
 ap:h (.mk 65 [])=af
 fresh:Ep h 0
theorem R8 (hb:i.b=b+4) (g:GR R) (B3:gG R ⊆ U) (W:cX R U c N h) (eN:I6 R h):FP i h (.glob 424) [.ref dg] (λv h'=>v=.none∧∃c' N',cX R U c' N' h'∧iV R h'∧Kq vJ N h h'∧N≤N'):=by
 refine enter i.K.ptable OT w_pt hb rfl ?_;refine bO (a_ (n:=aX) (a_ n_ W.tb.tb) eN.gr.gr) ?_;refine bO (a_ (n:=aX) (a_ n_ W.tb.tb) eN.gr.gr) ?_;refine bO (a_ n_ W.tb.tb) ?_;refine bO (a_ n_ W.tb.tb) ?_;refine bO (gZ (n:=.mk 65 []) eN.ap) ?_;have W1:cX R U c N (h.set (.mk 65 []) (.dict [])):=W.set;have jQ:Kq vJ N h (h.set (.mk 65 []) (.dict [])):=.set;have Y9:(h.set (.mk 65 []) (.dict [])) (.mk 65 [])=aa (.dict []):=aR;have GU:iV R (h.set (.mk 65 []) (.dict [])):=eN.gr.set;refine ku (de n_ (iL W1.tb.tb rfl) (i.K.keep rfl) aL (S7 (b:=b) rfl g B3 W1 ((aq az).trans eN.jY) GU.gr rfl GU.fk ((aq az).trans eN.cl) (λj=>(aq az).trans (eN.as j))).cp) ?_;rintro v h2 ⟨rfl,P,n,c2,N2,J⟩;have gX:Kq vJ N h h2:=jQ.trans (M:=N) J.kq.mono (au _);have e2:∀{k l},(99::q_).contains k=an→(65==k)=an→h2 (.mk k l)=h (.mk k l):=λ{k l} h1 h2=>(J.kq.1 k l h1).trans (aq λe=>by injection e with e;exact bd e.symm (kW.mp h2));refine cf (bv (a_ n_ J.it.w.tb.tb) cx (lT aV)) (aH (bO bG ?_));have Mj:Ep h2 0:=λk hk j hj=>by
  exact(e2 ((aV:∀k∈([61,62,63,64]:List Nat),(99::q_).contains k=an) k hk) ((aV:∀k∈([61,62,63,64]:List Nat),(65==k)=an) k hk)).trans (eN.fresh k hk j hj)
 have bw:P.length≤109603:=by
  have:=fO J.it.nd (l₂:=gG R) λL hL=>by refine aj (bD.mp hL) λp hp ar=>?_;subst ar;exact(J.it.each p hp).2.2.mem
  rw[aI] at this;exact ah this (Gw g)
 refine eo (σ:=OS) DW OS.h (OJ R U P N h) ⟨0,c2,N2,h2⟩ (P.map oF) (d7 n_ J.C) ⟨rfl,(⟨J.it,J.C,GU.kq J.kq,gX,J.le,(aT ([]) ((J.kq.1 65 [] rfl).trans Y9) (cb _)),(aT ([]) ((e2 rfl rfl).trans eN.ac) (cb _)),(aT ([]) ((e2 rfl rfl).trans eN.go) (cb _)),(aT ([]) ((e2 rfl rfl).trans eN.sr) (cb _)),(aT ([]) ((e2 rfl rfl).trans eN.rr) (cb _)),J.first,λk hk j hj=>Mj k hk j (cb _)⟩:cr R U P N h 0 0 c2 N2 h2),Mj⟩ (ai (ai (ai (ai (ai (ai (ai (ai bt)))))))) (λs j Z=>d6 Z.p.C) (λs j v Z e=>?_) λs Z=>?_
 ·refine aj (dH e) λp hp ar=>?_;subst ar
  have ii:=(cU.mp hp).1;exact dV (Yc (k:=p.1) (L:=p.2) g Z (ah ‹_› ‹_›) (bQ hp) λc' N' h' fr J' sb=>LQ.next ⟨j+1,c',N',h'⟩ J' sb)
 ·exact aH (aH (bN ⟨rfl,s.c,s.N,Z.p.it.w,Z.p.gr,Z.p.kq,Z.p.le⟩))
section
open Builtin Builtin.Str
theorem OH {e:Expr} {pos:Pos} {Q:QV} {X:QX} (w:WE G F b fr h e (λv ag=>∃y:Str,y.length≤1000∧(v=.str y∨∃ys:List Str,dc G ag v (ys.map .str)∧y=(Im (ys.map .str)).shown)∧Q (.str y) ag) X):WE G F b fr h (.FormattedValue e 115 af pos) Q X:=by
 refine .mk ?_;intro own ae A P m s Q' E' R c d;show aw (aQ G.prog G.w) A (do let v ←d8 e ae;kb pos;formatted pos (←jt [v] (converted 115 v)) af) Q' E' s;refine wb (w.run own ae A P m s _ _ R (λv ag v' a5 bW bV hq hP hm hv a7=>?_) d);refine bM hq λy hy hu hQ=>?_;clear hq;have hsz:1000≤aZ:=aJ;refine wb (jG ?_);have fin:∀(bz:ak) (t:Tok),(∀a o,a5.heap.get? a=aa o→bz.heap.get? a=aa o)→bz.gens=a5.gens→bz.os=a5.os→aw (aQ G.prog G.w) A (QG (.str y t) zR) Q' E' bz:=λbz t hk hg ho=>
  formatField_str (λt' tk=>c _ _ _ _ _ _ hQ hP hm ⟨_,rfl⟩ ((a7.grow hk hg ho).tok tk)) (ah ‹_› aJ)
 rcases hu with rfl|⟨ys,hl,rfl⟩
 ·refine xE hv λt2 bu=>?_;clear hv;subst bu
  show aw _ _ (do let v' ←jt [.str y t2] (habitSame "fstring-hands-on-the-str" (.str y t2));QG v' zR) Q' E' a5;exact wb (dD (habitSame_str (λt' tk=>fin {a5 with toks:=tk} t' (λ_ _ e=>e) rfl rfl) (ah ‹_› aJ)))
 ·obtain⟨a2,zs,rfl,⟨o2,qQ,qV,n2,xH⟩,hZ⟩:=a7.i7 hl hv
  show aw _ _ (do let v' ←jt [.ref a2] (pyStrObj (.ref a2));QG v' zR) Q' E' a5;refine wb (dD (pyStrObj_of_reads (d:=.list (ys.map .str)) (Reads.list qQ qV xH (hZ.reads a5.heap)) (by simp only[PyData.showable];exact PyData.showableAll_strs ys)
   (λe=>by simp only[ahg] at e;rw[noDict] at e;exact cJ e) a7.guards (by rw[show(Im (ys.map .str)).depth=1 by simp only[ahh];rw[KG]];exact bf (fp (b7 _ _) (lf _ _)) a7.units) (λ_ _ e=>e) (λh' u tk dX=>fin {a5 with heap:=h',toks:=tk} u dX rfl rfl) (ah ‹_› aJ)))
def WJ (G:Gl) (F:FD) (b:Nat) (fr:SF):List Expr→Str→SH→QV→QX→Prop
 |[],acc,h,Q,_=>Q (.str acc) h
 |e::r,acc,h,Q,X=>WE G F b fr h e (λv ag=>∃y,v=.str y∧(acc++y).length≤aZ∧WJ G F b fr r (acc++y) ag Q X) X
theorem Jx {own:List ax} {ae:Env} {A:dP} {Q:QV} {X:QX} {Q':Value→ak→Prop} {E':Value→ak→Prop}:∀{es:List Expr} {acc:Str} {h:SH} {P:aW} {m:Mu} {s:ak},acc.length≤aZ→WJ G F b fr es acc h Q X→Rel G F b own ae A P m fr h s→
  (∀v h' v' s' P' m',Q v h'→P.le P'→m.le m'→VR P' m' v v'→Rel G F b own ae A P' m' fr h' s'→Q' v' s')→iK G F b own ae A P m fr X E'→
  aw (aQ G.prog G.w) A (joinParts acc (evalEach es ae)) Q' E' s
 |[],acc,h,P,m,s,ha,w,R,c,d=>joinParts_nil (c _ _ _ _ _ _ w .rfl .rfl ⟨_,rfl⟩ (R.tok _)) ha
 |e::r,acc,h,P,m,s,ha,w,R,c,d=>by
  show aw _ _ (joinParts acc (d8 e ae::evalEach r ae)) _ _ _;refine joinParts_cons (w.run own ae A P m s _ _ R (λv ag v' a5 bW bV hq hP hm hv a7=>?_) d);refine bM hq λy bu hz w'=>?_;clear hq;subst bu;refine xE hv λt bu=>?_;clear hv;subst bu;exact⟨hz,Jx hz w' a7 (λv h' v' s' P' m' q a b=>c v h' v' s' P' m' q (hP.trans a) (hm.trans b)) (d.mono hP hm)⟩
theorem Υ {e e':Expr} {es:List Expr} {pos:Pos} {Q:QV} {X:QX} (w:WJ G F b fr (e::e'::es) zR h Q X):WE G F b fr h (.JoinedStr (e::e'::es) pos) Q X:=by
 refine .mk ?_;intro own ae A P m s Q' E' R c d;exact JoinedStr_many (Jx aJ w R c d)
end
variable{k:List (List bI)}
theorem aE {k k':Nat} {l l':List Nat} {o:cy} {x:Option cy} (e:h (.mk k' l')=x) (hk:autoParam ((k'==k)=an) dI):(h.set (.mk k l) o) (.mk k' l')=x:=(aq (az hk)).trans e
theorem s_ {k k':Nat} {l l':List Nat} {o:cy} (hk:autoParam ((k'==k)=an) dI):(h.set (.mk k l) o) (.mk k' l')=h (.mk k' l'):=aq (az hk)
theorem tE {k k' vX:Nat} {l l' l₂:List Nat} {o Td:cy} (hk:autoParam ((k'==k)=an) dI) (Ao:autoParam ((k'==vX)=an) dI):((h.set (.mk k l) o).set (.mk vX l₂) Td) (.mk k' l')=h (.mk k' l'):=(aq (az Ao)).trans (aq (az hk))
theorem zU {n m:Nm} {a c:cy} (e:n≠m):(h.set n a).set m c=(h.set m c).set n a:=funext λx=>by
 unfold SH.set
 by_cases h1:x=m
 ·rw[aO h1,aK (by rw[h1];exact e.symm),aO h1]
 ·rw[aK h1]
  by_cases h2:x=n
  ·rw[aO h2,aO h2]
  ·rw[aK h2,aK h2,aK h1]
theorem QU {n m:Nm} {a a' c:cy} (e:n≠m):((h.set m a).set n c).set m a'=(h.set m a').set n c:=by rw[zU e,iD]
theorem E1 {vs:List SV} {k:Nat} (hk:vs.length=k) (hz:vs.length<2^62):CP i h (.bi "len") [.tup vs] (is (.int k) h):=hk▸CO hz
theorem O_ {vs:List SV} {k:Nat} (hl:dc i.G h u vs) (hk:vs.length=k) (hz:vs.length<2^62):CP i h (.bi "len") [u] (is (.int k) h):=hk▸oS hl hz
variable{n:Nm} {vs:List SV}
theorem A_ (hn:h n=aa (.dict es)) (hl:es.lookup u=af) (ok:autoParam (SV.key 6 u=ab) bn):OV i h [u,.ref n] (bx (cZ .In)) (.bool an) h:=by have:=pX (i:=i) hn ok;rwa [hl] at this
theorem LM (hn:h n=aa (.dict es)) (hl:es.lookup u=aa v) (ok:autoParam (SV.key 6 u=ab) bn):OV i h [u,.ref n] (bx (cZ .In)) (.bool ab) h:=by have:=pX (i:=i) hn ok;rwa [hl] at this
theorem Iu (hn:h n=aa (.dict es)) (hl:es.lookup u=af) (ok:autoParam (SV.key 6 u=ab) bn):OV i h [u,.ref n] (bx (cZ .NotIn)) (.bool ab) h:=by have:=JB (i:=i) hn ok;rwa [hl] at this
theorem EY (hn:h n=aa (.dict es)) (hl:es.lookup u=aa v) (ok:autoParam (SV.key 6 u=ab) bn):OV i h [u,.ref n] (bx (cZ .NotIn)) (.bool an) h:=by have:=JB (i:=i) hn ok;rwa [hl] at this
theorem acj (hl:dc i.G h w vs) (hm:u∉vs) (hd:eH 6 vs=ab) (ok:autoParam (SV.data 6 u=ab) bn):OV i h [u,w] (bx (cZ .In)) (.bool an) h:=by have:=Gq (i:=i) hl hd ok;rwa [iZ hm] at this
theorem yj (hl:dc i.G h w vs) (hm:u∉vs) (hd:eH 6 vs=ab) (ok:autoParam (SV.data 6 u=ab) bn):OV i h [u,w] (bx (cZ .NotIn)) (.bool ab) h:=by have:=B5 (i:=i) hl hd ok;rwa [iZ hm] at this
theorem vc (hl:dc i.G h w vs) (hm:u∈vs) (hd:eH 6 vs=ab) (ok:autoParam (SV.data 6 u=ab) bn):OV i h [u,w] (bx (cZ .NotIn)) (.bool an) h:=by have:=B5 (i:=i) hl hd ok;rwa [eP hm] at this
theorem fN {n:Nm} {C:ax} {fs iM:SF} {a:Str} {q pos:Pos} (x:EV i fr (h.set n (.inst C fs)) e v (h.set n (.inst C fs))) (y:EV i fr (h.set n (.inst C fs)) o (.ref n) (h.set n (.inst C fs))) (b:SS i fr (h.set n (.inst C iM)) (rest::k) Q)
  (hp:autoParam (fs.put a v=iM) dI) (hz:autoParam (wF fs.length 100=ab) bn) (ok:autoParam ((qj C a && iq e)=ab) bn):SS i fr (h.set n (.inst C fs)) ((.Assign [.Attribute o a q] e pos::rest)::k) Q:=by
 refine jB x y aR (ah (jD hz) aJ) ?_ ok;rw[iD,hp];exact b
theorem jO {n m:Nm} {C:ax} {fs iM:SF} {a:Str} {q pos:Pos} {ob:cy} (x:EV i fr (h.set n (.inst C fs)) e v ((h.set n (.inst C fs)).set m ob)) (nm:n≠m) (y:EV i fr ((h.set m ob).set n (.inst C fs)) o (.ref n) ((h.set m ob).set n (.inst C fs))) (b:SS i fr ((h.set m ob).set n (.inst C iM)) (rest::k) Q)
  (hp:autoParam (fs.put a v=iM) dI) (hz:autoParam (wF fs.length 100=ab) bn) (ok:autoParam ((qj C a && iq e)=ab) bn):SS i fr (h.set n (.inst C fs)) ((.Assign [.Attribute o a q] e pos::rest)::k) Q:=by
 rw[zU nm] at x;refine jB x y aR (ah (jD hz) aJ) ?_ ok;rw[iD,hp];exact b
noncomputable def zq (nm:Str) (aS:List Str):Str:=if aS=[] then nm++dL " -> <empty>" else nm++dL " -> "++zQ (dL " ") aS
noncomputable def iI (nm:Str) (aS:List Str) (j:Nat) (li:Nm) (nx:SV):SF:=[("name",.str nm),("prod",.tup (aS.map .str)),("number",.int j),("func",.none),("callable",.none),("file",.str ""),("line",.int 0),("prec",wz),("len",.int aS.length),("usyms",.ref (.mk 42 [j])),("lr_items",.ref li),("lr_next",nx),("str",.str (zq nm aS))]
noncomputable def gS (u:List Str) (l:List Str):List Str:=l.foldl (λu s=>if s∈u then u else u++[s]) u
noncomputable def Ly:List Str:=["self","number","name","prod","precedence","func","file","line","s"]
theorem Hn:ck (bE 62) Ly=ab:=by kernel_rfl
theorem w_pi:cW (bE 62) ["tuple","len"]=ab:=by kernel_rfl
noncomputable def D6 (i:FI) (b:Nat):FI:=i.fn b 62 Ly ["tuple","len"] Hn w_pi
theorem mh:∀{l:List Str},eH 6 (l.map .str)=ab
 |[]=>rfl
 |_::r=>mh (l:=r)
theorem j_ {l:List Str} {s:Str}:(SV.str s∈l.map SV.str)↔s∈l:=⟨λh=>by refine aj (bD.mp h) λx hx e=>?_;injection e with e;exact e▸hx,λh=>bD.mpr (aT s h rfl)⟩
theorem SM {x:Str}:MV i h (.str x) "join" (.bi "str.join"):=⟨λfr'=>RC PySem.F.slot_str_join PySem.F.type_str_join⟩
theorem Ο {x:Str} {ys:List Str} (qh:(ys.map (·.length)).sum+ys.length*x.length≤16777216):CP i h (.bi "str.join") [.str x,.tup (ys.map .str)] (is (.str (zQ x ys)) h):=⟨λfr' Q' X hq=>Vd qh (hq _ _ ⟨rfl,rfl⟩)⟩
theorem LK {ea eb:Expr} {x m y z:Str} {k:Nat} {p1 p2 p3 pos:Pos} (a:EV i fr h ea (.str x) ag) (c:EV i fr ag eb u aC) (hu:u=.str y∨∃ys:List Str,dc i.G aC u (ys.map .str)∧y=(Im (ys.map .str)).shown) (hx:x.length≤1000) (hm:m.length≤1000) (hy:y.length≤1000) (he:x++m++y=z):
  EV i fr h (.JoinedStr [.FormattedValue ea 115 af p1,.Constant (.str m) k p2,.FormattedValue eb 115 af p3] pos) (.str z) aC:=by
 have e0:∀t:Str,zR++t=t:=λt=>by rw[Str.empty_append _]
 have l2:(x++m).length≤aZ:=by rw[QH _ _];unfold aZ;exact ah (fp ‹_› ‹_›) aJ
 have l3:(x++m++y).length≤aZ:=by rw[QH _ _,QH _ _];unfold aZ;exact ah (fp (fp hx hm) hy) aJ
 refine⟨λfr' s Q X hq=>Υ (OH (a.run fr' s _ _ ⟨x,hx,.inl rfl,x,rfl,by rw[e0 _];unfold aZ;exact ah ‹_› aJ,MC (cL m rfl (by rw[e0 _];exact l2) (OH (c.run fr' s _ _ ⟨y,hy,hu,y,rfl,by rw[e0 _];exact l3,?_⟩)))⟩))⟩;show Q (.str (zR++x++m++y)) aC;rw[e0 _,he];exact hq
theorem ψ {x:Str} (hx:x.length≤1000):OV i h [.str (dL "%s -> <empty>"),.str x] (bx (mS .Mod)) (.str (x++dL " -> <empty>")) h:=⟨λfr' Q X hq=>ζ hx hq⟩
theorem R4 {nm:Str} {aS:List Str} (h:aS=[]):zq nm aS=nm++dL " -> <empty>":=aO h
theorem ad0 {nm:Str} {aS:List Str} (h:aS≠[]):zq nm aS=nm++dL " -> "++zQ (dL " ") aS:=aK h
noncomputable def lD:List Str:=["a","A","b","B","error","S"]
noncomputable def gj:List (List Str):=[]::(lD.map ([·])++lD.flatMap λx=>lD.map λy=>[x,y])
noncomputable def wq:List Str:=["S'","S","A","B"]
theorem VO {aS:List Str} (hl:aS.length≤2) (hs:∀s∈aS,s∈lD):aS∈gj:=by
 cases aS with
 |nil=>exact dv
 |cons x r=>cases r with
  |nil=>exact eS _ (i6 _ (bD.mpr (aT x (hs x dv) rfl)))
  |cons y r=>cases r with
   |nil=>exact eS _ (kd _ (sA.mpr (aT x (hs x dv) (bD.mpr (aT y (hs y (eS _ dv)) rfl)))))
   |cons z r=>exact bd (HT (HT hl)) (afl _)
noncomputable def we (aS:List Str):Bool:=decide ((zQ (dL " ") aS).length≤1000) && decide ((aS.map (·.length)).sum+aS.length*(dL " ").length≤16777216) && decide (aS.length≤2) && aS.all λs=>decide (s∈lD)
theorem w_:gj.all we=ab:=by decide +kernel
theorem Wj:wq.all (λs=>decide (s.length≤1000))=ab:=by decide +kernel
theorem Xc {j:Nat} {nm:Str} {aS:List Str} {fs:SF} (hl:fr.lookup ("self":Str)=aa (.ref (bh j))) (Gj:fs=(iI nm aS j (.mk 66 [j]) .none).take 10) (hn:nm∈wq) (hs:aS∈gj) (sX:h (.mk 66 [j])=af)
  (bb:SS (D6 i b) fr ((h.set (.mk 66 [j]) (.list [])).set (bh j) (.inst 100 (iI nm aS j (.mk 66 [j]) .none))) [[]] Q):
  SS (D6 i b) fr (h.set (bh j) (.inst 100 fs)) [(bc 62).drop 11] Q:=by
 subst Gj;have hj:=db.mp w_ _ hs;simp only[we,bR,hH] at hj;obtain⟨⟨⟨Tt,qT⟩,hj3⟩,_⟩:=hj;have hn:=db.mp Wj _ hn;rw[hH] at hn;refine jO (m:=.mk 66 [j]) (ey aL ((aq az).trans sX)) az (n_ hl) ?_;refine fN kJ (n_ hl) ?_;have H:=aR (h:=h.set (.mk 66 [j]) (.list [])) (n:=bh j) (o:=.inst 100 ((iI nm aS j (.mk 66 [j]) .none).take 12))
 by_cases uP:aS=[]
 ·refine cf (p_ (a_ (n:=bh j) (n_ hl) H) (by rw[uP];exact CF bj)) ?_
  exact fN (v:=.str (zq nm aS)) (fH cx (a_ (n:=bh j) (n_ hl) H) (R4 uP▸ψ ‹_›)) (n_ hl) (aH bb)
 ·refine cR (p_ (a_ (n:=bh j) (n_ hl) H) ((by cases aS with|nil=>exact bd rfl uP|cons _ _=>rfl:(!(aS.map SV.str).isEmpty)=ab)▸CF (by rw[aI _];exact bf ‹_› bj))) ?_
  exact fN (v:=.str (zq nm aS)) (LK (a_ (n:=bh j) (n_ hl) H) (hG cx SM rfl (aB (a_ (n:=bh j) (n_ hl) H) aL) (Ο qT)) (.inl rfl) ‹_› (by decide +kernel) Tt (ad0 uP).symm) (n_ hl) (aH bb)
variable{j:Nat} {nm:Str} {aS:List Str} {l:Nm}
noncomputable def sZ (h:SH) (nm:Str) (aS:List Str) (j:Nat):SH:=((h.set (.mk 42 [j]) (.list ((gS [] aS).map .str))).set (.mk 66 [j]) (.list [])).set (bh j) (.inst 100 (iI nm aS j (.mk 66 [j]) .none))
noncomputable def adp (j:Nat) (nm:Str) (l:Nm):SF:=[("self",.ref (bh j)),("number",.int j),("name",.str nm),("prod",.ref l),("precedence",wz),("func",.none),("file",.str ""),("line",.int 0)]
theorem XA {u l:List Str} {s:Str}:gS u (l++[s])=if s∈gS u l then gS u l else gS u l++[s]:=by unfold gS;rw[ahu];rfl
theorem M8 (hn:nm∈wq) (hs:aS∈gj) (hl:h l=aa (.list (aS.map .str))) (hp:h (bh j)=af) (qS:h (.mk 42 [j])=af) (sX:h (.mk 66 [j])=af):
  SS (D6 i b) (adp j nm l) (h.set (bh j) (.inst 100 [])) [bc 62] (λf _ h'=>f.val=.none∧h'=sZ h nm aS j):=by
 have lp:l≠bh j:=λe=>by rw[e,hp] at hl;exact a8 hl
 have l42:l≠.mk 42 [j]:=λe=>by rw[e,qS] at hl;exact a8 hl
 have hj:=db.mp w_ _ hs;simp only[we,bR,hH] at hj;have hz:=hj.1.2;have zl:(aS.map SV.str).length≤2:=by rw[aI _];exact hz
 refine fN n_ n_ ?_;refine fN (v:=.tup (aS.map .str)) (b9 (i.K.ty rfl) rfl (aB n_ aL) (CI (.own ((aq lp).trans hl)) (by unfold aZ;exact ah ‹_› aJ))) n_ ?_;refine fN n_ n_ ?_;refine fN n_ n_ ?_;refine fN kJ n_ ?_;refine fN n_ n_ ?_;refine fN n_ n_ ?_;refine fN n_ n_ ?_;refine fN (v:=.int aS.length) (b9 (i.K.bi rfl) rfl (aB (a_ (n:=bh j) n_ aR) aL) (E1 (aI _) (bf ‹_› bj))) n_ ?_;refine jO (m:=.mk 42 [j]) (ey aL ((aq az).trans qS)) az n_ ?_;have I:∀u:List Str,((h.set (.mk 42 [j]) (.list (u.map .str))).set (bh j) (.inst 100 ((iI nm aS j (.mk 66 [j]) .none).take 10))) (bh j)=aa (.inst 100 ((iI nm aS j (.mk 66 [j]) .none).take 10)):=λ_=>aR;have I2:∀u:List Str,((h.set (.mk 42 [j]) (.list (u.map .str))).set (bh j) (.inst 100 ((iI nm aS j (.mk 66 [j]) .none).take 10))) (.mk 42 [j])=aa (.list (u.map .str)):=λ_=>(aq az).trans aR;refine eo (σ:=List Str) (λ_=>[("self",.ref (bh j))]) (λu=>(h.set (.mk 42 [j]) (.list (u.map .str))).set (bh j) (.inst 100 ((iI nm aS j (.mk 66 [j]) .none).take 10))) (λu t=>u=gS [] (aS.take t)∧u.length≤t) [] (aS.map .str) (N0 (a_ (n:=bh j) n_ aR)) ⟨rfl,au _⟩ (ai bt) (λ_ _ _=>rfl) (λu t v U e=>?_) (λu U=>?_)
 ·refine aj (dH e) λs gU ar=>?_;subst ar
  refine xA U λcP hu=>?_;clear U;subst cP;have tl:=(cU.mp gU).1;have st:gS [] (aS.take (t+1))=if s∈gS [] (aS.take t) then gS [] (aS.take t) else gS [] (aS.take t)++[s]:=by
   rw[jK,gU];exact XA
  refine dV ?_
  by_cases hm:s∈gS [] (aS.take t)
  ·refine cf (bv n_ (a_ (n:=bh j) n_ (I _)) (vc (.own (I2 _)) (j_.mpr hm) mh)) (aH (aH (bN (LQ.next (gS [] (aS.take t)) ⟨by rw[st,aO hm],by exact ah ‹_› (b7 _ _)⟩ (ai bt)))))
  ·refine cR (bv n_ (a_ (n:=bh j) n_ (I _)) (yj (.own (I2 _)) (λz=>hm (j_.mp z)) mh)) ?_
   refine fF (de (a_ (n:=bh j) n_ (I _)) (ga (I2 _)) ir (aB n_ aL) (fU (I2 _) (by rw[aI _];unfold aZ;exact cj (bf hu (bK tl (ah hz aJ)))))) ?_;refine aH (aH (bN (LQ.next (gS [] (aS.take t)++[s]) ⟨by rw[st,aK hm],by rw[cT];exact eE hu⟩ (ai bt) ?_)));rw[QU az,dM];rfl
 ·rw[aI,zK] at U
  refine xA U λcP _=>?_;clear U;subst cP;refine aH (Xc (fr:=[("self",.ref (bh j))]) rfl rfl hn hs ((aq az).trans sX) (aH (bN ⟨rfl,rfl⟩)))
theorem Xn {n:Nm} {z:SV} {Q:QV} {X:QX} (hn:h n=aa (.dict [])) (hq:Q z h):WC G F b fr h (.bi "dict.get") [.ref n,.none,z] Q X:=by
 refine .mk ?_;intro own ae A P m s Q' E' f' a6 R hf hv c d;obtain rfl:=hf;obtain⟨u,r,rfl,⟨ad,hm,rfl⟩,kv,r',rfl,jc,zv,Gv,rfl,ZR,rfl⟩:=hv;obtain rfl:=jc;obtain⟨bg,xs,D⟩:=R.dictAt hn;have h3:=D.o;obtain rfl:bg=ad:=aU (D.mn.symm.trans hm);have hx:xs=#[]:=Ii.mp D.ent;subst hx;refine i4 HX (⟨_,h3,rfl⟩:s.TypeIs (.ref bg.1) "dict") P8 ?_ (afs _ _ _);show aw _ _ (sk bg.1 .none >>=_) _ _ s;have hr:A.units+1+7<ew:=R.room;unfold sk;refine wb ?_
 try with_reducible refine dD ?_
 refine wb (pyHash_laid .none .none _ s _ rfl .none (by show A.units+1+WData.none.depth<ew;rw[show WData.none.depth=0 from by simp[WData.depth]];exact bf (b7 _ _) hr) λtk=>wb ?_);unfold dictFind
 try with_reducible refine dD ?_
 refine wb (HU (s:={s with toks:=tk}) h3 rfl ?_);refine aD (aD ?_);show aw _ _ (HV bg.1 .none >>=_) _ _ _;exact wb (HW D.sys (aD (aT zv rfl (c.here hq ZR (R.tok tk)))))
variable{e':Expr}
theorem T5 {pos:Pos} (a:EV i fr h e u ag) (t:TV i ag u ab) (c:EV i fr ag e' v aC):EV i fr h (.BoolOp .And [e,e'] pos) v aC:=
 ⟨λfr' s Q X hq=>ο (a.run fr' s _ _ (t.run fr' _ _ (by rw[aO rfl];exact IB (c.run fr' s _ _ hq))))⟩
noncomputable def Ym:Str:="abcdefghijklmnopqrstuvwxyzABCDEFGHIJKLMNOPQRSTUVWXYZ0123456789_-"
noncomputable def qM (s:Str):List SV:=s.cps.toList.map λc=>.str ⟨#[c]⟩
noncomputable def Ix (s:Str):Bool:=s.cps.all (· <128) && (s.cps.toList.all λc=>Cz ⟨#[c]⟩ Ym) && decide (0<s.length) && decide (s.length≤1000) && decide (s.cps.toList.length≤1000)
theorem acd:lD.all Ix=ab:=by decide +kernel
noncomputable def oz (h:SH) (N:Nat) (s:Str):SH:=h.set (gN N) (.list ((qM s).map λ_=>.bool ab))
theorem NR:ck (bE 39) ["s"]=ab:=by kernel_rfl
theorem w_id:cW (bE 39) ["len","all"]=ab:=by kernel_rfl
noncomputable def Lo (i:FI) (b:Nat):FI:=i.fn b 39 ["s"] ["len","all"] NR w_id
theorem ON {s:Str} (hb:i.b=b+1) (hs:s∈lD) (B:br h N):FP i h (.glob 39) [.str s] (is (.bool ab) (oz h N s)):=by
 have ok:=db.mp acd _ hs;simp only[Ix,bR,hH] at ok;obtain⟨⟨⟨⟨o1,o2⟩,o3⟩,o4⟩,o5⟩:=ok;have o6:(qM s).length≤1000:=by unfold qM;rw[aI _];exact o5
 refine enter i.K.ident NR w_id hb rfl ?_;refine gv (T5 (c_ (b9 (i.K.bi rfl) rfl (aB n_ aL) (⟨λfr' Q X hq=>Ry (bf ‹_› bj) (hq _ _ ⟨rfl,rfl⟩)⟩:CP (Lo i b) h (.bi "len") [.str s] (is (.int s.length) h))) bG (Cp (h9.mpr o3))) jf (b9 (i.K.bi rfl) rfl (aB (Bd (acc:=gN N) (l:=["c"]) (ls:=["_IDENTIFIER"]) (vs:=qM s) (us:=(qM s).map λ_=>.bool ab) ?_ ?_ ?_ (ei (v:=.str s) (kk:=.str s) n_ (.str o1)) B.at ?_ (aI _) (by unfold aZ;exact ah ‹_› aJ) rfl ?_) aL) (⟨λfr' Q X hq=>Θ (ts:=(qM s).map λ_=>ab) rfl (.own aR) (by rw[o0,o0];rfl) (hq _ _ ⟨by congr 1;rw[agi];exact db.mpr λ_ _=>rfl,rfl⟩)⟩:CP (Lo i b) (oz h N s) (.bi "all") [.ref (gN N)] (is (.bool ab) (oz h N s))))) ⟨rfl,rfl⟩
 ·kernel_rfl
 ·kernel_rfl
 ·rfl
 ·intro ws j
  show aa (s.cps[j]?.map λc=>SV.str ⟨#[c]⟩)=aa (qM s)[j]?;unfold qM;rw[dq,js]
 ·intro ws j v u e1 e2
  rw[dq,e1] at e2
  (first|exact a8 e2|obtain rfl:=aU e2)
  refine aj (dH e1) λc hc ar=>?_;subst ar;have:=db.mp o2 c (bQ hc);exact c_ n_ (g_ i.K.EE) (this▸OE)
theorem KQ:ck (bE 146) ["symbols","terminals","i"]=ab:=by kernel_rfl
theorem w_rm:cW (bE 146) ["len"]=ab:=by kernel_rfl
noncomputable def iRm (i:FI) (b:Nat):FI:=i.fn b 146 ["symbols","terminals","i"] ["len"] KQ w_rm
theorem Xm {LL:b8} (hb:i.b=b+1) (hl:h l=aa (.list (aS.map .str))) (hz:aS.length≤1000) (ht:h (.mk 38 [])=aa (.dict LL)):FP i h (.glob 146) [.ref l,.ref (.mk 38 [])] (λv h'=>h'=h∧(v=.none∨∃s,v=.str s)):=by
 refine enter i.K.rightmost KQ w_rm hb rfl ?_;refine bO (v:=.int ((aS.length:Int) - 1)) (fH (b9 (i.K.bi rfl) rfl (aB n_ aL) (O_ (.own hl) (aI _) (by rw[aI _];exact bf ‹_› bj))) bG Ag) ?_;refine rR (σ:=Nat) (λn=>[("symbols",.ref l),("terminals",.ref (.mk 38 [])),("i",.int ((n:Int) - 1))]) (λ_=>h) (λn m=>n=m∧n≤aS.length) aS.length aS.length ⟨rfl,au _⟩ (ai (ai (ai bt))) ?_;rintro n m ⟨rfl,hn⟩;refine(mB _ h (bv n_ bG Hc) (λ_=>aH (gv kJ ⟨rfl,.inl rfl⟩)) (λe=>?_));have n1:1≤n:=wS.mp (Int.le_of_sub_nonneg (fD e));obtain⟨s,hs⟩:∃s,aS[n-1]? =aa s:=⟨_,fb (bK (rY n1 oX) hn)⟩;have sg:∀{p q r:Pos},EV (iRm i b) [("symbols",.ref l),("terminals",.ref (.mk 38 [])),("i",.int ((n:Int) - 1))] h (.Subscript (.Name "symbols" p) (.Name "i" q) r) (.str s) h:=λ{p q r}=>by
  rw[show(n:Int) - 1=((n-1:Nat):Int) from(ahv n1).symm];exact mM (j:=n-1) n_ n_ (.own hl) (QI (bf hn (bf hz bj))) (by rw[dq,hs];rfl)
 refine GZ (bv sg n_ (pX ht)) (λ_=>?_) (λ_=>?_)
 ·exact gv sg ⟨rfl,.inr ⟨s,rfl⟩⟩
 ·refine aH (yn rfl bG K4 (aH (bN (LQ.next (n-1) (cL (n-1) (rY n1 oX) rfl (ah (kh _ _) ‹_›)) ?_))))
  refine ai (ai (ai bt ?_));show aa (SV.int ((n:Int) - 1-1))=aa (.int (((n-1:Nat):Int) - 1));rw[show((n-1:Nat):Int)=(n:Int) - 1 from ahv n1]
theorem RB {n:Nm} {Q:QV} {X:QX} (hn:h n=af) (hq:Q (.ref n) (h.set n (.set []))):WC G F b fr h (.ty "set") [] Q X:=by
 refine .mk ?_;intro own ae A P m s Q' E' f' a6 R hf hv c d;obtain rfl:=hf;obtain rfl:=hv;refine Kx (.inl rfl) PySem.F.typeCall_set_0 R hn λa5 led a7 le hs keep _=>?_;have gU:a5.heap.get? s.heap.objs.size=aa {cls:=.type "set",dict:=af,data:=.set #[] 0 (.fresh 0 0 led)}:=hs;refine agw PySem.F.called_set.init.plain agx (check_set_init ⟨_,hs,rfl⟩ ?_);unfold Builtin.«set.__init__» noKeywords
 wp_walk
 exact⟨rfl,(c (.ref n) _ _ _ _ _ hq .rfl le ⟨_,Mu.jj,rfl⟩ a7)⟩
theorem Xz:ck (bE 172) ["self","terminals","term"]=ab:=by kernel_rfl
theorem w_gi:cW (bE 172) ["set"]=ab:=by kernel_rfl
noncomputable def kQ:List Nat:=[34,35,36,37,38,39,41,45,46,49,50]
def Ub (h:SH) (B:List Nat):Prop:=∀k∈B,∀l,h (.mk k l)=af
noncomputable def ip (t:Str):Nm:=.mk 41 [sym t]
noncomputable def iX:b8:=[(.str "a",.ref (ip "a")),(.str "b",.ref (ip "b")),(.str "error",.ref (ip "error"))]
noncomputable def pM (st:SV):SF:=[("Productions",.ref (.mk 35 [])),("Prodnames",.ref (.mk 36 [])),("Prodmap",.ref (.mk 37 [])),("Terminals",.ref (.mk 38 [])),("Nonterminals",.ref (.mk 39 [])),("First",.ref (.mk 45 [])),("Follow",.ref (.mk 46 [])),("Precedence",.ref (.mk 49 [])),("UsedPrecedence",.ref (.mk 50 [])),("Start",st)]
structure qW (h h':SH):Prop where
 gr:h' aX=aa (.inst 283 (pM .none))
 fk:h' (.mk 35 [])=aa (.list [.none])
 names:h' (.mk 36 [])=aa (.dict [])
 map:h' (.mk 37 [])=aa (.dict [])
 term:h' (.mk 38 [])=aa (.dict iX)
 ta:h' (ip "a")=aa (.list [])
 tb:h' (ip "b")=aa (.list [])
 te:h' (ip "error")=aa (.list [])
 iu:h' (.mk 39 [])=aa (.dict [])
 first:h' (.mk 45 [])=aa (.dict [])
 nz:h' (.mk 46 [])=aa (.dict [])
 prec:h' (.mk 49 [])=aa (.dict [])
 same:∀k l,kQ.contains k=an→h' (.mk k l)=h (.mk k l)
theorem Xy {n:Nm} (hn:h n=af):CP i h (.ty "set") [] (is (.ref n) (h.set n (.set []))):=⟨λfr' Q' X hq=>RB hn (hq _ _ ⟨rfl,rfl⟩)⟩
noncomputable def vp (h:SH):SH:=((((h.set (.mk 35 []) (.list [.none])).set (.mk 36 []) (.dict [])).set (.mk 37 []) (.dict [])).set (.mk 38 []) (.dict [])).set aX (.inst 283 ((pM .none).take 4))
noncomputable def qb (h:SH) (es:b8) (t:Str):SH:=(h.set (ip t) (.list [])).set (.mk 38 []) (.dict (bl es (.str t) (.ref (ip t))))
noncomputable def DV (h:SH):Nat→SH
 |0=>vp h
 |1=>qb (vp h) [] "a"
 |_=>qb (qb (vp h) [] "a") (iX.take 1) "b"
noncomputable def L5 (h:SH):SH:=qb (DV h 2) (iX.take 2) "error"
theorem aid {x:SH} (h1:x aX=aa (.inst 283 (pM .none))) (h2:x (.mk 39 [])=aa (.dict [])) (h3:x (.mk 45 [])=aa (.dict [])) (h4:x (.mk 46 [])=aa (.dict [])) (h5:x (.mk 49 [])=aa (.dict []))
  (e:∀k l,([34,39,45,46,49,50]:List Nat).contains k=an→x (.mk k l)=L5 h (.mk k l)):qW h x:=by
 refine⟨h1,(e _ _ rfl).trans rfl,(e _ _ rfl).trans rfl,(e _ _ rfl).trans rfl,(e _ _ rfl).trans rfl,(e _ _ rfl).trans rfl,(e _ _ rfl).trans rfl,(e _ _ rfl).trans rfl,h2,h3,h4,h5,λk l hk=>?_⟩;have ne:∀a∈kQ,∀l',Nm.mk k l≠.mk a l':=λa ha l' e=>by injection e with e;subst e;rw[e9.mpr ha] at hk;exact iQ hk
 rw[e k l (by
  cases z:([34,39,45,46,49,50]:List Nat).contains k with
  |false=>rfl
  |true=>exact bd rfl (ne k ((aV:∀a∈([34,39,45,46,49,50]:List Nat),a∈kQ) k (e9.mp z)) l))]
 show qb (qb (qb (vp h) [] "a") (iX.take 1) "b") (iX.take 2) "error" (.mk k l)=_;unfold qb vp;have Zy:∀t,Nm.mk k l≠ip t:=λt=>ne 41 bS _;have Fg:Nm.mk k l≠aX:=ne 34 bS _
 iterate 3 rw[aq (ne 38 bS _),aq (Zy _)]
 rw[aq Fg,aq (ne 38 bS _),aq (ne 37 bS _),aq (ne 36 bS _),aq (ne 35 bS _)]
theorem T6 (hb:i.b=b+1) (B:Ub h kQ) (hl:h l=aa (.list [.str "a",.str "b"])):FP i (h.set aX (.inst 283 [])) (.glob 172) [.ref aX,.ref l] (λv h'=>v=.none∧qW h h'):=by
 have nl:∀k∈kQ,∀l',l≠.mk k l':=λk hk l' e=>by rw[e,B k hk] at hl;exact a8 hl
 have hn:∀k∈kQ,∀l,h (.mk k l)=af:=B;refine enter i.K.graminit Xz w_gi hb rfl ?_;refine jO (m:=.mk 35 []) (ey (aB kJ aL) (show h _=af from B 35 bS _)) az n_ ?_;refine jO (m:=.mk 36 []) (gZ (show h _=af from B 36 bS _)) az n_ ?_;refine jO (m:=.mk 37 []) (gZ (show h _=af from B 37 bS _)) az n_ ?_;refine jO (m:=.mk 38 []) (gZ (show h _=af from B 38 bS _)) az n_ ?_;have IL:∀n,DV h n l=aa (.list [.str "a",.str "b"]):=λn=>by
  have e0:vp h l=aa (.list [.str "a",.str "b"]):=(aq (nl 34 bS _)).trans ((aq (nl 38 bS _)).trans ((aq (nl 37 bS _)).trans ((aq (nl 36 bS _)).trans ((aq (nl 35 bS _)).trans hl))));have e1:∀{x:SH} {es t},x l=aa (.list [.str "a",.str "b"])→qb x es t l=aa (.list [.str "a",.str "b"]):=λe=>(aq (nl 38 bS _)).trans ((aq (nl 41 bS _)).trans e)
  match n with
  |0=>exact e0
  |1=>exact e1 e0
  |n+2=>exact e1 (e1 e0)
 refine eo (σ:=Nat) (λ_=>[("self",.ref aX),("terminals",.ref l)]) (DV h) (λs j=>s=j) 0 [.str "a",.str "b"] (d7 n_ (IL 0)) rfl (ai (ai bt)) (λs j _=>d6 (IL s)) (λs j v e ev=>?_) (λs e=>?_)
 ·subst e
  match s,ev with
  |0,ev=>
   (first|exact a8 ev|obtain rfl:=aU ev)
   refine dV (d9 (n:=.mk 38 []) (es:=[]) (ey (n:=ip "a") aL (show h _=af from B 41 bS _)) (a_ (n:=aX) n_ rfl) n_ rfl aJ ?_);exact aH (bN (LQ.next 1 rfl (ai (ai bt))))
  |1,ev=>
   (first|exact a8 ev|obtain rfl:=aU ev)
   refine dV (d9 (n:=.mk 38 []) (es:=iX.take 1) (ey (n:=ip "b") aL (show h _=af from B 41 bS _)) (a_ (n:=aX) n_ rfl) n_ rfl aJ ?_);exact aH (bN (LQ.next 2 rfl (ai (ai bt))))
 ·obtain rfl:s=2:=e
  refine aH (d9 (n:=.mk 38 []) (es:=iX.take 2) (ey (n:=ip "error") aL (show h _=af from B 41 bS _)) (a_ (n:=aX) n_ rfl) cx rfl aJ ?_);refine(?_:SS _ _ (L5 h) _ _);refine jB (n:=aX) (gZ (n:=.mk 39 []) (show h _=af from B 39 bS _)) n_ rfl aJ ?_;refine jB (n:=aX) (gZ (n:=.mk 45 []) (show h _=af from B 45 bS _)) n_ rfl aJ ?_;refine jB (n:=aX) (gZ (n:=.mk 46 []) (show h _=af from B 46 bS _)) n_ rfl aJ ?_;refine jB (n:=aX) (gZ (n:=.mk 49 []) (show h _=af from B 49 bS _)) n_ rfl aJ ?_;refine jB (n:=aX) (b9 (i.K.ty rfl) rfl aL (Xy (n:=.mk 50 []) (show h _=af from B 50 bS _))) n_ rfl aJ ?_;refine jB (n:=aX) kJ n_ rfl aJ ?_;refine aH (bN ⟨rfl,aid rfl rfl rfl rfl rfl λk l hk=>?_⟩);have ne:∀a∈([34,39,45,46,49,50]:List Nat),∀l',Nm.mk k l≠.mk a l':=λa ha l' e=>by injection e with e;subst e;rw[e9.mpr ha] at hk;exact iQ hk
  have Fg:Nm.mk k l≠aX:=ne 34 bS _
  iterate 11 rw[aq (by first|exact Fg|exact ne 39 bS _|exact ne 45 bS _|exact ne 46 bS _|exact ne 49 bS _|exact ne 50 bS _)]
noncomputable def zn:List Str:=["self","prodname","syms","func","file","line","n","s","c","precname","prodprec","map","m","pnumber","t","p"]
theorem zc:ck (bE 201) zn=ab:=by kernel_rfl
noncomputable def L6:List Str:=["_is_identifier","enumerate","rightmost_terminal","len","Production","KeyError"]
theorem w_ap:cW (bE 201) L6=ab:=by kernel_rfl
noncomputable def m9 (i:FI) (b:Nat):FI:=i.fn (b+2) 201 zn L6 zc w_ap
noncomputable def CN (nm:Str) (l:Nm):SF:=[("self",.ref aX),("prodname",.str nm),("syms",.ref l),("func",.none),("file",.str ""),("line",.int 0)]
noncomputable def a9:List Str:=["S","A","B"]
noncomputable def Fk (s:Str):Nat:=s.cps.getD 0 0
noncomputable def Nz (s:Str):Bool:=((n9 0 s.length).bind (s.cps[·]?))==aa (Fk s) && !Cz ⟨#[Fk s]⟩ "'\"" && decide (s.length≤1000)
theorem Z5:lD.all Nz=ab:=by decide +kernel
theorem Ud:∀s∈a9,s∈lD:=aV
theorem ZL {s:Str} (h:s∈a9):s∈lD:=Ud s h
theorem br.oz {s:Str} (B:br h N):br (oz h N s) (N+1):=B.new _ _
noncomputable def uQ (vs:List SV):List SV:=vs.zipIdx.map λp=>.tup [.int p.2,p.1]
theorem CT {vs:List SV} {j:Nat}:(uQ vs)[j]? =vs[j]?.map λv=>.tup [.int j,v]:=by
 unfold uQ;rw[dq,List.getElem?_zipIdx,mP _]
 cases vs[j]? <;>rfl
theorem Ν {n:Nm} {vs:List SV} {j:Nat} (hn:h n=aa (.list vs)):jo (.enumL n) j h=aa (uQ vs)[j]? :=(ay (yV · λvs=>vs[j]?.map λv=>.tup [.int j,v]) hn).trans (ay aa CT.symm)
theorem Z_ {vs:List SV} {j:Nat}:jo (.enumT vs) j h=aa (uQ vs)[j]? :=ay aa CT.symm
structure AS where
 N:Nat
 h:SH
theorem Rt:∀s∈a9,(iX.lookup (.str s)).isSome=an:=by decide +kernel
theorem NW {s:Str} (hs:s∈a9):iX.lookup (.str s)=af:=Option.not_isSome_iff_eq_none.mp λe=>by rw[Rt s hs] at e;exact cJ e
theorem SR (hn:nm∈a9) (hs:aS∈gj) (hl:h l=aa (.list (aS.map .str))) (nD:∃m t,l=.mk 99 (m::t)∧m<N) (ht:h (.mk 38 [])=aa (.dict iX)) (hg:h aX=aa (.inst 283 (pM .none))) (B:br h N)
  (fin:∀N' h',br h' N'→Kq [] N h h'→N≤N'→SS (m9 i b) (CN nm l) h' [(bc 201).drop 4] Q):SS (m9 i b) (CN nm l) h [bc 201] Q:=by
 refine eA nD λm tl ar hm=>?_;clear nD;subst ar;have hj:=db.mp w_ _ hs;simp only[we,bR,hH] at hj;have hz:=hj.1.2;refine cf (bv n_ (a_ (n:=aX) n_ hg) (A_ ht (NW hn))) (aH ?_);refine cf (bv n_ cx (lT λe=>by injection e with e;subst e;revert hn;exact aV)) (aH ?_);refine cf (fw (t:=ab) (p_ (b9 (i.K.ref rfl) (i.K.keep rfl) (aB n_ aL) (ON (b:=b+1) rfl (ZL hn) B).cp) jf)) (aH ?_);have LN:∀{h':SH},Kq [] N h h'→h' (.mk 99 (m::tl))=aa (.list (aS.map .str)):=λkq=>(kq.2 m tl hm).trans hl;have ua:Kq [] N h (oz h N nm):=.new (au _);refine eo (σ:=AS) (λ_=>CN nm (.mk 99 (m::tl))) AS.h (λs j=>br s.h s.N∧Kq [] N h s.h∧N≤s.N) ⟨N+1,oz h N nm⟩ (uQ (aS.map .str)) (Ja (i.K.ty rfl) n_ (.lst (LN ua))) (cI B.oz ua (bT _)) .rfl (λs j Z=>Ν (LN Z.2.1)) (λs j v Z e=>?_) (λs Z=>aH (fin s.N s.h Z.1 Z.2.1 Z.2.2));rw[CT,dq] at e
 cases gU:aS[j]? with
 |none=>rw[gU] at e;(first|exact a8 e|obtain rfl:=aU e)
 |some t=>
  rw[gU] at e
  (first|exact a8 e|obtain rfl:=aU e)
  have ht:=(λs h=>fD (db.mp hj.2 s h):∀s∈aS,s∈lD) t (bQ gU);have ok:=db.mp Z5 _ ht;simp only[Nz,bR,jI,hH] at ok;obtain⟨⟨o1,o2⟩,o3⟩:=ok;refine Hg ?_;refine cf (bv (y0 (v:=.str ⟨#[Fk t]⟩) n_ bG .str ⟨λfr' Q X hq=>W_ aV aV (eq_of_beq o1) hq⟩) cx (o2▸OE)) (aH ?_);refine cf (oE (fw (t:=ab) (p_ (b9 (i.K.ref rfl) (i.K.keep rfl) (aB n_ aL) (ON (b:=b+1) rfl ht Z.1).cp) jf))) (aH (aH (bN ?_)));exact LQ.next ⟨s.N+1,oz s.h s.N t⟩ (cI Z.1.oz (Z.2.1.trans (M:=s.N) (.new (au _)) Z.2.2) (c7 Z.2.2)) (SF.sub.rfl.b_.b_)
noncomputable def tO (aS:List Str):Str:=(Im (aS.map .str)).shown
noncomputable def zY:List Str:=(["[]","['a']","['A']","['b']","['B']","['error']","['S']","['a', 'a']","['a', 'A']","['a', 'b']","['a', 'B']","['a', 'error']","['a', 'S']","['A', 'a']","['A', 'A']","['A', 'b']","['A', 'B']","['A', 'error']","['A', 'S']","['b', 'a']","['b', 'A']","['b', 'b']","['b', 'B']","['b', 'error']","['b', 'S']","['B', 'a']","['B', 'A']","['B', 'b']","['B', 'B']","['B', 'error']","['B', 'S']","['error', 'a']","['error', 'A']","['error', 'b']","['error', 'B']","['error', 'error']","['error', 'S']","['S', 'a']","['S', 'A']","['S', 'b']","['S', 'B']","['S', 'error']","['S', 'S']"]:List String).map dL
theorem Ks:∀l:List Str,QJ (l.map .str)=l.map λx=>QK (.str x)
 |[]=>by simp only[Dx,QJ]
 |x::r=>by simp only[sp,QJ];rw[Ks r]
theorem Y5 (l:List Str):tO l=listText (l.map reprText):=by
 unfold tO;simp only[QK];rw[Ks _];simp only[QK]
theorem VP:(gj.map λl=>listText (l.map reprText))=zY:=by decide +kernel
theorem Wf:zY.Nodup:=by decide +kernel
theorem Yz:zY.all (λs=>decide (s.length≤1000))=ab:=by decide +kernel
noncomputable def RX:Str:=dL " -> "
noncomputable def oB (nm:Str) (aS:List Str):Str:=nm++RX++tO aS
theorem DH:a9.all (λs=>decide (s.cps.toList.length=1) && decide (s.length≤1000))=ab:=by decide +kernel
theorem EQ {n:Nat} {aS:List Str} (h:gj[n]? =aa aS):zY[n]? =aa (tO aS):=by
 rw[←VP,dq,h,Option.map_some _ _,Y5 _]
theorem WW {aS:List Str} (h:aS∈gj):(tO aS).length≤1000:=by
 refine xE (uy h) λn hn=>?_;exact fD (db.mp Yz _ (bQ (EQ hn)))
theorem V' {s t:List Str} (hs:s∈gj) (ht:t∈gj) (e:tO s=tO t):s=t:=by
 refine xE (uy hs) λn hn=>?_;refine xE (uy ht) λm hm=>?_;have a:=EQ hn;rw[e] at a;have:=(P7 ((cU.mp a).1) Wf).mp (a.trans (EQ hm).symm);subst this;exact aU (hn.symm.trans hm)
theorem Vn {a c:Str} {s t:List Str} (ha:a∈a9) (hc:c∈a9) (hs:s∈gj) (ht:t∈gj) (e:oB a s=oB c t):a=c∧s=t:=by
 have la:=db.mp DH _ ha;have lc:=db.mp DH _ hc;simp only[bR,hH] at la lc;have e2:=ay (λs:Str=>s.cps.toList) e;simp only[oB,Str.cps_append,af5] at e2;refine xA (ahw e2 (by rw[cT,cT,la.1,lc.1])) λh1 h2=>?_;refine xA (ahw h1 (by rw[la.1,lc.1])) λh3 _=>?_;have Oj:∀x y:Str,x.cps.toList=y.cps.toList→x=y:=λx y e=>by
  cases x;cases y;exact ay Str.mk (Ii.mp e)
 exact⟨Oj _ _ h3,V' hs ht (Oj _ _ h2)⟩
variable{Rs:bp}
noncomputable def gB (Rs:bp) (s:Str):List Nat:=(bq Rs.length).filter λj=>decide (j≠0) && decide (bF Rs j=s)
noncomputable def f_ (s:Str):Nm:=.mk 40 [sym s]
noncomputable def fR (s:Str):Nm:=.mk 44 [sym s]
structure gW (h:SH) (es:b8) (m:Nat):Prop where
 nd:(es.map (·.1)).Nodup
 key:∀k v,es.lookup k=aa v→∃s∈a9,k=.str s∧v=.ref (fR s)∧∃vs,h (fR s)=aa (.list vs)∧vs.length≤m
 no:∀s∈a9,es.lookup (.str s)=af→h (fR s)=af
def oi (h:SH) (m:Nat):Prop:=h (.mk 38 [])=aa (.dict iX)∧∀t∈dY,∃vs,h (ip t)=aa (.list vs)∧vs.length≤m
noncomputable def uK:List Str:=["a","A","b","B","error"]
structure GB (Rs:bp) (h:SH):Prop where
 gr:h aX=aa (.inst 283 (pM .none))
 fk:h (.mk 35 [])=aa (.list (.none::(bq Rs.length).tail.map bB))
 names:∃es,h (.mk 36 [])=aa (.dict es)∧(es.map (·.1)).Nodup∧(∀k∈es.map (·.1),∃s∈a9,k=.str s)∧∀s∈a9,(gB Rs s≠[]→es.lookup (.str s)=aa (.ref (f_ s))∧h (f_ s)=aa (.list ((gB Rs s).map bB)))∧(gB Rs s=[]→es.lookup (.str s)=af∧h (f_ s)=af)
 map:∃es,h (.mk 37 [])=aa (.dict es)∧(∀k∈es.map (·.1),∃r∈Rs.tail,k=.str (oB r.1 r.2))∧es.length≤Rs.length
 vV:oi h (3*Rs.length)
 iu:∃es,h (.mk 39 [])=aa (.dict es)∧gW h es (3*Rs.length)∧∀j,0<j→j<Rs.length→(es.lookup (.str (bF Rs j))).isSome=ab
 first:h (.mk 45 [])=aa (.dict [])
 nz:h (.mk 46 [])=aa (.dict [])
 prec:h (.mk 49 [])=aa (.dict [])
 pr:∀j,0<j→j<Rs.length→h (bh j)=aa (.inst 100 (iI (bF Rs j) (aG Rs j) j (.mk 66 [j]) .none))∧h (.mk 42 [j])=aa (.list ((gS [] (aG Rs j)).map .str))
 free:∀j,j=0∨Rs.length≤j→h (bh j)=af∧h (.mk 42 [j])=af∧h (.mk 66 [j])=af
 shape:∀r∈Rs.tail,r.1∈a9∧r.2∈gj∧∀s∈r.2,s∈uK
 len:Rs.length≤5
 pos:0<Rs.length
noncomputable def rU (nm:Str) (l:Nm) (aS:List Str) (n:Nat):SF:=[("self",.ref aX),("prodname",.str nm),("syms",.ref l),("func",.none),("file",.str ""),("line",.int 0),("prodprec",wz),("map",.str (oB nm aS)),("pnumber",.int n)]
theorem EH {n:Nat}:(bq n).tail.length=n-1:=by rw[pq,dR]
theorem Z7:gj.all (λaS=>aS.all λs=>decide (s≠"%prec"))=ab:=by decide +kernel
theorem W3 {n:Nm} (hn:h n=aa (.dict [])) (hv:v=.none∨∃s,v=.str s):CP i h (.bi "dict.get") [.ref n,v,w] (is w h):=by
 rcases hv with rfl|⟨s,rfl⟩
 ·exact⟨λfr' Q X hq=>Xn hn (hq _ _ ⟨rfl,rfl⟩)⟩
 ·exact xL hn
theorem ZN (G:GB Rs h) (hn:nm∈a9) (hs:aS∈gj) (hl:h l=aa (.list (aS.map .str))) (Gk:(nm,aS)∉Rs.tail)
  (fin:SS (m9 i b) (rU nm l aS Rs.length) h [(bc 201).drop 8] Q):SS (m9 i b) (CN nm l) h [(bc 201).drop 4] Q:=by
 have hj:=db.mp w_ _ hs;simp only[we,bR,hH] at hj;have hz:=hj.1.2;have hp:(SV.str "%prec")∉aS.map SV.str:=λz=>by
  have:=db.mp (db.mp Z7 _ hs) _ (j_.mp z);exact fD this rfl
 have nl:=db.mp DH _ hn;simp only[bR,hH] at nl;refine cf (bv cx n_ (acj (.own hl) hp mh)) ?_;refine ku (nF (i.K.ref rfl) (i.K.keep rfl) (aB n_ (aB (a_ (n:=aX) n_ G.gr) aL)) (Xm (b:=b+1) rfl hl (ah ‹_› aJ) G.vV.1).cp) ?_;rintro v h1 ⟨rfl,hv⟩;have nb:lG v=ab:=by rcases hv with rfl|⟨s,rfl⟩<;>rfl
 refine bO (v:=wz) (hG (a_ (n:=aX) n_ G.gr) (ja G.prec) rfl (aB n_ (aB (eY (aB cx (aB bG aL))) aL)) (W3 G.prec hv)) ?_;refine aH (bO (v:=.str (oB nm aS)) (LK n_ n_ (.inr (aT aS (.own hl) rfl)) nl.2 (by decide +kernel) (WW hs) rfl) ?_);obtain⟨Xv,hm,hk,hml⟩:=G.map;have UZ:Xv.lookup (.str (oB nm aS))=af:=lB.mpr λz=>by
  refine aj (hk _ z) λr hr e=>?_;injection e with e;refine jw (G.shape r hr) λh1 h2 _=>?_;refine xA (Vn hn h1 hs h2 e) λe1 e2=>?_;exact Gk (by rw[e1,e2];exact hr)
 refine cf (bv n_ (a_ (n:=aX) n_ G.gr) (A_ hm UZ)) (aH ?_);have qn:=G.pos;refine bO (v:=.int Rs.length) (b9 (i.K.bi rfl) rfl (aB (a_ (n:=aX) n_ G.gr) aL) (O_ (.own G.fk) (by rw[iC,aI _,EH];exact qG ‹_›) (by rw[iC,aI _,EH];exact ph (QI (bf G.len bj))))) ?_;exact fin.sub (ai (ai (ai (ai (ai (ai (ai (ai (ai bt)))))))))
theorem FG:∀x∈a9,∀y∈a9,sym x=sym y→x=y:=by decide +kernel
theorem RO:∀x∈dY,∀y∈dY,sym x=sym y→x=y:=by decide +kernel
theorem AA {x y:Str} (hx:x∈a9) (hy:y∈a9) (e:fR x=fR y):x=y:=by injection e with _ e;injection e with e;exact FG x hx y hy e
theorem Rd {x y:Str} (hx:x∈dY) (hy:y∈dY) (e:ip x=ip y):x=y:=by injection e with _ e;injection e with e;exact RO x hx y hy e
theorem gW.add (I:gW h es m) (hs:s∈a9) (hl:es.lookup (.str s)=af):gW ((h.set (fR s) (.list [])).set (.mk 39 []) (.dict (bl es (.str s) (.ref (fR s))))) (bl es (.str s) (.ref (fR s))) m:=by
 refine⟨oq I.nd,λk v e=>?_,λt ht e=>?_⟩
 ·rw[ft] at e
  split at e
  ·next z=>obtain rfl:=aU e;exact(xl s hs z rfl ([]) ((aq az).trans aR) (cb _))
  ·next z=>
   refine xV (I.key k v e) λt ht ar y8 vs a c=>?_;subst ar;subst y8;exact(xl t ht rfl rfl vs ((aq az).trans ((aq λq=>z (ay SV.str (AA ht hs q))).trans a)) c)
 ·rw[ft] at e
  split at e
  ·exact fB e
  ·next z=>exact(aq az).trans ((aq λq=>z (ay SV.str (AA ht hs q))).trans (I.no t ht e))
theorem gW.app {vs:List SV} {x:SV} (I:gW h es m) (hs:s∈a9) (hl:es.lookup (.str s)=aa (.ref (fR s))) (hv:h (fR s)=aa (.list vs)):gW (h.set (fR s) (.list (vs++[x]))) es (m+1):=by
 refine⟨I.nd,λk v e=>?_,λt ht e=>?_⟩
 ·refine xV (I.key k v e) λt ht ar y8 ws a c=>?_;subst ar;subst y8
  by_cases z:t=s
  ·subst z
   rw[hv] at a;cases a;exact(xl t ht rfl rfl _ aR (by rw[cT];exact eE c))
  ·exact(xl t ht rfl rfl ws ((aq λq=>z (AA ht hs q)).trans a) (c7 c))
 ·exact(aq λq=>by rw[AA ht hs q,hl] at e;exact fB e).trans (I.no t ht e)
theorem gW.same (I:gW h es m) {n:Nat} (e:∀l,h' (.mk 44 l)=h (.mk 44 l)) (hm:m≤n):gW h' es n:=
 ⟨I.nd,λk v q=>by refine xV (I.key k v q) λt ht a c vs d f=>?_;exact(xl t ht a c vs ((e _).trans d) (ah f hm)),λs hs q=>(e _).trans (I.no s hs q)⟩
theorem oi.same (I:oi h m) {n:Nat} (e:∀l,h' (.mk 41 l)=h (.mk 41 l)) (e2:h' (.mk 38 [])=h (.mk 38 [])) (hm:m≤n):oi h' n:=
 ⟨e2.trans I.1,λt ht=>by refine aj (I.2 t ht) λvs a c=>?_;exact(aT vs ((e _).trans a) (ah c hm))⟩
theorem oi.app {vs:List SV} {x:SV} (I:oi h m) (hs:s∈dY) (hv:h (ip s)=aa (.list vs)):oi (h.set (ip s) (.list (vs++[x]))) (m+1):=by
 refine⟨(aq az).trans I.1,λt ht=>?_⟩;refine aj (I.2 t ht) λws a c=>?_
 by_cases z:t=s
 ·subst z
  rw[hv] at a;cases a;exact(aT _ aR (by rw[cT];exact eE c))
 ·exact(aT ws ((aq λq=>z (Rd ht hs q)).trans a) (c7 c))
theorem Mt (I:gW h es m):es.length≤3:=by
 have:=fO I.nd (l₂:=a9.map SV.str) λk hk=>by
  cases e:es.lookup k with
  |none=>exact bd hk (lB.mp e)
  |some v=>refine bM (I.key k v e) λs hs z _=>?_;exact bD.mpr (aT s hs z.symm)
 rwa [aI] at this
theorem NC:∀s∈dY,iX.lookup (.str s)=aa (.ref (ip s)):=by
 intro s hs;have:s="a"∨s="b"∨s="error":=by simpa [dY] using hs
 rcases this with rfl|rfl|rfl<;>rfl
theorem RR:∀s∈uK,s∈dY∨s∈a9:=aV
structure DS where
 es:b8
 h:SH
structure DJ (aA:SH) (nm:Str) (m:Nat) (s:DS):Prop where
 d:s.h (.mk 39 [])=aa (.dict s.es)
 nt:gW s.h s.es m
 tm:oi s.h m
 kq:∀M,Kq [39,41,44] M aA s.h
 has:(s.es.lookup (.str nm)).isSome=ab
theorem aec (G:GB Rs h) (hn:nm∈a9) (hs:aS∈gj) (h5:∀s∈aS,s∈uK) (hl:h l=aa (.list (aS.map .str))) (nD:∃m t,l=.mk 99 (m::t))
  (fin:∀es h',DJ h nm (3*(Rs.length+1)) ⟨es,h'⟩→(∀pW,h (.mk 39 [])=aa (.dict pW)→∀k,(pW.lookup k).isSome=ab→(es.lookup k).isSome=ab)→SS (m9 i b) (rU nm l aS Rs.length) h' [(bc 201).drop 10] Q):SS (m9 i b) (rU nm l aS Rs.length) h [(bc 201).drop 8] Q:=by
 refine jX nD λm tl ar=>?_;clear nD;subst ar;have hj:=db.mp w_ _ hs;simp only[we,bR,hH] at hj;have hz:=hj.1.2;have c5:=G.len;obtain⟨ns,hd,I0,_⟩:=G.iu;have rk:∀s0:DS,DJ h nm (3*Rs.length) s0→(∀k,(ns.lookup k).isSome=ab→(s0.es.lookup k).isSome=ab)→SS (m9 i b) (rU nm (.mk 99 (m::tl)) aS Rs.length) s0.h [(bc 201).drop 9] Q:=by
  intro s0 J0 K0;have hL:∀s:DS,∀m',DJ h nm m' s→s.h (.mk 99 (m::tl))=aa (.list (aS.map .str)):=λs m' J=>((J.kq (m+1)).2 m tl (dm _)).trans hl;refine eo (σ:=DS) (λ_=>rU nm (.mk 99 (m::tl)) aS Rs.length) DS.h (λs j=>DJ h nm (3*Rs.length+j) s∧∀k,(ns.lookup k).isSome=ab→(s.es.lookup k).isSome=ab) s0 (aS.map .str) (d7 n_ (hL s0 _ J0)) ⟨J0,K0⟩ .rfl (λs j Z=>d6 (hL s _ Z.1)) (λs j v Z e=>?_) (λs Z=>aH ?_)
  ·refine aj (dH e) λt ht ar=>?_;subst ar
   refine xA Z λJ K=>?_;clear Z;have jl:=(cU.mp ht).1;have nN:s.h aX=aa (.inst 283 (pM .none)):=((J.kq 0).1 _ _ rfl).trans G.gr;refine dV ?_;rcases RR t (h5 t (bQ ht)) with h1|h1
   ·refine aj (J.tm.2 t h1) λvs hv xQ=>?_
    refine cR (bv n_ (a_ (n:=aX) n_ nN) (LM J.tm.1 (NC t h1))) ?_;refine fF (de (g7 (a_ (n:=aX) n_ nN) n_ J.tm.1 (NC t h1)) (ga hv) ir (aB n_ aL) (fU hv (by unfold aZ;exact ah xQ (ah (fp (pg 3 c5) (cj (bK jl hz))) aJ)))) ?_;exact aH (aH (bN (LQ.next ⟨s.es,s.h.set (ip t) (.list (vs++[.int Rs.length]))⟩ ⟨⟨(by dsimp only;exact aE J.d),J.nt.same (λ_=>by dsimp only;exact s_) (bT _),J.tm.app h1 hv,λM=>(J.kq M).trans (M:=M) .set (au _),J.has⟩,K⟩ (SF.sub.rfl.b_))))
   ·refine cf (bv n_ (a_ (n:=aX) n_ nN) (A_ J.tm.1 (NW h1))) ?_
    have OB:∀s1:DS,DJ h nm (3*Rs.length+j) s1→(∀k,(ns.lookup k).isSome=ab→(s1.es.lookup k).isSome=ab)→s1.es.lookup (.str t)=aa (.ref (fR t))→SS (m9 i b) ((rU nm (.mk 99 (m::tl)) aS Rs.length).put "t" (.str t)) s1.h ([(xz (stN (eu (stN (bc 201) 9)) 0)).drop 1,[]]) (LQ (m9 i b) (λ_=>rU nm (.mk 99 (m::tl)) aS Rs.length) DS.h (λs'=>DJ h nm (3*Rs.length+(j+1)) s'∧∀k,(ns.lookup k).isSome=ab→(s'.es.lookup k).isSome=ab) ((bc 201).drop 10::[]) Q):=by
     intro s1 J1 K1 ud;refine xV (J1.nt.key _ _ ud) λt' ht' e1 e2 vs hv xQ=>?_;obtain rfl:=Mine.Internal.SV.str.inj e1;refine fF (de (g7 (a_ (n:=aX) n_ (((J1.kq 0).1 _ _ rfl).trans G.gr:s1.h aX=aa (.inst 283 (pM .none)))) n_ J1.d ud) (ga hv) ir (aB n_ aL) (fU hv (by unfold aZ;exact ah xQ (ah (fp (pg 3 c5) (cj (bK jl hz))) aJ)))) ?_;exact aH (aH (bN (LQ.next ⟨s1.es,s1.h.set (fR t) (.list (vs++[.int Rs.length]))⟩ ⟨⟨(by dsimp only;exact aE J1.d),J1.nt.app h1 ud hv,J1.tm.same (λ_=>by dsimp only;exact s_) (by dsimp only;exact s_) (bT _),λM=>(J1.kq M).trans (M:=M) .set (au _),J1.has⟩,K1⟩ (SF.sub.rfl.b_))))
    cases jb:s.es.lookup (.str t) with
    |some v=>
     have hv:v=.ref (fR t):=by refine g9 (J.nt.key _ _ jb) λt' _ e1 e2 _=>?_;obtain rfl:=Mine.Internal.SV.str.inj e1;exact e2
     subst hv;exact cf (bv n_ (a_ (n:=aX) n_ nN) (EY J.d jb)) (aH (OB s J K jb))
    |none=>
     refine cR (bv n_ (a_ (n:=aX) n_ nN) (Iu J.d jb)) ?_;refine d9 (n:=.mk 39 []) (es:=s.es) (ey (n:=fR t) aL (J.nt.no t h1 jb)) (a_ (n:=aX) n_ (aE nN)) n_ (aE J.d) (by have:=Mt J.nt;unfold aZ;exact ah ‹_› aJ) ?_;refine aH (OB ⟨bl s.es (.str t) (.ref (fR t)),(s.h.set (fR t) (.list [])).set (.mk 39 []) (.dict (bl s.es (.str t) (.ref (fR t))))⟩ ⟨(by dsimp only;exact aR),J.nt.add h1 jb,J.tm.same (λ_=>by dsimp only;exact tE) (by dsimp only;exact tE) (au _),λM=>((J.kq M).trans (M:=M) (.set (k:=44)) (au _)).trans (M:=M) (.set (k:=39)) (au _),?_⟩ (λk hk=>?_) ?_)
     ·show((bl s.es _ _).lookup _).isSome=ab
      rw[ft _];split
      ·rfl
      ·exact J.has
     ·show((bl s.es _ _).lookup _).isSome=ab
      rw[ft _];split
      ·rfl
      ·exact K k hk
     ·show(bl s.es _ _).lookup _=_
      rw[ft _,aO rfl]
  ·rw[aI] at Z
   refine xA Z λJ K=>?_;clear Z;refine fin s.es s.h ⟨J.d,J.nt.same (λ_=>rfl) (c7 (eZ hz _)),J.tm.same (λ_=>rfl) rfl (c7 (eZ hz _)),J.kq,J.has⟩ λpW e k hk=>K k ?_;rw[hd] at e;cases e;exact hk
 cases jb:ns.lookup (.str nm) with
 |some v=>
  refine cf (bv n_ (a_ (n:=aX) n_ G.gr) (EY hd jb)) (aH (rk ⟨ns,h⟩ ⟨hd,I0,G.vV,λM=>.same,by show(ns.lookup (.str nm)).isSome=ab;rw[jb];rfl⟩ λ_=>id))
 |none=>
  refine cR (bv n_ (a_ (n:=aX) n_ G.gr) (Iu hd jb)) ?_;refine d9 (n:=.mk 39 []) (es:=ns) (ey (n:=fR nm) aL (I0.no nm hn jb)) (a_ (n:=aX) n_ (aE G.gr)) n_ (aE hd) (by have:=Mt I0;unfold aZ;exact ah ‹_› aJ) ?_;refine aH (rk ⟨bl ns (.str nm) (.ref (fR nm)),(h.set (fR nm) (.list [])).set (.mk 39 []) (.dict (bl ns (.str nm) (.ref (fR nm))))⟩ ⟨(by dsimp only;exact aR),I0.add hn jb,G.vV.same (λ_=>by dsimp only;exact tE) (by dsimp only;exact tE) (au _),λM=>(Kq.set (k:=44)).trans (M:=M) (.set (k:=39)) (au _),?_⟩ (λk hk=>?_))
  ·show((bl ns _ _).lookup _).isSome=ab
   rw[ft _,aO rfl];rfl
  ·show((bl ns _ _).lookup _).isSome=ab
   rw[ft _];split
   ·rfl
   ·exact hk
theorem XE {vs:List SV} {i:Nat} {Q:QV} {X:QX} (hF:F.q=ab) (yQ:i<2^40) (ho:vs.length≤i) (hx:X "IndexError" h):
  WO G F b fr h [.tup vs,.int i] (bx i5) Q X:=by
 refine .mk ?_;intro own ae A P m s Q' E' a6 R d5 c d;obtain⟨u',r,rfl,hu,i',r',rfl,⟨t,rfl⟩,rfl⟩:=d5;refine bC (R.rL hu) λa xs ar hL hX=>?_;subst ar;rw[hX.size] at ho;have hA:=R.quiet hF;have hE:∀h' tk e,afp s.heap h' e "IndexError"→E' (.ref e) {s with heap:=h',toks:=tk}:=λh' tk e N=>by
  refine xA (R.newExc N tk) λR' x=>?_;exact d _ _ e _ P m hx .rfl .rfl x R'
 have hi:n9 (i:Int) xs.size=af:=by
  unfold n9;simp;lia
 show aw _ _ (i5 (.ref a) (.int i t)) _ _ _;unfold i5
 try with_reducible refine dD ?_
 first|refine wb (aD ?_)|skip
 refine wb (zF hL.typeIs aV ?_);refine wb (qy (name:=dL "__getitem__") hL.typeIs Dr
  (i4 Dr hL.typeIs agd ?_ (age _ _)))
 show aw _ _ (P6 (.ref a) >>=_) _ _ s;refine wb (tupleItemsOf_ hL ?_);refine wb (uz (typeIs_int s i t) ?_);rw[aK aV];refine wb (qA (T:="int") (typeIs_int s i t) int_index ?_);rw[aK (by simp)];refine wb (mW (a:=(i:Int)) rfl ?_);rw[aK (by simp only[Dz,decide_eq_true_eq];lia)];rw[hi]
 first
  |exact wb (jH (by exact_raiseError QL hA hE))
  |exact wb (jH (wb (by exact_raiseError QL hA hE)))
  |exact jH (by exact_raiseError QL hA hE)
variable{bA:SF} {t:Expr} {c:SV} {x:String} {body uS:List bI} {vQ:bI} {Aj:Pos}
structure EX (i:FI) (fr:SF) (h:SH) (e:Expr) (x:String) (h':SH):Prop where
 run:∀fr',fr.sub fr'→∀(Q:QV) (X:QX),X x h'→WE i.G i.F i.b fr' h e Q X
theorem Oo {kx:Expr} (a:EV i fr h e (.ref n) ag) (d:EV i fr ag kx w aC) (hn:aC n=aa (.dict es)) (hl:es.lookup w=af) (ok:autoParam (SV.key 6 w=ab) bn) (E0:autoParam (qe kx) jn):EX i fr h (.Subscript e kx pos) "KeyError" aC:=
 ⟨λfr' s Q X hq=>B7 E0 (a.run fr' s _ _ (d.run fr' s _ _ ⟨.dict hn,Zw i.q hn ok hl hq⟩))⟩
theorem aa2 {kx:Expr} {vs:List SV} {j:Nat} (a:EV i fr h e (.tup vs) ag) (d:EV i fr ag kx (.int j) aC) (hj:j<2^40) (ho:vs.length≤j) (ok:autoParam (qe kx) jn):EX i fr h (.Subscript e kx pos) "IndexError" aC:=
 ⟨λfr' s Q X hq=>B7 (ok) (a.run fr' s _ _ (d.run fr' s _ _ ⟨.tup,XE i.q hj ho hq⟩))⟩
theorem abw {kx:Expr} (a:EV i fr h e u ag) (d:EX i fr ag kx x aC) (ok:autoParam (qe kx) jn):EX i fr h (.Subscript e kx pos) x aC:=
 ⟨λfr' s Q X hq=>B7 (ok) (a.run fr' s _ _ (d.run fr' s _ _ hq))⟩
theorem S_ {name:Str} {gI:Pos} {args:List Expr} (a:EX i fr h o x ag) (ok:autoParam ((args.all iJ && (gI.endLine==pos.line && decide (args.length<20)))=ab) bn) (qr:autoParam (xd o) xf):EX i fr h (.Call (.Attribute o name gI) args [] pos) x ag:=by
 have p:=(bR _ _).mp ok;exact⟨λfr' s Q X hq=>LX (a.run fr' s _ _ hq) (qr _) p.1 p.2⟩
structure SX (i:FI) (fr:SF) (h:SH) (body:List bI) (x:String) (h':SH):Prop where
 run:∀fr',fr.sub fr'→∀(Q:QS) (X:d0),(∀bA,fr.sub bA→X x bA h')→jN i.G i.F i.b fr' h body Q X
theorem Ra (a:EX i fr h e x ag) (ok:autoParam (iq e=ab) bn):SX i fr h (.Expr e pos::rest) x ag:=
 ⟨λfr' s Q X hq=>xk (NY (λae=>Is ok) (a.run fr' s _ _ (hq fr' s)))⟩
theorem Jf (a:EX i fr h e x ag) (ok:autoParam ((iq e && u_ t)=ab) bn):SX i fr h (.Assign [t] e pos::rest) x ag:=by
 rw[bR] at ok;exact⟨λfr' s Q X hq=>xk (B9 (a.run fr' s _ _ (hq fr' s)) (λae=>QQ ok.1) (λae=>QR ok.1 ok.2) λae=>QT ok.2)⟩
theorem Ef (w:SS i fr h (body::rest::k) Q):SS i fr h ((.Try body [.ExceptHandler (aa t) af (vQ::uS) Aj] [] [] pos::rest)::k) Q:=
 fM ⟨λfr' s Q' hq=>M4 (iY.imp (w.run _ s) (λf bA ag q=>hq _ _ f q) λ_ _ _ q=>q.elim)⟩
theorem Kc (a:SX i fr h body x ag) (hx:x≠"tuple"∧x≠"range") (ht:∀fr',WE i.G i.F.loud i.b fr' ag t (λv h'=>v=c∧h'=ag) lz) (hm:XM i.G x c ab)
  (hd:∀fr',fr.sub fr'→∀Q:QS,(∀et,bA.sub et→Q .next et aC)→jN i.G i.F.loud i.b fr' ag (vQ::uS) Q nX) (w:SS i bA aC (rest::k) Q):SS i fr h ((.Try body [.ExceptHandler (aa t) af (vQ::uS) Aj] [] [] pos::rest)::k) Q:=
 fM ⟨λfr' s Q' hq=>M4 (a.run fr' s _ _ λbA a5=>⟨hx,WV.imp (ht bA) (λv h' ⟨e1,e2⟩=>by subst e1;subst e2;exact⟨hm,hd bA a5 _ λet bz=>hq _ _ .next (w.run et bz)⟩) λ_ _ q=>q⟩)⟩
theorem It {x:Str} {v:SV} (hg:ji i.G x v) (hl:i.gs.contains x=ab):∀fr' h,WE i.G i.F.loud i.b fr' h (.Name x pos) (λv' h'=>v'=v∧h'=h) lz:=λfr' h=>
 Fu hg (F:=i.F.loud) (cW.get i.W hl).1 (cW.get i.W hl).2 ⟨rfl,rfl⟩
theorem Jh:("KeyError":String)≠"tuple"∧("KeyError":String)≠"range":=aV
theorem xhi:("IndexError":String)≠"tuple"∧("IndexError":String)≠"range":=aV
variable{hf:SH}
theorem Hi {r:Str×List Str} (hj:j<Rs.length):bF (Rs++[r]) j=bF Rs j:=by unfold bF;rw[C5 hj]
theorem G8 {r:Str×List Str}:bF (Rs++[r]) Rs.length=r.1:=by unfold bF;rw[QE (au _),zx _];rfl
theorem W7 {r:Str×List Str} (hj:j<Rs.length):aG (Rs++[r]) j=aG Rs j:=by unfold aG;rw[C5 hj]
theorem Z' {r:Str×List Str}:aG (Rs++[r]) Rs.length=r.2:=by unfold aG;rw[QE (au _),zx _];rfl
theorem VM {r:Str×List Str} (hp:0<Rs.length):gB (Rs++[r]) s=gB Rs s++if r.1=s then [Rs.length] else []:=by
 unfold gB;rw[cT,zI,wZ,ahx _ _];have e1:(bq Rs.length).filter (λj=>decide (j≠0) && decide (bF (Rs++[r]) j=s))=(bq Rs.length).filter (λj=>decide (j≠0) && decide (bF Rs j=s)):=
  List.filter_congr λj hj=>by rw[Hi (dQ.mp hj)]
 rw[e1]
 congr 1
 rw[HJ,G8];have:decide (Rs.length≠0)=ab:=eP (ahy.mp hp);rw[this,ahz _]
 by_cases hs:r.1=s
 ·rw[eP hs,aO rfl,aO hs];rfl
 ·rw[iZ hs,aK iB,aK hs];rfl
theorem aau {n:Nat} (hp:0<n):(bq (n+1)).tail=(bq n).tail++[n]:=by
 rw[wZ]
 cases h:bq n with
 |nil=>have:=ay nY h;rw[dR] at this;subst this;exact bd hp (fo _)
 |cons a r=>rfl
theorem O8 {x y:Str} (hx:x∈a9) (hy:y∈a9) (e:f_ x=f_ y):x=y:=by injection e with _ e;injection e with e;exact FG x hx y hy e
theorem GB.add (G:GB Rs h) (hn:nm∈a9) (hs:aS∈gj) (h5:∀s∈aS,s∈uK) (c5:Rs.length<5)
  (yi:hf (.mk 35 [])=aa (.list (.none::(bq Rs.length).tail.map bB++[bB Rs.length])))
  (MG:∃ns nC,h (.mk 36 [])=aa (.dict ns)∧hf (.mk 36 [])=aa (.dict nC)∧(((ns.lookup (.str nm)).isSome=ab∧nC=ns)∨(ns.lookup (.str nm)=af∧nC=bl ns (.str nm) (.ref (f_ nm)))))
  (v_:hf (f_ nm)=aa (.list ((gB Rs nm++[Rs.length]).map bB))) (RP:∀s∈a9,s≠nm→hf (f_ s)=h (f_ s))
  (vo:∃ms,h (.mk 37 [])=aa (.dict ms)∧hf (.mk 37 [])=aa (.dict (bl ms (.str (oB nm aS)) (bB Rs.length))))
  (Lj:∃es,hf (.mk 39 [])=aa (.dict es)∧gW hf es (3*(Rs.length+1))∧(es.lookup (.str nm)).isSome=ab∧∀pW,h (.mk 39 [])=aa (.dict pW)→∀k,(pW.lookup k).isSome=ab→(es.lookup k).isSome=ab)
  (tm:oi hf (3*(Rs.length+1)))
  (pr:hf (bh Rs.length)=aa (.inst 100 (iI nm aS Rs.length (.mk 66 [Rs.length]) .none))∧hf (.mk 42 [Rs.length])=aa (.list ((gS [] aS).map .str)))
  (xZ:∀k∈([10,42,66]:List Nat),∀j,j≠Rs.length→hf (.mk k [j])=h (.mk k [j]))
  (same:∀k∈([34,45,46,49]:List Nat),hf (.mk k [])=h (.mk k [])):GB (Rs++[(nm,aS)]) hf:=by
 have hp:=G.pos;have hL:(Rs++[(nm,aS)]).length=Rs.length+1:=by rw[cT];rfl
 refine⟨(same 34 bS).trans G.gr,?_,?_,?_,by rw[hL];exact tm,?_,(same 45 bS).trans G.first,(same 46 bS).trans G.nz,(same 49 bS).trans G.prec,λj h0 hj=>?_,λj hj=>?_,λr hr=>?_,by rw[hL];assumption,by rw[hL];exact dJ _⟩
 ·rw[hL,aau hp,yi,dM];rfl
 ·refine bC MG λns nC a1 a2 a3=>?_;clear MG
  obtain⟨ns2,b1,b2,b3,b4⟩:=G.names;rw[a1] at b1;cases b1;refine(ik nC a2 ?_ (λk hk=>?_) (λs gU=>?_))
  ·rcases a3 with⟨_,rfl⟩|⟨_,rfl⟩
   ·exact b2
   ·exact oq b2
  ·rcases a3 with⟨_,rfl⟩|⟨_,rfl⟩
   ·exact b3 k hk
   ·rcases(wD k).mp hk with rfl|hk
    ·exact(aT nm hn rfl)
    ·exact b3 k hk
  ·rw[VM hp]
   by_cases AB:nm=s
   ·subst AB
    rw[aO rfl];refine⟨λ_=>⟨?_,v_⟩,λz=>bd z (by simp)⟩;rcases a3 with⟨z,rfl⟩|⟨_,rfl⟩
    ·by_cases q:gB Rs nm=[]
     ·rw[((b4 nm hn).2 q).1] at z;exact cJ z
     ·exact((b4 nm hn).1 q).1
    ·rw[ft _,aO rfl]
   ·rw[aK AB,gO _]
    have el:nC.lookup (.str s)=ns.lookup (.str s):=by
     rcases a3 with⟨_,rfl⟩|⟨_,rfl⟩
     ·rfl
     ·rw[ft _,aK (λz=>AB (by injection z with z;exact z.symm))]
    rw[el,RP s gU (Ne.symm AB)];exact b4 s gU
 ·refine aj vo λms a1 a2=>?_;clear vo
  obtain⟨ms2,b1,b2,b3⟩:=G.map;rw[a1] at b1;cases b1;have tl:(Rs++[(nm,aS)]).tail=Rs.tail++[(nm,aS)]:=by cases Rs with|nil=>exact bd hp (fo _)|cons a r=>rfl
  refine(cL _ a2 (λk hk=>?_) (by rw[hL];exact ah ti (eE b3)));rw[tl];rcases(wD k).mp hk with rfl|hk
  ·exact(aT ((nm,aS)) (kd _ (bU.mpr rfl)) rfl)
  ·refine aj (b2 k hk) λr hr e=>?_
   exact(aT r (i6 _ hr) e)
 ·refine g9 Lj λes a1 a2 a3 a4=>?_;clear Lj
  obtain⟨Ap,b1,b2,b3⟩:=G.iu;refine(cL es a1 (by rw[hL];exact a2) (λj h0 hj=>?_));rw[hL] at hj;rcases wJ (eQ hj) with rfl|hj
  ·rw[G8];exact a3
  ·rw[Hi hj];exact a4 Ap b1 _ (b3 j h0 hj)
 ·rw[hL] at hj
  rcases wJ (eQ hj) with rfl|hj
  ·rw[G8,Z'];exact pr
  ·rw[Hi hj,W7 hj]
   have:=G.pr j h0 hj;exact⟨(xZ 10 bS j (dp hj)).trans this.1,(xZ 42 bS j (dp hj)).trans this.2⟩
 ·rw[hL] at hj
  have fj:j≠Rs.length:=hj.elim (λz=>z▸dp hp) λz=>dF z;have:=G.free j (hj.imp id gd);exact(cI ((xZ 10 bS j fj).trans this.1) ((xZ 42 bS j fj).trans this.2.1) ((xZ 66 bS j fj).trans this.2.2))
 ·rw[(by cases Rs with|nil=>exact bd hp (fo _)|cons a r=>rfl:(Rs++[(nm,aS)]).tail=Rs.tail++[(nm,aS)])] at hr
  rcases du.mp hr with hr|hr
  ·exact G.shape r hr
  ·rw[bU.mp hr];exact(cI hn hs h5)
variable{ms ns:b8}
theorem VU (hb:i.b=b+2) (hn:nm∈wq) (hs:aS∈gj) (hl:h l=aa (.list (aS.map .str))) (hp:h (bh j)=af) (qS:h (.mk 42 [j])=af) (sX:h (.mk 66 [j])=af):
  FP i h (.glob 100) [.int j,.str nm,.ref l,wz,.none,.str "",.int 0] (is (.ref (bh j)) (sZ h nm aS j)):=
 cls rfl hb hp (enter (b:=b) i.K.prodinit7 Hn w_pi rfl rfl ((M8 (b:=b) hn hs hl hp qS sX).imp λf fr h' q=>(cI q.1 rfl q.2)))
theorem Uw (hb:i.b=b+2) (hn:nm∈wq) (hs:aS∈gj) (hl:h l=aa (.list (aS.map .str))) (hp:h (bh j)=af) (qS:h (.mk 42 [j])=af) (sX:h (.mk 66 [j])=af):
  FP i h (.glob 100) [.int j,.str nm,.ref l] (is (.ref (bh j)) (sZ h nm aS j)):=
 cls rfl hb hp (enter (b:=b) i.K.prodinit3 Hn w_pi rfl rfl ((M8 (b:=b) hn hs hl hp qS sX).imp λf fr h' q=>(cI q.1 rfl q.2)))
noncomputable def iP (h:SH) (nm:Str) (aS:List Str) (n:Nat) (ms:b8):SH:=((sZ h nm aS n).set (.mk 35 []) (.list (.none::(bq n).tail.map bB++[bB n]))).set (.mk 37 []) (.dict (bl ms (.str (oB nm aS)) (bB n)))
theorem Iv {k:Nat} {l:List Nat} (hk:([10,42,66,35,37]:List Nat).contains k=an):iP h nm aS j ms (.mk k l)=h (.mk k l):=
 (tw hk).trans ((tw hk).trans ((tw hk).trans ((tw hk).trans (tw hk))))
theorem TZ {k a:Nat} (hk:k∈([10,42,66]:List Nat)) (ha:a≠j):iP h nm aS j ms (.mk k [a])=h (.mk k [a]):=
 have ne {k'}:Nm.mk k [a]≠.mk k' [j]:=λe=>ha (lh (Nm.mk.inj e).2).1
 (tw (mx (L':=[35,37]) hk)).trans ((tw (mx (L':=[35,37]) hk)).trans ((aq ne).trans ((aq ne).trans (aq ne))))
noncomputable def wi:List Nat:=[10,35,36,37,39,40,41,42,44,66]
theorem Tz:Kq wi N h (iP h nm aS j ms):=((((Kq.set (k:=42)).trans (M:=N) (Kq.set (k:=66)) (au _)).trans (M:=N) (Kq.set (k:=10)) (au _)).trans (M:=N) (Kq.set (k:=35)) (au _)).trans (M:=N) (Kq.set (k:=37)) (au _)
theorem XQ (G:GB Rs h) (hn:nm∈a9) (hs:aS∈gj) (h5:∀s∈aS,s∈uK) (c5:Rs.length<5) (hl:h l=aa (.list (aS.map .str))) (nD:∃m t,l=.mk 99 (m::t)) {es:b8} {hD:SH} (J:DJ h nm (3*(Rs.length+1)) ⟨es,hD⟩)
  (mono:∀pW,h (.mk 39 [])=aa (.dict pW)→∀k,(pW.lookup k).isSome=ab→(es.lookup k).isSome=ab)
  (fin:∀h' fr,GB (Rs++[(nm,aS)]) h'→(∀M,Kq wi M h h')→(∀a c,h' (.mk 40 [a,c])=h (.mk 40 [a,c]))→Q .next fr h'):SS (m9 i b) (rU nm l aS Rs.length) hD [(bc 201).drop 10] Q:=by
 refine jX nD λlm tl ar=>?_;clear nD;subst ar;refine jw (G.free Rs.length (.inr (au _))) λf1 f2 f3=>?_;have dk:∀{k l},(99::[39,41,44]:List Nat).contains k=an→hD (.mk k l)=h (.mk k l):=λ{k l} hk=>(J.kq 0).1 k l hk;refine bO (b9 (i.K.ref rfl) (i.K.keep rfl) (aB n_ (aB n_ (aB n_ (aB n_ (aB n_ (aB n_ (aB n_ aL))))))) (VU (b:=b) rfl (eS _ hn:nm∈wq) hs (((J.kq (lm+1)).2 lm tl (dm _)).trans hl:hD (.mk 99 (lm::tl))=aa (.list (aS.map .str))) ((dk rfl).trans f1) ((dk rfl).trans f2) ((dk rfl).trans f3)).cp) ?_;have nN:sZ hD nm aS Rs.length aX=aa (.inst 283 (pM .none)):=aE (aE (aE ((dk rfl).trans G.gr)));have JS:sZ hD nm aS Rs.length (.mk 35 [])=aa (.list (.none::(bq Rs.length).tail.map bB)):=aE (aE (aE ((dk rfl).trans G.fk)));refine fF (de (a_ (n:=aX) n_ nN) (ga JS) ir (aB n_ aL) (fU JS (by rw[iC,aI _,EH];unfold aZ;exact sn (QI (bK c5 aJ))))) ?_;obtain⟨ms,m1,m2,m3⟩:=G.map;refine d9 (v:=bB Rs.length) (n:=.mk 37 []) (es:=ms) n_ (a_ (n:=aX) n_ (aE nN)) n_ (aE (aE (aE (aE ((dk rfl).trans m1)))):((sZ hD nm aS Rs.length).set (.mk 35 []) (.list (.none::(bq Rs.length).tail.map bB++[bB Rs.length]))) (.mk 37 [])=aa (.dict ms)) (by unfold aZ;exact cj (bf m3 (bK c5 aJ))) ?_;refine(?_:SS _ _ (iP hD nm aS Rs.length ms) _ _);obtain⟨ns,p1,p2,p3,p4⟩:=G.names;have ek:∀{k l},([10,42,66,35,37,99,39,41,44]:List Nat).contains k=an→iP hD nm aS Rs.length ms (.mk k l)=h (.mk k l):=λhk=>(Iv (tj hk)).trans (dk (tj hk));have yI:iP hD nm aS Rs.length ms (.mk 36 [])=aa (.dict ns):=(ek rfl).trans p1;have CK:iP hD nm aS Rs.length ms aX=aa (.inst 283 (pM .none)):=(ek rfl).trans G.gr;have yi:iP hD nm aS Rs.length ms (.mk 35 [])=aa (.list (.none::(bq Rs.length).tail.map bB++[bB Rs.length])):=aE aR;have vo:iP hD nm aS Rs.length ms (.mk 37 [])=aa (.dict (bl ms (.str (oB nm aS)) (bB Rs.length))):=aR;have EU:iP hD nm aS Rs.length ms (bh Rs.length)=aa (.inst 100 (iI nm aS Rs.length (.mk 66 [Rs.length]) .none)):=aE (aE aR);have Ei:iP hD nm aS Rs.length ms (.mk 42 [Rs.length])=aa (.list ((gS [] aS).map .str)):=aE (aE (aE (aE aR)));have d3:∀{k l},([39,41,44,38]:List Nat).contains k=ab→iP hD nm aS Rs.length ms (.mk k l)=hD (.mk k l):=λhk=>Iv (mx (e9.mp hk));have NT:gW (iP hD nm aS Rs.length ms) es (3*(Rs.length+1)):=J.nt.same (λl=>d3 rfl) (au _);have TM:oi (iP hD nm aS Rs.length ms) (3*(Rs.length+1)):=J.tm.same (λl=>d3 rfl) (d3 rfl) (au _);have Hf:iP hD nm aS Rs.length ms (.mk 39 [])=aa (.dict es):=(d3 rfl).trans J.d;have pj:∀k∈([10,42,66]:List Nat),∀a,a≠Rs.length→iP hD nm aS Rs.length ms (.mk k [a])=h (.mk k [a]):=λk hk a ha=>(TZ hk ha).trans (dk (mx hk));have kq:∀M,Kq wi M h (iP hD nm aS Rs.length ms):=λM=>(J.kq M).mono.trans (M:=M) Tz (au _);generalize iP hD nm aS Rs.length ms=hE at ek yI CK yi vo EU Ei d3 NT TM Hf pj kq
 by_cases hp:gB Rs nm=[]
 ·refine xA ((p4 nm hn).2 hp) λq1 q2=>?_
  refine Kc (x:="KeyError") (c:=.ty "KeyError") (ag:=hE) (aC:=(hE.set (f_ nm) (.list [bB Rs.length])).set (.mk 36 []) (.dict (bl ns (.str nm) (.ref (f_ nm))))) (bA:=[]) (Ra (S_ (Oo (a_ (n:=aX) n_ CK) n_ yI q1))) Jh (λfr'=>It (i:=m9 i b) (i.K.ty rfl) rfl fr' hE) TO (λfr' s pD hq=>?_) ?_
  ·refine xk (B9 (list (u7 rfl) (tA (nv (l:=zn) zc (s _ _ rfl) (tC (rt rfl (f_ nm) ((ek rfl).trans q2) (Gh (at_ (nv (l:=zn) zc (s _ _ rfl) (Ft i.K rfl (aE CK:(hE.set (f_ nm) (.list [bB Rs.length])) aX=_) rfl rfl (nv (l:=zn) zc (s _ _ rfl) (N9 (aE yI) rfl ?_ (vE (hq fr' bt))))))))))))))
   exact ah (ah (bH (aI _).symm) (fO p2 (l₂:=a9.map SV.str) λk hk=>aj (p3 k hk) λs hs e=>bD.mpr ⟨s,hs,e.symm⟩)) (aJ:3≤aZ)
  ·refine aH (bN (fin _ _ (G.add hn hs h5 c5 (aE (aE yi)) (mB ns _ p1 aR (.inr ⟨q1,rfl⟩)) (aE (by rw[hp];exact aR)) (λs gU ne=>(aq az).trans ((aq λe=>ne (O8 gU hn e)).trans (ek rfl))) (aT ms m1 (aE (aE vo))) (ik es (aE (aE Hf)) (NT.same (λl=>tE) (au _)) J.has mono) (TM.same (λl=>tE) tE (au _)) ⟨aE (aE EU),aE (aE Ei)⟩ (λk hk a ha=>?_) λk hk=>?_) (λM=>((kq M).trans (M:=M) (.set (k:=40)) (au _)).trans (M:=M) (.set (k:=36)) (au _)) λa c=>(aq az).trans ((aq λz=>jz (lh (Nm.mk.inj z).2).2).trans (ek rfl))))
   ·exact(aq (kB hk)).trans ((aq (kB hk)).trans (pj k hk a ha))
   ·exact(aq (kB hk)).trans ((aq (kB hk)).trans (ek (mx hk)))
 ·refine xA ((p4 nm hn).1 hp) λq1 q2=>?_
  have q3:hE (f_ nm)=aa (.list ((gB Rs nm).map bB)):=(ek rfl).trans q2;refine Ef (fF (de (g7 (a_ (n:=aX) n_ CK) n_ yI q1) (ga q3) ir (aB n_ aL) (fU q3 (by rw[aI _];unfold aZ;exact cj (bf (ah (Io _ _) (by rw[dR];exact au _):(gB Rs nm).length≤Rs.length) (bK c5 aJ))))) (aH (aH ?_)));refine bN (fin _ _ (G.add hn hs h5 c5 (aE yi) (mB ns ns p1 (aE yI) (.inl ⟨by rw[q1];rfl,rfl⟩)) (by rw[dM];exact aR) (λs gU ne=>(aq λe=>ne (O8 gU hn e)).trans (ek rfl)) (aT ms m1 (aE vo)) (ik es (aE Hf) (NT.same (λl=>s_) (au _)) J.has mono) (TM.same (λl=>s_) s_ (au _)) ⟨aE EU,aE Ei⟩ (λk hk a ha=>?_) λk hk=>?_) (λM=>(kq M).trans (M:=M) (.set (k:=40)) (au _)) λa c=>(aq λz=>jz (lh (Nm.mk.inj z).2).2).trans (ek rfl))
  ·exact(aq (kB hk)).trans (pj k hk a ha)
  ·exact(aq (kB hk)).trans (ek (mx hk))
theorem gW.eq {n:Nat} (I:gW h es n) (e:∀k l,k≠99→h' (.mk k l)=h (.mk k l)):gW h' es n:=I.same (λl=>e 44 l bJ) (au _)
theorem GB.eq (G:GB Rs h) (e:∀k l,k≠99→h' (.mk k l)=h (.mk k l)):GB Rs h':=by
 refine⟨(e _ _ bJ).trans G.gr,(e _ _ bJ).trans G.fk,?_,?_,G.vV.same (λl=>e 41 l bJ) (e _ _ bJ) (au _),?_,(e _ _ bJ).trans G.first,(e _ _ bJ).trans G.nz,(e _ _ bJ).trans G.prec,λj h0 hj=>⟨(e _ _ bJ).trans (G.pr j h0 hj).1,(e _ _ bJ).trans (G.pr j h0 hj).2⟩,
  λj hj=>(cI ((e _ _ bJ).trans (G.free j hj).1) ((e _ _ bJ).trans (G.free j hj).2.1) ((e _ _ bJ).trans (G.free j hj).2.2)),G.shape,G.len,G.pos⟩
 ·obtain⟨es,a,c,d,f⟩:=G.names
  exact(ik es ((e _ _ bJ).trans a) c d (λs hs=>⟨λz=>⟨((f s hs).1 z).1,(e _ _ bJ).trans ((f s hs).1 z).2⟩,λz=>⟨((f s hs).2 z).1,(e _ _ bJ).trans ((f s hs).2 z).2⟩⟩))
 ·obtain⟨es,a,c⟩:=G.map
  exact(aT es ((e _ _ bJ).trans a) c)
 ·obtain⟨es,a,c,d⟩:=G.iu
  exact(cL es ((e _ _ bJ).trans a) (c.eq e) d)
theorem Kq.Gd (k:Kq [] N h h'):∀k l,k≠99→h' (.mk k l)=h (.mk k l):=λk' l hk=>k.1 k' l (by rw[wX,propext Dm];exact⟨kW.mpr hk,rfl⟩)
theorem br.kq {B:List Nat} (F:br h N) (kq:∀M,Kq B M h h'):br h' N:=λk l hk=>((kq (k+1)).2 k l (dm _)).trans (F k l hk)
theorem Q3 (hb:i.b=b+3) (G:GB Rs h) (B:br h N) (hn:nm∈a9) (hs:aS∈gj) (h5:∀s∈aS,s∈uK) (Gk:(nm,aS)∉Rs.tail) (c5:Rs.length<5) (hl:h l=aa (.list (aS.map .str))) (nD:∃m t,l=.mk 99 (m::t)∧m<N):
  FP i h (.glob 201) [.ref aX,.str nm,.ref l] (λv h'=>v=.none∧∃N',GB (Rs++[(nm,aS)]) h'∧br h' N'∧N≤N'∧Kq wi N h h'∧∀a c,h' (.mk 40 [a,c])=h (.mk 40 [a,c])):=by
 refine enter i.K.addprod zc w_ap hb rfl ?_;refine eA nD λlm tl ar hm=>?_;clear nD;subst ar;refine SR hn hs hl (zp lm tl rfl hm) G.vV.1 G.gr B λN1 h1 B1 k1 le=>?_;have G1:=G.eq k1.Gd;have ud:h1 (.mk 99 (lm::tl))=aa (.list (aS.map .str)):=(k1.2 lm tl hm).trans hl;refine ZN (b:=b) G1 hn hs ud Gk (aec (b:=b) G1 hn hs h5 ud (tT lm tl rfl) λes h2 J mono=>XQ (b:=b) G1 hn hs h5 c5 ud (tT lm tl rfl) J mono λh3 fr G3 k3 Fw=>⟨rfl,N1,G3,B1.kq k3,le,k1.mono.trans (k3 N1) le,λa c=>(Fw a c).trans (k1.1 40 _ rfl)⟩)
theorem Te {n:Nm} {y:SV} {vs:List SV} {v:SV} {Q:QV} {X:QX} (hn:h n=aa (.list (y::vs))) (hq:Q .none (h.set n (.list (v::vs)))):
  WO G F b fr h [.ref n,.int 0,v] (FZ λx y z=>do um x y z;pure .none) Q X:=by
 refine .mk ?_;intro own ae A P m s Q' E' a6 R hv c d;obtain⟨u,r,rfl,⟨ad,hm,rfl⟩,kv,r',rfl,⟨t,rfl⟩,xv,Gv,rfl,E7,rfl⟩:=hv;refine ky (R.listAt hn) λbg xs k h1 h3 h4=>?_;obtain rfl:bg=ad:=aU (h1.symm.trans hm);have hl:s.heap.IsList bg.1 xs:=⟨_,h3,rfl,_,rfl⟩;have hsz:=h4.size;rw[iC] at hsz;have fin:=λt'=>c .none _ .none _ _ _ hq .rfl .rfl rfl (R.Cy hn hm h3 (·.setIfInBounds 0 xv) (by rw[Array.toList_setIfInBounds];exact h4.set E7 0) t');show aw _ _ (do um (.ref bg.1) (.int 0 t) xv;pure eG) _ _ _;generalize hk:(0:Int)=kk;refine wb ?_;unfold um
 try with_reducible refine dD ?_
 first|refine wb (aD ?_)|skip
 refine wb (zF hl.typeIs aV ?_);refine wb (qy (name:=dL "__setitem__") hl.typeIs ah0
  (i4 ah0 hl.typeIs entry_list_setitem ?_ (args_list_setitem _ _ _)))
 show aw _ _ (auf (.int kk t) >>=_) _ _ s;refine wb (wpAny_listSubscript_int (Qh (Int.le_of_eq hk) (hk▸aV)) ?_);subst hk;show aw _ _ ((seqItemAt bg.1 0 >>=λr=>pure (r.map (0,·))) >>=_) _ _ s;refine wb (wb (wpAny_seqItemAt h3 rfl (aD ?_)));rw[(jq (lb (ah (lf _ _) (bH hsz))):xs[0]? =aa xs[0])];show aw _ _ (setSeqItemAt bg.1 0 xv >>=_) _ _ s;refine wb (wpAny_setSeqItemAt h3 rfl ?_)
 first
  |exact wb (aD (aD (aT .none rfl (aD (aD (fin s.toks))))))
  |exact aD ⟨.none,rfl,aD (aD (fin s.toks))⟩
variable{y:SV}
theorem ad7 {vs:List SV} {kx:Expr} {q pos:Pos} (x:EV i fr h e v ag) (yy:EV i fr ag o (.ref n) aC) (z:EV i fr aC kx (.int 0) cM) (hn:cM n=aa (.list (y::vs))) (b:SS i fr (cM.set n (.list (v::vs))) (rest::k) Q) (ok:autoParam (iq e=ab) bn):
  SS i fr h ((.Assign [.Subscript o kx q] e pos::rest)::k) Q:=
 fM (sV _ x.ep (λv' aC e fr' s Q' hq=>by refine xA e λcP bu=>?_;clear e;subst cP;subst bu;exact Gh (yy.run fr' s _ _ (z.run fr' s _ _ (Te hn (hq _ _ (b.run _ s)))))) (by rw[ok];rfl))
structure GW (Rs:bp) (h:SH):Prop where
 gr:h aX=aa (.inst 283 pI)
 fk:h (.mk 35 [])=aa (.list ((bq Rs.length).map bB))
 names:∃es,h (.mk 36 [])=aa (.dict es)∧(∀s∈a9,es.lookup (.str s)=aa (.ref (f_ s))∧h (f_ s)=aa (.list ((gB Rs s).map bB)))∧∀s,s∉a9→es.lookup (.str s)=af
 term:h (.mk 38 [])=aa (.dict iX)
 iu:∃es,h (.mk 39 [])=aa (.dict es)∧gW h es 20∧∀s∈a9,(es.lookup (.str s)).isSome=ab
 first:h (.mk 45 [])=aa (.dict [])
 nz:h (.mk 46 [])=aa (.dict [])
 prec:h (.mk 49 [])=aa (.dict [])
 pr:∀j,j<Rs.length→h (bh j)=aa (.inst 100 (iI (bF Rs j) (aG Rs j) j (.mk 66 [j]) .none))∧h (.mk 42 [j])=aa (.list ((gS [] (aG Rs j)).map .str))
noncomputable def FW:List Nat:=[10,34,35,42,44,66]
theorem Ld:ck (bE 209) ["self","start"]=ab:=by kernel_rfl
theorem w_ss:cW (bE 209) ["Production"]=ab:=by kernel_rfl
theorem Wv (hb:i.b=b+3) (G:GB Rs h) (B:br h N) (h0:bF Rs 0="S'"∧aG Rs 0=[("S":Str)]) (h1:1<Rs.length∧bF Rs 1="S") (all:∀s∈a9,∃j,0<j∧j<Rs.length∧bF Rs j=s):
  FP i h (.glob 209) [.ref aX] (λv h'=>v=.none∧∃N',GW Rs h'∧br h' N'∧N≤N'∧Kq FW N h h'):=by
 refine enter (b:=b+2) i.K.setstart Ld w_ss hb rfl ?_;refine xA (G.pr 1 oX h1.1) λp1 p2=>?_;have Λ:(SV.none::(bq Rs.length).tail.map bB)[1]? =aa (bB 1):=by
  rw[aht,dq,QM,wY h1.1];rfl
 refine cR (fw (t:=an) (p_ n_ m8)) ?_;refine bO (v:=.str "S") (a_ (n:=bh 1) (mM (j:=1) (a_ (n:=aX) n_ G.gr) bG (.own G.fk) bj Λ) p1 (ay (λz=>aa (SV.str z)) h1.2)) (aH ?_);obtain⟨ns,n1,n2,n3⟩:=G.iu;have nS:ns.lookup (.str "S")=aa (.ref (fR "S")):=by
  have:=n3 1 oX h1.1;rw[h1.2] at this
  cases e:ns.lookup (.str "S") with
  |none=>rw[e] at this;exact cJ this
  |some v=>refine g9 (n2.key _ _ e) λt _ e1 e2 _=>?_;obtain rfl:=Mine.Internal.SV.str.inj e1;rw[e2]
 refine cf (bv n_ (a_ (n:=aX) n_ G.gr) (EY n1 nS)) (aH ?_);refine jw (G.free 0 (.inl rfl)) λf1 f2 f3=>?_;have uP:([("S":Str)]:List Str)∈gj:=by decide +kernel
 have hh:∀{k l},k≠99→(h.set (gN N) (.list [.str "S"])) (.mk k l)=h (.mk k l):=λ{k l} hk=>aq λe=>by injection e with e;exact hk e
 have G2:GB Rs (h.set (gN N) (.list [.str "S"])):=G.eq λk l hk=>hh hk;have Jy:(h.set (gN N) (.list [.str "S"])) (gN N)=aa (.list (([("S":Str)]:List Str).map .str)):=aR;have B2:br (h.set (gN N) (.list [.str "S"])) (N+1):=B.new _ _;have gX:Kq FW N h (h.set (gN N) (.list [.str "S"])):=.new (au _);refine ad7 (v:=bB 0) (n:=.mk 35 []) (y:=.none) (vs:=(bq Rs.length).tail.map bB) (b9 (i.K.ref rfl) (i.K.keep rfl) (aB bG (aB cx (aB (ey (n:=gN N) (aB n_ aL) B.at) aL))) (Uw (i:=i.fn (b+2) 209 ["self","start"] ["Production"] Ld w_ss) (b:=b) (j:=0) (nm:="S'") (l:=gN N) rfl (dv) uP Jy ((hh bJ).trans f1) ((hh bJ).trans f2) ((hh bJ).trans f3)).cp) (a_ (n:=aX) n_ (aE (aE (aE G2.gr)))) bG (aE (aE (aE G2.fk))) ?_;have Gu:gW (h.set (gN N) (.list [.str "S"])) ns (3*Rs.length):=n2.same (λl=>hh bJ) (au _);have E5:(h.set (gN N) (.list [.str "S"])) (.mk 39 [])=aa (.dict ns):=(hh bJ).trans n1;generalize h.set (gN N) (.list [.str "S"])=hA at G2 Jy B2 gX Gu E5 ⊢;refine xV (Gu.key _ _ nS) λt _ e1 _ vs hv xQ=>?_;obtain rfl:=Mine.Internal.SV.str.inj e1;have c5:=G.len;refine fF (de (g7 (a_ (n:=aX) n_ (aE (aE (aE (aE G2.gr))))) n_ (aE (aE (aE (aE E5)))) nS) (ga (aE (aE (aE (aE hv))))) ir (aB bG aL) (fU (aE (aE (aE (aE hv)))) (by unfold aZ;exact ah xQ (ah (pg _ c5) aJ)))) ?_;refine jB (n:=aX) n_ n_ (aE (aE (aE (aE (aE G2.gr))))) aJ ?_;refine aH (bN ⟨rfl,N+1,⟨aR,aE (aE ?_),?_,aE (aE (aE (aE (aE (aE G2.vV.1))))),?_,aE (aE (aE (aE (aE (aE G2.first))))),aE (aE (aE (aE (aE (aE G2.nz))))),aE (aE (aE (aE (aE (aE G2.prec))))),λj hj=>?_⟩,?_,bT _,?_⟩)
 ·rw[aR]
  congr 2
  have:=G.pos
  cases hR:bq Rs.length with
  |nil=>have z:=ay nY hR;rw[dR] at z;exact bd (show 0<Rs.length from by assumption) (z▸fo 0)
  |cons a r=>
   have:a=0:=by
    have z:=ay (·[0]?) hR;rw[wY G.pos] at z;exact(aU z).symm
   rw[this];rfl
 ·obtain⟨es,a1,a2,a3,a4⟩:=G2.names
  refine(cL es (aE (aE (aE (aE (aE (aE a1)))))) (λs hs=>?_) (λs hs=>lB.mpr λz=>?_))
  ·refine bM (all s hs) λj j0 jl je=>?_
   have hp:gB Rs s≠[]:=λz=>by
    have:j∈gB Rs s:=mU.mpr ⟨dQ.mpr jl,by rw[eP je,eP (ahy.mp j0)];rfl⟩;rw[z] at this;exact cS this
   exact⟨((a4 s hs).1 hp).1,aE (aE (aE (aE (aE (aE ((a4 s hs).1 hp).2)))))⟩
  ·refine aj (a3 _ z) λt ht e=>?_
   injection e with e;exact hs (e▸ht)
 ·refine(cL ns (aE (aE (aE (aE (aE (aE E5)))))) ?_ (λs hs=>?_))
  ·have:=(Gu.same (h':=((((hA.set (.mk 42 [0]) (.list ((gS [] [("S":Str)]).map .str))).set (.mk 66 [0]) (.list [])).set (bh 0) (.inst 100 (iI "S'" [("S":Str)] 0 (.mk 66 [0]) .none))).set (.mk 35 []) (.list (bB 0::(bq Rs.length).tail.map bB)))) (λl=>aE (aE (aE (aE rfl)))) (au _)).app (x:=.int 0) (dv:("S":Str)∈a9) nS (aE (aE (aE (aE hv))))
   exact this.same (λl=>s_) (sn (bf (pg _ c5) bj))
  ·refine bM (all s hs) λj j0 jl je=>?_
   rw[←je];exact n3 j j0 jl
 ·rcases sv j with rfl|j0
  ·rw[h0.1,h0.2]
   exact⟨aE (aE (aE aR)),aE (aE (aE (aE (aE aR))))⟩
  ·have z:=G2.pr j j0 hj
   have ne:∀k,Nm.mk k [j]≠.mk k [0]:=λk e=>by injection e with _ e;injection e with e;exact dF ‹_› ‹_›
   exact⟨aE (aE (aE ((aq (ne 10)).trans (aE (aE z.1))))),aE (aE (aE (aE (aE ((aq (ne 42)).trans z.2)))))⟩
 ·exact B2.kq (B:=FW) λM=>(((((Kq.set (k:=42)).trans (M:=M) (Kq.set (k:=66)) (au _)).trans (M:=M) (Kq.set (k:=10)) (au _)).trans (M:=M) (Kq.set (k:=35)) (au _)).trans (M:=M) (Kq.set (k:=44)) (au _)).trans (M:=M) (Kq.set (k:=34)) (au _)
 ·exact(((((gX.trans (M:=N) (Kq.set (k:=42)) (au _)).trans (M:=N) (Kq.set (k:=66)) (au _)).trans (M:=N) (Kq.set (k:=10)) (au _)).trans (M:=N) (Kq.set (k:=35)) (au _)).trans (M:=N) (Kq.set (k:=44)) (au _)).trans (M:=N) (Kq.set (k:=34)) (au _)
theorem YQ:ck (bE 83) ["self"]=ab:=by kernel_rfl
theorem w_pl:cW (bE 83) ["len"]=ab:=by kernel_rfl
theorem RE {fs:SF} {vs:List SV} (hb:i.b=b+2) (hn:h n=aa (.inst 100 fs)) (hp:fs.lookup ("prod":Str)=aa (.tup vs)) (hz:vs.length≤1000):CP i h (.bi "len") [.ref n] (is (.int vs.length) h):=
 X2 hb hn (bf ‹_› bj) (enter (b:=b) i.K.plen YQ w_pl rfl rfl (gv (b9 (i.K.bi rfl) rfl (aB (a_ (n:=n) n_ hn hp) aL) (CO (bf ‹_› bj))) ⟨rfl,rfl⟩))
theorem Si:ck (bE 118) ["self","p","n"]=ab:=by kernel_rfl
theorem w_li:cW (bE 118) ["list","tuple","len"]=ab:=by kernel_rfl
theorem Z8 {vs:List SV} (hn:h n=aa (.list vs)):MV i h (.ref n) "insert" (.bi "list.insert"):=⟨λfr'=>E9 hn af4 PySem.F.type_list_insert⟩
theorem Zs {vs:List SV} (hn:h n=aa (.list vs)) (hz:vs.length≤aZ) (hd:d≤vs.length):CP i h (.bi "list.insert") [.ref n,.int d,v] (is .none (h.set n (.list (vs.take d++v::vs.drop d)))):=⟨λfr' Q X hq=>Ua hn hz hd (hq _ _ ⟨rfl,rfl⟩)⟩
theorem JH {vs:List SV} (hz:vs.length≤aZ) (hn:h n=af):CP i h (.ty "list") [.tup vs] (is (.ref n) (h.set n (.list vs))):=⟨λfr' Q X hq=>XV (.inr rfl) hz hn (hq _ _ ⟨rfl,rfl⟩)⟩
noncomputable def yt (R:bp) (q:aF):SF:=(dW R q).take 7
noncomputable def wr (h:SH) (N:Nat) (R:bp) (q:aF):SH:=((h.set (gN N) (.list ((iN R q).map .str))).set (.mk 60 [q.1,q.2]) (.dict [])).set (bk q) (.inst 135 (yt R q))
theorem Xf {q:aF}:((aG R q.1).map SV.str).take q.2++SV.str "."::((aG R q.1).map SV.str).drop q.2=(iN R q).map .str:=by
 unfold iN;rw[dM,sp,H7,zN]
theorem Fs {q:aF} (hq:q.2≤(aG R q.1).length):(iN R q).length=(aG R q.1).length+1:=by
 unfold iN;rw[cT,iC,jE,zL,r9 hq];exact ay (· +1) (uj hq)
theorem RL {fs:SF} {q:aF} (hb:i.b=b+2) (hp:h (bh q.1)=aa (.inst 100 fs)) (f1:fs.lookup ("name":Str)=aa (.str (bF R q.1))) (f2:fs.lookup ("prod":Str)=aa (.tup ((aG R q.1).map .str))) (f3:fs.lookup ("number":Str)=aa (.int q.1)) (f4:fs.lookup ("usyms":Str)=aa (.ref (.mk 42 [q.1])))
  (hq:q.2≤(aG R q.1).length) (hz:(aG R q.1).length≤100) (B:br h N) (VW:h (.mk 60 [q.1,q.2])=af) (hi:h (bk q)=af):FP i h (.glob 135) [.ref (bh q.1),.int q.2] (is (.ref (bk q)) (wr h N R q)):=by
 refine cls (b:=b+1) (fI:=118) (n:=bk q) rfl hb hi (enter (b:=b) i.K.iteminit Si w_li rfl rfl ?_);have hz2:((aG R q.1).map SV.str).length≤100:=by rw[aI _];exact hz
 have p0:∀iM,(h.set (bk q) (.inst 135 iM)) (bh q.1)=aa (.inst 100 fs):=λiM=>aE hp;refine fN (a_ (n:=bh q.1) n_ (p0 _) f1) n_ ?_;refine jO (m:=gN N) (b9 (i.K.ty rfl) rfl (aB (a_ (n:=bh q.1) n_ (p0 _) f2) aL) (JH (by unfold aZ;exact ah ‹_› aJ) (aE B.at))) az n_ ?_;refine fN (a_ (n:=bh q.1) n_ ((λiM=>aE (aE hp):∀iM,((h.set (gN N) (.list ((aG R q.1).map .str))).set (bk q) (.inst 135 iM)) (bh q.1)=aa (.inst 100 fs)) _) f3) n_ ?_;refine fN n_ n_ ?_;refine jO (m:=.mk 60 [q.1,q.2]) (gZ (aE (aE VW))) az n_ ?_;have hl:∀iM,((((h.set (gN N) (.list ((aG R q.1).map .str))).set (.mk 60 [q.1,q.2]) (.dict [])).set (bk q) (.inst 135 iM))) (gN N)=aa (.list ((aG R q.1).map .str)):=λiM=>aE (aE aR);refine fF (de (a_ (n:=bk q) n_ aR) (Z8 (hl _)) rfl (aB n_ (aB cx aL)) (Zs (hl _) (by unfold aZ;exact ah ‹_› aJ) (by rw[aI _];exact hq))) ?_;rw[Xf];have sw:∀iM (l:List SV),((((h.set (gN N) (.list ((aG R q.1).map .str))).set (.mk 60 [q.1,q.2]) (.dict [])).set (bk q) (.inst 135 iM))).set (gN N) (.list l)=(((h.set (gN N) (.list l)).set (.mk 60 [q.1,q.2]) (.dict [])).set (bk q) (.inst 135 iM)):=λiM l=>by
  rw[zU (n:=bk q) (m:=gN N) az,QU (n:=.mk 60 [q.1,q.2]) (m:=gN N) az]
 rw[sw _ _];have dz:((iN R q).map SV.str).length=(aG R q.1).length+1:=by rw[aI _];exact(Fs hq)
 refine fN (v:=.tup ((iN R q).map .str)) (b9 (i.K.ty rfl) rfl (aB (a_ (n:=bk q) n_ aR) aL) (CI (.own (aE (aE aR))) (by unfold aZ;exact ah (bH dz) (sn (bf hz bj))))) n_ ?_;refine fN (v:=.int ((aG R q.1).length+1:Nat)) (b9 (i.K.bi rfl) rfl (aB (a_ (n:=bk q) n_ aR) aL) (E1 dz (bf (bH dz) (ph (bf hz bj))))) n_ ?_;refine fN (a_ (n:=bh q.1) n_ (aE (aE (aE hp))) f4) n_ ?_;exact aH (bN (cI rfl rfl rfl))
noncomputable def FC:List Str:=["self","p","lastlri","i","lr_items","lri"]
theorem DF:ck (bE 280) FC=ab:=by kernel_rfl
theorem w_bl:cW (bE 280) ["len","LRItem","IndexError","KeyError"]=ab:=by kernel_rfl
noncomputable def km (i:FI) (b:Nat):FI:=i.fn (b+2) 280 FC ["len","LRItem","IndexError","KeyError"] DF w_bl
noncomputable def ZT (s:bI):List bI:=(kS s).1
noncomputable def YA:List bI:=eu (stN (bc 280) 0)
noncomputable def Eu:List bI:=eu (stN YA 3)
noncomputable def vW:List bI:=xz (stN Eu 0)
theorem IM (hs:(aG R q.1)[q.2]? =aa s):dN R q=gB R s:=by unfold dN gB;rw[hs]
theorem Yn (hs:(aG R q.1)[q.2]? =af):dN R q=[]:=by unfold dN;rw[hs]
def As (R:bp) (h:SH):Prop:=∃es,h (.mk 36 [])=aa (.dict es)∧(∀s∈a9,es.lookup (.str s)=aa (.ref (f_ s))∧h (f_ s)=aa (.list ((gB R s).map bB)))∧∀s,s∉a9→es.lookup (.str s)=af
theorem wy:pO s=ab↔s∈a9:=e9
theorem U9 (hR:∀j,0<j→j<R.length→bF R j∈a9) (hs:s∉a9):gB R s=[]:=List.filter_eq_nil_iff.mpr λj hj z=>by
 rw[bR,hH,hH] at z;exact hs (z.2▸hR j (nU z.1) (dQ.mp hj))
theorem YX (hR:∀j,0<j→j<R.length→bF R j∈a9) (hq:q.2≤(aG R q.1).length) (hz:(aG R q.1).length≤100) (hg:h aX=aa (.inst 283 pI)) (T:As R h) (hi:h (bk q)=aa (.inst 135 (yt R q))) (Z0:h (.mk 40 [q.1,q.2])=af)
  (f1:fr.lookup ("self":Str)=aa (.ref aX)) (f2:fr.lookup ("lri":Str)=aa (ba q)) (f3:fr.lookup ("i":Str)=aa (.int q.2))
  (fin:∀h',h' (bk q)=aa (.inst 135 ((dW R q).take 8))→h' (gH R q)=aa (.list ((dN R q).map bB))→(∀x,x≠bk q→x≠.mk 40 [q.1,q.2]→h' x=h x)→SS (km i b) fr h' (vW.drop 2::k) Q):
  SS (km i b) fr h (vW.drop 1::k) Q:=by
 refine bM T λes e1 e2 e3=>?_;clear T
 have Mw:∀(x:String),SX (km i b) fr h (ZT (stN vW 1)) x h→XM i.G x (.tup [.ty "IndexError",.ty "KeyError"]) ab→(x≠"tuple"∧x≠"range")→dN R q=[]→vi R q=[q.1,q.2]→SS (km i b) fr h (vW.drop 1::k) Q:=λx sx xm hx ea el=>by
  refine Kc (x:=x) (c:=.tup [.ty "IndexError",.ty "KeyError"]) (ag:=h) (aC:=(h.set (.mk 40 [q.1,q.2]) (.list [])).set (bk q) (.inst 135 ((dW R q).take 8))) (bA:=fr) sx hx (λfr'=>?_) xm (λfr' s pD hq=>?_) (fin _ aR ?_ λx n1 n2=>(aq n1).trans (aq n2))
  ·exact tuple (u7 rfl) (tA (WV.imp (It (i:=km i b) (i.K.ty rfl) rfl fr' h) (λv h' ⟨z1,z2⟩=>by subst z1;subst z2;exact tA (WV.imp (It (i:=km i b) (i.K.ty rfl) rfl fr' h') (λv h' ⟨z1,z2⟩=>by subst z1;subst z2;exact tC (cI rfl rfl rfl)) λ_ _ z=>z)) λ_ _ z=>z))
  ·have ha:gH R q=.mk 40 [q.1,q.2]:=ay (Nm.mk 40) el
   refine xk (B9 (list (u7 rfl) (tC (rt rfl (.mk 40 [q.1,q.2]) Z0 (NE (nv (l:=FC) DF (s _ _ f2) (DM i.K rfl (aE hi) (jD rfl) ?_)))))));rw[show(yt R q).put "lr_after" (.ref (.mk 40 [q.1,q.2]))=(dW R q).take 8 from by rw[←ha];rfl];exact vE (hq fr' s)
  ·rw[show gH R q=.mk 40 [q.1,q.2] from ay (Nm.mk 40) el,ea]
   exact aE aR
 have pr:(yt R q).lookup ("prod":Str)=aa (.tup ((iN R q).map .str)):=rfl;have dl:((iN R q).map SV.str).length=(aG R q.1).length+1:=by rw[aI _];exact Fs hq
 cases hs:(aG R q.1)[q.2]? with
 |none=>
  have BY:=ke.mp hs;refine Mw "IndexError" (Jf (abw (a_ (n:=aX) (n_ f1) hg) (aa2 (j:=q.2+1) (a_ (n:=bk q) (n_ f2) hi pr) (fH (n_ f3) bG ny) (ph (bf hq (bf hz bj))) (by rw[dl];exact eE ‹_›)))) Wh xhi (Yn hs) (by unfold vi;rw[hs])
 |some s=>
  have hlt:=(cU.mp hs).1
  by_cases hn:s∈a9
  ·have ha:gH R q=f_ s:=by unfold gH vi f_;rw[hs];dsimp only;rw[aO (wy.mpr hn)]
   refine Ef (jB (n:=bk q) (v:=.ref (f_ s)) (g7 (a_ (n:=aX) (n_ f1) hg) (mj (j:=q.2+1) (a_ (n:=bk q) (n_ f2) hi pr) (fH (n_ f3) bG ny) (ph (bK hlt (ah hz aJ))) (GA hs)) e1 (e2 s hn).1) (n_ f2) hi (jD rfl) (aH ?_));rw[show(yt R q).put "lr_after" (.ref (f_ s))=(dW R q).take 8 from by rw[←ha];rfl];refine fin _ aR ?_ λx n1 n2=>aq n1;rw[ha,IM hs];exact aE (e2 s hn).2
  ·refine Mw "KeyError" (Jf (Oo (a_ (n:=aX) (n_ f1) hg) (mj (j:=q.2+1) (a_ (n:=bk q) (n_ f2) hi pr) (fH (n_ f3) bG ny) (ph (bK hlt (ah hz aJ))) (GA hs)) e1 (e3 s hn))) χ Jh (by rw[IM hs,U9 hR hn]) ?_
   have:pO s=an:=by cases z:pO s with|false=>rfl|true=>exact bd (wy.mp z) hn
   unfold vi;rw[hs];dsimp only;rw[this];rfl
theorem Tw {vs:List SV} {kx:Expr} {pos:Pos} {z:Int} {j:Nat} (a:EV i fr h e (.tup vs) ag) (b:EV i fr ag kx (.int z) aC) (h1:-1≤z) (h2:z<1000) (hj:n9 z vs.length=aa j) (hv:vs[j]? =aa v) (ok:autoParam (qe kx) jn):EV i fr h (.Subscript e kx pos) v aC:=
 y0 a b .tup ⟨λfr' Q X hq=>LD (Dn aV h1) (r8 h2 aV) hj hv hq⟩ ok
theorem acv (hq:q.2≤(aG R q.1).length):∃j,n9 ((q.2:Int) - 1) ((iN R q).map SV.str).length=aa j∧((iN R q).map SV.str)[j]? =aa (.str (vB R q)):=by
 have dl:=Fs hq;unfold vB;rcases sv q.2 with z|z
 ·rw[aO z,z]
  refine(aT ((aG R q.1).length) ?_ ?_)
  ·rw[aI _,dl];exact X9
  ·rw[dq,show(aG R q.1).length=(iN R q).length-1 from(ay (· - 1) dl).symm,←List.getLast?_eq_getElem?]
   cases hd:(iN R q).getLast? with
   |none=>rw[List.getLast?_eq_none_iff] at hd;rw[hd] at dl;cases dl
   |some s=>rw[List.getLastD_eq_getLast?,hd];rfl
 ·rw[aK (dF z)]
  have lt:q.2-1<q.2:=rY z oX;have hlt:q.2-1< (aG R q.1).length:=bK lt hq;refine(aT (q.2-1) ?_ ?_)
  ·rw[aI _,dl,show(q.2:Int) - 1=((q.2-1:Nat):Int) from(Int.natCast_sub z).symm];exact Eg (pn hlt)
  ·unfold iN
   rw[dq,C5 (jE▸Nat.lt_min.mpr ⟨lt,hlt⟩),List.getElem?_take,aO lt,fb hlt];rfl
theorem ade (hq:q.2≤(aG R q.1).length) (hz:(aG R q.1).length≤100) (hi:h (bk q)=aa (.inst 135 ((dW R q).take 8)))
  (f2:fr.lookup ("lri":Str)=aa (ba q)) (f3:fr.lookup ("i":Str)=aa (.int q.2))
  (fin:SS (km i b) fr (h.set (bk q) (.inst 135 ((dW R q).take 9))) ([]::k) Q):SS (km i b) fr h (vW.drop 2::k) Q:=by
 refine aj (acv hq) λj hj hv=>?_;exact Ef (jB (n:=bk q) (v:=.str (vB R q)) (Tw (a_ (n:=bk q) (n_ f2) hi) (fH (n_ f3) bG Ag) (Int.sub_le_sub_right (jp q.2) 1) (afd (Int.sub_le_self _ aV) (h9.mpr (bf hq (bf hz bj)))) hj hv) (n_ f2) hi (jD rfl) (aH fin))
def X5 (R:bp) (h:SH) (q:aF):Prop:=h (bk q)=aa (.inst 135 (dW R q))∧h (gH R q)=aa (.list ((dN R q).map bB))
structure BJ (R:bp) (aN:Nat) (aA:SH) (j d N:Nat) (h:SH):Prop where
 kq:Kq [10,20,40,43,60] aN aA h
 sO:∀x,h (.mk 40 [x])=aA (.mk 40 [x])
 done:∀q,cY R q→q.1<j∨(q.1=j∧q.2+1<d)→X5 R h q
 kw:∀j',j'<j→j'<R.length→h (bh j')=aa (.inst 100 (gc R j'))∧h (.mk 43 [j'])=aa (.list ((bq ((aG R j').length+1)).map λd=>ba (j',d)))
 Bc:∀j',j<j'→h (bh j')=aA (bh j')
 fresh:∀a d',j<a∨(a=j∧d≤d')→h (bk (a,d'))=af∧h (.mk 60 [a,d'])=af∧h (.mk 40 [a,d'])=af
 BA:∀a,j<a→h (.mk 43 [a])=af
 free:br h N
 le:aN≤N
structure BW (R:bp) (aN:Nat) (aA:SH) (j d N:Nat) (h:SH):Prop extends BJ R aN aA j d N h where
 pr:h (bh j)=aa (.inst 100 (iI (bF R j) (aG R j) j (.mk 66 [j]) (if d=0 then .none else ba (j,0))))
 lst:h (.mk 43 [j])=aa (.list ((bq d).map λd'=>ba (j,d')))
 last:0<d→h (bk (j,d-1))=aa (.inst 135 ((dW R (j,d-1)).take 9))∧h (gH R (j,d-1))=aa (.list ((dN R (j,d-1)).map bB))
noncomputable def yh (j d:Nat):SF:=[("self",.ref aX),("p",bB j),("lastlri",if d=0 then bB j else ba (j,d-1)),("i",.int d),("lr_items",.ref (.mk 43 [j]))]
structure BS where
 d:Nat
 N:Nat
 h:SH
theorem sM {p q:aF} (e:bk p=bk q):p=q:=by injection e with _ e;injection e with e1 e;injection e with e2 _;exact jv e1 e2
theorem yo {q:aF}:gH R q=.mk 40 [q.1,q.2]∨∃x,gH R q=.mk 40 [x]:=by
 unfold gH vi
 split
 ·split
  ·exact .inr ⟨_,rfl⟩
  ·exact .inl rfl
 ·exact .inl rfl
variable{h5:SH}
theorem nB {k k':Nat} {a c:List Nat} (h:a≠c):Nm.mk k a≠.mk k' c:=λe=>by injection e with _ e;exact h e
theorem BW.step (W:BW R aN aA j d N h) (hd:d≤(aG R j).length) (E:∀x,x≠gN N→x≠.mk 60 [j,d]→x≠bk (j,d)→x≠.mk 40 [j,d]→(x≠bh j)→(0<d→x≠bk (j,d-1))→x≠.mk 43 [j]→h5 x=h x)
  (e1:h5 (bk (j,d))=aa (.inst 135 ((dW R (j,d)).take 9))) (e2:h5 (gH R (j,d))=aa (.list ((dN R (j,d)).map bB))) (e3:h5 (.mk 43 [j])=aa (.list ((bq (d+1)).map λd'=>ba (j,d'))))
  (e4:h5 (bh j)=aa (.inst 100 (iI (bF R j) (aG R j) j (.mk 66 [j]) (ba (j,0))))) (e5:0<d→h5 (bk (j,d-1))=aa (.inst 135 (dW R (j,d-1)))) (kq:Kq [10,20,40,43,60] N h h5) (free:br h5 (N+1)):BW R aN aA j (d+1) (N+1) h5:=by
 have v_:∀l:List Nat,l≠[j,d]→h5 (.mk 40 l)=h (.mk 40 l):=λl hl=>E _ az az az (nB hl) az (λ_=>az) az;have Mx:∀q:aF,q≠(j,d)→h5 (gH R q)=h (gH R q):=λq hq=>by
  rcases yo (R:=R) (q:=q) with e|⟨x,e⟩<;>rw[e]
  ·exact v_ _ λz=>hq (by injection z with z1 z;injection z with z2;exact jv z1 z2)
  ·exact v_ _ λz=>by injection z with _ z;exact vS z
 refine⟨⟨W.kq.trans kq W.le,λx=>(v_ [x] λz=>by injection z with _ z;exact vS z).trans (W.sO x),λq hq hc=>?_,λj' fj hl=>?_,λj' fj=>?_,λa d' hc=>?_,λa ha=>?_,free,c7 W.le⟩,?_,e3,λ_=>⟨e1,e2⟩⟩
 ·by_cases hz:0<d∧q=(j,d-1)
  ·refine xA hz λh0 bu=>?_;clear hz;subst bu
   exact⟨e5 h0,(Mx _ λz=>by injection z with _ z;exact lW (bH z.symm) (rY h0 bj)).trans (W.last h0).2⟩
  ·have fS:q.1<j∨(q.1=j∧q.2+1<d):=by
    rcases hc with hc|⟨m6,qV⟩
    ·exact .inl hc
    ·refine .inr ⟨m6,?_⟩
     have:¬(q.2+1=d):=λz=>hz ⟨by exact Ib (bf (lf _ _) qV),jv m6 (by show q.2=d-1;exact Nat.eq_sub_of_add_eq z)⟩;exact wI (eQ qV) this
   have dh:q≠(j,d):=λz=>by subst z;exact fS.elim (fo _) λw=>lW (bT _) w.2
   have:=W.done q hq fS;exact⟨(E _ az az (λz=>dh (sM z)) az az (λh0 z=>hz ⟨h0,sM z⟩) az).trans this.1,(Mx q dh).trans this.2⟩
 ·have:=W.kw j' fj hl
  exact⟨(E _ az az az az (nB λz=>by injection z with z;exact l6 fj (bH z.symm)) (λ_=>az) az).trans this.1,(E _ az az az az az (λ_=>az) (nB λz=>by injection z with z;exact l6 fj (bH z.symm))).trans this.2⟩
 ·exact(E _ az az az az (nB λz=>by injection z with z;exact dF ‹_› ‹_›) (λ_=>az) az).trans (W.Bc j' fj)
 ·have dh:(a,d')≠(j,d):=λz=>by injection z with z1 z2;exact hc.elim (λw=>dF w z1) λw=>l6 w.2 (bH z2)
  have hl:[a,d']≠[j,d]:=λz=>by injection z with z1 z;injection z with z2;exact dh (jv z1 z2)
  have:=W.fresh a d' (hc.imp id λw=>⟨w.1,gd w.2⟩);exact(cI ((E _ az az (λz=>dh (sM z)) az az (λh0 z=>by have:=sM z;injection this with z1 z2;exact hc.elim (λw=>dF w z1) λw=>l6 w.2 (ah (bH z2) (kh _ _))) az).trans this.1) ((E _ az (nB hl) az az az (λ_=>az) az).trans this.2.1) ((v_ _ hl).trans this.2.2))
 ·exact(E _ az az az az az (λ_=>az) (nB λz=>by injection z with z;exact dF ‹_› ‹_›)).trans (W.BA a ha)
 ·rw[aK (zO d)];exact e4
theorem BW.stop (W:BW R aN aA j ((aG R j).length+1) N h) (E:∀x,x≠bh j→x≠bk (j,(aG R j).length)→h5 x=h x) (hj:j<R.length)
  (e4:h5 (bh j)=aa (.inst 100 (gc R j))) (e5:h5 (bk (j,(aG R j).length))=aa (.inst 135 (dW R (j,(aG R j).length)))) (kq:Kq [10,20,40,43,60] N h h5) (free:br h5 N):BJ R aN aA (j+1) 0 N h5:=by
 have ea:∀q:aF,h5 (gH R q)=h (gH R q):=λq=>E _ az az;refine⟨W.kq.trans kq W.le,λx=>(E _ az az).trans (W.sO x),λq hq hc=>?_,λj' fj hl=>?_,λj' fj=>?_,λa d' hc=>?_,λa ha=>?_,free,W.le⟩
 ·by_cases hz:q=(j,(aG R j).length)
  ·subst hz
   exact⟨e5,(ea _).trans (W.last (dJ _)).2⟩
  ·have fS:q.1<j∨(q.1=j∧q.2+1< (aG R j).length+1):=by
    rcases P5 q.1 j with z|z
    ·exact .inl z
    ·have z1:q.1=j:=qD (hc.elim (λw=>eQ w) λw=>bd w.2 (mQ _)) z
     refine .inr ⟨z1,?_⟩;have h2:=hq.2;rw[z1] at h2;have:q.2≠(aG R j).length:=λz2=>hz (jv z1 z2);exact ph (wI h2 this)
   have:=W.done q hq fS;exact⟨(E _ az λz=>hz (sM z)).trans this.1,(ea q).trans this.2⟩
 ·rcases wJ (eQ fj) with rfl|hlt
  ·exact⟨e4,(E _ az az).trans W.lst⟩
  ·have:=W.kw j' hlt hl
   exact⟨(E _ (nB λz=>by injection z with z;exact dp ‹_› ‹_›) az).trans this.1,(E _ az az).trans this.2⟩
 ·exact(E _ (nB λz=>by injection z with z;exact l6 fj (c7 (bH z))) az).trans (W.Bc j' (cj ‹_›))
 ·have:=W.fresh a d' (.inl (hc.elim (λw=>n8 w) λw=>lb (bH w.1.symm)))
  exact(cI ((E _ az (λz=>by have:=sM z;injection this with z1 z2;exact dF (hc.elim (λw=>n8 w) λw=>lb (bH w.1.symm)) z1)).trans this.1) ((E _ az az).trans this.2.1) ((E _ az az).trans this.2.2))
 ·exact(E _ az az).trans (W.BA a (cj ‹_›))
noncomputable def wx:List Nat:=[10,20,40,43,60]
structure w6 (R:bp) (h:SH):Prop where
 g:GW R h
 nt:∀j,0<j→j<R.length→bF R j∈a9
 len:R.length≤5
 bw:∀j,(aG R j).length≤2
theorem MS {h':SH} (G:w6 R aA) (kq:Kq wx N aA h') (sO:∀x,h' (.mk 40 [x])=aA (.mk 40 [x])):As R h':=by
 obtain⟨es,a,c,d⟩:=G.g.names;exact⟨es,(kq.1 _ _ rfl).trans a,λs hs=>⟨(c s hs).1,(sO _).trans (c s hs).2⟩,d⟩
theorem UC {w:BS} (G:w6 R aA) (W:BW R aN aA j w.d w.N w.h) (hj:j<R.length) (hd:w.d≤(aG R j).length) {rest:List bI}
  (fin:∀h5 fr',BW R aN aA j (w.d+1) (w.N+1) h5→(yh j (w.d+1)).sub fr'→SS (km i b) fr' h5 ([]::k) Q):
  SS (km i b) (yh j w.d) w.h (vW::Eu.drop 1::k) Q:=by
 obtain⟨d,N,h⟩:=w;dsimp only at W hd fin ⊢;have hz:=G.bw j;refine jw (W.fresh j d (.inr ⟨rfl,au _⟩)) λfI Yr YF=>?_;refine bO (v:=ba (j,d)) (b9 (i.K.ref rfl) (i.K.keep rfl) (aB n_ (aB n_ aL)) (RL (i:=km i b) (q:=(j,d)) (b:=b) (N:=N) rfl W.pr rfl rfl rfl rfl hd (by show(aG R j).length≤100;exact ah ‹_› aJ) W.free Yr fI).cp) ?_;have jQ:Kq wx N h (wr h N R (j,d)):=((Kq.new (au _)).trans (M:=N) (.set (k:=60)) (au _)).trans (M:=N) (.set (k:=20)) (au _);have F1:br (wr h N R (j,d)) (N+1):=(W.free.new [] _).same λk l _=>aE (aE rfl);refine YX (q:=(j,d)) G.nt hd (by show(aG R j).length≤100;exact ah ‹_› aJ) ((jQ.1 _ _ rfl).trans ((W.kq.1 _ _ rfl).trans G.g.gr:h aX=aa (.inst 283 pI))) (MS G (W.kq.trans jQ W.le) λx=>(aE (aE (aE rfl)):wr h N R (j,d) (.mk 40 [x])=h (.mk 40 [x])).trans (W.sO x):As R (wr h N R (j,d))) aR (aE (aE (aE YF))) rfl rfl rfl λh2 a1 a2 E2=>?_;refine ade (q:=(j,d)) hd (by show(aG R j).length≤100;exact ah ‹_› aJ) a1 rfl rfl (aH ?_);have i3:(h2.set (bk (j,d)) (.inst 135 ((dW R (j,d)).take 9))) (bk (j,d))=aa (.inst 135 ((dW R (j,d)).take 9)):=aR;have a3:(h2.set (bk (j,d)) (.inst 135 ((dW R (j,d)).take 9))) (gH R (j,d))=aa (.list ((dN R (j,d)).map bB)):=by
  rcases yo (R:=R) (q:=(j,d)) with e|⟨x,e⟩<;>rw[e] at a2 ⊢<;>exact aE a2
 have E3:∀x,x≠gN N→x≠.mk 60 [j,d]→x≠bk (j,d)→x≠.mk 40 [j,d]→(h2.set (bk (j,d)) (.inst 135 ((dW R (j,d)).take 9))) x=h x:=λx n1 n2 n3 n4=>(aq n3).trans ((E2 x n3 n4).trans ((λx n1 n2 n3=>(aq n3).trans ((aq n2).trans (aq n1)):∀x,x≠gN N→x≠.mk 60 [j,d]→x≠bk (j,d)→wr h N R (j,d) x=h x) x n1 n2 n3));have EG:Kq wx N h (h2.set (bk (j,d)) (.inst 135 ((dW R (j,d)).take 9))):=⟨λk l hk=>by
  have f:∀a,(99::wx).contains a=ab→k≠a:=λa ha=>iy hk ha;exact E3 _ (λe=>by injection e with e;exact f 99 rfl e) (λe=>by injection e with e;exact f 60 rfl e) (λe=>by injection e with e;exact f 20 rfl e) (λe=>by injection e with e;exact f 40 rfl e),λk l hk=>E3 _ (λe=>by have:=my e;exact dp ‹_› ‹_›) az az az⟩
 have F3:br (h2.set (bk (j,d)) (.inst 135 ((dW R (j,d)).take 9))) (N+1):=λk l hk=>(E3 _ (λe=>by have:=my e;exact dF ‹_› ‹_›) az az az).trans (W.free k l (cj ‹_›));generalize h2.set (bk (j,d)) (.inst 135 ((dW R (j,d)).take 9))=h3 at i3 a3 E3 EG F3 ⊢
 have Pd:∀h4,h4 (bk (j,d))=aa (.inst 135 ((dW R (j,d)).take 9))→h4 (gH R (j,d))=aa (.list ((dN R (j,d)).map bB))→(∀x,x≠bh j→(0<d→x≠bk (j,d-1))→h4 x=h3 x)→h4 (bh j)=aa (.inst 100 (iI (bF R j) (aG R j) j (.mk 66 [j]) (ba (j,0))))→(0<d→h4 (bk (j,d-1))=aa (.inst 135 (dW R (j,d-1))))→
   SS (km i b) ((yh j d).put "lri" (ba (j,d))) h4 (Eu.drop 2::k) Q:=λh4 b1 b2 E4 b4 b5=>by
  refine cf (fw (t:=ab) (p_ n_ (FO (n:=bk (j,d)) b1))) (aH ?_);have hl:h4 (.mk 43 [j])=aa (.list ((bq d).map λd'=>ba (j,d'))):=(E4 _ az λ_=>az).trans ((E3 _ az az az az).trans W.lst);refine fF (de n_ (ga hl) ir (aB n_ aL) (fU hl (by rw[aI _,dR];unfold aZ;exact ah (ah ‹_› ‹_›) aJ))) ?_;refine bO n_ (yn rfl bG wB ?_);refine fin _ _ (W.step (N:=N) hd (λx n1 n2 n3 n4 n5 n6 n7=>(aq n7).trans ((E4 x n5 n6).trans (E3 x n1 n2 n3 n4))) (aE b1) ?_ ?_ (aE b4) (λh0=>aE (b5 h0)) ?_ ?_) ?_
  ·rcases yo (R:=R) (q:=(j,d)) with e|⟨x,e⟩<;>rw[e] at b2 ⊢<;>exact aE b2
  ·rw[wZ,dM];exact aR
  ·refine Kq.trans (M:=N) (h':=h4) ⟨λk l hk=>?_,λk l hk=>?_⟩ (.set (k:=43)) (au _)
   ·exact(E4 _ (λe=>by injection e with e;exact iy hk (a:=10) rfl e) (λ_ e=>by injection e with e;exact iy hk (a:=20) rfl e)).trans (EG.1 k l hk)
   ·exact(E4 _ az λ_=>az).trans (EG.2 k l hk)
  ·exact λk l hk=>(aq az).trans ((E4 _ az λ_=>az).trans (F3 k l hk))
  ·exact ai (ai (ai (ai (ai bt)) (by show aa (ba (j,d))=aa (if d+1=0 then bB j else ba (j,d+1-1));rw[aK (zO d)];rfl)))
 rcases sv d with rfl|h0
 ·refine jB (n:=bh j) n_ (n_ (v:=bB j)) ((E3 _ az az az az).trans W.pr:h3 (bh j)=aa (.inst 100 (iI (bF R j) (aG R j) j (.mk 66 [j]) .none))) (jD rfl) ?_
  exact Pd _ (aE i3) (by rcases yo (R:=R) (q:=(j,0)) with e|⟨x,e⟩<;>rw[e] at a3 ⊢<;>exact aE a3) (λx n1 _=>aq n1) aR (λz=>bd z (fo _))
 ·have dh:d≠0:=dF ‹_›
  have ll:=W.last h0;have nq:bk (j,d-1)≠bk (j,d):=λe=>by have:=sM e;injection this with _ z;exact lW (bH z.symm) (rY h0 bj)
  have ne:rF R (j,d-1)=ba (j,d):=by unfold rF;rw[aO (show d-1< (aG R j).length by exact bK (rY ‹_› oX) ‹_›)];congr 3;exact qG ‹_›
  refine jB (n:=bk (j,d-1)) n_ (n_ (v:=ba (j,d-1)) (by show aa (if d=0 then bB j else ba (j,d-1))=_;rw[aK dh])) ((E3 _ az az nq az).trans ll.1:h3 (bk (j,d-1))=aa (.inst 135 ((dW R (j,d-1)).take 9))) (jD rfl) ?_;refine Pd _ (aq nq.symm|>.trans i3) (by rcases yo (R:=R) (q:=(j,d)) with e|⟨x,e⟩<;>rw[e] at a3 ⊢<;>exact aE a3) (λx _ n2=>aq (n2 h0)) (aE ((E3 _ az az az az).trans (by have:=W.pr;rwa [aK dh] at this))) (λ_=>?_);rw[←ne];exact aR
theorem BJ.enter (J:BJ R aN aA j 0 N h) (G:w6 R aA) (hj:j<R.length) (hp:h (bh j)=aA (bh j)):BW R aN aA j 0 N (h.set (.mk 43 [j]) (.list [])):=by
 have E:∀x,x≠.mk 43 [j]→(h.set (.mk 43 [j]) (.list [])) x=h x:=λx hx=>aq hx;refine⟨⟨J.kq.trans (M:=N) .set J.le,λx=>(E _ az).trans (J.sO x),λq hq hc=>⟨(E _ az).trans (J.done q hq hc).1,((λq=>E _ az:∀q:aF,(h.set (.mk 43 [j]) (.list [])) (gH R q)=h (gH R q)) q).trans (J.done q hq hc).2⟩,λj' fj hl=>⟨(E _ az).trans (J.kw j' fj hl).1,(E _ (nB λz=>by injection z with z;exact l6 fj (bH z.symm))).trans (J.kw j' fj hl).2⟩,λj' fj=>(E _ az).trans (J.Bc j' fj),λa d' hc=>(cI ((E _ az).trans (J.fresh a d' hc).1) ((E _ az).trans (J.fresh a d' hc).2.1) ((E _ az).trans (J.fresh a d' hc).2.2)),λa ha=>(E _ (nB λz=>by injection z with z;exact dF ‹_› ‹_›)).trans (J.BA a ha),λk l hk=>(E _ az).trans (J.free k l hk),J.le⟩,?_,aR,λz=>bd z (fo _)⟩;exact(E _ az).trans (hp.trans (G.g.pr j hj).1)
theorem ada (hb:i.b=b+3) (G:w6 R h) (B:br h N) (n20:∀q,h (bk q)=af) (Wp:∀a c,h (.mk 60 [a,c])=af) (iE:∀a c,h (.mk 40 [a,c])=af) (LC:∀a,h (.mk 43 [a])=af):
  FP i h (.glob 280) [.ref aX] (λv h'=>v=.none∧∃N',BJ R N h R.length 0 N' h'):=by
 refine enter (b:=b+2) i.K.blr DF w_bl hb rfl ?_;have c5:=G.len;refine eo (σ:=AS) (λ_=>[("self",.ref aX)]) AS.h (λs j=>BJ R N h j 0 s.N s.h∧s.h (bh j)=h (bh j)∧s.h (.mk 43 [j])=af) ⟨N,h⟩ ((bq R.length).map bB) (d7 (a_ (n:=aX) n_ G.g.gr) G.g.fk) (cI (⟨.same,λ_=>rfl,λq hq hc=>(hc.elim (λw=>mQ _ w) λw=>mQ _ w.2).elim,λj' fj=>bd fj (mQ _),λ_ _=>rfl,λa d' _=>(cI (n20 (a,d')) (Wp a d') (iE a d')),λa _=>LC a,B,au _⟩:BJ R N h 0 0 N h) rfl (LC 0)) (ai bt) (λs j Z=>d6 ((Z.1.kq.1 _ _ rfl).trans G.g.fk)) (λs j v Z e=>?_) (λs Z=>?_)
 ·refine jw Z λJ hp XP=>?_;clear Z
  have ii:j<R.length:=by have:=(cU.mp e).1;rwa [aI,dR] at this
  rw[CE ii] at e;obtain rfl:=aU e;refine dV (bO n_ (bO bG (bO (ey aL XP) ?_)));refine SS.sub (d_:=yh j 0) ?_ (ai (ai (ai (ai (ai bt)))));have hz:=G.bw j;refine rR (σ:=BS) (λs=>yh j s.d) BS.h (λw m=>m+w.d=(aG R j).length+2∧w.d≤(aG R j).length+1∧BW R N h j w.d w.N w.h) ⟨0,s.N,s.h.set (.mk 43 [j]) (.list [])⟩ ((aG R j).length+2) (cI rfl (cb _) (J.enter G ii hp)) .rfl ?_;rintro w m ⟨hm,hd,W⟩;refine(mB ab w.h (p_ jy jf) (λz=>(iQ z)) (λ_=>?_));have DG:CP (km i b) w.h (.bi "len") [.ref (bh j)] (is (.int (aG R j).length) w.h):=by
   have:=RE (i:=km i b) (b:=b) (n:=bh j) rfl W.pr rfl (by rw[aI _];exact ah ‹_› aJ)
   rwa [aI] at this
  by_cases hc:w.d≤(aG R j).length
  ·refine cf (bv n_ (b9 (i.K.bi rfl) rfl (aB (n_ (v:=bB j)) aL) DG) (xC (qv.mpr (wS.mpr hc)))) ?_
   exact UC G W ii hc (rest:=[]) λh5 fr' W5 sb=>aH (bN (LQ.next ⟨w.d+1,w.N+1,h5⟩ (ik (m-1) (J9 hm (bf hc (qF (dJ 1)))) (Nu hm (bf hc (qF (dJ 1)))) (by show w.d+1≤_;exact eE ‹_›) W5) sb))
  ·have vM:w.d=(aG R j).length+1:=qD hd (sn (Nat.not_le.mp hc))
   obtain⟨d,N',h'⟩:=w;dsimp only at vM W DG hm;subst vM;have h0:0< (aG R j).length+1:=dJ _;refine cR (bv n_ (b9 (i.K.bi rfl) rfl (aB (n_ (v:=bB j)) aL) DG) (Cp (h9.mpr (lb hd)))) (bO kJ (aH ?_));refine jB (n:=bk (j,(aG R j).length)) n_ (n_ (v:=ba (j,(aG R j).length)) (by show aa (if(aG R j).length+1=0 then bB j else ba (j,(aG R j).length+1-1))=_;rw[aK (zO _)];rfl)) ((W.last h0).1) (jD rfl) ?_;have nv:rF R (j,(aG R j).length)=.none:=by unfold rF;rw[aK (fo _)]
   have eI:SF.put ((dW R (j,(aG R j).length)).take 9) "lr_next" (rF R (j,(aG R j).length))=dW R (j,(aG R j).length):=rfl;rw[nv] at eI;rw[show(j,(aG R j).length+1-1)=(j,(aG R j).length) from rfl,eI];refine cR (fw (t:=an) (p_ n_ m8)) (Ad ?_);have pp:h' (bh j)=aa (.inst 100 (iI (bF R j) (aG R j) j (.mk 66 [j]) (ba (j,0)))):=by have:=W.pr;rwa [aK (zO _)] at this
   refine jB (n:=bh j) n_ (n_ (v:=bB j)) (aE pp) (jD rfl) ?_;refine(?_:SS _ _ ((h'.set (bk (j,(aG R j).length)) (.inst 135 (dW R (j,(aG R j).length)))).set (bh j) (.inst 100 (gc R j))) _ _);have E:∀x,x≠bh j→x≠bk (j,(aG R j).length)→((h'.set (bk (j,(aG R j).length)) (.inst 135 (dW R (j,(aG R j).length)))).set (bh j) (.inst 100 (gc R j))) x=h' x:=λx n1 n2=>(aq n1).trans (aq n2);have e1:((h'.set (bk (j,(aG R j).length)) (.inst 135 (dW R (j,(aG R j).length)))).set (bh j) (.inst 100 (gc R j))) (bh j)=aa (.inst 100 (gc R j)):=aR;have e2:((h'.set (bk (j,(aG R j).length)) (.inst 135 (dW R (j,(aG R j).length)))).set (bh j) (.inst 100 (gc R j))) (bk (j,(aG R j).length))=aa (.inst 135 (dW R (j,(aG R j).length))):=aE aR;have kz:Kq [10,20,40,43,60] N' h' ((h'.set (bk (j,(aG R j).length)) (.inst 135 (dW R (j,(aG R j).length)))).set (bh j) (.inst 100 (gc R j))):=(Kq.set (k:=20)).trans (M:=N') (.set (k:=10)) (au _);generalize (h'.set (bk (j,(aG R j).length)) (.inst 135 (dW R (j,(aG R j).length)))).set (bh j) (.inst 100 (gc R j))=hz at E e1 e2 kz ⊢;exact aH (bN (LQ.next ⟨N',hz⟩ (cI (W.stop E ii e1 e2 kz (λk l hk=>(E _ az az).trans (W.free k l hk))) ((E _ (nB λz=>by injection z with z;exact fo _ (kY (bH z))) az).trans (W.Bc (j+1) (dm _))) ((E _ az az).trans (W.BA (j+1) (dm _)))) (ai bt)))
 ·rw[aI,dR] at Z
  exact aH (aH (bN (Au rfl s.N Z.1)))
noncomputable def iH:Str:="<empty>"
noncomputable def iz (acc:List Str) (l:List Str):List Str:=l.foldl (λa f=>if f=iH then a else if f∈a then a else a++[f]) acc
noncomputable def frs (F:Str→List Str):List Str→List Str→List Str
 |acc,[]=>acc++[iH]
 |acc,x::r=>if iH∈F x then frs F (iz acc (F x)) r else iz acc (F x)
noncomputable def gp (s:Str):Nm:=.mk 47 [sym s]
noncomputable def e8:List Str:=["a","b","error","$end","S","A","B"]
noncomputable def oC:List Str:=["a","b","error","$end","<empty>"]
def lV (l:List Str):Prop:=l.Nodup∧∀x∈l,x∈oC
def na (F:Str→List Str) (h:SH):Prop:=∃es,h (.mk 45 [])=aa (.dict es)∧∀s∈e8,es.lookup (.str s)=aa (.ref (gp s))∧h (gp s)=aa (.list ((F s).map .str))
theorem lV.len {l:List Str} (s:lV l):l.length≤5:=fO s.1 (l₂:=oC) s.2
theorem Li {acc l:List Str} {f:Str}:iz acc (l++[f])=if f=iH then iz acc l else if f∈iz acc l then iz acc l else iz acc l++[f]:=by unfold iz;rw[ahu];rfl
def lM (l:List Str):Prop:=l.Nodup∧∀x∈l,x∈oC∧x≠iH
theorem lM.add {acc l:List Str} (a:lM acc) (hl:∀x∈l,x∈oC):lM (iz acc l):=by
 induction l generalizing acc with
 |nil=>exact a
 |cons f r ih=>
  have hr:∀x∈r,x∈oC:=λx hx=>hl x (eS _ hx);show lM (iz (if f=iH then acc else if f∈acc then acc else acc++[f]) r)
  split
  ·exact ih a hr
  ·next h1=>
   split
   ·exact ih a hr
   ·next h2=>
    refine ih ⟨k_.mpr (cI a.1 (kf _ _) (λx hx y hy e=>h2 (by rw[bU.mp hy] at e;exact e▸hx))),λx hx=>?_⟩ hr;rcases du.mp hx with z|z
    ·exact a.2 x z
    ·rw[bU.mp z];exact⟨hl f dv,h1⟩
theorem lM.frs {F:Str→List Str} {acc l:List Str} (a:lM acc) (hF:∀x∈l,lV (F x)):lV (frs F acc l):=by
 induction l generalizing acc with
 |nil=>
  refine⟨k_.mpr (cI a.1 (kf _ _) (λx hx y hy e=>(a.2 x hx).2 (by rw[e,bU.mp hy]))),λx hx=>?_⟩;rcases du.mp hx with z|z
  ·exact(a.2 x z).1
  ·rw[bU.mp z];exact aV
 |cons x r ih=>
  have a':=a.add (hF x dv).2;show lV (if iH∈F x then Mine.Internal.frs F (iz acc (F x)) r else iz acc (F x))
  split
  ·exact ih a' λy hy=>hF y (eS _ hy)
  ·exact⟨a'.1,λy hy=>(a'.2 y hy).1⟩
theorem lM.nil:lM []:=⟨.nil,λ_ h=>by exact cS h⟩
noncomputable def vF:List Str:=["self","beta","result","x","x_produces_empty","f"]
theorem RS:ck (bE 258) vF=ab:=by kernel_rfl
theorem w_fi:cW (bE 258) []=ab:=rfl
structure N_ where
 a:List Str
 e:Bool
noncomputable def Wn (N:Nat) (t:N_):SF:=[("self",.ref aX),("result",.ref (gN N)),("x_produces_empty",.bool t.e)]
theorem IX {F:Str→List Str} {l:List Str} (hb:i.b=b+1) (hg:h aX=aa (.inst 283 pI)) (I:na F h) (hl:∀x∈l,x∈e8) (hF:∀x∈e8,lV (F x)) (B:br h N):
  FP i h (.glob 258) [.ref aX,.tup (l.map .str)] (is (.ref (gN N)) (h.set (gN N) (.list ((frs F [] l).map .str)))):=by
 refine enter (b:=b) i.K.first RS w_fi hb rfl ?_;refine aj I λes VE w9=>?_;clear I;refine bO (ey (n:=gN N) aL B.at) ?_;have o:∀(a:List Str) {k l},k≠99→(h.set (gN N) (.list (a.map .str))) (.mk k l)=h (.mk k l):=λa {k l} hk=>aq λe=>by injection e with e;exact hk e
 refine A9 (σ:=List Str) (λ_=>[("self",.ref aX),("result",.ref (gN N))]) (λa=>h.set (gN N) (.list (a.map .str))) (λa j m=>j+m=l.length∧frs F a (l.drop j)=frs F [] l∧lM a) [] l.length (N0 n_) (cI (mP _) rfl lM.nil) (ai (ai bt)) ?_;rintro a j m ⟨hj,hf,ha⟩;refine(cL ((l.map SV.str)[j]?) rfl (λe=>?_) (λv e=>?_))
 ·have BY:l.length≤j:=by have:=ke.mp e;rwa [aI] at this
  rw[List.drop_of_length_le BY] at hf;have hf:a++[iH]=frs F [] l:=hf;have la:a.length≤5:=fO ha.1 (l₂:=oC) λx hx=>(ha.2 x hx).1;refine fF (de n_ (ga aR) ir (aB cx aL) (fU aR (by rw[aI _];unfold aZ;exact ah ‹_› aJ))) (aH (gv n_ ⟨rfl,?_⟩));rw[iD,←hf,dM];rfl
 ·refine aj (dH e) λx hx ar=>?_;subst ar
  have ii:=(cU.mp hx).1;have Pn:=hl x (bQ hx);refine xA (w9 x Pn) λk1 k2=>?_;have sx:=hF x Pn;have dr:l.drop j=x::l.drop (j+1):=by rw[Ij ii];congr 1;exact aU ((fb ii).symm.trans hx)
  rw[dr] at hf;refine dV (bO jy ?_);refine eo (σ:=N_) (Wn N) (λt=>h.set (gN N) (.list (t.a.map .str))) (λt n=>t.a=iz a ((F x).take n)∧t.e=decide (iH∈(F x).take n)) ⟨a,an⟩ ((F x).map .str) (d7 (g7 (a_ (n:=aX) n_ ((o a bJ).trans hg)) n_ ((o a bJ).trans VE) k1) ((o a bJ).trans k2)) ⟨rfl,rfl⟩ (ai (ai (ai bt))) (λt n _=>d6 ((o _ bJ).trans k2)) (λt n v T e2=>?_) λt T=>?_
  ·refine aj (dH e2) λf YU ar=>?_;subst ar
   refine xA T λT1 T2=>?_;clear T;have tk:(F x).take (n+1)=(F x).take n++[f]:=by rw[jK,YU];rfl
   have s4:lM (iz a ((F x).take n)):=ha.add λy hy=>sx.2 y (Dv hy);refine dV ?_
   by_cases md:f=iH
   ·subst md
    refine cR (bv n_ cx (nK rfl)) (bO jy (aH (aH (bN (LQ.next ⟨t.a,ab⟩ ⟨by rw[tk,Li,aO rfl];exact T1,?_⟩ (ai (ai (ai bt))))))));rw[tk];exact(eP (kd _ (bU.mpr rfl))).symm
   ·have me:decide (iH∈(F x).take (n+1))=decide (iH∈(F x).take n):=by
     rw[tk];refine mO.mpr ⟨λz=>(du.mp z).resolve_right λz=>md (bU.mp z).symm,λz=>i6 _ z⟩
    refine cf (bv n_ cx (lT λz=>md (by injection z))) ?_;have st:iz a ((F x).take (n+1))=if f∈t.a then t.a else t.a++[f]:=by rw[tk,Li,aK md,←T1]
    by_cases hm:f∈t.a
    ·refine cf (bv n_ n_ (vc (.own aR) (j_.mpr hm) mh)) (aH (aH (aH (bN (LQ.next t ⟨by rw[st,aO hm],by rw[me];exact T2⟩ (ai (ai (ai bt))))))))
    ·have la:t.a.length≤5:=by rw[T1];exact fO s4.1 (l₂:=oC) λx hx=>(s4.2 x hx).1
     refine cR (bv n_ n_ (yj (.own aR) (λz=>hm (j_.mp z)) mh)) ?_;refine fF (de n_ (ga aR) ir (aB n_ aL) (fU aR (by rw[aI _];unfold aZ;exact ah ‹_› aJ))) ?_;refine aH (aH (aH (bN (LQ.next ⟨t.a++[f],t.e⟩ ⟨by rw[st,aK hm],by rw[me];exact T2⟩ (ai (ai (ai bt))) ?_))));rw[iD,dM];rfl
  ·rw[aI,zK] at T
   refine xA T λT1 T2=>?_;clear T;refine aH ?_
   by_cases uL:iH∈F x
   ·rw[show frs F a (x::l.drop (j+1))=if iH∈F x then frs F (iz a (F x)) (l.drop (j+1)) else iz a (F x) from rfl,aO uL] at hf
    refine cR (p_ n_ (by rw[T2,eP uL];exact jf)) (τ (aH (aH (bN (LQ.next t.a (ik (m-1) (CV hj ii) (Cs hj ii) (by rw[T1];exact hf) (by rw[T1];exact ha.add sx.2)) (ai (ai bt)))))))
   ·rw[show frs F a (x::l.drop (j+1))=if iH∈F x then frs F (iz a (F x)) (l.drop (j+1)) else iz a (F x) from rfl,aK uL] at hf
    refine cf (p_ n_ (by rw[T2,iZ uL];exact jf)) (Ad ?_);exact gv n_ ⟨rfl,by rw[T1,hf]⟩
theorem ac0:∀x∈e8,∀y∈e8,sym x=sym y→x=y:=by decide +kernel
theorem Gz {x y:Str} (hx:x∈e8) (hy:y∈e8) (e:gp x=gp y):x=y:=by injection e with _ e;injection e with e;exact ac0 x hx y hy e
structure GX (R:bp) (h:SH):Prop where
 gr:h aX=aa (.inst 283 pI)
 names:As R h
 term:h (.mk 38 [])=aa (.dict iX)
 iu:∃es,h (.mk 39 [])=aa (.dict es)∧∃ns:List Str,es.map (·.1)=ns.map .str∧ns.Nodup∧(∀s∈ns,s∈a9)∧∀s∈a9,s∈ns
 pr:∀j,j<R.length→h (bh j)=aa (.inst 100 (gc R j))
 fk:h (.mk 35 [])=aa (.list ((bq R.length).map bB))
 prec:h (.mk 49 [])=aa (.dict [])
 len:R.length≤5
 sy:∀j,j<R.length→∀s∈aG R j,s∈e8
 bw:∀j,(aG R j).length≤2
 nt:∀j,0<j→j<R.length→bF R j∈a9
theorem GX.kq {B:List Nat} (G:GX R h) (kq:Kq B N h h') (hB:autoParam ((([34,36,40,38,39,10,35,49]:List Nat).all λk=>!(99::B).contains k)=ab) bn):GX R h':=by
 have f:∀{k l},([34,36,40,38,39,10,35,49]:List Nat).contains k=ab→h' (.mk k l)=h (.mk k l):=λ{k l} hk=>kq.1 k l (mx (e9.mp hk) hB);exact⟨(f (k:=34) rfl).trans G.gr,bM G.names λes a c d=>⟨es,(f rfl).trans a,λs hs=>⟨(c s hs).1,(f (k:=40) rfl).trans (c s hs).2⟩,d⟩,(f rfl).trans G.term,aj G.iu λns a2 c2=>⟨ns,(f rfl).trans a2,c2⟩,λj hj=>(f (k:=10) rfl).trans (G.pr j hj),(f rfl).trans G.fk,(f rfl).trans G.prec,G.len,G.sy,G.bw,G.nt⟩
theorem Fx {es:b8} {ns:List Str} (h:es.map (·.1)=ns.map .str):oK es=ab:=db.mpr λp hp=>by
 exact aj (bD.mp (h▸ae8 (f:=(·.1)) hp:p.1∈ns.map SV.str)) λs _ e=>e▸rfl
noncomputable def F0 (s:Str):List Str:=if s∈a9 then [] else [s]
structure pZ (done:List Str) (aA h:SH) (es:b8):Prop where
 d:h (.mk 45 [])=aa (.dict es)
 ok:∀s∈done,es.lookup (.str s)=aa (.ref (gp s))∧h (gp s)=aa (.list ((F0 s).map .str))
 no:∀s∈e8,s∉done→h (gp s)=af
 len:es.length≤done.length
 kq:∀M,Kq [45,47] M aA h
theorem pZ.step {done:List Str} {es:b8} (I:pZ done aA h es) (hd:∀s∈done,s∈e8) (hs:s∈e8) (hn:s∉done):pZ (done++[s]) aA ((h.set (gp s) (.list ((F0 s).map .str))).set (.mk 45 []) (.dict (bl es (.str s) (.ref (gp s))))) (bl es (.str s) (.ref (gp s))):=by
 refine⟨aR,λt ht=>?_,λt ht pS=>?_,?_,λM=>((I.kq M).trans (M:=M) (.set (k:=47)) (au _)).trans (M:=M) (.set (k:=45)) (au _)⟩
 ·rcases du.mp ht with z|z
  ·have ne:t≠s:=λe=>hn (e▸z)
   refine xA (I.ok t z) λa c=>?_;exact⟨by rw[ft _,aK (λe=>ne (by injection e))];exact a,(aq az).trans ((aq λe=>ne (Gz (hd t z) hs e)).trans c)⟩
  ·rw[bU.mp z]
   exact⟨by rw[ft _,aO rfl],(aq az).trans aR⟩
 ·exact(aq az).trans ((aq λe=>(λe=>pS (kd _ (bU.mpr e)):t≠s) (Gz ht hs e)).trans (I.no t ht λz=>pS (i6 _ z)))
 ·rw[cT];exact ah ti (eE I.len)
structure va where
 es:b8
 h:SH
noncomputable def vC:List Str:=["self","t","n","some_change","p","f"]
theorem Pa:ck (bE 265) vC=ab:=by kernel_rfl
theorem w_cf:cW (bE 265) []=ab:=rfl
noncomputable def xI (i:FI) (b:Nat):FI:=i.fn (b+1) 265 vC [] Pa w_cf
theorem z8:∀s∈dY,s∈e8:=aV
theorem wu:∀s∈a9,s∈e8:=aV
theorem Uu:∀s∈dY,s∉a9:=aV
theorem VS (h:s∈a9):F0 s=[]:=aO h
theorem KR (h:s∉a9):F0 s=[s]:=aK h
theorem W8 (G:GX R h) (jM:h (.mk 45 [])=aa (.dict [])) (FS:∀l,h (.mk 47 l)=af)
  (fin:∀h',na F0 h'→(∃es,h' (.mk 45 [])=aa (.dict es)∧es.length≤10)→(∀M,Kq [45,47] M h h')→SS (xI i b) [("self",.ref aX)] h' [(bc 265).drop 4] Q):SS (xI i b) [("self",.ref aX)] h [bc 265] Q:=by
 refine cf (p_ (a_ (n:=aX) n_ G.gr) (yd jM bj)) (aH ?_);have gk:∀{done es h'},pZ done h h' es→h' aX=aa (.inst 283 pI):=λI=>((I.kq 0).1 _ _ rfl).trans G.gr;refine eo (σ:=va) (λ_=>[("self",.ref aX)]) va.h (λs j=>pZ (dY.take j) h s.h s.es) ⟨[],h⟩ (iX.map (·.1)) (uI (a_ (n:=aX) n_ G.gr) G.term rfl) (⟨jM,λs z=>(cS z),λs _ _=>FS _,au _,λM=>.same⟩:pZ [] h h []) .rfl (λs j I=>uM (((I.kq 0).1 _ _ rfl).trans G.term) rfl) (λs j v I e=>?_) (λs I=>?_)
 ·have:∃t,dY[j]? =aa t∧v=.str t∧t∈dY∧t∉dY.take j:=by
   match j,e with
   |0,e=>(first|exact a8 e|obtain rfl:=aU e);exact(ik ("a") rfl rfl aV aV)
   |1,e=>(first|exact a8 e|obtain rfl:=aU e);exact(ik ("b") rfl rfl aV aV)
   |2,e=>(first|exact a8 e|obtain rfl:=aU e);exact(ik ("error") rfl rfl aV aV)
  refine g9 this λt ht ar lH oG=>?_;clear this;subst ar;have tk:dY.take (j+1)=dY.take j++[t]:=by rw[jK,ht];rfl
  have l3:(dY.take j).length≤3:=by rw[jE];exact pi _ _
  refine dV (d9 (n:=.mk 45 []) (es:=s.es) (ey (n:=gp t) (aB n_ aL) (I.no t (z8 t lH) oG)) (a_ (n:=aX) n_ (aE (gk I))) n_ (aE I.d) (by have:=I.len;unfold aZ;exact ah (ah ‹_› ‹_›) aJ) ?_);have st:=I.step (λs hs=>z8 s (Dv hs)) (z8 t lH) oG;rw[KR (Uu t lH)] at st;exact aH (bN (LQ.next ⟨_,_⟩ (by rw[tk];exact st) (ai bt)))
 ·have I:pZ dY h s.h s.es:=I
  refine aH (d9 (n:=.mk 45 []) (es:=s.es) (ey (n:=gp "$end") (aB cx aL) (I.no "$end" aV aV)) (a_ (n:=aX) n_ (aE (gk I))) cx (aE I.d) (by have:=I.len;unfold aZ;exact ah this aJ) ?_);have st:=I.step (s:="$end") z8 aV aV;rw[KR aV] at st;refine(?_:SS _ _ ((s.h.set (gp "$end") (.list [.str "$end"])).set (.mk 45 []) (.dict (bl s.es (.str "$end") (.ref (gp "$end"))))) _ _);obtain⟨j4,hn,ns,e1,e2,e3,e4⟩:=G.iu;have kA:=Fx e1;have st:pZ (dY++[("$end":Str)]) h ((s.h.set (gp "$end") (.list [.str "$end"])).set (.mk 45 []) (.dict (bl s.es (.str "$end") (.ref (gp "$end"))))) (bl s.es (.str "$end") (.ref (gp "$end"))):=st;generalize bl s.es (.str "$end") (.ref (gp "$end"))=aB at st ⊢;generalize (s.h.set (gp "$end") (.list [.str "$end"])).set (.mk 45 []) (.dict aB)=h1 at st ⊢;have Av:ns.length≤3:=fO e2 (l₂:=a9) e3;refine eo (σ:=va) (λ_=>[("self",.ref aX)]) va.h (λs j=>pZ (dY++[("$end":Str)]++ns.take j) h s.h s.es) ⟨aB,h1⟩ (j4.map (·.1)) (uI (a_ (n:=aX) n_ (gk st)) (((st.kq 0).1 _ _ rfl).trans hn) kA) (by rw[List.take_zero,gO _];exact st) .rfl (λs j I=>uM (((I.kq 0).1 _ _ rfl).trans hn) kA) (λs j v I e=>?_) (λs I=>?_)
  ·rw[e1] at e
   refine aj (dH e) λt ht ar=>?_;subst ar;have lH:=e3 t (bQ ht);have tk:ns.take (j+1)=ns.take j++[t]:=by rw[jK,ht];rfl
   have oG:t∉dY++[("$end":Str)]++ns.take j:=λz=>by
    rcases du.mp z with z|z
    ·exact(aV:∀t∈a9,t∉dY++[("$end":Str)]) t lH z
    ·have nd:=(Hs (j+1) ns).nodup e2
     rw[tk,k_] at nd;exact nd.2.2 t z t (bU.mpr rfl) rfl
   have l7:(dY++[("$end":Str)]++ns.take j).length≤7:=by
    rw[cT,jE];exact ah (eZ (ah (pi _ _) Av) _) aJ
   refine dV (d9 (n:=.mk 45 []) (es:=s.es) (ey (n:=gp t) aL (I.no t (wu t lH) oG)) (a_ (n:=aX) n_ (aE (gk I))) n_ (aE I.d) (by have:=I.len;unfold aZ;exact ah (ah ‹_› ‹_›) aJ) ?_);have st:=I.step (λs hs=>by
    rcases du.mp hs with z|z
    ·exact(aV:∀t∈dY++[("$end":Str)],t∈e8) s z
    ·exact wu s (e3 s (Dv z))) (wu t lH) oG
   rw[VS lH] at st;exact aH (bN (LQ.next ⟨_,_⟩ (by rw[tk,←wL];exact st) (ai bt)))
  ·rw[e1,aI,zK] at I
   refine aH (fin s.h ⟨s.es,I.d,λt ht=>I.ok t ?_⟩ (aT s.es I.d (ah I.len (by rw[cT];exact ah (eZ Av _) aJ))) I.kq);have:t∈dY++[("$end":Str)]∨t∈a9:=by
    have:∀t∈e8,t∈dY++[("$end":Str)]∨t∈a9:=aV;exact this t ht
   rcases this with z|z
   ·exact i6 _ z
   ·exact kd _ (e4 t z)
variable{f:Str} {F:Str→List Str}
structure fW where
 F:Str→List Str
 c:Bool
 N:Nat
 h:SH
noncomputable def g8 (F:Str→List Str):Nat:=(F "S").length+(F "A").length+(F "B").length
noncomputable def lF (F:Str→List Str) (n f:Str):Str→List Str:=λs=>if s=n then F n++[f] else F s
theorem FX (hn:s∈a9):g8 F<g8 (lF F s f):=by
 have:s="S"∨s="A"∨s="B":=by simpa [a9] using hn
 have d1:("S":Str)≠"A"∧("S":Str)≠"B"∧("A":Str)≠"S"∧("A":Str)≠"B"∧("B":Str)≠"S"∧("B":Str)≠"A":=aV;unfold g8 lF;rcases this with rfl|rfl|rfl
 ·rw[aO rfl,aK d1.2.2.1,aK d1.2.2.2.2.1,cT];simp only[zI];exact CZ (CZ (dm _) _) _
 ·rw[aK d1.1,aO rfl,aK d1.2.2.2.2.2,cT];simp only[zI];exact CZ (dm _) _
 ·rw[aK d1.2.1,aK d1.2.2.2.1,aO rfl,cT];simp only[zI];exact au _
structure FB (F:Str→List Str) (aN:Nat) (aA:SH) (N:Nat) (h:SH):Prop where
 I:na F h
 s5:∀s∈e8,lV (F s)
 free:br h N
 kq:Kq [45,47] aN aA h
 le:aN≤N
 jM:∃es,h (.mk 45 [])=aa (.dict es)∧es.length≤10
theorem FB.sum (B:FB F aN aA N h):g8 F≤15:=NP (k:=5) (B.s5 "S" aV).len (B.s5 "A" aV).len (B.s5 "B" aV).len
theorem FB.iF {o:cy} (B:FB F aN aA N h):FB F aN aA (N+1) (h.set (gN N) o):=by
 obtain⟨es,a,c⟩:=B.I;exact⟨⟨es,aE a,λs hs=>⟨(c s hs).1,aE (c s hs).2⟩⟩,B.s5,B.free.new _ _,B.kq.trans (M:=N) (.new (au _)) B.le,c7 B.le,B.jM.imp λes q=>⟨aE q.1,q.2⟩⟩
theorem FB.upd (B:FB F aN aA N h) (hn:s∈e8) (hf:f∈oC) (hm:f∉F s):FB (lF F s f) aN aA N (h.set (gp s) (.list ((F s).map .str++[.str f]))):=by
 obtain⟨es,a,c⟩:=B.I;refine⟨⟨es,aE a,λt ht=>⟨(c t ht).1,?_⟩⟩,λt ht=>?_,λk l hk=>aE (B.free k l hk),B.kq.trans (M:=N) (.set (k:=47)) B.le,B.le,B.jM.imp λes q=>⟨aE q.1,q.2⟩⟩
 ·unfold lF
  by_cases e:t=s
  ·subst e;rw[aO rfl,dM];exact aR
  ·rw[aK e];exact(aq λz=>e (Gz ht hn z)).trans (c t ht).2
 ·unfold lF
  by_cases e:t=s
  ·rw[aO e]
   have z:=B.s5 s hn;refine⟨k_.mpr (cI z.1 (kf _ _) (λx hx y hy w=>hm (by rw[bU.mp hy] at w;exact w▸hx))),λx hx=>?_⟩;rcases du.mp hx with w|w
   ·exact z.2 x w
   ·rw[bU.mp w];exact hf
  ·rw[aK e];exact B.s5 t ht
structure FJ (gR:Nat) (aN:Nat) (aA:SH) (s:fW):Prop where
 B:FB s.F aN aA s.N s.h
 le:gR≤g8 s.F
 lt:s.c=ab→gR<g8 s.F
noncomputable def cfW:List bI:=eu (stN (bc 265) 4)
noncomputable def TG:List bI:=eu (stN cfW 1)
theorem V3 {s:fW} {gR p:Nat} {nm:Str} (G:GX R aA) (J:FJ gR aN aA s) (hp:p<R.length) (hn:nm∈a9) (fin:∀F c N h fr,FJ gR aN aA ⟨F,c,N,h⟩→(SF.sub [("self",.ref aX),("n",.str nm),("some_change",.bool c)] fr)→Q .next fr h):
  SS (xI i b) [("self",.ref aX),("n",.str nm),("some_change",.bool s.c),("p",bB p)] s.h [eu (stN TG 0)] Q:=by
 have G1:=G.kq J.B.kq;have S5:lV (frs s.F [] (aG R p)):=lM.nil.frs λx hx=>J.B.s5 x (G.sy p hp x hx);have hL:(s.h.set (gN s.N) (.list ((frs s.F [] (aG R p)).map .str))) (gN s.N)=aa (.list ((frs s.F [] (aG R p)).map .str)):=aR;refine eo (σ:=fW) (λt=>[("self",.ref aX),("n",.str nm),("some_change",.bool t.c)]) fW.h (λt j=>FJ gR aN aA t∧t.N=s.N+1∧t.h (gN s.N)=aa (.list ((frs s.F [] (aG R p)).map .str))) ⟨s.F,s.c,s.N+1,s.h.set (gN s.N) (.list ((frs s.F [] (aG R p)).map .str))⟩ ((frs s.F [] (aG R p)).map .str) (d7 (EP.ev (de n_ (iL G1.gr rfl) (i.K.keep rfl) (aB (a_ (n:=bh p) n_ (G1.pr p hp)) aL) (IX (i:=xI i b) (b:=b) (l:=aG R p) rfl G1.gr J.B.I (G.sy p hp) J.B.s5 J.B.free).cp)) hL) (cI ⟨(J.B.iF (o:=.list ((frs s.F [] (aG R p)).map .str))),J.le,J.lt⟩ rfl hL) (ai (ai (ai bt))) (λt j Z=>d6 Z.2.2) (λt j v Z e=>?_) (λt Z=>?_)
 ·refine aj (dH e) λf hf ar=>?_;subst ar
  refine jw Z λJ2 tN vO=>?_;clear Z;have G2:=G.kq J2.B.kq;obtain⟨es,a,c⟩:=J2.B.I;refine xA (c nm (wu nm hn)) λc1 c2=>?_;have l5:=(J2.B.s5 nm (wu nm hn)).len;refine dV ?_
  by_cases hm:f∈t.F nm
  ·exact cf (bv n_ (g7 (a_ (n:=aX) n_ G2.gr) n_ a c1) (vc (.own c2) (j_.mpr hm) mh)) (aH (aH (bN (LQ.next t (cI J2 tN vO) (ai (ai (ai bt)))))))
  ·refine cR (bv n_ (g7 (a_ (n:=aX) n_ G2.gr) n_ a c1) (yj (.own c2) (λz=>hm (j_.mp z)) mh)) ?_
   refine fF (de (g7 (a_ (n:=aX) n_ G2.gr) n_ a c1) (ga c2) ir (aB n_ aL) (fU c2 (by rw[aI _];unfold aZ;exact ah ‹_› aJ))) (bO jy ?_);have su:=FX (F:=t.F) (f:=f) hn;exact aH (aH (bN (LQ.next ⟨lF t.F nm f,ab,t.N,t.h.set (gp nm) (.list ((t.F nm).map .str++[.str f]))⟩ (cI ⟨J2.B.upd (wu nm hn) (S5.2 f (bQ hf)) hm,ah J2.le (cj su),λ_=>bf J2.le su⟩ tN (by dsimp only;exact aE vO)) (ai (ai (ai bt))))))
 ·exact aH (aH (bN (fin t.F t.c t.N t.h _ Z.1 .rfl)))
theorem TY (G:GX R aA) (I:na F0 h) (jM:∃es,h (.mk 45 [])=aa (.dict es)∧es.length≤10) (kq:Kq [45,47] N aA h) (B:br h N):SS (xI i b) [("self",.ref aX)] h [(bc 265).drop 4] (λf _ h'=>f.val=.ref (.mk 45 [])∧∃F N',FB F N aA N' h'):=by
 have Rv:∀s∈e8,lV (F0 s):=λs hs=>by
  unfold F0
  split
  ·exact⟨.nil,λ_ h=>by exact cS h⟩
  ·next z=>
   refine⟨kf _ _,λx hx=>?_⟩;rw[bU.mp hx];have:∀s∈e8,s∉a9→s∈oC:=aV;exact this s hs z
 refine rR (σ:=fW) (λ_=>[("self",.ref aX)]) fW.h (λs m=>m+g8 s.F=16∧FB s.F N aA s.N s.h) ⟨F0,an,N,h⟩ (16-g8 F0) ⟨by rfl,I,Rv,B,kq,au _,jM⟩ .rfl ?_;rintro s m ⟨hm,Bs⟩;refine(mB ab s.h (p_ jy jf) (λz=>(iQ z)) (λ_=>?_));have G1:=G.kq Bs.kq;obtain⟨j4,hn,ns,e1,e2,e3,e4⟩:=G.iu;have sI:∀{N' h'} {F':Str→List Str},FB F' N aA N' h'→h' (.mk 39 [])=aa (.dict j4):=λZ=>(Z.kq.1 _ _ rfl).trans hn;have kA:=Fx e1;refine bO jy ?_;refine eo (σ:=fW) (λt=>[("self",.ref aX),("some_change",.bool t.c)]) fW.h (λt j=>FJ (g8 s.F) N aA t) ⟨s.F,an,s.N,s.h⟩ (j4.map (·.1)) (uI (a_ (n:=aX) n_ G1.gr) (sI Bs) kA) ⟨Bs,au _,λz=>by exact cJ z⟩ (ai (ai bt)) (λt j J=>uM (sI J.B) kA) (λt j v J e=>?_) (λt J=>?_)
 ·rw[e1] at e
  refine aj (dH e) λnm wa ar=>?_;subst ar;have yc:=e3 nm (bQ wa);obtain⟨pes,p1,p2,p3⟩:=G.names;have pk:∀{N' h'} {F':Str→List Str},FB F' N aA N' h'→h' (.mk 36 [])=aa (.dict pes)∧h' (f_ nm)=aa (.list ((gB R nm).map bB)):=λZ=>⟨(Z.kq.1 _ _ rfl).trans p1,(Z.kq.1 _ _ rfl).trans (p2 nm yc).2⟩;refine dV (eo (σ:=fW) (λt=>[("self",.ref aX),("n",.str nm),("some_change",.bool t.c)]) fW.h (λt j=>FJ (g8 s.F) N aA t) t ((gB R nm).map bB) (d7 (g7 (a_ (n:=aX) n_ (G.kq J.B.kq).gr) n_ (pk J.B).1 (p2 nm yc).1) (pk J.B).2) J (ai (ai (ai bt))) (λt j J=>d6 (pk J.B).2) (λt2 j2 v2 J2 Yt=>?_) (λt2 J2=>?_))
  ·refine aj (dH Yt) λp hp ar=>?_;subst ar
   have qn:=dQ.mp (mU.mp (bQ hp)).1;exact dV (SS.sub (V3 G J2 qn yc λF' c' N' h' fr J' sb=>LQ.next ⟨F',c',N',h'⟩ J' sb) (ai (ai (ai (ai bt)))))
  ·exact aH (aH (bN (LQ.next t2 J2 (ai (ai bt)))))
 ·refine aH ?_
  cases hc:t.c with
  |true=>
   have lt:=J.lt hc;have Mp:=J.B.sum;refine cf (fw (t:=ab) (p_ n_ jf)) (aH (aH (bN (LQ.next t (cL (16-g8 t.F) (MD hm lt (c7 Mp)) (qG (c7 Mp)) J.B) (ai bt)))))
  |false=>
   refine cR (fw (t:=an) (p_ n_ jf)) (Ad ?_);obtain⟨es,a,c⟩:=J.B.I;exact gv (a_ (n:=aX) n_ (G.kq J.B.kq).gr) ⟨rfl,t.F,t.N,J.B⟩
theorem YJ (hb:i.b=b+2) (G:GX R h) (jM:h (.mk 45 [])=aa (.dict [])) (FS:∀l,h (.mk 47 l)=af) (B:br h N):FP i h (.glob 265) [.ref aX] (λv h'=>v=.ref (.mk 45 [])∧∃F N',FB F N h N' h'):=by
 refine enter (b:=b+1) i.K.cfirst Pa w_cf hb rfl (W8 (b:=b) G jM FS λh' I jM kq=>?_);exact(TY (b:=b) G I jM (kq N) (B.kq kq)).imp λf fr h q=>q
variable{B:Str} {Fl:Str→List Str}
theorem Bn {vs:List SV} {j:Nat} (hj:j≤vs.length):fg vs (aa (j:Int)) af=vs.drop j:=by
 show(vs.drop (fE vs.length j)).take (vs.length-fE vs.length j)=_;rw[show fE vs.length (j:Int)=j from AM.trans (r9 hj)];exact mX (bH zL)
noncomputable def jh (s:Str):Nm:=.mk 48 [sym s]
theorem B4 {x y:Str} (hx:x∈a9) (hy:y∈a9) (e:jh x=jh y):x=y:=by injection e with _ e;injection e with e;exact FG x hx y hy e
def SubL (l:List Str):Prop:=l.Nodup∧∀x∈l,x∈j6
def UI (Fl:Str→List Str) (h:SH):Prop:=∃es,h (.mk 46 [])=aa (.dict es)∧∀s∈a9,es.lookup (.str s)=aa (.ref (jh s))∧h (jh s)=aa (.list ((Fl s).map .str))
structure LB (Fl:Str→List Str) (aN:Nat) (aA:SH) (N:Nat) (h:SH):Prop where
 I:UI Fl h
 s4:∀s∈a9,SubL (Fl s)
 free:br h N
 kq:Kq [46,48,67] aN aA h
 le:aN≤N
theorem SubL.len {l:List Str} (s:SubL l):l.length≤4:=fO s.1 (l₂:=j6) s.2
theorem LB.sum (L:LB Fl aN aA N h):g8 Fl≤12:=NP (k:=4) (L.s4 "S" aV).len (L.s4 "A" aV).len (L.s4 "B" aV).len
theorem LB.iF {o:cy} (L:LB Fl aN aA N h):LB Fl aN aA (N+1) (h.set (gN N) o):=by
 obtain⟨es,a,c⟩:=L.I;exact⟨⟨es,aE a,λs hs=>⟨(c s hs).1,aE (c s hs).2⟩⟩,L.s4,L.free.new _ _,L.kq.trans (M:=N) (.new (au _)) L.le,c7 L.le⟩
theorem LB.upd (L:LB Fl aN aA N h) (hn:s∈a9) (hf:f∈j6) (hm:f∉Fl s):LB (lF Fl s f) aN aA N (h.set (jh s) (.list ((Fl s).map .str++[.str f]))):=by
 obtain⟨es,a,c⟩:=L.I;refine⟨⟨es,aE a,λt ht=>⟨(c t ht).1,?_⟩⟩,λt ht=>?_,λk l hk=>aE (L.free k l hk),L.kq.trans (M:=N) (.set (k:=48)) L.le,L.le⟩
 ·unfold lF
  by_cases e:t=s
  ·subst e;rw[aO rfl,dM];exact aR
  ·rw[aK e];exact(aq λz=>e (B4 ht hn z)).trans (c t ht).2
 ·unfold lF
  by_cases e:t=s
  ·rw[aO e]
   have z:=L.s4 s hn;refine⟨k_.mpr (cI z.1 (kf _ _) (λx hx y hy w=>hm (by rw[bU.mp hy] at w;exact w▸hx))),λx hx=>?_⟩;rcases du.mp hx with w|w
   ·exact z.2 x w
   ·rw[bU.mp w];exact hf
  ·rw[aK e];exact L.s4 t ht
structure LJ (gR:Nat) (aN:Nat) (aA:SH) (s:fW):Prop where
 L:LB s.F aN aA s.N s.h
 le:gR≤g8 s.F
 lt:s.c=ab→gR<g8 s.F
noncomputable def NF:List Str:=["self","start","k","didadd","p","i","B","fst","hasempty","f"]
theorem MQ:ck (bE 273) NF=ab:=by kernel_rfl
theorem w_fo:cW (bE 273) ["enumerate","len"]=ab:=by kernel_rfl
noncomputable def mG (i:FI) (b:Nat):FI:=i.fn (b+1) 273 NF ["enumerate","len"] MQ w_fo
noncomputable def DP:List bI:=eu (stN (bc 273) 5)
noncomputable def SU:List bI:=eu (stN DP 1)
noncomputable def IU:List bI:=eu (stN SU 0)
noncomputable def xO:List bI:=eu (stN IU 0)
noncomputable def uX (p:Nat) (i:Nat) (B:Str) (c:Bool):SF:=[("self",.ref aX),("p",bB p),("i",.int i),("B",.str B),("didadd",.bool c)]
theorem Xq:∀f∈oC,f≠iH→f∈j6:=aV
theorem XY {s:fW} {gR p ix:Nat} (G:GX R aA) (hp:p<R.length) (yp:bF R p∈a9) (J:LJ gR aN aA s) (hB:B∈a9) (fin:∀F c N h fr,LJ gR aN aA ⟨F,c,N,h⟩→(uX p ix B c).sub fr→Q .next fr h):
  SS (mG i b) (uX p ix B s.c) s.h [eu (stN xO 3)] Q:=by
 have pr:∀{h' N'} {F':Str→List Str},LB F' aN aA N' h'→GX R h':=λL=>G.kq L.kq;obtain⟨es,a,c⟩:=J.L.I;refine xA (c (bF R p) yp) λk1 k2=>?_;refine eo (σ:=fW) (λt=>uX p ix B t.c) fW.h (λt j=>LJ gR aN aA t∧t.F (bF R p)=s.F (bF R p)) s ((s.F (bF R p)).map .str) (d7 (g7 (a_ (n:=aX) n_ (pr J.L).gr) (a_ (n:=bh p) n_ ((pr J.L).pr p hp)) a k1) k2) ⟨J,rfl⟩ .rfl (λt j Z=>?_) (λt j v Z e=>?_) (λt Z=>aH (aH (bN (fin t.F t.c t.N t.h _ Z.1 .rfl))))
 ·refine aj Z.1.L.I λAp a2 c2=>?_
  exact d6 (by rw[←Z.2];exact(c2 _ yp).2)
 ·refine aj (dH e) λf hf ar=>?_;subst ar
  refine xA Z λJ2 eF=>?_;clear Z;have L4:=bQ hf;obtain⟨Ap,a2,c2⟩:=J2.L.I;refine xA (c2 B hB) λq1 q2=>?_;have l4:=(J2.L.s4 B hB).len;refine dV ?_
  by_cases hm:f∈t.F B
  ·exact cf (bv n_ (g7 (a_ (n:=aX) n_ (pr J2.L).gr) n_ a2 q1) (vc (.own q2) (j_.mpr hm) mh)) (aH (aH (bN (LQ.next t ⟨J2,eF⟩ (SF.sub.rfl.b_)))))
  ·refine cR (bv n_ (g7 (a_ (n:=aX) n_ (pr J2.L).gr) n_ a2 q1) (yj (.own q2) (λz=>hm (j_.mp z)) mh)) ?_
   refine fF (de (g7 (a_ (n:=aX) n_ (pr J2.L).gr) n_ a2 q1) (ga q2) ir (aB n_ aL) (fU q2 (by rw[aI _];unfold aZ;exact ah ‹_› aJ))) (bO jy ?_);have su:=FX (F:=t.F) (f:=f) hB;refine aH (aH (bN (LQ.next ⟨lF t.F B f,ab,t.N,t.h.set (jh B) (.list ((t.F B).map .str++[.str f]))⟩ ⟨⟨J2.L.upd hB ((J.L.s4 _ yp).2 f L4) hm,ah J2.le (cj su),λ_=>bf J2.le su⟩,?_⟩ (ai (ai (ai (ai (ai bt))))))));show lF t.F B f (bF R p)=_;unfold lF;rw[aK (λz=>hm (by rw[←z,eF];exact L4):bF R p≠B)];exact eF
structure vI where
 F:Str→List Str
 c:Bool
 e:Bool
 N:Nat
 h:SH
noncomputable def wd (p ix N:Nat) (B:Str) (t:vI):SF:=[("self",.ref aX),("p",bB p),("i",.int ix),("B",.str B),("didadd",.bool t.c),("fst",.ref (gN N)),("hasempty",.bool t.e)]
theorem ZD {s:fW} {gR p ix:Nat} (G:GX R aA) (I0:na F aA) (hF:∀x∈e8,lV (F x)) (hp:p<R.length) (yp:bF R p∈a9) (J:LJ gR aN aA s) (hB:(aG R p)[ix]? =aa B) (fin:∀F c N h fr,LJ gR aN aA ⟨F,c,N,h⟩→(SF.sub [("self",.ref aX),("p",bB p),("didadd",.bool c)] fr)→Q .next fr h):
  SS (mG i b) (uX p ix B s.c) s.h [IU] Q:=by
 have gx:∀{h' N'} {F':Str→List Str},LB F' aN aA N' h'→GX R h':=λL=>G.kq L.kq;have fx:∀{h' N'} {F':Str→List Str},LB F' aN aA N' h'→na F h':=λL=>by
  refine aj I0 λes a c=>?_;clear I0;exact⟨es,(L.kq.1 _ _ rfl).trans a,λs hs=>⟨(c s hs).1,(L.kq.1 _ _ rfl).trans (c s hs).2⟩⟩
 obtain⟨j4,hn,ns,e1,e2,e3,e4⟩:=G.iu;have sI:∀{N' h'} {F':Str→List Str},LB F' aN aA N' h'→h' (.mk 39 [])=aa (.dict j4):=λZ=>(Z.kq.1 _ _ rfl).trans hn;have hlt:=(cU.mp hB).1
 cases jb:j4.lookup (.str B) with
 |none=>exact cf (bv n_ (a_ (n:=aX) n_ (gx J.L).gr) (A_ (sI J.L) jb)) (aH (aH (bN (fin s.F s.c s.N s.h _ J (ai (ai (ai bt)))))))
 |some v=>
  have zu:B∈a9:=by
   have:(SV.str B)∈j4.map (·.1):=by
    cases z:decide (SV.str B∈j4.map (·.1)) with
    |true=>exact fD z
    |false=>rw[lB.mpr (rX z)] at jb;exact a8 jb
   rw[e1] at this;exact e3 B (j_.mp this)
  refine cR (bv n_ (a_ (n:=aX) n_ (gx J.L).gr) (LM (sI J.L) jb)) ?_;have tQ:∀x∈(aG R p).drop (ix+1),x∈e8:=λx hx=>G.sy p hp x (List.mem_of_mem_drop hx);have P:=IX (i:=mG i b) (b:=b) (l:=(aG R p).drop (ix+1)) rfl (gx J.L).gr (fx J.L) tQ hF J.L.free;have S5:lV (frs F [] ((aG R p).drop (ix+1))):=lM.nil.frs λx hx=>hF x (tQ x hx);have L2:=J.L.iF (o:=.list ((frs F [] ((aG R p).drop (ix+1))).map .str));have hL:(s.h.set (gN s.N) (.list ((frs F [] ((aG R p).drop (ix+1))).map .str))) (gN s.N)=aa (.list ((frs F [] ((aG R p).drop (ix+1))).map .str)):=aR;have sl:fg ((aG R p).map SV.str) (aa ((ix:Int)+1)) af=((aG R p).drop (ix+1)).map SV.str:=by
   have:=Bn (vs:=(aG R p).map SV.str) (j:=ix+1) (by rw[aI _];exact hlt);rw[zN];exact this
  have bw:=G.bw p;have AP:=(gx J.L).pr p hp;refine bO (v:=.ref (gN s.N)) (EP.ev (de n_ (iL (gx J.L).gr rfl) (i.K.keep rfl) (aB (sl▸Wg (a_ (n:=bh p) n_ AP) (fH n_ bG ny) (by rw[aI _];unfold aZ;exact ah ‹_› aJ)) aL) P.cp)) ?_;refine bO jy ?_
  have rest:∀t:vI,LJ gR aN aA ⟨t.F,t.c,t.N,t.h⟩→SS (mG i b) (wd p ix s.N B t) t.h [xO.drop 3,[]] Q:=λt J3=>by
   have AP:=(gx J3.L).pr p hp;have fh:SS (mG i b) (wd p ix s.N B t) t.h [eu (stN xO 3),[],[]] Q:=by
    have:=XY (i:=i) (b:=b) (s:=⟨t.F,t.c,t.N,t.h⟩) (ix:=ix) G hp yp J3 zu (Q:=Q) λF c N h fr J4 sb=>fin F c N h fr J4 (λy v hv=>sb y v (by
     have:SF.sub [("self",.ref aX),("p",bB p),("didadd",.bool c)] (uX p ix B c):=ai (ai (ai bt));exact this y v hv))
    exact SS.sub (d_:=uX p ix B t.c) ⟨λfr' s'=>iY.imp (this.run fr' s') (λf fr h q=>by cases f with|next=>exact vE (vE q)|_=>exact q) λ_ _ _ q=>q⟩ (ai (ai (ai (ai (ai bt)))))
   have no:SS (mG i b) (wd p ix s.N B t) t.h [[],[],[]] Q:=aH (aH (aH (bN (fin t.F t.c t.N t.h _ J3 (ai (ai (ai bt)))))));have ln:CP (mG i b) t.h (.bi "len") [.tup ((aG R p).map .str)] (is (.int (aG R p).length) t.h):=E1 (aI _) (by rw[aI _];exact bf ‹_› bj)
   cases he:t.e with
   |true=>
    exact cR (yU (p_ n_ (by show TV (mG i b) t.h (.bool t.e) ab;rw[he];exact jf))) fh
   |false=>
    by_cases hl:ix+1=(aG R p).length
    ·exact cR (qc (p_ (n_ (v:=.bool t.e)) (by rw[he];exact jf)) (yU (bv n_ (fH (b9 (i.K.bi rfl) rfl (aB (a_ (n:=bh p) n_ AP) aL) ln) bG Ag) (nK (by rw[←hl];show SV.int _=SV.int _;exact ay SV.int (Int.add_sub_cancel _ 1).symm))))) fh
    ·exact cf (qc (p_ (n_ (v:=.bool t.e)) (by rw[he];exact jf)) (qc (bv n_ (fH (b9 (i.K.bi rfl) rfl (aB (a_ (n:=bh p) n_ AP) aL) ln) bG Ag) (lT λz=>hl (by injection z with z;exact wW ((ay (· +1) z).trans (aga _ _))))) AR)) no
  refine eo (σ:=vI) (wd p ix s.N B) vI.h (λt j=>LJ gR aN aA ⟨t.F,t.c,t.N,t.h⟩∧t.h (gN s.N)=aa (.list ((frs F [] ((aG R p).drop (ix+1))).map .str))) ⟨s.F,s.c,an,s.N+1,s.h.set (gN s.N) (.list ((frs F [] ((aG R p).drop (ix+1))).map .str))⟩ ((frs F [] ((aG R p).drop (ix+1))).map .str) (d7 n_ hL) ⟨⟨L2,J.le,J.lt⟩,hL⟩ (ai (ai (ai (ai (ai (ai (ai bt))))))) (λt j Z=>d6 Z.2) (λt j v Z e=>?_) (λt Z=>aH (rest t Z.1));refine aj (dH e) λf hf ar=>?_;subst ar;refine xA Z λJ2 vO=>?_;clear Z;have Th:=S5.2 f (bQ hf);obtain⟨Ap,a2,c2⟩:=J2.L.I;refine xA (c2 B zu) λq1 q2=>?_;have l4:=(J2.L.s4 B zu).len
  have tail:∀t2:vI,LJ gR aN aA ⟨t2.F,t2.c,t2.N,t2.h⟩→t2.h (gN s.N)=aa (.list ((frs F [] ((aG R p).drop (ix+1))).map .str))→SS (mG i b) ((wd p ix s.N B t2).put "f" (.str f)) t2.h [(eu (stN xO 2)).drop 1] (LQ (mG i b) (wd p ix s.N B) vI.h (λt=>LJ gR aN aA ⟨t.F,t.c,t.N,t.h⟩∧t.h (gN s.N)=aa (.list ((frs F [] ((aG R p).drop (ix+1))).map .str))) (xO.drop 3::[[]]) Q):=λt2 J4 NO=>by
   by_cases md:f=iH
   ·subst md
    exact cR (bv n_ cx (nK rfl)) (bO jy (aH (aH (bN (LQ.next ⟨t2.F,t2.c,ab,t2.N,t2.h⟩ ⟨J4,NO⟩ (ai (ai (ai (ai (ai (ai (ai bt))))))))))))
   ·exact cf (bv n_ cx (lT λz=>md (by injection z))) (aH (aH (bN (LQ.next t2 ⟨J4,NO⟩ (SF.sub.rfl.b_)))))
  refine dV ?_
  by_cases md:f=iH
  ·refine cf (oE (bv n_ cx (Fc (by rw[md];rfl)))) (aH (tail t J2 vO))
  ·have ξ:=Xq f Th md
   by_cases hm:f∈t.F B
   ·exact cf (lQ (bv n_ cx (Jo λz=>md (by injection z))) (oE (bv n_ (g7 (a_ (n:=aX) n_ (gx J2.L).gr) n_ a2 q1) (vc (.own q2) (j_.mpr hm) mh)))) (aH (tail t J2 vO))
   ·refine cR (lQ (bv n_ cx (Jo λz=>md (by injection z))) (lQ (bv n_ (g7 (a_ (n:=aX) n_ (gx J2.L).gr) n_ a2 q1) (yj (.own q2) (λz=>hm (j_.mp z)) mh)) Bw)) ?_
    refine fF (de (g7 (a_ (n:=aX) n_ (gx J2.L).gr) n_ a2 q1) (ga q2) ir (aB n_ aL) (fU q2 (by rw[aI _];unfold aZ;exact ah ‹_› aJ))) (bO jy (aH ?_));have su:=FX (F:=t.F) (f:=f) zu;refine SS.sub (tail ⟨lF t.F B f,ab,t.e,t.N,t.h.set (jh B) (.list ((t.F B).map .str++[.str f]))⟩ ⟨J2.L.upd zu ξ hm,ah J2.le (cj su),λ_=>bf J2.le su⟩ (by dsimp only;exact aE vO)) ?_;exact ai (ai (ai (ai (ai (ai (ai (ai bt)))))))
noncomputable def yR (s:Str):List Str:=if s="S" then ["$end"] else []
noncomputable def ql (s:Str):Nm:=if s="S" then .mk 67 [] else jh s
structure sY (done:List Str) (aA h:SH) (es:b8):Prop where
 d:h (.mk 46 [])=aa (.dict es)
 ok:∀s∈done,s≠"S"→es.lookup (.str s)=aa (.ref (jh s))∧h (jh s)=aa (.list [])
 no:∀s∈a9,s∉done∨s="S"→h (jh s)=af
 Bm:("S":Str)∉done→h (.mk 67 [])=af
 len:es.length≤done.length
 kq:∀M,Kq [46,48,67] M aA h
theorem sY.step {done:List Str} {es:b8} (I:sY done aA h es) (hd:∀s∈done,s∈a9) (hs:s∈a9) (hn:s∉done):h (ql s)=af∧sY (done++[s]) aA ((h.set (ql s) (.list [])).set (.mk 46 []) (.dict (bl es (.str s) (.ref (ql s))))) (bl es (.str s) (.ref (ql s))):=by
 by_cases hS:s="S"
 ·subst hS
  have e0:ql "S"=.mk 67 []:=aO rfl;rw[e0];refine⟨I.Bm hn,aR,λt ht dh=>?_,λt ht hc=>?_,λz=>bd (kd _ (bU.mpr rfl)) z,by rw[cT];exact ah ti (eE I.len),λM=>((I.kq M).trans (M:=M) (.set (k:=67)) (au _)).trans (M:=M) (.set (k:=46)) (au _)⟩
  ·have z:=(du.mp ht).resolve_right λz=>dh (bU.mp z)
   refine xA (I.ok t z dh) λa c=>?_;exact⟨by rw[ft _,aK (λe=>dh (by injection e))];exact a,aE (aE c)⟩
  ·exact aE (aE (I.no t ht (hc.imp (λz w=>z (i6 _ w)) id)))
 ·have e0:ql s=jh s:=aK hS
  rw[e0];refine⟨I.no s hs (.inl hn),aR,λt ht dh=>?_,λt ht hc=>?_,λz=>aE (aE (I.Bm λw=>z (i6 _ w))),by rw[cT];exact ah ti (eE I.len),λM=>((I.kq M).trans (M:=M) (.set (k:=48)) (au _)).trans (M:=M) (.set (k:=46)) (au _)⟩
  ·rcases du.mp ht with z|z
   ·have ne:t≠s:=λe=>hn (e▸z)
    refine xA (I.ok t z dh) λa c=>?_;exact⟨by rw[ft _,aK (λe=>ne (by injection e))];exact a,aE ((aq λe=>ne (B4 (hd t z) hs e)).trans c)⟩
   ·rw[bU.mp z]
    exact⟨by rw[ft _,aO rfl],aE aR⟩
  ·have ne:t≠s:=λe=>hc.elim (λz=>z (kd _ (bU.mpr e))) λz=>hS (e▸z)
   exact aE ((aq λe=>ne (B4 ht hs e)).trans (I.no t ht (hc.imp (λz w=>z (i6 _ w)) id)))
theorem Fd {n m:Nm} {vs ws:List SV} {lo e:Expr} {j:Int} {p pos:Pos} (a:EV i fr h e (.ref n) ag) (b:EV i fr ag lo (.int j) aC) (hn:aC n=aa (.list vs)) (hz:vs.length≤aZ) (hm:aC m=af) (hw:fg vs (aa j) af=ws):EV i fr h (.Subscript e (.Slice (aa lo) af af p) pos) (.ref m) (aC.set m (.list ws)):=hw▸ZG a b hn hz hm
theorem na.kq {B:List Nat} (I:na F h) (kq:Kq B N h h') (hB:autoParam ((!(99::B).contains 45 && !(99::B).contains 47)=ab) bn):na F h':=by
 rw[bR,jI,jI] at hB;refine aj I λes a c=>?_;clear I;exact⟨es,(kq.1 _ _ hB.1).trans a,λs hs=>⟨(c s hs).1,(kq.1 _ _ hB.2).trans (c s hs).2⟩⟩
theorem WL {s:fW} (G:GX R aA) (I0:na F aA) (hF:∀x∈e8,lV (F x)) (L:LB s.F aN aA s.N s.h) (hR:0<R.length)
  (fin:∀t:fW,LJ (g8 s.F) aN aA t→SS (mG i b) [("self",.ref aX),("didadd",.bool t.c)] t.h (DP.drop 2::k) Q):SS (mG i b) [("self",.ref aX)] s.h (DP::k) Q:=by
 have c5:=G.len;have gs:=G.kq L.kq;refine bO jy ?_;have sl:fg ((bq R.length).map bB) (aa (1:Int)) af=(bq R.length).tail.map bB:=by
  have:=Bn (vs:=(bq R.length).map bB) (j:=1) (by rw[aI _,dR];exact hR);rw[show((1:Nat):Int)=1 from rfl] at this;rw[this,←zN,ah1]
 have L2:=L.iF (o:=.list ((bq R.length).tail.map bB));have hL:(s.h.set (gN s.N) (.list ((bq R.length).tail.map bB))) (gN s.N)=aa (.list ((bq R.length).tail.map bB)):=aR;refine eo (σ:=fW) (λt=>[("self",.ref aX),("didadd",.bool t.c)]) fW.h (λt j=>LJ (g8 s.F) (s.N+1) (s.h.set (gN s.N) (.list ((bq R.length).tail.map bB))) t) ⟨s.F,an,s.N+1,s.h.set (gN s.N) (.list ((bq R.length).tail.map bB))⟩ ((bq R.length).tail.map bB) (d7 (Fd (m:=gN s.N) (a_ (n:=aX) n_ gs.gr) bG gs.fk (by rw[aI _,dR];unfold aZ;exact ah ‹_› aJ) L.free.at sl) hL) ⟨⟨L2.I,L2.s4,L2.free,.same,au _⟩,au _,λz=>by exact cJ z⟩ (ai (ai bt)) (λt j Z=>d6 ((Z.L.kq.2 s.N [] (dm _)).trans hL)) (λt j v Z e=>?_) (λt Z=>aH (fin t ⟨⟨Z.L.I,Z.L.s4,Z.L.free,L2.kq.trans Z.L.kq L2.le,ah L2.le Z.L.le⟩,Z.le,Z.lt⟩));refine aj (dH e) λp hp ar=>?_;subst ar;refine xA (CW.mp (bQ hp)) λp0 pl=>?_;have G2:=G.kq L2.kq;refine dV (eo (σ:=fW) (λt=>[("self",.ref aX),("p",bB p),("didadd",.bool t.c)]) fW.h (λt _=>LJ (g8 s.F) (s.N+1) (s.h.set (gN s.N) (.list ((bq R.length).tail.map bB))) t) t (uQ ((aG R p).map .str)) (Ja (i.K.ty rfl) (a_ (n:=bh p) n_ (((λL=>G2.kq L.kq:∀{h' N'} {F':Str→List Str},LB F' (s.N+1) (s.h.set (gN s.N) (.list ((bq R.length).tail.map bB))) N' h'→GX R h') Z.L).pr p pl)) .tup) Z (ai (ai (ai bt))) (λt j Z=>Z_) (λt2 j2 v2 Z2 e2=>?_) (λt2 Z2=>aH (aH (bN (LQ.next t2 Z2 (ai (ai bt)))))));rw[CT,dq] at e2
 cases hB:(aG R p)[j2]? with
 |none=>rw[hB] at e2;(first|exact a8 e2|obtain rfl:=aU e2)
 |some B=>
  rw[hB] at e2
  (first|exact a8 e2|obtain rfl:=aU e2)
  refine Hg (SS.sub (ZD (i:=i) (b:=b) G2 (I0.kq L2.kq) hF pl (G.nt p p0 pl) Z2 hB λF c N h fr J' sb=>LQ.next ⟨F,c,N,h⟩ J' sb) ?_);exact ai (ai (ai (ai (ai bt))))
theorem Y3 (hb:i.b=b+2) (G:GX R h) (I0:na F h) (jM:∃es,h (.mk 45 [])=aa (.dict es)∧es.length≤10) (hF:∀x∈e8,lV (F x)) (hR:1<R.length) (h1:bF R 1="S") (JN:h (.mk 46 [])=aa (.dict [])) (YV:∀l,h (.mk 48 l)=af) (Bm:h (.mk 67 [])=af) (B:br h N):
  FP i h (.glob 273) [.ref aX] (λv h'=>v=.ref (.mk 46 [])∧∃Fl N',LB Fl N h N' h'):=by
 refine enter (b:=b+1) i.K.cfollow MQ w_fo hb rfl ?_;have c5:=G.len;refine cf (p_ (a_ (n:=aX) n_ G.gr) (yd JN bj)) (aH ?_);refine aj jM λHl f1 f3=>?_;clear jM;have YK:(!Hl.isEmpty)=ab:=by
  refine aj I0 λani Ma f2=>?_;clear I0;rw[f1] at Ma;cases Ma
  cases Hl with
  |nil=>have:=(f2 "a" aV).1;(first|exact a8 this|obtain rfl:=aU this)
  |cons _ _=>rfl
 refine cf (fw (t:=ab) (p_ (a_ (n:=aX) n_ G.gr) (YK▸yd f1 (bf ‹_› bj)))) (aH ?_);obtain⟨j4,hn,ns,e1,e2,e3,e4⟩:=G.iu;have kA:=Fx e1;have Av:ns.length≤3:=fO e2 (l₂:=a9) e3;have sI:∀{done es h'},sY done h h' es→h' (.mk 39 [])=aa (.dict j4):=λI=>((I.kq 0).1 _ _ rfl).trans hn;have gk:∀{done es h'},sY done h h' es→h' aX=aa (.inst 283 pI):=λI=>((I.kq 0).1 _ _ rfl).trans G.gr;have TH:sY [] h h []:=⟨JN,λs z=>(cS z),λs _ _=>YV _,λ_=>Bm,au _,λM=>.same⟩;refine eo (σ:=va) (λ_=>[("self",.ref aX),("start",.none)]) va.h (λs j=>sY (ns.take j) h s.h s.es) ⟨[],h⟩ (j4.map (·.1)) (uI (a_ (n:=aX) n_ G.gr) hn kA) TH (ai (ai bt)) (λs j I=>uM (sI I) kA) (λs j v I e=>?_) (λs I=>?_)
 ·rw[e1] at e
  refine aj (dH e) λt ht ar=>?_;subst ar;have lH:=e3 t (bQ ht);have tk:ns.take (j+1)=ns.take j++[t]:=by rw[jK,ht];rfl
  have oG:t∉ns.take j:=λz=>by
   have nd:=(Hs (j+1) ns).nodup e2;rw[tk,k_] at nd;exact nd.2.2 t z t (bU.mpr rfl) rfl
  have l3:(ns.take j).length≤3:=by rw[jE];exact ah (pi _ _) Av
  refine xA (I.step (λs hs=>e3 s (Dv hs)) lH oG) λfr0 st=>?_;have nk:∀k l,k≠67→k≠48→(s.h.set (ql t) (.list [])) (.mk k l)=s.h (.mk k l):=λk l h1 h2=>aq λe=>by
   unfold ql at e
   split at e
   ·injection e with e;exact h1 e
   ·injection e with e;exact h2 e
  refine dV (d9 (n:=.mk 46 []) (es:=s.es) (ey (n:=ql t) aL fr0) (a_ (n:=aX) n_ ((nk _ _ bJ bJ).trans (gk I))) n_ ((nk _ _ bJ bJ).trans I.d) (by have:=I.len;unfold aZ;exact ah (ah ‹_› ‹_›) aJ) ?_);exact aH (bN (LQ.next ⟨_,_⟩ (by rw[tk];exact st) (ai (ai bt))))
 ·rw[e1,aI,zK] at I
  have hS:("S":Str)∈a9:=aV;refine aH (cR (fw (t:=an) (p_ n_ m8)) ?_);have Z4:((bq R.length).map bB)[1]? =aa (bB 1):=CE hR;refine bO (v:=.str "S") (a_ (n:=bh 1) (mM (j:=1) (a_ (n:=aX) n_ (gk I)) bG (.own (((I.kq 0).1 _ _ rfl).trans G.fk)) bj Z4) (((I.kq 0).1 _ _ rfl).trans (G.pr 1 hR)) (ay (λz=>aa (SV.str z)) h1)) (aH ?_);refine d9 (n:=.mk 46 []) (es:=s.es) (ey (n:=jh "S") (aB cx aL) (I.no "S" hS (.inr rfl))) (a_ (n:=aX) n_ (aE (gk I))) n_ (aE I.d) (by have:=I.len;unfold aZ;exact ah (ah ‹_› ‹_›) aJ) ?_;have L0:LB yR N h N ((s.h.set (jh "S") (.list [.str "$end"])).set (.mk 46 []) (.dict (bl s.es (.str "S") (.ref (jh "S"))))):=by
   refine⟨⟨_,aR,λt ht=>?_⟩,λt ht=>?_,λk l hk=>aE (aE (B.kq I.kq k l hk)),((I.kq N).trans (M:=N) (.set (k:=48)) (au _)).trans (M:=N) (.set (k:=46)) (au _),au _⟩
   ·by_cases e:t="S"
    ·subst e
     exact⟨by rw[ft _,aO rfl],aE aR⟩
    ·refine xA (I.ok t (e4 t ht) e) λa c=>?_
     refine⟨by rw[ft _,aK (λz=>e (by injection z))];exact a,aE ((aq λz=>e (B4 ht hS z)).trans ?_)⟩;unfold yR;rw[aK e];exact c
   ·unfold yR
    split
    ·exact⟨kf _ _,by exact aV⟩
    ·exact⟨.nil,λ_ z=>by exact cS z⟩
  generalize (s.h.set (jh "S") (.list [.str "$end"])).set (.mk 46 []) (.dict (bl s.es (.str "S") (.ref (jh "S"))))=h2 at L0 ⊢;refine rR (σ:=fW) (λ_=>[("self",.ref aX)]) fW.h (λs m=>m+g8 s.F=13∧LB s.F N h s.N s.h) ⟨yR,an,N,h2⟩ (13-g8 yR) ⟨by rfl,L0⟩ (ai bt) ?_;rintro s m ⟨hm,L⟩;refine(mB ab s.h (p_ jy jf) (λz=>(iQ z)) (λ_=>?_));refine WL (b:=b) G I0 hF L (cj ‹_›) λt J=>?_
  cases hc:t.c with
  |true=>
   have JL:=J.L.sum;exact cf (fw (t:=ab) (p_ n_ jf)) (aH (aH (bN (LQ.next t (cL (13-g8 t.F) (MD hm (J.lt hc) (c7 JL)) (qG (c7 JL)) J.L) (ai bt)))))
  |false=>
   exact cR (fw (t:=an) (p_ n_ jf)) (Ad (gv (a_ (n:=aX) n_ (G.kq J.L.kq).gr) ⟨rfl,t.F,t.N,J.L⟩))
noncomputable def R7:List Str:=["self","grammar","method","log"]
theorem T9:ck (bE 333) R7=ab:=by kernel_rfl
theorem w_ti:cW (bE 333) []=ab:=rfl
noncomputable def yD:List Nat:=[20,30,31,32,33,43,47,48,51,52,53,54,55,56,57,60,61,62,63,64,65,67]
noncomputable def tW:List Nat:=[10,40,45,46]++yD
noncomputable def jd (h:SH):SH:=(((((((h.set (.mk 51 []) (.dict [])).set (.mk 52 []) (.dict [])).set i9 (.dict [])).set iG (.dict [])).set (.mk 53 []) (.list [])).set (.mk 54 []) (.list [])).set (.mk 55 []) (.list [])).set dg (.inst 427 (nA 0))
theorem xx {k:Nat} {l:List Nat} (hk:([51,52,32,33,53,54,55,30]:List Nat).contains k=an):jd h (.mk k l)=h (.mk k l):=by
 have ne:∀a∈([51,52,32,33,53,54,55,30]:List Nat),∀l',Nm.mk k l≠.mk a l':=λa ha l' e=>by injection e with e;subst e;rw[e9.mpr ha] at hk;exact iQ hk
 unfold jd;exact(aq (ne 30 bS _)).trans ((aq (ne 55 bS _)).trans ((aq (ne 54 bS _)).trans ((aq (ne 53 bS _)).trans ((aq (ne 33 bS _)).trans ((aq (ne 32 bS _)).trans ((aq (ne 52 bS _)).trans (aq (ne 51 bS _))))))))
theorem Nf (M:Nat):Kq tW M h (jd h):=⟨λk l hk=>xx (by
 cases z:([51,52,32,33,53,54,55,30]:List Nat).contains k with
 |false=>rfl
 |true=>rw[(aV:∀a∈([51,52,32,33,53,54,55,30]:List Nat),(99::tW).contains a=ab) k (e9.mp z)] at hk;exact iQ hk),λk l _=>xx rfl⟩
theorem GW.same (G:GW R h) (e:∀k l,(kQ++[10,40,42,44]:List Nat).contains k=ab→h' (.mk k l)=h (.mk k l)):GW R h':=by
 obtain⟨es,a,c,d⟩:=G.names;obtain⟨ns,a2,c2,d2⟩:=G.iu;exact⟨(e 34 _ rfl).trans G.gr,(e _ _ rfl).trans G.fk,(cL es ((e _ _ rfl).trans a) (λs hs=>⟨(c s hs).1,(e 40 _ rfl).trans (c s hs).2⟩) d),(e _ _ rfl).trans G.term,(cL ns ((e _ _ rfl).trans a2) (c2.same (λl=>e 44 l rfl) (au _)) d2),(e _ _ rfl).trans G.first,(e _ _ rfl).trans G.nz,(e _ _ rfl).trans G.prec,λj hj=>⟨(e 10 _ rfl).trans (G.pr j hj).1,(e 42 _ rfl).trans (G.pr j hj).2⟩⟩
theorem Sl:∀s:Str,(iX.lookup (.str s)).isSome=dY.contains s:=λs=>by
 have d:∀t:Str,(SV.str s==SV.str t)=(s==t):=λt=>by
  by_cases e:s=t
  ·subst e;rw[qu _,qu _]
  ·rw[kW.mpr e,kW.mpr λz=>e (by injection z)]
 unfold iX dY;simp only[kX,wX,d]
 cases(s==("a":Str))<;>cases(s==("b":Str))<;>cases(s==("error":Str))<;>rfl
theorem YI {es:b8} (I:gW h es m) (all:∀s∈a9,(es.lookup (.str s)).isSome=ab):∃ns:List Str,es.map (·.1)=ns.map .str∧ns.Nodup∧(∀s∈ns,s∈a9)∧∀s∈a9,s∈ns:=by
 have key:∀p∈es,∃s∈a9,p.1=.str s:=λp hp=>by
  cases e:es.lookup p.1 with
  |none=>exact bd (bD.mpr (aT p hp rfl):p.1∈es.map (·.1)) (lB.mp e)
  |some v=>refine bM (I.key _ _ e) λs hs z _=>?_;exact(aT s hs z)
 have hn:∃ns:List Str,es.map (·.1)=ns.map .str∧∀s∈ns,s∈a9:=by
  clear I all
  induction es with
  |nil=>exact(aT ([]) rfl (λ_ z=>by exact cS z))
  |cons p r ih=>
   refine aj (ih λp hp=>key p (eS _ hp)) λns a c=>?_;refine aj (key p dv) λs hs e=>?_;exact(aT (s::ns) (by rw[sp,sp,a,e]) (λt ht=>(dA.mp ht).elim (λz=>z▸hs) (c t)))
 refine aj hn λns a c=>?_;clear hn;refine(ik ns a ?_ c (λs hs=>?_))
 ·have nd:=I.nd
  rw[a] at nd;exact ah2 SV.str (λa b z e=>z (ay _ e)) nd
 ·have:(SV.str s)∈es.map (·.1):=by
   cases z:decide (SV.str s∈es.map (·.1)) with
   |true=>exact fD z
   |false=>have:=all s hs;rw[lB.mpr (rX z)] at this;exact cJ this
  rw[a] at this;exact j_.mp this
theorem Rz (g:GR R) (J:BJ R aN aA R.length 0 N h) (qS:∀j,j<R.length→h (.mk 42 [j])=aa (.list ((gS [] (aG R j)).map .str))) (tb:h dg=aa (.inst 427 (nA 0))) (ca:h i9=aa (.dict [])) (Rj:∀l,h (.mk 31 l)=af):cX R (gG R) 0 N h:=by
 have hl:=g.len;refine⟨⟨J.free,λq hq=>?_,λj hj=>(aT ([]) ?_ ⟨cb _,.inl rfl,.inl rfl⟩),tb,QB _,by exact ah ‹_› aJ,λj=>by have:=g.bw j;exact ah ‹_› aJ⟩,⟨λ_ _=>af,[],ca,.nil,λ_ _ e=>(by(first|exact a8 e|obtain rfl:=aU e)),λx _ ps=>Rj _,λ_ _ _ _ e=>(a8 e),λ_ _ e=>(cJ e),λ_ _ _ _ e=>(cJ e)⟩,by have:=Gw g;exact ah ‹_› aJ⟩
 ·have:=J.done q hq (.inl hq.1)
  exact(cI this.1 this.2 (qS q.1 hq.1))
 ·rw[gO _];exact(J.kw j hj hj).1
theorem GR.DQ (g:GR R):∀j,0<j→j<R.length→bF R j∈a9:=λj h0 hj=>by
 rcases g.nm j h0 hj with e|e|e<;>rw[e]<;>exact aV
theorem GR.Od (g:GR R):∀j,j<R.length→∀s∈aG R j,s∈e8:=λj hj s hs=>by
 rcases sv j with rfl|h0
 ·rw[g.pL,bU] at hs;subst hs;exact aV
 ·have:∀s∈(["a","A","b","B","error"]:List Str),s∈e8:=aV
  exact this s (g.sy j s h0 hs)
structure Yy (R:bp) (N:Nat) (h h':SH) (c':Int) (N':Nat):Prop where
 w:cX R (gG R) c' N' h'
 gr:iV R h'
 nH:∀j,j<R.length→h' (.mk 43 [j])=aa (.list ((bq ((aG R j).length+1)).map λd=>ba (j,d)))
 kq:Kq tW N h h'
 le:N≤N'
theorem SK {ns:List (SV×SV)} {nC:List Str} {s:Str} (e1:ns.map (·.1)=nC.map .str) (e3:∀s∈nC,s∈a9) (e4:∀s∈a9,s∈nC):(ns.lookup (.str s)).isSome=pO s:=by
 cases z:ns.lookup (.str s) with
 |some v=>exact(wy.mpr (e3 s (j_.mp (e1▸C4 λn=>a8 ((lB.mpr n).symm.trans z))))).symm
 |none=>exact(Do.mpr λw=>lB.mp z (e1▸j_.mpr (e4 s (wy.mp w)))).symm
theorem Ui (hb:i.b=b+6) (g:GR R) (h1:1<R.length∧bF R 1="S") (G:GW R h) (B:br h N) (no:∀k∈yD,∀l,h (.mk k l)=af) (iE:∀a c,h (.mk 40 [a,c])=af):
  FP i h (.glob 427) [.ref aX,.str "SLR"] (λv h'=>v=.ref dg∧∃c' N',Yy R N h h' c' N'):=by
 refine cls (b:=b+5) (fI:=333) (n:=dg) rfl hb (no 30 bS _) (enter (b:=b+4) i.K.tabinit T9 w_ti rfl rfl ?_);have c5:=g.len;refine cf (bv n_ (ey (n:=gN N) (aB cx (aB cx aL)) (aE B.at)) (vc (.own aR) aV (by rfl))) (aH ?_);refine(?_:SS _ _ ((h.set dg (.inst 427 [])).set (gN N) (.list [.str "SLR",.str "LALR"])) _ _);rw[zU (n:=dg) (m:=gN N) az]
 have kg:Kq tW N h (h.set (gN N) (.list [.str "SLR",.str "LALR"])):=.new (au _);have og:∀{k l},k≠99→(h.set (gN N) (.list [.str "SLR",.str "LALR"])) (.mk k l)=h (.mk k l):=λ{k l} hk=>aq λe=>by injection e with e;exact hk e
 have B1:br (h.set (gN N) (.list [.str "SLR",.str "LALR"])) (N+1):=B.new _ _;have G1:GW R (h.set (gN N) (.list [.str "SLR",.str "LALR"])):=G.same λk l hk=>og λe=>by subst e;exact cJ hk
 have pG:∀k∈yD,∀l,(h.set (gN N) (.list [.str "SLR",.str "LALR"])) (.mk k l)=af:=λk hk l=>(og λe=>by subst e;revert hk;exact aV).trans (no k hk l);have KU:∀a c,(h.set (gN N) (.list [.str "SLR",.str "LALR"])) (.mk 40 [a,c])=af:=λa c=>(og bJ).trans (iE a c);have G_:N≤N+1:=bT N;generalize h.set (gN N) (.list [.str "SLR",.str "LALR"])=hg at kg B1 G1 pG KU ⊢;refine fN n_ n_ ?_;refine fN n_ n_ ?_;refine jO (m:=.mk 51 []) (gZ (show hg _=af from pG 51 bS _)) az n_ ?_;refine jO (m:=.mk 52 []) (gZ (show hg _=af from pG 52 bS _)) az n_ ?_;refine fN (a_ (n:=aX) n_ (aE (aE (aE G1.gr)))) n_ ?_;refine jO (m:=i9) (gZ (show hg _=af from pG 32 bS _)) az n_ ?_;refine jO (m:=iG) (gZ (show hg _=af from pG 33 bS _)) az n_ ?_;refine fN bG n_ ?_;refine fN bG n_ ?_;refine fN bG n_ ?_;refine jO (m:=.mk 53 []) (ey aL (show hg _=af from pG 53 bS _)) az n_ ?_;refine jO (m:=.mk 54 []) (ey aL (show hg _=af from pG 54 bS _)) az n_ ?_;refine jO (m:=.mk 55 []) (ey aL (show hg _=af from pG 55 bS _)) az n_ ?_;refine(?_:SS _ _ (jd hg) _ _);refine SS.sub (d_:=[("self",.ref dg)]) ?_ (ai bt);have kt:Kq tW N h (jd hg):=kg.trans (Nf _) (au _);have Gt:GW R (jd hg):=G1.same λk l hk=>xx (by
  exact(aV:∀k∈(kQ++[10,40,42,44]:List Nat),([51,52,32,33,53,54,55,30]:List Nat).contains k=an) k (e9.mp hk))
 have Bt:br (jd hg) (N+1):=B1.kq λM=>Nf M;have nt:∀k∈yD,([51,52,32,33,53,54,55,30]:List Nat).contains k=an→∀l,jd hg (.mk k l)=af:=λk hk hc l=>(xx hc).trans (pG k hk l);have yM:jd hg dg=aa (.inst 427 (nA 0)):=aR;have Pe:jd hg i9=aa (.dict []):=rfl;have MY:jd hg iG=aa (.dict []):=rfl;have L9:jd hg (.mk 51 [])=aa (.dict []):=rfl;have O7:jd hg (.mk 52 [])=aa (.dict []):=rfl;have Pm:jd hg (.mk 54 [])=aa (.list []):=rfl;have Pp:jd hg (.mk 55 [])=aa (.list []):=rfl;have J6:∀a c,jd hg (.mk 40 [a,c])=af:=λa c=>(xx rfl).trans (KU a c);generalize jd hg=uf at kt Gt Bt nt yM Pe MY L9 O7 Pm Pp J6 ⊢;have BI:w6 R uf:=⟨Gt,g.DQ,g.len,g.bw⟩;refine rE (de (a_ n_ yM) (iL Gt.gr rfl) (i.K.keep rfl) aL (ada (b:=b+1) rfl BI Bt (λq=>nt 20 bS rfl _) (λa c=>nt 60 bS rfl _) J6 (λa=>nt 43 bS rfl _)).cp) ?_;rintro v h2 ⟨rfl,N2,J⟩;have k2:Kq wx (N+1) uf h2:=J.kq;have o2:∀{k l},(99::wx).contains k=an→h2 (.mk k l)=uf (.mk k l):=λ{k l} hk=>k2.1 k l hk;obtain⟨j4,m1,m2,m3⟩:=Gt.iu;have G2:GX R h2:=⟨(o2 rfl).trans Gt.gr,MS BI k2 J.sO,(o2 rfl).trans Gt.term,(aT j4 ((o2 rfl).trans m1) (YI m2 m3)),λj hj=>(J.kw j hj hj).1,(o2 rfl).trans Gt.fk,(o2 rfl).trans Gt.prec,g.len,g.Od,g.bw,g.DQ⟩;refine rE (de (a_ n_ ((o2 rfl).trans yM)) (iL G2.gr rfl) (i.K.keep rfl) aL (YJ (b:=b+2) rfl G2 ((o2 rfl).trans Gt.first) (λl=>(o2 rfl).trans (nt 47 bS rfl l)) J.free).cp) ?_;rintro v h3 ⟨rfl,F,N3,lA⟩;have o3:∀{k l},(99::[45,47]:List Nat).contains k=an→h3 (.mk k l)=h2 (.mk k l):=λ{k l} hk=>lA.kq.1 k l hk;have G3:=G2.kq lA.kq;refine rE (de (a_ n_ ((o3 rfl).trans ((o2 rfl).trans yM))) (iL G3.gr rfl) (i.K.keep rfl) aL (Y3 (b:=b+2) rfl G3 lA.I lA.jM lA.s5 h1.1 h1.2 ((o3 rfl).trans ((o2 rfl).trans Gt.nz)) (λl=>(o3 rfl).trans ((o2 rfl).trans (nt 48 bS rfl l))) ((o3 rfl).trans ((o2 rfl).trans (nt 67 bS rfl []))) lA.free).cp) ?_;rintro v h4 ⟨rfl,Fl,N4,L⟩;have pH:∀{k l},(99::[45,46,47,48,67]:List Nat).contains k=an→h4 (.mk k l)=h2 (.mk k l):=λhk=>((λ{k l} hk=>L.kq.1 k l hk:∀{k l},(99::[46,48,67]:List Nat).contains k=an→h4 (.mk k l)=h3 (.mk k l)) (tj hk)).trans (o3 (tj hk));have qf:∀{k l},(99::[10,20,40,43,60,45,46,47,48,67]:List Nat).contains k=an→h4 (.mk k l)=uf (.mk k l):=λhk=>(pH (tj hk)).trans (o2 (tj hk));have G4:=G3.kq L.kq;have W2:cX R (gG R) 0 N2 h2:=Rz g J (λj hj=>(o2 rfl).trans (Gt.pr j hj).2) ((o2 rfl).trans yM) ((o2 rfl).trans Pe) (λl=>(o2 rfl).trans (nt 31 bS rfl l));have W4:cX R (gG R) 0 N4 h4:=jX W2.ca λT es C=>
  ⟨⟨L.free,λq hq=>have z:=W2.tb.it q hq;⟨(pH rfl).trans z.1,(pH rfl).trans z.2.1,(pH rfl).trans z.2.2⟩,λj hj=>aj (W2.tb.pr j hj) λx a c=>⟨x,(pH rfl).trans a,c⟩,(pH rfl).trans W2.tb.tb,W2.tb.hc,W2.tb.hR,W2.tb.hr⟩,⟨T,es,C.mono (lA.kq.2.trans L.kq.2 lA.le) (ah lA.le L.le) (λl=>pH rfl) (pH rfl)⟩,W2.hU⟩
 have GrK:iV R h4:=aj L.I λes a c=>adh G4.iu λns n1 nC e1 e2 e3 e4=>⟨G4.gr,G4.fk,⟨iX,G4.term,Sl⟩,⟨ns,n1,λs=>SK e1 e3 e4⟩,⟨es,a,λs hs=>have z:=c s (wy.mp hs);have y:=L.s4 s (wy.mp hs);⟨z.1,Fl s,z.2,y.1,y.2⟩⟩,G4.prec⟩;refine rE (de n_ (iL W4.tb.tb rfl) (i.K.keep rfl) aL (R8 (b:=b) rfl g (List.Subset.refl _) W4 (⟨GrK,(qf rfl).trans MY,(qf rfl).trans (nt 56 bS rfl _),λj=>(qf rfl).trans (nt 57 bS rfl _),(qf rfl).trans L9,(qf rfl).trans O7,(qf rfl).trans Pm,(qf rfl).trans Pp,(qf rfl).trans (nt 65 bS rfl _),λk hk j _=>(qf (mx hk)).trans (nt k (V6 hk) (mx hk) _)⟩:I6 R h4)).cp) ?_;rintro v h5 ⟨rfl,c',N',W5,ZS,k5,sW⟩;refine aH (bN ⟨rfl,rfl,c',N',W5,ZS,λj hj=>(k5.1 _ _ rfl).trans ((pH rfl).trans (J.kw j hj hj).2),?_,?_⟩)
 ·exact(kt.trans ((k2.mono.trans lA.kq.mono J.le).trans (L.kq.mono) (ah J.le lA.le):Kq tW (N+1) uf h4) G_).trans (M:=N4) k5.mono (ah G_ (ah J.le (ah lA.le L.le)):N≤N4)
 ·exact ah G_ (ah J.le (ah lA.le (ah L.le sW)))
theorem Fz (hb:i.b=b+1) (B:br h N):FP i h (.glob 438) [] (is (.ref (gN N)) (h.set (gN N) (.list (a9.map .str)))):=
 enter (l:=[]) (gs:=[]) i.K.NAMES rfl rfl hb rfl (gv (ey (aB cx (aB cx (aB cx aL))) B.at) ⟨rfl,rfl⟩)
noncomputable def Ask:List Str:=["a","A","b","B","error","S","c"]
theorem aci (hb:i.b=b+1) (B:br h N):FP i h (.glob 446) [] (is (.ref (gN N)) (h.set (gN N) (.list (Ask.map .str)))):=
 enter (l:=[]) (gs:=[]) i.K.ASKED rfl rfl hb rfl (gv (ey (aB cx (aB cx (aB cx (aB cx (aB cx (aB cx (aB cx aL))))))) B.at) ⟨rfl,rfl⟩)
noncomputable def oW (F:FD) (l:List Str):Bool:=l.all λx=>t7 F x && !(x==("__debug__":Str))
theorem lL {l:List Str} {v:SV} {x:Str} {pos:Pos} (V:oW i.F l=ab) (hx:autoParam (fr.lookup x=aa v) dI) (hl:autoParam (l.contains x=ab) bn):EV i fr h (.Name x pos) v h:=by
 have p:=(bR _ _).mp (db.mp V x (e9.mp hl));exact⟨λfr' s Q X hq=>Nn (s _ _ hx) p.1 ((jI _).mp p.2) hq⟩
noncomputable def gy (t:List Int):Int:=t.headD 0
theorem Po {vs:List SV} (hn:h n=aa (.list vs)):MV i h (.ref n) "pop" (.bi "list.pop"):=⟨λfr'=>E9 hn Qg PySem.F.type_list_pop⟩
theorem aeb {vs:List SV} {v:SV} (hn:h n=aa (.list (v::vs))) (hz:vs.length<aZ):CP i h (.bi "list.pop") [.ref n,.int 0] (is v (h.set n (.list vs))):=⟨λfr' Q X hq=>ach hn hz (hq _ _ ⟨rfl,rfl⟩)⟩
theorem RM {vs:List SV} {v:SV} (hn:h n=aa (.list (vs++[v]))) (hz:vs.length<aZ):CP i h (.bi "list.pop") [.ref n] (is v (h.set n (.list vs))):=⟨λfr' Q X hq=>Uz hn hz (hq _ _ ⟨rfl,rfl⟩)⟩
theorem vz {t:List Int} (hb:i.b=b+1) (hn:h n=aa (.list (t.map .int))) (hz:t.length≤20):FP i h (.glob 453) [.ref n] (is (.int (gy t)) (h.set n (.list (t.tail.map .int)))):=by
 refine enter (l:=["tape"]) (gs:=[]) i.K.next (by kernel_rfl) rfl hb rfl (gv ?_ ⟨rfl,rfl⟩)
 cases t with
 |nil=>rw[show h.set n (.list (([]:List Int).tail.map .int))=h from SH.jj hn];exact OF (p_ n_ (lO (.own hn) bj)) bG
 |cons x r=>exact Jq (p_ n_ (lO (.own hn) (by rw[aI _];exact bf ‹_› bj))) (hG n_ (Po hn) rfl (aB bG aL) (aeb (vs:=r.map .int) hn (by rw[aI _];unfold aZ;have:=hz;rw[iC] at this;exact ah ‹_› aJ)))
theorem tU {n j:Nat} {h:SH}:jo (.range 0 n) j h=aa (if j<n then aa (.int j) else af):=by
 rw[jo,Int.zero_add _]
noncomputable def mK:List Str:=["a","A","b","B","error"]
noncomputable def wh (x:Int):Nat:=(x % 5).toNat
theorem G0 {x:Int}:wh x<5:=u9 (k:=5) (dJ _)
theorem R5 {x:Int}:x % 5=(wh x:Int):=yH (k:=5) (dJ _)
noncomputable def gn (t:List Int) (j:Nat):List Str:=(bq j).map λk=>mK.getD (wh (t.getD k 0)) ""
theorem ZJ {t:List Int} {j:Nat}:gy (t.drop j)=t.getD j 0:=by
 unfold gy;rw[List.headD_eq_head?_getD,List.head?_drop,o7]
theorem Μ {t:List Int} {j:Nat}:∀s∈gn t j,s∈mK:=λs hs=>by
 obtain⟨k,_,rfl⟩:=bD.mp hs;have:=@G0 (t.getD k 0);exact(aV:∀m<5,mK.getD m ""∈mK) _ this
theorem ET {t:List Int} {j:Nat}:(gn t j).length=j:=by unfold gn;rw[aI _,dR]
noncomputable def fC (t:List Int):Nat:=(gy t % 3).toNat
theorem uh {n:Int}:CP i h (.ty "range") [.int n] (is (.range 0 n) h):=⟨λfr' Q X hq=>Zt (hq _ _ ⟨rfl,rfl⟩)⟩
noncomputable def mZ (s:bI):Expr:=(kS s).2.2.1.getD (.Constant .none 0 ⟨0,0,0,0⟩)
noncomputable def kE:Expr→List Expr×cu×List Expr
 |.Call _ as _ _=>(as,default,[])
 |.Tuple as _ _=>(as,default,[])
 |.List as _=>(as,default,[])
 |.BinOp a _ b _=>([a,b],default,[])
 |.IfExp _ a _ _=>([a],default,[])
 |.ListComp a gs sc _=>([a],sc,gs.flatMap (·.ifs))
 |_=>([],default,[])
noncomputable def qk (k:Nat) (e:Expr):Expr:=(kE e).1.getD k (.Constant .none 0 ⟨0,0,0,0⟩)
noncomputable def dC (e:Expr):cu:=(kE e).2.1
noncomputable def Hm:Expr:=qk 0 (qk 1 (mZ (stN (bc 458) 1)))
theorem aam:ck (bE 458) ["tape","name","count"]=ab:=by kernel_rfl
theorem w_ru:cW (bE 458) ["_law_next","range","tuple"]=ab:=by kernel_rfl
theorem Uf:ck (da (dC Hm) (bE 458)) ["_"]=ab:=by kernel_rfl
theorem aal:oW (da (dC Hm) (bE 458)) ["tape"]=ab:=by kernel_rfl
theorem w_ru1:cW (da (dC Hm) (bE 458)) ["_law_SYMBOLS","_law_next"]=ab:=by kernel_rfl
theorem LA {t:List Int} (hb:i.b=b+2) (hn:h (.mk m [])=aa (.list (t.map .int))) (hm:m≠99) (hz:t.length≤20) (B:br h N):FP i h (.glob 458) [.ref (.mk m []),.str nm]
  (is (.tup [.str nm,.tup ((gn t.tail (fC t)).map .str)]) ((h.set (.mk m []) (.list ((t.tail.drop (fC t)).map .int))).set (gN N) (.list ((gn t.tail (fC t)).map .str)))):=by
 have l3:fC t<3:=u9 (k:=3) (dJ _);have CD:Nm.mk m []≠gN N:=λe=>by injection e with e;exact hm e
 refine enter (b:=b+1) i.K.rule aam w_ru hb rfl ?_;refine bO (fH (b9 (i.K.ref rfl) (i.K.keep rfl) (aB n_ aL) (vz (b:=b) rfl hn hz).cp) bG (sL aV)) ?_;rw[(yH (k:=3) (dJ _):gy t % 3=(fC t:Int))];have p8:(h.set (.mk m []) (.list (t.tail.map .int))) (gN N)=af:=(aq λe=>CD e.symm).trans B.at;refine gv (eY (aB n_ (aB (b9 (i.K.ty rfl) rfl (aB (EP.ev (EP.imp (yW (acc:=gN N) (P:=λh'=>h'=((h.set (.mk m []) (.list (t.tail.map .int))).set (.mk m []) (.list ((t.tail.drop (fC t)).map .int))).set (gN N) (.list ((gn t.tail (fC t)).map .str))) Uf w_ru1 rfl (tq (b9 (i.K.ty rfl) rfl (aB n_ aL) uh) (ah ‹_› aJ)) p8 ?_) λv h' q=>q)) aL) (CI (vs:=(gn t.tail (fC t)).map .str) (.own aR) (by rw[aI _,ET];unfold aZ;exact cj (i2 ‹_› bj)))) aL))) ?_
 ·refine rS (σ:=Nat) (λj=>((h.set (.mk m []) (.list (t.tail.map .int))).set (.mk m []) (.list ((t.tail.drop j).map .int))).set (gN N) (.list ((gn t.tail j).map .str))) (λs j=>s=j∧j≤fC t) 0 (fC t) ⟨rfl,cb _⟩ (λ_ _ e=>e.2) (λs j e=>?_) rfl rfl ?_
  ·obtain⟨rfl,hj⟩:=e
   refine(cL _ tU (λe=>?_) (λv e=>?_))
   ·split at e
    ·exact fB e
    ·have:s=fC t:=qD hj (jr.mp ‹_›)
     subst this;rfl
   ·split at e
    ·next hlt=>
     obtain rfl:=aU e;refine(s7 hlt _ ab (lU rfl) (gM rfl) yq (λe=>(iQ e)) (λ_=>?_));have l1:(t.tail.drop s).length≤20:=by rw[zL,pq];exact ah (kh _ _) (ah (kh _ _) ‹_›)
     refine pJ (P:=is (.str (mK.getD (wh (t.tail.getD s 0)) "")) (((((h.set (.mk m []) (.list (t.tail.map .int))).set (.mk m []) (.list ((t.tail.drop s).map .int))).set (gN N) (.list ((gn t.tail s).map .str)))).set (.mk m []) (.list ((t.tail.drop s).tail.map .int)))) ?_ ?_
     ·refine EV.ep (mM (j:=wh (t.tail.getD s 0)) (vs:=mK.map .str) (g_ (v:=.glob 439) (i.K.ref rfl)) (fH (b9 (i.K.ref rfl) (i.K.keep rfl) (aB (lL aal) aL) (vz (b:=b) rfl ((aq CD).trans aR:(((h.set (.mk m []) (.list (t.tail.map .int))).set (.mk m []) (.list ((t.tail.drop s).map .int))).set (gN N) (.list ((gn t.tail s).map .str))) (.mk m [])=aa (.list ((t.tail.drop s).map .int))) l1).cp) bG ?_) (.base i.K.sym) (i2 G0 bj) ?_)
      ·rw[←R5,←ZJ];exact sL aV
      ·exact(aV:∀m<5,(mK.map SV.str)[m]? =aa (.str (mK.getD m ""))) _ G0
     ·rintro v h1 ⟨rfl,rfl⟩
      refine(nQ _ ((aq CD.symm).trans aR) (by rw[aI _,ET];unfold aZ;exact cj (bf hj (bK l3 aJ))) (s+1) ⟨rfl,hlt⟩ ?_);rw[zU CD.symm,iD,iD,List.tail_drop,iD,iD,show gn t.tail (s+1)=gn t.tail s++[mK.getD (wh (t.tail.getD s 0)) ""] from by unfold gn;rw[wZ,dM];rfl,dM];rfl
    ·exact a8 e
  ·rw[show t.tail.drop 0=t.tail from rfl,iD];rfl
 ·exact⟨rfl,by rw[iD]⟩
theorem V_:ck (bE 473) ["items"]=ab:=by kernel_rfl
noncomputable def lfE (e:Expr):Expr:=qk 0 e
noncomputable def UQ:Expr:=lfE (mZ (stN (bc 473) 0))
theorem RH:ck (da (dC UQ) (bE 473)) ["item"]=ab:=by kernel_rfl
theorem EK {v:SV} (hb:i.b=b+1) (hv:Told h v I) (hI:∀q∈I,cY R q) (it:uZ R h) (B:br h N) (hz:I.length≤1000):FP i h (.glob 473) [v] (is (.ref (gN N)) (h.set (gN N) (.list (I.map aM)))):=by
 refine enter (gs:=[]) i.K.told V_ rfl hb rfl (gv ?_ ⟨rfl,rfl⟩)
 by_cases rV:I=[]
 ·subst rV
  refine OF (ag:=h) (p_ n_ ?_) (ey aL B.at);rcases hv with⟨rfl,_⟩|⟨n,rfl,hn⟩
  ·exact m8
  ·exact lO (.own hn) bj
 ·refine aj (hv.resolve_left λe=>rV e.2) λn bu hn=>?_;subst bu
  have ng:n≠gN N:=λe=>by rw[e,gN,B.at] at hn;exact a8 hn
  refine Jq (p_ n_ ((by cases I with|nil=>exact bd rfl rV|cons _ _=>rfl:(!(I.map ba).isEmpty)=ab)▸lO (.own hn) (by rw[aI _];exact bf ‹_› bj))) (Bd (l:=["item"]) (ls:=[]) (us:=I.map aM) RH rfl ?_ (d7 n_ hn) (B.at (l:=[])) (λws j=>d6 ((aq ng).trans hn)) (by rw[aI _,aI _]) (by rw[aI _];unfold aZ;exact ah ‹_› aJ) rfl ?_)
  ·kernel_rfl
  ·intro ws j v u e1 e2
   refine aj (dH e1) λq hq ar=>?_;subst ar;rw[dq,hq] at e2
   (first|exact a8 e2|obtain rfl:=aU e2)
   have A:=(it q (hI q (bQ hq))).1;exact eY (aB (a_ (n:=bk q) n_ A) (aB (a_ (n:=bk q) n_ A) aL))
noncomputable def pV (p:Str×Str):SV:=.tup [.str p.1,.str p.2]
noncomputable def di (r:Str×List Str):SV:=.tup [.str r.1,.tup (r.2.map .str)]
noncomputable def gE (r:Str×List Str):Option (Str×Str):=match r.2 with
 |s::_=>if s∈a9 then aa (r.1,s) else af
 |[]=>af
noncomputable def sq (P:List (Str×Str)):List (Str×Str):=P.flatMap λp=>P.filterMap λq=>if q.1=p.2 then aa (p.1,q.2) else af
noncomputable def GL:Expr:=mZ (stN (bc 463) 0)
noncomputable def Fo:Expr:=qk 1 (qk 0 (qk 0 (mZ (stN (eu (stN (bc 463) 1)) 0))))
theorem Ow:ck (bE 463) ["rules","pairs","_"]=ab:=by kernel_rfl
theorem w_co:cW (bE 463) ["range","sorted","set"]=ab:=by kernel_rfl
theorem abo:ck (da (dC GL) (bE 463)) ["name","symbols"]=ab:=by kernel_rfl
theorem w_co1:cW (da (dC GL) (bE 463)) ["_law_NAMES"]=ab:=by kernel_rfl
theorem Zi:ck (da (dC Fo) (bE 463)) ["one","y","x","z"]=ab:=by kernel_rfl
theorem Zl:oW (da (dC Fo) (bE 463)) ["pairs"]=ab:=by kernel_rfl
theorem Oe {t:Bool} {pos:Pos} (a:EB i fr h e t ag):EB i fr h (.BoolOp .And [e] pos) t ag:=by
 cases t with
 |false=>exact oE a
 |true=>exact lQ a Bw
structure Me where
 ps:List (Str×Str)
 N:Nat
 h:SH
structure Af (aN:Nat) (aA:SH) (ps:List (Str×Str)) (N:Nat) (h:SH):Prop where
 acc:h (gN aN)=aa (.list (ps.map pV))
 free:br h N
 le:aN+1≤N
 kq:Kq [] aN aA h
noncomputable def yL (i:FI) (b:Nat):FI:=i.fn b 463 ["rules","pairs","_"] ["range","sorted","set"] Ow w_co
theorem kD {a c:Nat} (e:a≠c):gN a≠gN c:=λz=>e (by injection z with _ z;injection z)
theorem Q8 {s:Str} {l:List Str}:(SV.str s∈l.map SV.str)↔s∈l:=⟨λh=>by refine aj (bD.mp h) λt a c=>?_;injection c with c;exact c▸a,λh=>bD.mpr (aT s h rfl)⟩
theorem SW (hn:h (.mk 71 [])=aa (.list (R.map di))) (hz:R.length≤5) (hr:∀r∈R,r.2.length≤2) (F:br h N)
  (fin:∀h' M,Af N h (R.filterMap gE) M h'→SS (yL i (b+1)) [("rules",.ref (.mk 71 [])),("pairs",.ref (gN N))] h' [(bc 463).drop 1] Q):
  SS (yL i (b+1)) [("rules",.ref (.mk 71 []))] h [bc 463] Q:=by
 refine vb (acc:=gN N) (P:=λh'=>∃M,Af N h (R.filterMap gE) M h') abo w_co1 (by kernel_rfl) (d7 n_ hn) F.at ?_ λh' ⟨M,J⟩=>fin h' M J;refine Ab (σ:=Me) Me.h (λs j=>s.ps=(R.take j).filterMap gE∧Af N h s.ps s.N s.h) ⟨[],N+1,_⟩ R.length ⟨rfl,aR,F.new _ _,au _,.new (au _)⟩ ?_;rintro t j ⟨e1,J⟩;refine(cL _ (d6 ((J.kq.1 _ _ rfl).trans hn:t.h (.mk 71 [])=aa (.list (R.map di)))) (λe=>?_) (λv e=>?_))
 ·have:R.length≤j:=by have:=ke.mp e;rwa [aI] at this
  rw[mX this] at e1;exact⟨t.N,e1▸J⟩
 ·refine aj (dH e) λr qY ar=>?_;subst ar
  have hrl:=hr r (bQ qY);have tk:(R.take (j+1)).filterMap gE=(R.take j).filterMap gE++(gE r).toList:=by
   rw[jK,qY,se];refine ay (_++·) ?_;show uE gE [r]=_;rw[qC]
   cases gE r<;>rfl
  have plen:t.ps.length≤5:=by rw[e1];exact ah (uG _ _) (ah (by rw[jE];exact pi _ _) hz)
  refine(Au ((cU.mp qY).1) (((g6 (dC GL) [("rules",SV.ref (.mk 71 []))]).put "name" (.str r.1)).put "symbols" (.tup (r.2.map .str))) ?_);obtain⟨a,ss⟩:=r
  cases ss with
  |nil=>exact⟨an,t.h,at2 rfl,((gM rfl).trans (gM rfl)),(Bf (oE (p_ n_ (CF (vs:=[]) bj)))),(λ_=>(aT t ⟨by rw[tk,e1];exact(gO _).symm,J⟩ rfl)),(λe=>(cJ e))⟩
  |cons s0 sr=>
   have J2:Af N h t.ps (t.N+1) (t.h.set (gN t.N) (.list (a9.map .str))):=⟨(aq (kD (by have:=J.le;exact dp ‹_›))).trans J.acc,J.free.new _ _,c7 J.le,J.kq.trans (.new (au _)) (ah (bT _) J.le)⟩;refine⟨decide (s0∈a9),(t.h.set (gN t.N) (.list (a9.map .str))),at2 rfl,((gM rfl).trans (gM rfl)),(Bf (lQ (ag:=t.h) (p_ n_ (CF (vs:=.str s0::sr.map .str) (by rw[iC,aI _];rw[iC] at hrl;exact bf ‹_› bj))) (Oe (ag:=t.h.set (gN t.N) (.list (a9.map .str))) (bv (u:=.str s0) (w:=.ref (gN t.N)) (mj (j:=0) n_ bG bj rfl) (b9 (i.K.ref rfl) (i.K.keep rfl) aL (Fz (b:=b) rfl J.free).cp) ?_)))),λe=>?_,λe=>?_⟩
   ·rw[show decide (s0∈a9)=decide (SV.str s0∈a9.map SV.str) from mO.mpr Q8.symm]
    exact Gq (.own aR) rfl
   ·exact(aT ⟨t.ps,_,_⟩ ⟨by rw[tk,e1,show gE (a,s0::sr)=af from aK (rX e)];exact(gO _).symm,J2⟩ rfl)
   ·refine pJ (EV.ep (eY (aB n_ (aB (mj (j:=0) n_ bG bj rfl) aL)))) ?_
    rintro v h1 ⟨rfl,rfl⟩;refine(nQ _ J2.acc (by rw[aI _];unfold aZ;exact ah ‹_› aJ) ⟨t.ps++[(a,s0)],t.N+1,_⟩ ⟨by rw[tk,e1,show gE (a,s0::sr)=aa (a,s0) from aO (fD e)];rfl,?_⟩ rfl);exact⟨aR.trans (by rw[dM];rfl),J2.free.same λk l hk=>aq λz=>by injection z with _ z;injection z with z;have:=J2.le;exact l6 (kY (bH z)) (ah this hk),J2.le,J2.kq.trans ⟨λk l hk=>aq λz=>by injection z with z;exact iy hk (by subst z;rfl) rfl,λk l hk=>aq λz=>by injection z with _ z;injection z with z;exact dp ‹_› ‹_›⟩ (au _)⟩
theorem tJ {x:Str} {q pos:Pos} {f:SV} {P Q:QV} (hg:ji i.G x f) (hc:callable i.G f=ab) (a:EP i fr h e P) (b:∀v ag,P v ag→CP i ag f [v] Q) (ok:autoParam ((i.gs.contains x && iJ e)=ab) bn):EP i fr h (.Call (.Name x q) [e] [] pos) Q:=by
 rw[bR] at ok;exact⟨λfr' s Q' X hq=>Pr hg (cW.get i.W ok.1).1 hc (tA (a.run fr' s _ _ λv ag hp=>tC ((b v ag hp).run fr' _ _ hq)) ok.2) (cW.get i.W ok.1).2 (by rw[Ds,ok.2];rfl)⟩
theorem Go {op:wM} {pos:Pos} {P:QV} {P2:QV} (a:EV i fr h e u ag) (b:EP i fr ag r P) (o:∀w aC,P w aC→∃v cM,OV i aC [u,w] (bx (mS op)) v cM∧P2 v cM):EP i fr h (.BinOp e op r pos) P2:=
 ⟨λfr' s Q X hq=>NG (a.run fr' s _ _ (b.run fr' s _ _ λw aC p=>by refine eA (o w aC p) λv cM o p2=>?_;exact o.run fr' _ _ (hq _ _ p2)))⟩
structure tD (i:FI) (fr:SF) (h:SH) (e:Expr) (t:Bool) (P:SH→Prop):Prop where
 run:∀fr',fr.sub fr'→∀Q X,(∀h',P h'→Q t h')→WB i.G i.F i.b fr' h e Q X
theorem EB.tB {t:Bool} (a:EB i fr h e t h'):tD i fr h e t (· =h'):=⟨λfr' s Q X hq=>a.run fr' s _ _ (hq _ rfl)⟩
theorem CA {op:CmpOp} {pos:Pos} {t:Bool} {P1:QV} {P2:SV→QV} {P:SH→Prop} (a:EP i fr h e P1) (b:∀u ag,P1 u ag→EP i fr ag r (P2 u)) (o:∀u w aC,P2 u w aC→OV i aC [u,w] (bx (cZ op)) (.bool t) aC∧P aC) (ok:autoParam (Dc op r=an) dI):tD i fr h (.Compare e [op] [r] pos) t P:=
 ⟨λfr' s Q X hq=>Mc ok (a.run fr' s _ _ λu ag p=>(b u ag p).run fr' s _ _ λw aC p2=>by refine xA (o u w aC p2) λo p=>?_;exact o.run fr' _ _ (BV (hq _ p)))⟩
theorem Gr {es:List Expr} {t:Bool} {pos:Pos} {P P2:SH→Prop} (a:tD i fr h e an P) (b:∀ag,P ag→tD i fr ag (.BoolOp .Or es pos) t P2):tD i fr h (.BoolOp .Or (e::es) pos) t P2:=
 ⟨λfr' s Q X hq=>ED (a.run fr' s _ _ λag p=>by rw[aK iB];exact(b ag p).run fr' s _ _ hq)⟩
theorem Ue {pos:Pos}:tD i fr h (.BoolOp .Or [] pos) an (· =h):=AR.tB
theorem CY {t:Expr} {body eX:List bI} {pos:Pos} {P:SH→Prop} (a:tD i fr h t an P) (b:∀ag,P ag→SS i fr ag (eX::rest::k) Q):SS i fr h ((.If t body eX pos::rest)::k) Q:=
 fM ⟨λfr' s Q' hq=>Eb (a.run fr' s _ _ λag p=>by rw[aK iB];exact iY.imp ((b ag p).run _ s) (λf bA ag q=>hq _ _ f q) λ_ _ _ q=>q)⟩
theorem Cj {vs ws:List SV} (hu:dc i.G h u vs) (hw:dc i.G h w ws) (hz:vs.length+ws.length≤aZ) (hn:h n=af):OV i h [u,w] (bx (mS .Add)) (.ref n) (h.set n (.list (vs++ws))):=⟨λfr' Q X hq=>ad8 hu hw hz hn hq⟩
theorem Br {vs:List SV} (hu:dc i.G h u vs) (hw:dc i.G h w vs) (d:eH 6 vs=ab):OV i h [u,w] (bx (cZ .NotEq)) (.bool an) h:=⟨λfr' Q X hq=>ac5 hu hw d d (by rw[eP rfl];exact hq)⟩
theorem Cm {l U:List SV} (hu:dc i.G h u l) (iA:∀v∈l,fc v=ab) (hU:U.length<18) (tf:∀v∈l,v∈U) (hn:h n=af):
  CP i h (.ty "set") [u] (λv h'=>v=.ref n∧∃vs:List SV,vs.Nodup∧(∀y,y∈vs↔y∈l)∧h'=h.set n (.set vs)):=⟨λfr' Q X hq=>aa9 i.q hu iA hU tf hn λvs a c=>hq _ _ ⟨rfl,vs,a,c,rfl⟩⟩
theorem Wt {ns n:Nm} {vs:List SV} (hs:h ns=aa (.set vs)) (qt:uv vs) (iR:vs.length<64) (hn:h n=af) {Q:QV} (k:∀out:List SV,out.Perm vs→Q (.ref n) (h.set n (.list out))):CP i h (.bi "sorted") [.ref ns] Q:=⟨λfr' Q X hq=>Y8 i.q hs qt iR hn λvs a=>hq _ _ (k vs a)⟩
theorem Nl {vs:List SV} {key:SV→Int} (hu:dc i.G h u vs) (qt:uv vs) (iR:vs.length<64) (GO:∀x∈vs,∀y∈vs,lK x y=decide (key x<key y)) (nd:(vs.map key).Nodup) (hn:h n=af) {Q:QV}
  (k:∀out:List SV,out.Perm vs→out.Pairwise (λx y=>key x<key y)→Q (.ref n) (h.set n (.list out))):CP i h (.bi "sorted") [u] Q:=⟨λfr' Q X hq=>VC hu qt iR hn λvs a c=>hq _ _ (k vs a (c key GO nd))⟩
theorem Sh {n n':Nm} {vs ws:List SV} (hn:h n=aa (.set vs)) (pS:h n'=aa (.set ws)) (he:∀y,y∈vs↔y∈ws):OV i h [.ref n,.ref n'] (bx (cZ .NotEq)) (.bool an) h:=⟨λfr' Q X hq=>XJ hn pS λr hr=>by rw[hr.mpr he];exact hq⟩
theorem XX {vs:List SV} (hn:h n=aa (.set vs)) (hz:vs.length<1000):CP i h (.bi "len") [.ref n] (is (.int vs.length) h):=⟨λfr' Q X hq=>YC hn hz (hq _ _ ⟨rfl,rfl⟩)⟩
theorem X3 {vs:List SV} {ts:List Bool} (hl:dc i.G h u vs) (ht:vs.map rW=ts.map aa):CP i h (.bi "any") [u] (is (.bool (ts.any id)) h):=⟨λfr' Q X hq=>UD i.q hl ht (hq _ _ ⟨rfl,rfl⟩)⟩
variable{ps:List (Str×Str)}
noncomputable def oj (ps:List (Str×Str)) (p:Str×Str):List (Str×Str):=ps.filterMap λq=>if q.1=p.2 then aa (p.1,q.2) else af
theorem Mr {p:Str×Str}:(oj ps p).length≤ps.length:=uG _ _
theorem xi {α β:Type} {f:α→List β} {k:Nat}:∀{l:List α},(∀x∈l,(f x).length≤k)→(l.flatMap f).length≤l.length*k
 |[],_=>cb _
 |x::l,h=>by
  rw[List.flatMap_cons,cT,iC,QA _ _,rZ _ _];exact fp (xi λy hy=>h y (eS _ hy)) (h x dv)
theorem ZI:(sq ps).length≤ps.length*ps.length:=xi λp _=>uG _ _
noncomputable def Cx (m:Nat):SF:=[("rules",.ref (.mk 71 [])),("pairs",.ref (gN m))]
theorem φ (hn:h (gN m)=aa (.list (ps.map pV))) (hz:ps.length≤12) (F:br h N) (hm:m<N):EV (yL i b) (Cx m) h Fo (.ref (gN N)) (h.set (gN N) (.list ((sq ps).map pV))):=by
 have hs:∀(a:List (Str×Str)),(h.set (gN N) (.list (a.map pV))) (gN m)=aa (.list (ps.map pV)):=λa=>(aq (kD (dp ‹_›))).trans hn;refine EP.ev (yW (acc:=gN N) (P:=λh'=>h'=h.set (gN N) (.list ((sq ps).map pV))) Zi (ls:=[]) rfl (by kernel_rfl) (d7 n_ hn) F.at ?_);refine rS (σ:=List (Str×Str)) (λa=>h.set (gN N) (.list (a.map pV))) (λa j=>j≤ps.length∧a=(ps.take j).flatMap (oj ps)) [] ps.length ⟨cb _,rfl⟩ (λ_ _ e=>e.1) (λa j ⟨hj,ea⟩=>(cL _ (d6 (hs a)) (λe=>?_) (λv e=>?_))) rfl rfl rfl
 ·have:ps.length≤j:=by have:=ke.mp e;rwa [aI] at this
  rw[ea,mX this];rfl
 ·refine aj (dH e) λp hp ar=>?_;subst ar
  have hj:=(cU.mp hp).1;have tk:(ps.take (j+1)).flatMap (oj ps)=a++oj ps p:=by rw[jK,hp,ah3,ea];exact ay (_++·) (gO _)
  have al:a.length≤144:=by
   rw[ea];refine ah (xi (k:=12) λx _=>ah Mr hz) ?_;rw[jE];exact ah (qE _ (ah (pi _ _) hz)) aJ
  refine(s7 hj _ ab (at2 rfl) ((gM rfl).trans (gM rfl)) yq (λe=>(iQ e)) (λ_=>?_));refine KV (kk:=.list (gN m)) (ag:=h.set (gN N) (.list (a.map pV))) ?_ ?_ rfl rfl
  ·exact d7 (lL Zl) (hs a)
  refine rS (σ:=List (Str×Str)) (λa=>h.set (gN N) (.list (a.map pV))) (λc j=>j≤ps.length∧c=a++oj (ps.take j) p) a ps.length ⟨cb _,(gO _).symm⟩ (λ_ _ e=>e.1) (λc j' ⟨fj,ec⟩=>(cL _ (d6 (hs c)) (λe=>?_) (λv e=>?_))) rfl rfl rfl
  ·have:ps.length≤j':=by have:=ke.mp e;rwa [aI] at this
   rw[mX this] at ec;exact(aT c ⟨hj,by rw[tk,ec]⟩ rfl)
  ·refine aj (dH e) λq hq ar=>?_;subst ar
   have qT:=(cU.mp hq).1;have t2:oj (ps.take (j'+1)) p=oj (ps.take j') p++(if q.1=p.2 then aa (p.1,q.2) else af).toList:=by
    rw[jK,hq,oj,se];refine ay (oj (ps.take j') p++·) ?_;show uE _ [q]=_;rw[qC]
    split<;>simp_all
   refine(s7 qT _ (decide (q.1=p.2)) (at2 rfl) ((gM rfl).trans (gM rfl)) (Fa (bv n_ n_ ((mO.mpr ⟨λz=>by injection z,λz=>by rw[z]⟩:decide (SV.str q.1=SV.str p.2)=decide (q.1=p.2))▸yv))) (λe=>(aT c ⟨qT,by rw[t2,aK (rX e),ec];exact ay (a++·) (gO _).symm⟩ rfl)) (λe=>?_));refine pJ (EV.ep (eY (aB n_ (aB n_ aL)))) ?_;rintro v h1 ⟨rfl,rfl⟩;refine(nQ _ aR ?_ (c++[(p.1,q.2)]) ⟨qT,by rw[t2,aO (fD e),ec,wL _ _ _];rfl⟩ ?_)
   ·rw[aI _,ec,cT]
    have:(oj (ps.take j') p).length≤12:=ah Mr (by rw[jE];exact ah (pi _ _) hz);unfold aZ;exact ah (fp ‹_› ‹_›) aJ
   ·show h.set (gN N) (.list ((c++[(p.1,q.2)]).map pV))=_
    rw[iD,dM];rfl
noncomputable def lw:List (Str×Str):=(["A","B","S","S'"]:List Str).flatMap λa=>(["A","B","S"]:List Str).map λc=>(a,c)
noncomputable def vY:List SV:=lw.map pV
theorem Lv:vY.length=12:=by decide +kernel
theorem Ww:∀v∈vY,fc v=ab:=by decide +kernel
theorem xB {p:Str×Str}:p∈sq ps↔∃y,(p.1,y)∈ps∧(y,p.2)∈ps:=by
 unfold sq;rw[propext sA]
 constructor
 ·rintro⟨a,ha,h⟩
  refine aj (gP.mp h) λc hc e=>?_
  split at e
  ·next z=>obtain rfl:=aU e;exact(aT a.2 ha (by rw[←z];exact hc))
  ·exact a8 e
 ·rintro⟨y,h1,h2⟩
  exact(aT _ h1 (gP.mpr (aT _ h2 (aO rfl))))
theorem pY {p:Str×Str}:p∈lw↔p.1∈(["A","B","S","S'"]:List Str)∧p.2∈(["A","B","S"]:List Str):=by
 unfold lw;rw[propext sA];exact⟨λ⟨a,ha,h⟩=>by refine aj (bD.mp h) λc hc ar=>?_;subst ar;exact⟨ha,hc⟩,λ⟨h1,h2⟩=>⟨_,h1,bD.mpr ⟨_,h2,rfl⟩⟩⟩
theorem JA (h:ps ⊆ lw):sq ps ⊆ lw:=λp hp=>by
 refine aj (xB.mp hp) λy a c=>?_;exact pY.mpr ⟨(pY.mp (h a)).1,(pY.mp (h c)).2⟩
noncomputable def Pj (R:bp):Nat→List (Str×Str)
 |0=>R.filterMap gE
 |j+1=>Pj R j++sq (Pj R j)
theorem rT (hC:R.filterMap gE ⊆ lw):∀{j},Pj R j ⊆ lw
 |0=>hC
 |j+1=>ah4.mpr ⟨rT hC,JA (rT hC)⟩
structure vr where
 ps:List (Str×Str)
 m:Nat
 M:Nat
 h:SH
structure AI (R:bp) (N:Nat) (aA:SH) (j:Nat) (s:vr):Prop where
 at':s.h (gN s.m)=aa (.list (s.ps.map pV))
 lt:s.m<s.M
 le:N≤s.m
 free:br s.h s.M
 kq:Kq [] N aA s.h
 len:s.ps.length≤12
 mem:∀p,p∈s.ps↔p∈Pj R j
theorem Na:∀{l:List SV},(∀v∈l,v∈vY)→∃ps:List (Str×Str),l=ps.map pV
 |[],_=>⟨[],rfl⟩
 |v::l,h=>by
  refine xE (Na λx hx=>h x (eS _ hx)) λps e=>?_;refine aj (bD.mp (h v dv)) λp _ ar=>?_;subst ar;exact⟨p::ps,by rw[e];rfl⟩
theorem abu {p q:Str×Str} (e:pV p=pV q):p=q:=by
 obtain⟨a,c⟩:=p;obtain⟨a',c'⟩:=q;injection e with e;injection e with e1 e;injection e with e2 _;injection e1 with e1;injection e2 with e2;exact jv e1 e2
theorem Ee {p:Str×Str}:pV p∈ps.map pV↔p∈ps:=⟨λh=>by refine aj (bD.mp h) λq a c=>?_;exact abu c▸a,λh=>bD.mpr (aT _ h rfl)⟩
theorem θ {ps qs:List (Str×Str)} (e:∀p,p∈ps↔p∈qs) {p:Str×Str}:p∈sq ps↔p∈sq qs:=by
 rw[propext xB,propext xB];exact⟨λ⟨y,a,c⟩=>⟨y,(e _).mp a,(e _).mp c⟩,λ⟨y,a,c⟩=>⟨y,(e _).mpr a,(e _).mpr c⟩⟩
theorem Kq.at' {B:List Nat} {o:cy} {M:Nat} (a:Kq B N h h') (hM:N≤M):Kq B N h (h'.set (gN M) o):=a.trans (M:=N) (.new hM) (au _)
theorem abd (hC:R.filterMap gE ⊆ lw) {s:vr} {aA:SH} (J:AI R N aA j s) (fin:∀s':vr,AI R N aA (j+1) s'→SS (yL i (b+1)) (Cx s'.m) s'.h ((eu (stN (bc 463) 1)).drop 1::k) Q):
  SS (yL i (b+1)) (Cx s.m) s.h (eu (stN (bc 463) 1)::k) Q:=by
 obtain⟨ps,m,M,h⟩:=s;have F:=J.free;have lt:=J.lt;have le:=J.le;dsimp only at F lt le;have sub:ps ⊆ lw:=λp hp=>rT hC ((J.mem p).mp hp);have sl:(sq ps).length≤144:=ah ZI (aet J.len J.len);have F1:=F.new [] (.list ((sq ps).map pV));have F2:br ((h.set (gN M) (.list ((sq ps).map pV))).set (gN (M+1)) (.list (ps.map pV++(sq ps).map pV))) (M+2):=F1.new [] _;have hU:∀v∈ps.map pV++(sq ps).map pV,v∈vY:=λv hv=>by
  rw[←dM] at hv;refine aj (bD.mp hv) λp hp ar=>?_;subst ar;exact bD.mpr (aT p ((ah4.mpr ⟨sub,JA sub⟩) hp) rfl)
 have pl:ps.length≤12:=J.len;generalize rN:(h.set (gN M) (.list ((sq ps).map pV))).set (gN (M+1)) (.list (ps.map pV++(sq ps).map pV))=h2 at F2;have l2:h2 (gN (M+1))=aa (.list (ps.map pV++(sq ps).map pV)):=rN▸aR;have k2:Kq [] N aA h2:=rN▸(J.kq.at' (cj (bf le lt))).at' (cj (pn (bf le lt)));refine ku (P:=λv h1=>∃vs out,v=.ref (gN (M+3))∧(∀y,y∈out↔y∈ps.map pV++(sq ps).map pV)∧out.length≤12∧h1=(h2.set (gN (M+2)) (.set vs)).set (gN (M+3)) (.list out)) (tJ (P:=λv h1=>v=.ref (gN (M+2))∧∃vs:List SV,vs.Nodup∧(∀y,y∈vs↔y∈ps.map pV++(sq ps).map pV)∧h1=h2.set (gN (M+2)) (.set vs)) (i.K.bi rfl) rfl (tJ (P:=is (.ref (gN (M+1))) h2) (i.K.ty rfl) rfl (EV.ep (fH (cM:=h2) n_ (φ J.at' pl F lt) ?_)) (λv h1 p=>?_)) λv h1 p=>?_) λv h1 p=>?_
 ·rw[←rN]
  exact Cj (n:=gN (M+1)) (.own ((aq (kD (dp ‹_›))).trans J.at':(h.set (gN M) (.list ((sq ps).map pV))) (gN m)=aa (.list (ps.map pV)))) (.own aR) (by rw[aI _,aI _];unfold aZ;exact ah (fp ‹_› ‹_›) aJ) F1.at
 ·refine xA p λcP bu=>?_;clear p;subst cP;subst bu
  exact Cm (U:=vY) (.own l2) (λv hv=>Ww v (hU v hv)) (by rw[Lv];exact bj) hU F2.at
 ·refine yG p λcP vs nd mm e7=>?_;clear p;subst cP;subst e7
  have sb:vs ⊆ vY:=λv hv=>hU v ((mm v).mp hv);have vl:=fO nd sb;rw[Lv] at vl;exact Wt aR ⟨an,λv hv=>aj (bD.mp (sb hv)) λp _ e=>e▸⟨_,_,rfl,⟨_,rfl⟩,_,rfl⟩⟩ (bf vl bj) (F2.new [] (.set vs)).at λout pm=>⟨vs,out,rfl,λy=>pm.mem_iff.trans (mm y),pm.length_eq▸vl,rfl⟩
 ·refine gC p λvs out ar om ol V2=>?_;clear p;subst ar;subst V2
  refine xE (Na λv hv=>hU v ((om v).mp hv)) λqs bu=>?_;subst bu;rw[aI] at ol;refine SS.sub (fin ⟨qs,M+3,M+4,_⟩ ⟨aR,dm _,by show N≤M+3;exact cj (bf le (bK lt (b7 _ _))),(F2.new _ _).new _ _,(k2.at' (cj (pn (pn (bf le lt))))).at' (cj (bf le (bK lt (b7 _ _)))),ol,λp=>?_⟩) (ai (ai bt));rw[←Ee,om,←dM,propext Ee,Pj,propext du,propext du,propext (J.mem p),propext (θ J.mem)]
theorem abz (hb:i.b=b+2) (hn:h (.mk 71 [])=aa (.list (R.map di))) (hz:R.length≤5) (hr:∀r∈R,r.2.length≤2) (hC:R.filterMap gE ⊆ lw) (F:br h N):
  FP i h (.glob 463) [.ref (.mk 71 [])] (λv h'=>∃s:vr,v=.ref (gN s.m)∧s.h=h'∧AI R N h 2 s):=by
 refine enter (b:=b+1) i.K.corners Ow w_co hb rfl (SW hn hz hr F λh1 M J=>?_);refine eo (σ:=vr) (λs=>Cx s.m) vr.h (λs j=>AI R N h j s) ⟨R.filterMap gE,N,M,h1⟩ [.int 0,.int 1] (tq (n:=2) (b9 (i.K.ty rfl) rfl (aB bG aL) uh) bj) ?_ (ai (ai bt)) (λs j J=>tU.trans ?_) (λs j v J e=>?_) (λs J=>?_)
 ·exact⟨J.acc,by have:=J.le;dsimp only;assumption,au _,J.free,J.kq,ah (ah (uG _ _) hz) aJ,λ_=>Iff.rfl⟩
 ·match j with
  |0=>rfl
  |1=>rfl
  |j+2=>exact ay aa (aK (lW (lf 2 j)))
 ·refine dV (SS.sub (abd hC J λs' J'=>aH (bN (LQ.next s' J' .rfl))) (ai (ai bt)))
 ·exact aH (gv n_ (cL s rfl rfl J))
theorem R3 {pos:Pos} {t t':Bool} (a:EV i fr h e (.bool t) h) (c:EV i fr h e' (.bool t') h):EV i fr h (.BoolOp .Or [e,e'] pos) (.bool (t||t')) h:=
 ⟨λfr' s Q X hq=>Vi (a.run fr' s _ _ (BV (by
  cases t with
  |true=>rw[aO rfl];exact hq
  |false=>rw[aK iB];exact IB (c.run fr' s _ _ hq))))⟩
theorem kM {o:cy} (a:Kq [] N h h') (F:br h N) (hn:h n=aa o) (hx:n≠.mk 99 []):h' n=aa o:=by
 obtain⟨k,l⟩:=n
 by_cases e:k=99
 ·subst e
  match l,hn,hx with
  |[],_,hx=>exact bd rfl hx
  |j::r,hn,_=>
   by_cases z:j<N
   ·exact(a.2 _ _ z).trans hn
   ·rw[F j r (jr.mp ‹_›)] at hn;exact a8 hn
 ·exact(a.1 k l (by simp[e])).trans hn
noncomputable def e6 (R:bp) (I:List aF):List Str:=I.filterMap λq=>(aG R q.1)[q.2]?
noncomputable def oJ (R:bp) (ps:List (Str×Str)) (n:Nat) (s:Str):Bool:=decide (s=bF R n)||decide ((s,bF R n)∈ps)
noncomputable def iW (R:bp) (ps:List (Str×Str)) (I:List aF):List Nat:=(bq R.length).filter λn=>(e6 R I).any (oJ R ps n)
noncomputable def Ey:Expr:=mZ (stN (bc 468) 0)
noncomputable def mr:Expr:=mZ (stN (bc 468) 1)
noncomputable def ZV (e:Expr):Expr:=(kE e).2.2.headD (.Constant .none 0 ⟨0,0,0,0⟩)
noncomputable def tL:Expr:=qk 0 (ZV mr)
noncomputable def VK (e:Expr):Expr:=qk 0 e
theorem M1:ck (bE 468) ["rules","corners","items","after"]=ab:=by kernel_rfl
theorem w_ad:cW (bE 468) ["range","len"]=ab:=by kernel_rfl
theorem Z6:ck (da (dC Ey) (bE 468)) ["n","dot"]=ab:=by kernel_rfl
theorem w_ad1:cW (da (dC Ey) (bE 468)) ["len"]=ab:=by kernel_rfl
theorem Lf:oW (da (dC Ey) (bE 468)) ["rules"]=ab:=by kernel_rfl
theorem xN:ck (da (dC mr) (bE 468)) ["n"]=ab:=by kernel_rfl
theorem w_ad2:cW (da (dC mr) (bE 468)) ["any"]=ab:=by kernel_rfl
theorem VZ:oW (da (dC mr) (bE 468)) ["after"]=ab:=by kernel_rfl
theorem xR:ck (da (dC tL) (da (dC mr) (bE 468))) ["s"]=ab:=by kernel_rfl
theorem Hj:oW (da (dC tL) (da (dC mr) (bE 468))) ["corners","n","rules"]=ab:=by kernel_rfl
noncomputable def ue (i:FI) (b:Nat):FI:=i.fn b 468 ["rules","corners","items","after"] ["range","len"] M1 w_ad
theorem BO {a:Nat} (ha:a<R.length):R[a]? =aa (bF R a,aG R a):=by
 unfold bF aG;rw[fb ha];rfl
theorem wA {x y:Str} {p p' pos:Pos} {a:Nat} (r:EV i fr h (.Name x p) (.ref (.mk 71 [])) h) (c:EV i fr h (.Name y p') (.int a) h) (hR:h (.mk 71 [])=aa (.list (R.map di))) (hz:R.length≤5) (ha:a<R.length):EV i fr h (.Subscript (.Name x p) (.Name y p') pos) (di (bF R a,aG R a)) h:=
 mM r c (.own hR) (i2 (bK ‹_› ‹_›) bj) (by rw[dq,BO ha];rfl)
theorem abb (hR:h (.mk 71 [])=aa (.list (R.map di))) (hz:R.length≤5) (hr:∀j,(aG R j).length≤2) (hi:h n=aa (.list (I.map aM))) (hx:n≠.mk 99 []) (ok:∀q∈I,cY R q) (il:I.length≤30) (F:br h N)
  (fin:SS (ue i (b+1)) [("rules",.ref (.mk 71 [])),("corners",u),("after",.ref (gN N))] (h.set (gN N) (.list ((e6 R I).map .str))) [(bc 468).drop 1] Q):
  SS (ue i (b+1)) [("rules",.ref (.mk 71 [])),("corners",u),("items",.ref n)] h [bc 468] Q:=by
 have ne:n≠gN N:=λz=>by rw[z,gN,F.at] at hi;exact a8 hi
 refine vb (acc:=gN N) (P:=λh'=>h'=h.set (gN N) (.list ((e6 R I).map .str))) Z6 w_ad1 (by kernel_rfl) (d7 n_ hi) F.at ?_ λh' e=>e▸SS.sub fin (ai (ai (ai bt)));refine rS (σ:=Nat) (λj=>h.set (gN N) (.list ((e6 R (I.take j)).map .str))) (λs j=>s=j∧j≤I.length) 0 I.length ⟨rfl,cb _⟩ (λ_ _ e=>e.2) (λs j ⟨es,hj⟩=>?_) rfl rfl rfl;subst es;have NV:(h.set (gN N) (.list ((e6 R (I.take s)).map .str))) (.mk 71 [])=aa (.list (R.map di)):=(aq az).trans hR;refine(cL _ (d6 ((aq ne).trans hi:(h.set (gN N) (.list ((e6 R (I.take s)).map .str))) n=aa (.list (I.map aM)))) (λe=>?_) (λv e=>?_))
 ·have:I.length≤s:=by have:=ke.mp e;rwa [aI] at this
  show h.set (gN N) (.list ((e6 R (I.take s)).map .str))=_;rw[mX this]
 ·refine aj (dH e) λq hq ar=>?_;subst ar
  have hj:=(cU.mp hq).1;refine xA (ok q (bQ hq)) λo1 o2=>?_;have tk:e6 R (I.take (s+1))=e6 R (I.take s)++((aG R q.1)[q.2]?).toList:=by
   unfold e6;rw[jK,hq,se];refine ay (_++·) ?_;show uE _ [q]=_;rw[qC]
   cases(aG R q.1)[q.2]? <;>rfl
  have hlt:decide ((q.2:Int) < ((aG R q.1).map SV.str).length)=decide (q.2< (aG R q.1).length):=by rw[aI _];exact mO.mpr h9
  refine(s7 hj _ (decide (q.2< (aG R q.1).length)) (at2 rfl) ((gM rfl).trans (gM rfl)) (Fa (bv n_ (b9 (i.K.bi rfl) rfl (aB (mj (j:=1) (wA (lL Lf) n_ NV hz o1) bG bj rfl) aL) (CO (by rw[aI _];exact bf (hr q.1) bj))) (hlt▸y5))) (λe=>?_) (λe=>?_))
  ·have:=rX e
   rw[lY (jr.mp ‹_›)] at tk;exact(aT (s+1) ⟨rfl,hj⟩ (by rw[tk];show _=h.set _ _;rw[ah5,gO _]))
  ·have:=fD e
   obtain⟨x,hx⟩:∃x,(aG R q.1)[q.2]? =aa x:=⟨_,fb this⟩;rw[hx] at tk;refine pJ (EV.ep (mj (j:=q.2) (mj (j:=1) (wA (lL Lf) n_ NV hz o1) bG bj rfl) n_ (by have z:=hr q.1;exact i2 (bK ‹_› ‹_›) bj) (v:=.str x) (by rw[dq,hx];rfl))) ?_;rintro v h1 ⟨rfl,rfl⟩;refine(nQ _ aR ?_ (s+1) ⟨rfl,hj⟩ ?_)
   ·rw[aI _]
    refine ah (uG _ _) ?_;rw[jE];unfold aZ;exact ah (pi _ _) (ah il aJ)
   ·show h.set (gN N) (.list ((e6 R (I.take (s+1))).map .str))=_
    rw[iD,tk,dM];rfl
theorem I9:∀{l:List (Str×Str)},eH 6 (l.map pV)=ab
 |[]=>rfl
 |p::r=>by
  show(SV.data 6 (pV p) && eH 6 (r.map pV))=ab;rw[I9,HZ _];rfl
theorem ZB (sub:SF.sub [("rules",.ref (.mk 71 [])),("corners",.ref l),("n",.int j)] fr) (hj:j<R.length) (hR:h (.mk 71 [])=aa (.list (R.map di))) (hz:R.length≤5) (hc:h l=aa (.list (ps.map pV))):
  EV (((ue i b).comp (dC mr) ["n"] ["any"] xN w_ad2).comp (dC tL) ["s"] [] xR rfl) (fr.put "s" (.str s)) h (VK tL) (.bool (oJ R ps j s)) h:=by
 have r0:∀{p:Pos},EV (((ue i b).comp (dC mr) ["n"] ["any"] xN w_ad2).comp (dC tL) ["s"] [] xR rfl) (fr.put "s" (.str s)) h (.Name "rules" p) (.ref (.mk 71 [])) h:=λ{p}=>lL Hj (by rw[gi,aK aV];exact sub _ _ rfl);have n0:∀{p:Pos},EV (((ue i b).comp (dC mr) ["n"] ["any"] xN w_ad2).comp (dC tL) ["s"] [] xR rfl) (fr.put "s" (.str s)) h (.Name "n" p) (.int j) h:=λ{p}=>lL Hj (by rw[gi,aK aV];exact sub _ _ rfl);have s0:∀{p:Pos},EV (((ue i b).comp (dC mr) ["n"] ["any"] xN w_ad2).comp (dC tL) ["s"] [] xR rfl) (fr.put "s" (.str s)) h (.Name "s" p) (.str s) h:=λ{p}=>n_ (by rw[gi,aO rfl]);refine R3 (t:=decide (s=bF R j)) (t':=decide ((s,bF R j)∈ps)) (c_ s0 (mj (j:=0) (wA r0 n0 hR hz hj) bG bj rfl) ((mO.mpr ⟨λz=>by injection z,λz=>by rw[z]⟩:decide (SV.str s=.str (bF R j))=decide (s=bF R j))▸yv)) (c_ (eY (aB s0 (aB (mj (j:=0) (wA r0 n0 hR hz hj) bG bj rfl) aL))) (lL Hj (by rw[gi,aK aV];exact sub _ _ rfl)) ((mO.mpr (Ee (p:=(s,bF R j))):decide (SV.tup [.str s,.str (bF R j)]∈ps.map pV)=decide ((s,bF R j)∈ps))▸Gq (.own hc) ?_));exact I9
structure nh (aN:Nat) (aA:SH) (acc:Nat) (vs:List SV) (N:Nat) (h:SH):Prop where
 own:h (gN acc)=aa (.list vs)
 lt:acc<N
 ge:aN≤acc
 free:br h N
 kq:Kq [] aN aA h
theorem nh.new {aN acc:Nat} {vs:List SV} {o:cy} (J:nh aN aA acc vs N h):nh aN aA acc vs (N+1) (h.set (gN N) o):=
 ⟨(aq (kD (by have:=J.lt;exact dp ‹_›))).trans J.own,pn J.lt,J.ge,J.free.new _ _,J.kq.at' (cj (bf J.ge J.lt))⟩
theorem nh.put {aN acc:Nat} {vs ws:List SV} (J:nh aN aA acc vs N h):nh aN aA acc ws N (h.set (gN acc) (.list ws)):=
 ⟨aR,J.lt,J.ge,J.free.same λk l hk=>aq λz=>by injection z with _ z;injection z with z;have:=J.lt;exact l6 this (ah hk (bH z)),J.kq.trans (M:=aN) ⟨λk l hk=>aq λz=>by injection z with z;exact iy hk (by subst z;rfl) rfl,λk l hk=>aq λz=>by injection z with _ z;injection z with z;have:=J.ge;exact l6 hk (ah this (bH z.symm))⟩ (au _)⟩
structure uT where
 N:Nat
 h:SH
noncomputable def pC (R:bp) (ps:List (Str×Str)) (I:List aF) (j:Nat):List SV:=((bq j).filter λn=>(e6 R I).any (oJ R ps n)).map λn=>aM (n,0)
theorem Sc:(pC R ps I j).length≤j:=by
 unfold pC;rw[aI _];exact ah (Io _ _) (bH dR)
theorem YM (hR:h (.mk 71 [])=aa (.list (R.map di))) (hz:R.length≤5) (hc:h l=aa (.list (ps.map pV))) (hl:l≠.mk 99 []) (hn:n=gN m) (hm:m<N) (ha:h n=aa (.list ((e6 R I).map .str))) (il:I.length≤30) (F:br h N):
  EP (ue i (b+1)) [("rules",.ref (.mk 71 [])),("corners",.ref l),("after",.ref n)] h mr (λv h'=>v=.ref (gN N)∧∃M,nh N h N (pC R ps I R.length) M h'):=by
 have abc:n≠.mk 99 []:=λz=>by rw[hn] at z;injection z with _ z;exact jz z
 refine yW (acc:=gN N) (P:=λh'=>∃M,nh N h N (pC R ps I R.length) M h') xN w_ad2 (by kernel_rfl) (tq (b9 (i.K.ty rfl) rfl (aB (b9 (i.K.bi rfl) rfl (aB n_ aL) (oS (.own hR) (by rw[aI _];exact bf ‹_› bj))) aL) uh) (by rw[aI _];exact bf ‹_› bj)) F.at ?_;rw[aI _];refine Ab (σ:=uT) uT.h (λs j=>j≤R.length∧nh N h N (pC R ps I j) s.N s.h) ⟨N+1,_⟩ R.length ⟨cb _,aR,dm _,au _,F.new _ _,Kq.same.at' (au _)⟩ (λt j ⟨hj,J⟩=>?_) rfl rfl rfl;refine(cL _ tU (λe=>?_) (λv e=>?_))
 ·split at e
  ·exact fB e
  ·have:j=R.length:=qD hj (jr.mp ‹_›)
   subst this;exact⟨_,J⟩
 ·split at e
  ·next hlt=>
   obtain rfl:=aU e;have ea:t.h n=aa (.list ((e6 R I).map .str)):=kM J.kq F ha abc;have ec:t.h l=aa (.list (ps.map pV)):=kM J.kq F hc hl;have al:(e6 R I).length≤30:=ah (uG _ _) il;have nn:n≠gN t.N:=λz=>by rw[hn] at z;exact lW (bH (my z).symm) (bK hm (cj J.lt))
   have nl:l≠gN t.N:=λz=>by rw[z,gN,J.free.at] at ec;exact a8 ec
   have tk:pC R ps I (j+1)=pC R ps I j++(if(e6 R I).any (oJ R ps j) then [aM (j,0)] else []):=by
    unfold pC;rw[wZ,ahx _ _,dM];refine ay (_++·) ?_;rw[HJ]
    split<;>rfl
   have J2:nh N h N (pC R ps I j) (t.N+1) (t.h.set (gN t.N) (.list ((e6 R I).map λs=>.bool (oJ R ps j s)))):=J.new;refine⟨hlt,(g6 (dC mr) [("rules",.ref (.mk 71 [])),("corners",.ref l),("after",.ref n)]).put "n" (.int j),(e6 R I).any (oJ R ps j),t.h.set (gN t.N) (.list ((e6 R I).map λs=>.bool (oJ R ps j s))),lU rfl,gM rfl,Bf (p_ (b9 (i.K.bi rfl) rfl (aB (Bd (acc:=gN t.N) (l:=["s"]) (ls:=[]) (vs:=(e6 R I).map .str) (us:=(e6 R I).map λs=>.bool (oJ R ps j s)) xR rfl (by kernel_rfl) (d7 (lL VZ) ea) J.free.at (λws j=>d6 ((aq nn).trans ea)) (by rw[aI _,aI _]) (by rw[aI _];unfold aZ;exact ah ‹_› aJ) rfl ?_) aL) (X3 (ts:=(e6 R I).map (oJ R ps j)) (.own aR) ?_)) ?_),λe=>?_,λe=>?_⟩
   ·intro ws j' v u e1 e2
    refine aj (dH e1) λs hs ar=>?_;subst ar;rw[dq,hs] at e2
    (first|exact a8 e2|obtain rfl:=aU e2)
    exact ZB (l:=l) (ps:=ps) (ai (ai (ai bt))) hlt ((aq az).trans (kM J.kq F hR az:t.h (.mk 71 [])=aa (.list (R.map di)))) hz ((aq nl).trans ec)
   ·rw[o0,o0];rfl
   ·rw[agj];exact jf
   ·exact(aT ⟨t.N+1,_⟩ ⟨hlt,by rw[tk,e,aK iB,gO _];exact J2⟩ rfl)
   ·refine pJ (EV.ep (eY (aB n_ (aB bG aL)))) ?_
    rintro v h1 ⟨rfl,rfl⟩;refine(nQ _ J2.own (by have:=Sc (R:=R) (ps:=ps) (I:=I) (j:=j);unfold aZ;exact ah this (ah hj (ah hz aJ))) ⟨t.N+1,_⟩ ⟨hlt,by rw[tk,e,aO rfl];exact J2.put⟩ rfl)
  ·exact a8 e
theorem Nb {c:Nat} {ln:Nm} (hb:i.b=b+2) (hR:h (.mk 71 [])=aa (.list (R.map di))) (hz:R.length≤5) (hr:∀j,(aG R j).length≤2) (hc:h (gN c)=aa (.list (ps.map pV))) (hi:h ln=aa (.list (I.map aM))) (hx:ln≠.mk 99 []) (ok:∀q∈I,cY R q) (il:I.length≤30) (F:br h N):
  FP i h (.glob 468) [.ref (.mk 71 []),.ref (gN c),.ref ln] (λv h'=>v=.ref (gN (N+1))∧∃M,nh N h (N+1) ((iW R ps I).map λn=>aM (n,0)) M h'):=by
 refine enter (b:=b+1) i.K.added M1 w_ad hb rfl (abb hR hz hr hi hx ok il F ?_);have k1:Kq [] N h (h.set (gN N) (.list ((e6 R I).map .str))):=Kq.same.at' (au _);refine YN (YM (m:=N) (n:=gN N) (N:=N+1) ((aq az).trans hR) hz (l:=gN c) (kM k1 F hc (λz=>by injection z with _ z;exact jz z)) (λz=>by injection z with _ z;exact jz z) rfl (dm _) aR il (F.new _ _)) λv h' ⟨e,M,J⟩=>⟨e,M,J.own,J.lt,bT _,J.free,k1.trans J.kq (bT _)⟩
theorem Wo {elt iter:Expr} {y x:Str} {q q' gI:Pos} {sc:cu} {pos:Pos} {kk:dB} {acc:Nm} {l ls:List Str} {vs us:List SV} (V:ck (da sc i.F) l=ab) (W:cW (da sc i.F) ls=ab) (ok:(py sc i.F && l.contains x && !DX kk)=ab) (a:EI i fr h iter kk ag) (ha:ag acc=af)
  (hit:∀(ws:List SV) (j:Nat),jo kk j (ag.set acc (.list ws))=aa vs[j]?) (hl:us.length=vs.length) (hz:vs.length≤aZ) (hx:(g6 sc fr).lookup x=af)
  (b:∀(ws:List SV) (j:Nat) (v u:SV),vs[j]? =aa v→us[j]? =aa u→EV (i.comp sc l ls V W) ((g6 sc fr).put x v) (ag.set acc (.list ws)) elt u (ag.set acc (.list ws)))
  (c:SS i (fr.put y (.ref acc)) (ag.set acc (.list us)) (rest::k) Q) (ZY:autoParam (i.l.contains y=ab) bn) (on:autoParam (rf iter) jn):SS i fr h ((.Assign [.Name y q'] (.ListComp elt [⟨.Name x q,iter,[],0⟩] sc pos) gI::rest)::k) Q:=
 have o:=F8 ok
 vb (P:=λh'=>h'=ag.set acc (.list us)) V W (vk o.c) a ha (Es (.name ((jI _).mp o.e)) hit hl hz λws j v u e hu=>⟨_,lU o.o,gM hx,b ws j v u e hu⟩) (λaC e=>e.symm▸c) ZY on
theorem Ph {vs:List SV} {j:Nat}:fg vs af (aa (j:Int))=vs.take j:=by
 show(vs.drop 0).take (fE vs.length j-0)=_;rw[show fE vs.length (j:Int)=min j vs.length from AM];exact if h:j≤vs.length then ay (vs.take ·) (r9 h) else(ay (vs.take ·) (H4 (H3 h))).trans ((mX (au _)).trans (mX (H3 h)).symm)
def jm (B:List Nat) (h:SH):Prop:=∀k l,(99::B).contains k=an→h (.mk k l)=af
theorem jm.kq {B B':List Nat} (o:jm B h) (a:Kq B' N h h') (hB:autoParam (B'.all (99::B).contains=ab) bn):jm B h':=λk l hk=>((a.mono (B':=B) hB).1 k l hk).trans (o k l hk)
theorem jm.at {B:List Nat} {a:Nat} {l:List Nat} (o:jm B h) (hB:autoParam ((99::B).contains a=an) dI):h (.mk a l)=af:=o a l hB
theorem jm.more {B B':List Nat} (o:jm B h) (hB:autoParam (B.all (99::B').contains=ab) bn):jm B' h:=λk l hk=>o k l (by
 cases z:(99::B).contains k with
 |false=>rfl
 |true=>
  rw[wX,Dz,eW] at z;rcases z with rfl|z
  ·exact hk
  ·exact bd (Eq.refl k) (iy hk (db.mp hB k (e9.mp z))))
noncomputable def OU:List Str:=["script","tape","name","rules","_","row","grammar","symbols","table","corners","every","lists","chosen","one","asked","items","whole","rest","symbol","moved","answer"]
noncomputable def ME:List Str:=["_law_NAMES","range","_law_next","_law_rule","Grammar","list","LRGeneratedTable","_law_corners","len","_law_told","set","_law_added","_law_ASKED","sorted"]
theorem Xi:ck (bE 478) OU=ab:=by kernel_rfl
theorem w_la:cW (bE 478) ME=ab:=by kernel_rfl
noncomputable def bL (i:FI) (b:Nat):FI:=i.fn b 478 OU ME Xi w_la
noncomputable def YD:Expr:=mZ (stN (bc 478) 0)
theorem WQ:ck (da (dC YD) (bE 478)) ["n"]=ab:=by kernel_rfl
noncomputable def cz:Nm:=.mk 70 []
noncomputable def iS:Nm:=.mk 71 []
theorem T4 {a:ax} {sc:List Int} (hs:BL i.G a (sc.map .int)) (hz:sc.length≤63)
  (fin:∀(t:List Int) h,t.length≤20→jm [70] h→br h 1→h cz=aa (.list (t.map .int))→SS (bL i b) [("tape",.ref cz)] h [(bc 478).drop 1] Q):
  SS (bL i b) [("script",.glob a)] (λ_=>af) [bc 478] Q:=by
 have sl:fg (sc.map SV.int) af (aa 20)=(sc.take 20).map .int:=by
  rw[H7];exact Ph (j:=20)
 have SP:(sc.take 20).length≤20:=by rw[jE];exact ah6 _ _
 refine Wo (acc:=cz) (kk:=.list (gN 0)) (l:=["n"]) (ls:=[]) (vs:=(sc.take 20).map .int) (us:=((sc.take 20).map (· % 720720)).map .int) (ag:=(SH.set (λ_=>af) (gN 0) (.list ((sc.take 20).map .int)))) WQ rfl (by kernel_rfl) (d7 ?_ aR) rfl (λws j=>d6 rfl) (by rw[aI _,aI _,aI _]) (by rw[aI _];unfold aZ;exact ah ‹_› aJ) rfl ?_ ?_
 ·exact sl▸NX (n:=gN 0) (m:=gN 0) (.base hs) n_ bG (by rw[aI _];unfold aZ;exact ah ‹_› aJ) rfl
 ·intro ws j v u e1 e2
  refine aj (dH e1) λx hx ar=>?_;subst ar;rw[dq,dq,hx] at e2
  (first|exact a8 e2|obtain rfl:=aU e2)
  exact fH n_ bG (sL aV)
 ·refine SS.sub (fin _ _ (by rw[aI _];exact SP) ?_ ?_ aR) (ai bt)
  ·exact λk l hk=>by
    have f:∀a∈(99::[70]:List Nat),k≠a:=λa ha=>iy hk (e9.mpr ha);exact(aq λz=>by injection z with z;exact f 70 bS z).trans (aq λz=>by injection z with z;exact f 99 bS z)
  ·exact λk l hk=>(aq az).trans (aq λz=>by injection z with _ z;injection z with z;exact dF ‹_› ‹_›)
def wg (r:Str×List Str):Prop:=r.1∈a9∧r.2.length≤2∧∀s∈r.2,s∈mK
structure Aw where
 rs:bp
 t:List Int
 N:Nat
 h:SH
structure Eo (aN:Nat) (aA:SH) (acc:Nm) (j:Nat) (s:Aw):Prop where
 t6:s.rs.map (·.1)=a9.take j
 ok:∀r∈s.rs,wg r
 own:s.h acc=aa (.list (s.rs.map di))
 tp:s.h cz=aa (.list (s.t.map .int))
 tl:s.t.length≤20
 free:br s.h s.N
 le:aN<s.N
 kq:Kq [70] aN aA s.h
noncomputable def Cn:Expr:=qk 1 (mZ (stN (bc 478) 1))
theorem UF:ck (da (dC Cn) (bE 478)) ["name"]=ab:=by kernel_rfl
theorem w_la1:cW (da (dC Cn) (bE 478)) ["_law_rule"]=ab:=by kernel_rfl
theorem Wy:oW (da (dC Cn) (bE 478)) ["tape"]=ab:=by kernel_rfl
theorem NS {t:List Int} (hn:nm∈a9):wg (nm,gn t.tail (fC t)):=⟨hn,by show(gn t.tail (fC t)).length≤2;rw[ET];exact eQ (u9 (k:=3) (dJ _)),Μ⟩
theorem VA {t:List Int} (tp:h cz=aa (.list (t.map .int))) (tl:t.length≤20) (F:br h N):
  EP (bL i (b+6)) [("tape",.ref cz)] h Cn (λv h'=>v=.ref (gN (N+1))∧∃s,s.h=h'∧Eo (N+1) ((h.set (gN N) (.list (a9.map .str))).set (gN (N+1)) (.list [])) (gN (N+1)) 3 s∧s.h=h'):=by
 have F1:br (h.set (gN N) (.list (a9.map .str))) (N+1):=F.new [] _;have F2:br ((h.set (gN N) (.list (a9.map .str))).set (gN (N+1)) (.list [])) (N+2):=F1.new [] _;refine yW (acc:=gN (N+1)) (P:=λh'=>∃s:Aw,s.h=h'∧Eo (N+1) ((h.set (gN N) (.list (a9.map .str))).set (gN (N+1)) (.list [])) (gN (N+1)) 3 s∧s.h=h') UF w_la1 (by kernel_rfl) (d7 (b9 (i.K.ref rfl) (i.K.keep rfl) aL (Fz (b:=b+5) rfl F).cp) aR) F1.at ?_;have yX:((h.set (gN N) (.list (a9.map .str))).set (gN (N+1)) (.list [])) cz=aa (.list (t.map .int)):=(aq az).trans ((aq az).trans tp);have JX:((h.set (gN N) (.list (a9.map .str))).set (gN (N+1)) (.list [])) (gN N)=aa (.list (a9.map .str)):=(aq (kD (by exact dp (dm _)))).trans aR;have o2:((h.set (gN N) (.list (a9.map .str))).set (gN (N+1)) (.list [])) (gN (N+1))=aa (.list []):=aR;generalize hh:(h.set (gN N) (.list (a9.map .str))).set (gN (N+1)) (.list [])=h2 at F2 yX JX o2;refine Ab (σ:=Aw) Aw.h (λs j=>s.h (gN N)=aa (.list (a9.map .str))∧Eo (N+1) h2 (gN (N+1)) j s) ⟨[],t,N+2,h2⟩ 3 ⟨JX,rfl,λ_ z=>(by exact cS z),o2,yX,tl,F2,dm _,.same⟩ (λs j ⟨hn,J⟩=>?_) rfl rfl rfl;refine(cL _ (d6 hn) (λe=>?_) (λv e=>?_))
 ·have:3≤j:=by have:=ke.mp e;rwa [aI] at this
  have t6:=J.t6;rw[mX (show a9.length≤j from this)] at t6;exact(cL s rfl ⟨t6,J.ok,J.own,J.tp,J.tl,J.free,J.le,J.kq⟩ rfl)
 ·refine aj (dH e) λx hx ar=>?_;subst ar
  have le:=J.le;refine⟨((cU.mp hx).1:j<3),_,ab,s.h,lU rfl,gM rfl,LW,λe=>(by exact iQ e),λ_=>?_⟩;refine pJ (EV.ep (b9 (i.K.ref rfl) (i.K.keep rfl) (aB (lL Wy) (aB n_ aL)) (LA (b:=b+4) (m:=70) rfl J.tp bJ J.tl J.free).cp)) ?_;rintro v h3 ⟨rfl,e3⟩;have l3:s.rs.length≤3:=by
   have:=ay nY J.t6;rw[aI,jE] at this;exact this▸pi _ _
  have F3:br (s.h.set cz (.list ((s.t.tail.drop (fC s.t)).map .int))) s.N:=J.free.same λ_ _ _=>aq az;refine(nQ _ (e3▸(aq (kD (by exact dp ‹_›))).trans ((aq az).trans J.own):h3 (gN (N+1))=aa (.list (s.rs.map di))) (by rw[aI _];unfold aZ;exact ah ‹_› aJ) ⟨s.rs++[(x,gn s.t.tail (fC s.t))],s.t.tail.drop (fC s.t),s.N+1,h3.set (gN (N+1)) (.list ((s.rs++[(x,gn s.t.tail (fC s.t))]).map di))⟩ ⟨(aq (kD (by exact dp (dm _)))).trans (e3▸(aq (kD (dp (n8 le)))).trans ((aq az).trans hn):h3 (gN N)=aa (.list (a9.map .str))),?_,?_,aR,?_,?_,?_,pn le,(e3▸(J.kq.trans (M:=N+1) (.set rfl) (au _)).at' (cj le):Kq [70] (N+1) h2 h3).at' (au _)⟩ (by rw[dM];rfl))
  ·show H_ _ (s.rs++[(x,gn s.t.tail (fC s.t))])=_
   rw[dM,J.t6,jK,hx];rfl
  ·intro r hr
   rcases du.mp hr with hr|hr
   ·exact J.ok r hr
   ·rw[bU.mp hr];exact NS (bQ hx)
  ·show(h3.set (gN (N+1)) (.list ((s.rs++[(x,gn s.t.tail (fC s.t))]).map di))) cz=_
   exact(aq az).trans (e3▸(aq az).trans aR:h3 cz=aa (.list ((s.t.tail.drop (fC s.t)).map .int)))
  ·show(s.t.tail.drop (fC s.t)).length≤20
   rw[zL,pq];have:=J.tl;exact ah (kh _ _) (ah (kh _ _) ‹_›)
  ·exact(e3▸F3.new [] _:br h3 (s.N+1)).same λk l hk=>aq λz=>by injection z with _ z;injection z with z;have:s.N+1≤k:=hk;exact l6 le (gd (ah this (bH z)))
structure j3 (t:List Int) (Rs:bp) (N:Nat) (h:SH):Prop where
 tp:h cz=aa (.list (t.map .int))
 tl:t.length≤20
 ru:h iS=aa (.list (Rs.map di))
 ok:∀r∈Rs.tail,wg r
 hd:∃(a c d:List Str) (x:bp),Rs=(("S'":Str),[("S":Str)])::(("S":Str),a)::(("A":Str),c)::(("B":Str),d)::x∧x.length≤1∧Rs.Nodup
 free:br h N
 ma:jm [70,71] h
noncomputable def qR:SF:=[("tape",.ref cz),("rules",.ref iS)]
theorem FQ {rs:bp} {x:Str} {l:List Str} (e:rs.map (·.1)=x::l):∃a r,rs=(x,a)::r∧r.map (·.1)=l:=by
 cases rs with
 |nil=>exact vS e
 |cons p r=>exact⟨p.2,r,ay (· ::r) (jv (lh e).1 rfl),(lh e).2⟩
theorem XO {t:List Int} (tl:t.length≤20) (o:jm [70] h) (F:br h 1) (tp:h cz=aa (.list (t.map .int)))
  (fin:∀t Rs N h,j3 t Rs N h→Rs.length=4→SS (bL i (b+6)) qR h [(bc 478).drop 2] Q):SS (bL i (b+6)) [("tape",.ref cz)] h [(bc 478).drop 1] Q:=by
 refine ku (P:=λv h'=>v=.ref iS∧∃t Rs N,j3 t Rs N h'∧Rs.length=4) (Go (ey (n:=gN 1) (aB (eY (aB cx (aB (eY (aB cx aL)) aL))) aL) F.at) (VA ((aq az).trans tp:(h.set (gN 1) (.list [di ("S'",["S"])])) cz=aa (.list (t.map .int))) tl (F.new [] _:br (h.set (gN 1) (.list [di ("S'",["S"])])) 2)) ?_) ?_
 ·rintro w h2 ⟨rfl,s,rfl,J,_⟩
  have le:=J.le;obtain⟨rs,t',M,h2⟩:=s;dsimp only at le ⊢;have sh:∃a c d:List Str,rs=[(("S":Str),a),(("A":Str),c),(("B":Str),d)]:=by
   exact eA (FQ (l:=[("A":Str),"B"]) J.t6) λa r z1 n=>eA (FQ (l:=[("B":Str)]) n) λc r' z2 n=>eA (FQ (l:=[]) n) λd Gv z3 n=>⟨a,c,d,z1.trans (ay _ (z2.trans (ay _ (z3.trans (ay _ (List.map_eq_nil_iff.mp n))))))⟩
  refine th sh λa c d y8=>?_;clear sh;subst y8;have Og:jm [70] h2:=(((o.kq (B':=[]) (N:=0) (.new (M:=1) (cb _))).kq (B':=[]) (N:=0) (.new (M:=2) (cb _))).kq (B':=[]) (N:=0) (.new (M:=2+1) (cb _)):jm [70] ((((h.set (gN 1) (.list [di ("S'",["S"])])).set (gN 2) (.list (a9.map .str)))).set (gN (2+1)) (.list []))).kq J.kq;refine⟨_,_,Cj (n:=iS) (.own ((J.kq.2 1 [] bj).trans ((aq (kD bJ)).trans ((aq (kD bJ)).trans aR)):h2 (gN 1)=aa (.list [di ("S'",["S"])]))) (.own J.own) (by show 1+3≤aZ;unfold aZ;exact aJ) (Og.at),rfl,t',(("S'":Str),[("S":Str)])::[(("S":Str),a),(("A":Str),c),(("B":Str),d)],M,⟨(aq az).trans J.tp,J.tl,aR,J.ok,⟨a,c,d,[],rfl,by exact aJ,?_⟩,(J.free:br h2 M).same λ_ _ _=>aq az,?_⟩,rfl⟩
  ·exact ah2 mR (λa b z e=>z (ay _ e)) (l:=(("S'":Str),[("S":Str)])::[(("S":Str),a),(("A":Str),c),(("B":Str),d)]) (aV:[("S'":Str),"S","A","B"].Nodup)
  ·exact(Og.more (B':=[70,71])).kq (B':=[71]) (N:=0) (.set rfl)
 ·rintro v h' ⟨rfl,t,Rs,N,J,l4⟩
  exact SS.sub (fin t Rs N h' J l4) (ai (ai bt))
structure Gs where
 t:List Int
 Rs:bp
 N:Nat
 h:SH
theorem M9 {r:Str×List Str}:SV.data 6 (di r)=ab:=by
 show(SV.data 5 (.str r.1) && (eH 4 (r.2.map .str) && ab))=ab;have:∀{l:List Str},eH 4 (l.map .str)=ab:=λ{l}=>by
  induction l with
  |nil=>rfl
  |cons x r ih=>exact ih
 rw[this];rfl
theorem Oi:∀{l:bp},eH 6 (l.map di)=ab
 |[]=>rfl
 |p::r=>by
  show(SV.data 6 (di p) && eH 6 (r.map di))=ab;rw[Oi,M9];rfl
theorem MI:∀{a c:List Str},a.map SV.str=c.map SV.str→a=c
 |[],[],_=>rfl
 |[],_::_,e=>by cases e
 |_::_,[],e=>by cases e
 |x::a,y::c,e=>by
  injection e with e1 e2;injection e1 with e1;rw[e1,MI e2]
theorem Su {p q:Str×List Str} (e:di p=di q):p=q:=by
 injection e with e;injection e with e1 e;injection e with e2 _;injection e1 with e1;injection e2 with e2;exact jv e1 (MI e2)
theorem V9 {p:Str×List Str}:di p∈Rs.map di↔p∈Rs:=⟨λh=>by refine aj (bD.mp h) λq a c=>?_;exact Su c▸a,λh=>bD.mpr (aT _ h rfl)⟩
theorem j3.add {t:List Int} (J:j3 t Rs N h) (l4:Rs.length=4) {r:Str×List Str} (hr:wg r) (hn:r∉Rs):j3 t (Rs++[r]) N (h.set iS (.list ((Rs++[r]).map di))):=by
 obtain⟨a,c,d,x,e,lx,nd⟩:=J.hd;subst e;have:x=[]:=by
  cases x with
  |nil=>rfl
  |cons y z=>simp at l4
 subst this;refine⟨(aq az).trans J.tp,J.tl,aR,λr' h'=>?_,⟨a,c,d,[r],rfl,au _,?_⟩,J.free.same λ_ _ _=>aq az,J.ma.kq (B':=[71]) (N:=0) (.set rfl)⟩
 ·rcases du.mp (show r'∈[(("S":Str),a),(("A":Str),c),(("B":Str),d)]++[r] from h') with h'|h'
  ·exact J.ok r' h'
  ·rw[bU.mp h'];exact hr
 ·rw[propext k_]
  exact(cI nd (kf _ _) (λa ha b hb e=>hn (by rw[bU.mp hb] at e;exact e▸ha)))
noncomputable def sS (x:Int):Nat:=(x % 3).toNat
theorem DK {x:Int}:sS x<3:=u9 (k:=3) (dJ _)
theorem Kg {x:Int}:x % 3=(sS x:Int):=yH (k:=3) (dJ _)
theorem Yu {t:List Int} (J:j3 t Rs N h) (l4:Rs.length=4) (fin:∀t Ar N h,j3 t Ar N h→Ar.length≤5→SS (bL i (b+6)) qR h k Q):
  SS (bL i (b+6)) (qR.put "_" v) h (eu (stN (bc 478) 2)::k) Q:=by
 have F:=J.free;have vL:(h.set (gN N) (.list (a9.map .str))) cz=aa (.list (t.map .int)):=(aq az).trans J.tp;have yX:((h.set (gN N) (.list (a9.map .str))).set cz (.list (t.tail.map .int))) cz=aa (.list (t.tail.map .int)):=aR;have F1:br (h.set (gN N) (.list (a9.map .str))) (N+1):=F.new [] _;have F2:br ((h.set (gN N) (.list (a9.map .str))).set cz (.list (t.tail.map .int))) (N+1):=F1.same λ_ _ _=>aq az;have tl:=J.tl;have wa:∀m<3,∃x,(a9.map SV.str)[m]? =aa (.str x)∧x∈a9:=λm hm=>by
  match m,hm with
  |0,_=>exact(aT _ rfl aV)
  |1,_=>exact(aT _ rfl aV)
  |2,_=>exact(aT _ rfl aV)
 refine aj (wa _ (DK (x:=gy t))) λx hx hxN=>?_;have nl:((h.set (gN N) (.list (a9.map .str))).set cz (.list (t.tail.map .int))) (gN N)=aa (.list (a9.map .str)):=(aq az).trans aR;refine bO (v:=di (x,gn t.tail.tail (fC t.tail))) (b9 (i.K.ref rfl) (i.K.keep rfl) (aB n_ (aB (mM (j:=sS (gy t)) (b9 (i.K.ref rfl) (i.K.keep rfl) aL (Fz (b:=b+5) rfl F).cp) (fH (b9 (i.K.ref rfl) (i.K.keep rfl) (aB n_ aL) (vz (b:=b+5) rfl vL tl).cp) bG (Kg▸sL aV)) (.own nl) (i2 DK bj) hx) aL)) (LA (b:=b+4) (m:=70) rfl yX bJ (by rw[pq];exact ah (kh _ _) ‹_›) F2).cp) ?_;generalize hh:SH.set (SH.set _ _ _) (gN (N+1)) _=h2;have J2:j3 (t.tail.tail.drop (fC t.tail)) Rs (N+2) h2:=by
  subst hh;refine⟨(aq az).trans aR,by rw[zL,pq,pq];exact ah (kh _ _) (ah (kh _ _) (ah (kh _ _) tl)),(aq az).trans ((aq az).trans ((aq az).trans ((aq az).trans J.ru))),J.ok,J.hd,?_,?_⟩
  ·exact br.new (N:=N+1) (F2.same λ_ _ _=>aq az) [] _
  ·exact(((J.ma.kq (B':=[]) (N:=0) (.new (M:=N) (cb _))).kq (B':=[70]) (N:=0) (.set rfl)).kq (B':=[70]) (N:=0) (.set rfl)).kq (B':=[]) (N:=0) (.new (M:=N+1) (cb _))
 clear hh F1 F2 vL yX nl;refine GZ (c:=!decide (di (x,gn t.tail.tail (fC t.tail))∈Rs.map di)) (ag:=h2) ?_ (λe=>?_) (λe=>?_)
 ·exact bv n_ n_ (B5 (.own J2.ru) Oi M9)
 ·have hn:(x,gn t.tail.tail (fC t.tail))∉Rs:=λz=>by rw[eP (V9.mpr z)] at e;exact cJ e
  refine fF (de n_ (ga J2.ru) rfl (aB n_ aL) (fU J2.ru (by rw[aI _,l4];unfold aZ;exact aJ))) (aH (aH (SS.sub (d_:=qR) ?_ (ai (ai bt)))));have:=J2.add l4 (NS (t:=t.tail) hxN) hn;rw[dM] at this;exact fin _ _ _ _ this (by rw[cT,l4];exact au 5)
 ·exact aH (aH (SS.sub (fin _ _ _ _ J2 (c7 (bH l4))) (ai (ai bt))))
theorem UA {t:List Int} (J:j3 t Rs N h) (l4:Rs.length=4) (fin:∀t Rs N h,j3 t Rs N h→Rs.length≤5→SS (bL i (b+6)) qR h [(bc 478).drop 3] Q):SS (bL i (b+6)) qR h [(bc 478).drop 2] Q:=by
 have m2:gy t % 2=((gy t % 2).toNat:Int):=yH (k:=2) (dJ _);have JR:(gy t % 2).toNat<2:=u9 (k:=2) (dJ _);generalize (gy t % 2).toNat=c at m2 JR;refine eo (σ:=Gs) (λ_=>qR) Gs.h (λs j=>j3 s.t s.Rs s.N s.h∧s.Rs.length≤5∧(j=0→s.Rs.length=4)) ⟨t.tail,Rs,N,_⟩ ((bq c).map λj:Nat=>SV.int j) (tq (n:=c) (b9 (i.K.ty rfl) rfl (aB (fH (b9 (i.K.ref rfl) (i.K.keep rfl) (aB n_ aL) (vz (b:=b+5) rfl J.tp J.tl).cp) bG (m2▸sL aV)) aL) uh) (ah ‹_› aJ)) (cI (⟨aR,by rw[pq];have:=J.tl;exact ah (kh _ _) ‹_›,(aq az).trans J.ru,J.ok,J.hd,J.free.same λ_ _ _=>aq az,J.ma.kq (B':=[70]) (N:=0) (.set rfl)⟩:j3 t.tail Rs N (h.set cz (.list (t.tail.map .int)))) (by dsimp only;exact c7 (bH l4)) (λ_=>l4)) .rfl (λs j J=>tU.trans ?_) (λs j v J e=>?_) (λs J=>aH (fin _ _ _ _ J.1 J.2.1))
 ·rw[dq]
  by_cases hj:j<c
  ·rw[aO hj,wY hj];rfl
  ·rw[aK hj,lY (by rw[dR];exact jr.mp ‹_›)];rfl
 ·have hj:=(cU.mp e).1
  rw[aI,dR] at hj;have:j=0:=Ic.mp (eQ (bK hj (eQ JR)));subst this;exact dV (Yu (v:=v) J.1 (J.2.2 rfl) λt Ar N h J' l5=>bN (LQ.next (⟨t,Ar,N,h⟩:Gs) (cI J' l5 (λz=>by cases z)) .rfl))
variable{t:List Int}
theorem FP.imp {f:SV} {vs:List SV} {P P':QV} (a:FP i h f vs P) (hq:∀v h',P v h'→P' v h'):FP i h f vs P':=⟨λF fr' hF Q' c=>a.run F fr' hF Q' λv h p=>c v h (hq v h p)⟩
noncomputable def R0:bp:=[(("S'":Str),[("S":Str)])]
theorem UW (G:qW h h') (o:jm [70,71] h):GB R0 h':=by
 have no:∀{k l},kQ.contains k=an→(99::[70,71]).contains k=an→h' (.mk k l)=af:=λh1 h2=>(G.same _ _ h1).trans (o _ _ h2);refine⟨G.gr,G.fk,(ik ([]) G.names .nil (λ_ z=>(cS z)) (λs hs=>⟨λz=>bd ((aV:∀s∈a9,gB R0 s=[]) s hs) z,λ_=>⟨rfl,no rfl rfl⟩⟩)),(cL ([]) G.map (λ_ z=>(cS z)) (cb _)),⟨G.term,λt ht=>?_⟩,(cL ([]) G.iu ⟨.nil,λ_ _ z=>(by(first|exact a8 z|obtain rfl:=aU z)),?_⟩ (λj h1 h2=>?_)),G.first,G.nz,G.prec,λj h1 h2=>?_,λj _=>(cI (no rfl rfl) (no rfl rfl) (no rfl rfl)),λ_ z=>(cS z),by exact aJ,by exact bj⟩
 ·have:t="a"∨t="b"∨t="error":=by simpa [dY] using ht
  rcases this with rfl|rfl|rfl
  ·exact(aT ([]) G.ta (cb _))
  ·exact(aT ([]) G.tb (cb _))
  ·exact(aT ([]) G.te (cb _))
 ·exact λs hs _=>no rfl rfl
 ·exact bd h1 (lW (eQ h2))
 ·exact bd h1 (lW (eQ h2))
structure kT (R:bp) (B:List Nat) (N:Nat) (t:List Int) (h:SH):Prop where
 tp:h cz=aa (.list (t.map .int))
 tl:t.length≤20
 ru:h iS=aa (.list (R.map di))
 free:br h N
 ma:jm B h
theorem kT.kq {B B' B'':List Nat} {M:Nat} (L:kT R B N t h) (a:Kq B' N h h') (F:br h' M) (hB:autoParam ((B'.all (99::B'').contains && B.all (99::B'').contains && !(99::B').contains 70 && !(99::B').contains 71)=ab) bn):kT R B'' M t h':=by
 simp only[bR,jI] at hB;obtain⟨⟨⟨h1,h2⟩,h3⟩,h4⟩:=hB;exact⟨(a.1 _ _ h3).trans L.tp,L.tl,(a.1 _ _ h4).trans L.ru,F,(L.ma.more h2).kq a h1⟩
theorem qW.kq (G:qW h h'):Kq kQ N h h':=⟨λk l hk=>G.same k l (by
 cases z:kQ.contains k with
 |false=>rfl
 |true=>rw[wX,z,HI] at hk;exact iQ hk),λk l _=>G.same _ _ rfl⟩
theorem j3.Δ (J:j3 t Rs N h):kT Rs [70,71] N t h:=⟨J.tp,J.tl,J.ru,J.free,J.ma⟩
noncomputable def tc:SF:=[("tape",.ref cz),("rules",.ref iS),("grammar",.ref aX)]
noncomputable def qd:List Nat:=[70,71]++kQ++wi
theorem Wz (J:j3 t Rs N h) (fin:∀N h',GB R0 h'→kT Rs qd N t h'→(∀a c,h' (.mk 40 [a,c])=af)→SS (bL i (b+6)) tc h' [(bc 478).drop 4] Q):SS (bL i (b+6)) qR h [(bc 478).drop 3] Q:=by
 have F1:br (h.set (gN N) (.list [.str "a",.str "b"])) (N+1):=J.free.new [] _;have L1:kT Rs [70,71] (N+1) t (h.set (gN N) (.list [.str "a",.str "b"])):=J.Δ.kq (.new (au _):Kq [] N h (h.set (gN N) (.list [.str "a",.str "b"]))) F1;refine ku (nF (Q:=λv h'=>v=.ref aX∧qW (h.set (gN N) (.list [.str "a",.str "b"])) h') (i.K.ref rfl) (i.K.keep rfl) (aB (ey (n:=gN N) (aB cx (aB cx aL)) J.free.at) aL) (cls (b:=b+5) (fI:=172) (n:=aX) rfl rfl (L1.ma.at (a:=34)) (FP.imp (T6 (b:=b+4) rfl (λk hk l=>L1.ma k l ?_) (aR:(h.set (gN N) (.list [.str "a",.str "b"])) (gN N)=aa (.list [.str "a",.str "b"]))) λv h' q=>⟨q.1,rfl,q.2⟩)).cp) ?_
 ·exact(aV:∀k∈kQ,(99::[70,71]:List Nat).contains k=an) k hk
 ·rintro v h' ⟨rfl,G⟩
  exact SS.sub (fin (N+1) h' (UW G L1.ma) (L1.kq (N:=N+1) G.kq (F1.same λk l _=>G.same _ _ rfl)) λa c=>(G.same _ _ rfl).trans (L1.ma.at (a:=40))) (ai (ai (ai bt)))
structure eV (Rs:bp):Prop where
 ok:∀r∈Rs.tail,wg r
 hd:∃(a c d:List Str) (x:bp),Rs=(("S'":Str),[("S":Str)])::(("S":Str),a)::(("A":Str),c)::(("B":Str),d)::x∧x.length≤1∧Rs.Nodup
theorem eV.len (D:eV Rs):Rs.length≤5∧4≤Rs.length:=by
 obtain⟨a,c,d,x,e,lx,_⟩:=D.hd;subst e;show x.length+1+1+1+1≤5∧4≤x.length+1+1+1+1;exact⟨nW lx 4,lf _ _⟩
theorem eV.AL (D:eV Rs):Rs[0]? =aa (("S'":Str),[("S":Str)])∧bF Rs 1="S"∧bF Rs 2="A"∧bF Rs 3="B":=by
 obtain⟨a,c,d,x,e,lx,_⟩:=D.hd;subst e;exact(oQ rfl rfl rfl rfl)
theorem RU:∀{s:Str},s∈mK→s∈lD:=λ{s} h=>by
 exact(aV:∀s∈mK,s∈lD) s h
structure Vr (Rs:bp) (aN:Nat) (t:List Int) (j:Nat) (s:uT):Prop where
 g:GB (Rs.take (j+1)) s.h
 L:kT Rs qd s.N t s.h
 sl:s.h (gN aN)=aa (.list (Rs.tail.map di))
 lt:aN<s.N
 iE:∀a c,s.h (.mk 40 [a,c])=af
theorem Yg (D:eV Rs) (G:GB R0 h) (L:kT Rs qd N t h) (iE:∀a c,h (.mk 40 [a,c])=af) (fin:∀N h',GB Rs h'→kT Rs qd N t h'→(∀a c,h' (.mk 40 [a,c])=af)→SS (bL i (b+6)) tc h' [(bc 478).drop 5] Q):SS (bL i (b+6)) tc h [(bc 478).drop 4] Q:=by
 have len:=D.len;have sl:fg (Rs.map di) (aa 1) af=Rs.tail.map di:=by
  have:=Bn (vs:=Rs.map di) (j:=1) (by rw[aI _];exact ah (lf _ _) len.2);rw[←ah1,zN];exact this
 have k1:Kq [] N h (h.set (gN N) (.list (Rs.tail.map di))):=.new (au _);have tl:Rs.tail.length=Rs.length-1:=pq;have t0:Rs.take (0+1)=R0:=by rw[jK,D.AL.1];rfl
 refine eo (σ:=uT) (λ_=>tc) uT.h (λs j=>j≤Rs.tail.length∧Vr Rs N t j s) ⟨N+1,_⟩ (Rs.tail.map di) (d7 (Fd (n:=iS) (m:=gN N) n_ bG L.ru (by rw[aI _];unfold aZ;exact ah len.1 aJ) L.free.at sl) aR) ⟨cb _,t0▸G.eq k1.Gd,L.kq k1 (L.free.new [] _:br (h.set (gN N) (.list (Rs.tail.map di))) (N+1)),aR,dm _,λa c=>(k1.1 40 _ rfl).trans (iE a c)⟩ .rfl (λs j J=>d6 J.2.sl) (λs j v J e=>?_) (λs J=>aH (fin _ _ ?_ J.2.L J.2.iE))
 ·obtain⟨⟨hj,J⟩⟩:=P4 J trivial
  refine aj (dH e) λr hr ar=>?_;subst ar;obtain⟨a,ss⟩:=r;have GY:Rs[j+1]? =aa (a,ss):=by rw[←QM];exact hr
  refine jw (D.ok _ (bQ hr)) λo1 o2 o3=>?_;have tk:Rs.take (j+1+1)=Rs.take (j+1)++[(a,ss)]:=by rw[jK,GY];rfl
  have ii:=(cU.mp hr).1;have nd:(Rs.take (j+1+1)).Nodup:=by
   obtain⟨_,_,_,_,_,_,nd⟩:=D.hd;exact nd.sublist (Hs _ _)
  rw[tk,k_] at nd;have F:=J.L.free;have lt:=J.lt;have kl:Kq [] s.N s.h (s.h.set (gN s.N) (.list (ss.map .str))):=.new (au _);have Fl:br (s.h.set (gN s.N) (.list (ss.map .str))) (s.N+1):=F.new [] _;refine Hg (rE (de n_ (iL J.g.gr rfl) (i.K.keep rfl) (aB n_ (aB (b9 (i.K.ty rfl) rfl (aB n_ aL) (JH (n:=gN s.N) (vs:=ss.map .str) (by rw[aI _];unfold aZ;have:ss.length≤2:=o2;exact ah ‹_› aJ) F.at)) aL)) (Q3 (b:=b+3) rfl (J.g.eq kl.Gd) Fl o1 (VO o2 λs hs=>RU (o3 s hs)) o3 (λz=>nd.2.2 _ (List.mem_of_mem_tail z) _ (bU.mpr rfl) rfl) (by rw[jE];exact bf (ah6 _ _) (bK (ah7 (tl▸ii)) len.1)) aR (zp _ ([]) rfl (dm _))).cp) ?_);rintro v h' ⟨rfl,N',G',F',Lw,k',Fw⟩;refine aH (bN (LQ.next (⟨N',h'⟩:uT) ⟨ii,tk▸G',(J.L.kq (B'':=qd) kl Fl).kq k' F',(k'.2 _ _ (ah ‹_› (b7 _ _))).trans ((kl.2 _ _ lt).trans J.sl),by show N<N';exact bK lt (gd Lw),λa c=>(Fw a c).trans ((kl.1 40 _ rfl).trans (J.iE a c))⟩ (ai (ai (ai bt)))))
 ·have:Rs.take (Rs.tail.length+1)=Rs:=mX (Nat.le_add_of_sub_le (bH tl.symm))
  have g:=J.2.g;rw[aI,this] at g;exact g
theorem eV.at (D:eV Rs) (h0:0<j) (hj:j<Rs.length):wg (bF Rs j,aG Rs j):=D.ok _ (by
 have:=BO hj;refine bQ (i:=j-1) ?_;rw[QM,show j-1+1=j from by exact qG (sn h0)];exact this)
theorem eV.gr (D:eV Rs):GR Rs:=by
 have len:=D.len;obtain⟨e0,e1,e2,e3⟩:=D.AL;have n0:bF Rs 0="S'":=by unfold bF;rw[e0];rfl
 have r0:aG Rs 0=[("S":Str)]:=by unfold aG;rw[e0];rfl
 have bw:∀j,(aG Rs j).length≤2:=λj=>by
  rcases sv j with rfl|h0
  ·rw[r0];exact aJ
  ·by_cases hj:j<Rs.length
   ·exact(D.at h0 hj).2.1
   ·unfold aG;rw[lY (jr.mp ‹_›)];exact cb _
 refine⟨len.1,by exact lb (ah (lf _ _) len.2),n0,r0,?_,λj h0 hj=>?_,bw,λj s h0 hs=>?_,λs hs=>?_⟩
 ·refine ah (xi (k:=2) λx _=>by rw[aI _,dR];exact bw x) ?_
  rw[pq,dR];exact ah (qE _ (Qp len.1)) aJ
 ·have:=(D.at h0 hj).1
  simpa [a9] using this
 ·by_cases hj:j<Rs.length
  ·exact(D.at h0 hj).2.2 s hs
  ·unfold aG at hs;rw[lY (jr.mp ‹_›)] at hs;exact cS hs
 ·have:s="S"∨s="A"∨s="B":=by simpa using hs
  rcases this with rfl|rfl|rfl
  ·exact(cL 1 bj (lb (gd (gd len.2))) e1)
  ·exact(cL 2 bj (lb (gd len.2)) e2)
  ·exact(cL 3 bj (lb len.2) e3)
theorem Tl (D:eV Rs) (G:GB Rs h) (L:kT Rs qd N t h) (iE:∀a c,h (.mk 40 [a,c])=af) (fin:∀N h',GW Rs h'→kT Rs qd N t h'→(∀a c,h' (.mk 40 [a,c])=af)→SS (bL i (b+6)) tc h' [(bc 478).drop 6] Q):SS (bL i (b+6)) tc h [(bc 478).drop 5] Q:=by
 have g:=D.gr;refine rE (de n_ (iL G.gr rfl) (i.K.keep rfl) aL (Wv (b:=b+3) rfl G L.free ⟨g.xu,g.pL⟩ ⟨by exact lb (gd (gd D.len.2)),D.AL.2.1⟩ g.all).cp) ?_;rintro v h' ⟨rfl,N',G',F',Lw,k'⟩;exact fin N' h' G' (L.kq k' F') λa c=>(k'.1 40 _ rfl).trans (iE a c)
noncomputable def JK:SF:=[("tape",.ref cz),("rules",.ref iS),("grammar",.ref aX),("table",.ref dg)]
noncomputable def Cd:List Nat:=[70,71]++kQ++wi++tW
theorem Ri (D:eV Rs) (G:GW Rs h) (L:kT Rs qd N t h) (iE:∀a c,h (.mk 40 [a,c])=af) (fin:∀N c h',cX Rs (gG Rs) c N h'→iV Rs h'→(∀j,j<Rs.length→h' (.mk 43 [j])=aa (.list ((bq ((aG Rs j).length+1)).map λd=>ba (j,d))))→kT Rs Cd N t h'→SS (bL i (b+6)) JK h' [(bc 478).drop 7] Q):SS (bL i (b+6)) tc h [(bc 478).drop 6] Q:=by
 refine ku (nF (i.K.ref rfl) (i.K.keep rfl) (aB n_ (aB cx aL)) (Ui (b:=b) rfl D.gr ⟨by exact lb (gd (gd D.len.2)),D.AL.2.1⟩ G L.free (λk hk l=>L.ma k l ?_) iE).cp) ?_
 ·exact(aV:∀k∈yD,(99::qd).contains k=an) k hk
 ·rintro v h' ⟨rfl,c',N',T⟩
  exact SS.sub (fin N' c' h' T.w T.gr T.nH (L.kq T.kq T.w.tb.free)) (ai (ai (ai (ai bt))))
variable{c:Int} {cm:Nat}
theorem cX.ua {B:List Nat} (w:cX R U c N h) (a:Kq B N h h') (F:br h' M) (le:N≤M) (hB:autoParam (yY.all (λk=>!(99::B).contains k)=ab) bn):cX R U c M h':=by
 have ne:∀{x:Nat} {l':List Nat},yY.contains x=ab→h' (.mk x l')=h (.mk x l'):=λ{x l'} ha=>a.1 _ _ (by
  have:=db.mp hB _ (e9.mp ha)
  rwa [jI] at this)
 exact⟨⟨F,λq hq=>(cI ((ne rfl).trans (w.tb.it q hq).1) ((ne rfl).trans (w.tb.it q hq).2.1) ((ne rfl).trans (w.tb.it q hq).2.2)),λj hj=>by refine aj (w.tb.pr j hj) λx e l=>?_;exact(aT x ((ne rfl).trans e) l),(ne rfl).trans w.tb.tb,w.tb.hc,w.tb.hR,w.tb.hr⟩,
  w.ca.imp λT ⟨es,C⟩=>⟨es,C.mono a.2 le (λ_=>ne rfl) (ne rfl)⟩,w.hU⟩
structure bP (R:bp) (U:List (List aF)) (c:Int) (N:Nat) (t:List Int) (ps:List (Str×Str)) (cm:Nat) (h:SH):Prop where
 w:cX R U c N h
 gr:iV R h
 nH:∀j,j<R.length→h (.mk 43 [j])=aa (.list ((bq ((aG R j).length+1)).map λd=>ba (j,d)))
 tp:h cz=aa (.list (t.map .int))
 tl:t.length≤20
 ru:h iS=aa (.list (R.map di))
 co:h (gN cm)=aa (.list (ps.map pV))
 cl:cm<N
 pl:ps.length≤12
theorem bP.kq {B:List Nat} (S:bP R U c N t ps cm h) (a:Kq B N h h') (F:br h' M) (le:N≤M) (hB:autoParam ((yY.all (λk=>!(99::B).contains k) && rx.all (λk=>!(99::B).contains k) && !(99::B).contains 43 && !(99::B).contains 70 && !(99::B).contains 71)=ab) bn):bP R U c M t ps cm h':=by
 simp only[bR,jI] at hB;obtain⟨⟨⟨⟨h1,h2⟩,h3⟩,h4⟩,h5⟩:=hB;exact⟨S.w.ua a F le h1,S.gr.kq a h2,λj hj=>(a.1 _ _ h3).trans (S.nH j hj),(a.1 _ _ h4).trans S.tp,S.tl,(a.1 _ _ h5).trans S.ru,(a.2 _ _ S.cl).trans S.co,bK S.cl le,S.pl⟩
theorem eV.BK (D:eV Rs):Rs.filterMap gE ⊆ lw:=λp hp=>by
 refine aj (gP.mp hp) λr hr e=>?_;have h1:r.1∈(["A","B","S","S'"]:List Str):=by
  obtain⟨a,c,d,x,eR,_⟩:=D.hd;rw[eR] at hr;rcases dA.mp hr with rfl|hr
  ·exact aV
  ·have:=(D.ok r (by rw[eR];exact hr)).1
   have f:∀s∈a9,s∈(["A","B","S","S'"]:List Str):=aV;exact f _ this
 unfold gE at e
 split at e
 ·split at e
  ·next hs=>
   obtain rfl:=aU e;exact pY.mpr ⟨h1,(aV:∀s∈a9,s∈(["A","B","S"]:List Str)) _ hs⟩
  ·exact a8 e
 ·exact a8 e
theorem eV.two (D:eV Rs):∀r∈Rs,r.2.length≤2:=λr hr=>by
 obtain⟨a,c,d,x,eR,_⟩:=D.hd;rw[eR] at hr;rcases dA.mp hr with rfl|hr
 ·exact aJ
 ·exact(D.ok r (by rw[eR];exact hr)).2.1
noncomputable def OZ (cm:Nat):SF:=[("tape",.ref cz),("rules",.ref iS),("grammar",.ref aX),("table",.ref dg),("corners",.ref (gN cm))]
theorem Xt (D:eV Rs) (w:cX Rs (gG Rs) c N h) (gr:iV Rs h) (nH:∀j,j<Rs.length→h (.mk 43 [j])=aa (.list ((bq ((aG Rs j).length+1)).map λd=>ba (j,d)))) (L:kT Rs Cd N t h)
  (fin:∀N ps cm h',bP Rs (gG Rs) c N t ps cm h'→(∀p,p∈ps↔p∈Pj Rs 2)→jm Cd h'→SS (bL i (b+6)) (OZ cm) h' [(bc 478).drop 8] Q):SS (bL i (b+6)) JK h [(bc 478).drop 7] Q:=by
 refine ku (nF (i.K.ref rfl) (i.K.keep rfl) (aB n_ aL) (abz (b:=b+4) rfl L.ru D.len.1 D.two D.BK L.free).cp) ?_;rintro v h' ⟨s,rfl,rfl,J⟩;exact SS.sub (fin s.M s.ps s.m s.h ⟨w.ua J.kq J.free (ah J.le (cj J.lt):N≤s.M),gr.kq J.kq,λj hj=>(J.kq.1 _ _ rfl).trans (nH j hj),(J.kq.1 _ _ rfl).trans L.tp,L.tl,(J.kq.1 _ _ rfl).trans L.ru,J.at',J.lt,J.len⟩ J.mem (L.ma.kq J.kq)) (ai (ai (ai (ai (ai bt)))))
noncomputable def eC (R:bp) (j:Nat):List aF:=(bq j).flatMap λn=>(bq ((aG R n).length+1)).map λd=>(n,d)
noncomputable def GV:Expr:=mZ (stN (bc 478) 8)
theorem YT:ck (da (dC GV) (bE 478)) ["n","dot"]=ab:=by kernel_rfl
theorem w_la8:cW (da (dC GV) (bE 478)) ["range","len"]=ab:=by kernel_rfl
theorem aa8:oW (da (dC GV) (bE 478)) ["rules"]=ab:=by kernel_rfl
noncomputable def Kd (cm em:Nat):SF:=[("tape",.ref cz),("rules",.ref iS),("grammar",.ref aX),("table",.ref dg),("corners",.ref (gN cm)),("every",.ref (gN em))]
theorem D7 (g:GR R):(eC R j).length≤j*3:=by
 refine ah (xi (k:=3) λx _=>by rw[aI _,dR];have:=g.bw x;exact eE ‹_›) ?_;rw[dR];exact au _
theorem X8 (g:GR R) (S:bP R U c N t ps cm h)
  (fin:SS (bL i (b+6)) (Kd cm N) (h.set (gN N) (.list ((eC R R.length).map aM))) [(bc 478).drop 9] Q):SS (bL i (b+6)) (OZ cm) h [(bc 478).drop 8] Q:=by
 have len:=g.len;refine vb (acc:=gN N) (P:=λh'=>h'=h.set (gN N) (.list ((eC R R.length).map aM))) YT w_la8 (by kernel_rfl) (tq (n:=R.length) (b9 (i.K.ty rfl) rfl (aB (b9 (i.K.bi rfl) rfl (aB n_ aL) (by have:=oS (i:=bL i (b+6)) (.own S.ru) (by rw[aI _];exact bf ‹_› bj);rw[aI] at this;exact this)) aL) uh) (bf ‹_› bj)) S.w.tb.free.at ?_ λh' e=>e▸SS.sub fin (ai (ai (ai (ai (ai (ai bt))))));refine rS (σ:=Nat) (λj=>h.set (gN N) (.list ((eC R j).map aM))) (λs j=>s=j∧j≤R.length) 0 R.length ⟨rfl,cb _⟩ (λ_ _ e=>e.2) (λs j ⟨es,hj⟩=>(cL _ tU (λe=>?_) (λv e=>?_))) rfl rfl rfl
 ·subst es
  split at e
  ·exact fB e
  ·have:s=R.length:=qD hj (jr.mp ‹_›)
   rw[this]
 ·subst es
  split at e
  ·next hlt=>
   obtain rfl:=aU e;refine(s7 hlt _ ab (lU rfl) (gM rfl) yq (λe=>(iQ e)) (λ_=>?_));refine KV (kk:=.range 0 ((aG R s).length+1)) (ag:=h.set (gN N) (.list ((eC R s).map aM))) ?_ ?_ rfl rfl
   ·refine tq (n:=(aG R s).length+1) (b9 (i.K.ty rfl) rfl (aB (fH (b9 (i.K.bi rfl) rfl (aB (mj (j:=1) (wA (lL aa8) n_ ((λa=>(aq az).trans S.ru:∀a:List aF,(h.set (gN N) (.list (a.map aM))) iS=aa (.list (R.map di))) _) len hlt) bG bj rfl) aL) (CO (by rw[aI _];exact bf (g.bw s) bj))) bG ny) aL) (by rw[aI _];exact uh)) (by have:=g.bw s;exact ph (bf this bj))
   ·refine rS (σ:=Nat) (λd=>h.set (gN N) (.list ((eC R s++(bq d).map λd=>(s,d)).map aM))) (λd j=>d=j∧j≤(aG R s).length+1) 0 ((aG R s).length+1) ⟨rfl,cb _⟩ (λ_ _ e=>e.2) (λd j' ⟨ed,hd⟩=>(cL _ tU (λe=>?_) (λv e=>?_))) rfl rfl (by rw[List.range_zero,Dx,gO _])
    ·subst ed
     split at e
     ·exact fB e
     ·have:d=(aG R s).length+1:=qD hd (jr.mp ‹_›)
      refine(aT (s+1) ⟨rfl,hlt⟩ ?_);show h.set (gN N) (.list ((eC R (s+1)).map aM))=_;rw[this,show eC R (s+1)=eC R s++(bq ((aG R s).length+1)).map λd=>(s,d) from by unfold eC;rw[wZ,ah3];exact ay (_++·) (gO _)]
    ·subst ed
     split at e
     ·next hlt2=>
      obtain rfl:=aU e;refine(s7 hlt2 _ ab (lU rfl) (gM rfl) yq (λe=>(iQ e)) (λ_=>?_));refine pJ (EV.ep (eY (aB n_ (aB n_ aL)))) ?_;rintro v h1 ⟨rfl,rfl⟩;refine(nQ _ aR ?_ (d+1) ⟨rfl,hlt2⟩ ?_)
      ·rw[aI _,cT,aI _,dR]
       exact ah (fp (D7 (j:=s) g) (ah hd (eE (g.bw s)))) (ah (nW (qE 3 (ah hj len)) 3) aJ)
      ·show h.set (gN N) (.list ((eC R s++(bq (d+1)).map λd=>(s,d)).map aM))=_
       rw[iD,wZ,dM (l₁:=bq d),←wL,dM (l₂:=H_ _ [d])];rfl
     ·exact a8 e
  ·exact a8 e
variable{ch:List aF} {em:Nat}
theorem bP.aa4 {t':List Int} (S:bP R U c N t ps cm h) (tl:t'.length≤20):bP R U c N t' ps cm (h.set cz (.list (t'.map .int))):=by
 have S':=S.kq (B:=[71,70].tail.tail) (M:=N) (h':=h) .same S.w.tb.free (au _);refine⟨S.w.ua (B:=[70]) (.set rfl) (S.w.tb.free.same λ_ _ _=>aq az) (au _),S.gr.kq (B:=[70]) (N:=N) (.set rfl),λj hj=>(aq az).trans (S.nH j hj),aR,tl,(aq az).trans S.ru,(aq az).trans S.co,S.cl,S.pl⟩
noncomputable def lsN:Nm:=.mk 73 []
noncomputable def c9 (j:Nat):Nm:=.mk 72 [j]
theorem Cf {j:Nat}:q∈eC R j↔q.1<j∧q.2≤(aG R q.1).length:=by
 unfold eC;rw[propext sA]
 constructor
 ·rintro⟨a,ha,h⟩
  refine aj (bD.mp h) λd hd ar=>?_;subst ar;exact⟨dQ.mp ha,eQ (dQ.mp hd)⟩
 ·rintro⟨h1,h2⟩
  exact(aT q.1 (dQ.mpr h1) (bD.mpr (aT q.2 (dQ.mpr (kY h2)) rfl)))
theorem Ng:aM q∈I.map aM↔q∈I:=⟨λh=>by refine aj (bD.mp h) λp a c=>?_;exact xK c▸a,λh=>bD.mpr (aT _ h rfl)⟩
theorem xX:∀{l:List aF},eH 6 (l.map aM)=ab
 |[]=>rfl
 |p::r=>by
  show(SV.data 6 (aM p) && eH 6 (r.map aM))=ab;rw[xX,HZ _];rfl
structure xG where
 t:List Int
 ch:List aF
 h:SH
structure Ch (R:bp) (N:Nat) (aA:SH) (J:Nat) (em:Nat) (j:Nat) (s:xG):Prop where
 ch:s.h (c9 J)=aa (.list (s.ch.map aM))
 nd:s.ch.Nodup
 ok:∀q∈s.ch,cY R q
 len:s.ch.length≤j
 tp:s.h cz=aa (.list (s.t.map .int))
 tl:s.t.length≤20
 ev:s.h (gN em)=aa (.list ((eC R R.length).map aM))
 same:∀x,x≠cz→x≠c9 J→s.h x=aA x
noncomputable def pB (cm em:Nat):SF:=[("tape",.ref cz),("rules",.ref iS),("grammar",.ref aX),("table",.ref dg),("corners",.ref (gN cm)),("every",.ref (gN em)),("lists",.ref lsN)]
noncomputable def xc (cm em J:Nat):SF:=[("tape",.ref cz),("rules",.ref iS),("grammar",.ref aX),("table",.ref dg),("corners",.ref (gN cm)),("every",.ref (gN em)),("lists",.ref lsN),("chosen",.ref (c9 J))]
theorem XI (g:GR R) {J:Nat} {s:xG} (C:Ch R N aA J em j s) (hj:j<3) (fin:∀s',Ch R N aA J em (j+1) s'→SS (bL i (b+6)) (xc cm em J) s'.h k Q):
  SS (bL i (b+6)) ((xc cm em J).put "_" v) s.h (eu (stN (eu (stN (bc 478) 10)) 1)::k) Q:=by
 obtain⟨t,ch,h⟩:=s;have tl:=C.tl;have al:=D7 (j:=R.length) g;have len:=g.len;have a0:0< (eC R R.length).length:=List.length_pos_of_mem (Cf.mpr ⟨g.pos,cb _⟩:((0,0):aF)∈eC R R.length);generalize hL:(eC R R.length).length=L at al a0;have mL:gy t % (L:Int)=((gy t % (L:Int)).toNat:Int):=yH a0;have GN:(gy t % (L:Int)).toNat<L:=u9 a0;generalize (gy t % (L:Int)).toNat=x at mL GN;obtain⟨q,hq⟩:∃q,(eC R R.length)[x]? =aa q:=⟨_,fb (by rw[hL];exact GN)⟩;have xh:(h.set cz (.list (t.tail.map .int))) (gN em)=aa (.list ((eC R R.length).map aM)):=(aq az).trans C.ev;have cl:CP (bL i (b+6)) (h.set cz (.list (t.tail.map .int))) (.bi "len") [.ref (gN em)] (is (.int L) (h.set cz (.list (t.tail.map .int)))):=by
  have:=oS (i:=bL i (b+6)) (.own xh) (by rw[aI _,hL];exact bf al (bf (qE _ len) bj));rw[aI,hL] at this;exact this
 refine bO (v:=aM q) (mM (j:=x) n_ (fH (b9 (i.K.ref rfl) (i.K.keep rfl) (aB n_ aL) (vz (b:=b+5) rfl C.tp tl).cp) (b9 (i.K.bi rfl) rfl (aB n_ aL) cl) (mL▸sL (h9.mpr a0))) (.own xh) (bK GN (ah al (ah (qE _ len) aJ))) (by rw[dq,hq];rfl)) ?_;have yJ:(h.set cz (.list (t.tail.map .int))) (c9 J)=aa (.list (ch.map aM)):=(aq az).trans C.ch;have vL:(h.set cz (.list (t.tail.map .int))) cz=aa (.list (t.tail.map .int)):=aR;have Em:∀x,x≠cz→x≠c9 J→(h.set cz (.list (t.tail.map .int))) x=aA x:=λx h1 h2=>(aq h1).trans (C.same x h1 h2);have Ej:ch.length≤j:=C.len;have MZ:t.tail.length≤20:=by rw[pq];dsimp only at tl;exact ah (kh _ _) ‹_›
 have nd:ch.Nodup:=C.nd;have ok:∀q∈ch,cY R q:=C.ok;clear cl C mL;generalize h.set cz (.list (t.tail.map .int))=h1 at xh yJ vL Em ⊢;refine GZ (c:=!decide (aM q∈ch.map aM)) (ag:=h1) ?_ (λe=>?_) (λe=>?_)
 ·exact bv n_ n_ (B5 (.own yJ) xX rfl)
 ·have hn:q∉ch:=λz=>by rw[eP (Ng.mpr z)] at e;exact cJ e
  refine fF (de n_ (ga yJ) rfl (aB n_ aL) (fU yJ (by rw[aI _];unfold aZ;exact cj (bf Ej (bK hj aJ))))) (aH (aH (SS.sub (d_:=xc cm em J) ?_ (ai (ai (ai (ai (ai (ai (ai (ai bt)))))))))));refine fin ⟨t.tail,ch++[q],h1.set (c9 J) (.list (ch.map aM++[aM q]))⟩ ⟨(aR.trans (by rw[dM];rfl):(h1.set (c9 J) (.list (ch.map aM++[aM q]))) (c9 J)=aa (.list ((ch++[q]).map aM))),?_,λp hp=>?_,by show(ch++[q]).length≤j+1;rw[cT];exact eE Ej,((aq az).trans vL:(h1.set (c9 J) (.list (ch.map aM++[aM q]))) cz=aa (.list (t.tail.map .int))),MZ,((aq az).trans xh:(h1.set (c9 J) (.list (ch.map aM++[aM q]))) (gN em)=aa (.list ((eC R R.length).map aM))),(λx h1 h2=>(aq h2).trans (Em x h1 h2):∀x,x≠cz→x≠c9 J→(h1.set (c9 J) (.list (ch.map aM++[aM q]))) x=aA x)⟩
  ·rw[propext k_]
   exact(cI nd (kf _ _) (λa ha b hb e=>hn (by rw[bU.mp hb] at e;exact e▸ha)))
  ·rcases du.mp hp with hp|hp
   ·exact ok p hp
   ·rw[bU.mp hp];exact(Cf.mp (bQ hq))
 ·refine aH (aH (SS.sub (d_:=xc cm em J) (fin ⟨t.tail,ch,h1⟩ ⟨yJ,nd,ok,c7 Ej,vL,MZ,xh,Em⟩) (ai (ai (ai (ai (ai (ai (ai (ai bt))))))))))
variable{K:Nat} {Ls:List (Nm×List aF)}
structure BX (R:bp) (N K:Nat) (h:SH) (p:Nm×List aF):Prop where
 own:h p.1=aa (.list (p.2.map aM))
 nd:p.2.Nodup
 len:p.2.length≤3
 ok:∀q∈p.2,cY R q
 nm:(∃k,k<N∧p.1=gN k)∨∃j,j<K∧p.1=c9 j
structure u6 (R:bp) (em N:Nat) (Ls:List (Nm×List aF)) (h:SH):Prop where
 ev:h (gN em)=aa (.list ((eC R R.length).map aM))
 el:em<N
 ls:h lsN=aa (.list (Ls.map λp=>.ref p.1))
 each:∀p∈Ls,BX R N Ls.length h p
 fr:∀j,Ls.length≤j→h (c9 j)=af
theorem Vh (g:GR R) (S:bP R U c N t ps cm h) (o:jm Cd h) (em:Nat) (uL:em<N) (ev:h (gN em)=aa (.list ((eC R R.length).map aM)))
  (fin:∀h' Ls,bP R U c (N+2) t ps cm h'→u6 R em (N+2) Ls h'→Ls.length=2→h' (.mk 74 [])=af→SS (bL i (b+6)) (pB cm em) h' [(bc 478).drop 10] Q):SS (bL i (b+6)) (Kd cm em) h [(bc 478).drop 9] Q:=by
 have F:=S.w.tb.free;have F1:br (h.set (gN N) (.list [])) (N+1):=F.new [] _;have F2:br ((h.set (gN N) (.list [])).set (gN (N+1)) (.list [aM (0,0)])) (N+2):=F1.new [] _;have k2:Kq [] N h ((h.set (gN N) (.list [])).set (gN (N+1)) (.list [aM (0,0)])):=(Kq.same.at' (au _)).at' (bT _);have S2:=S.kq k2 F2 (b7 _ _);have o2:=o.kq k2;have e0:((h.set (gN N) (.list [])).set (gN (N+1)) (.list [aM (0,0)])) (gN N)=aa (.list []):=(aq (kD (by exact dp (dm _)))).trans aR;have e1:((h.set (gN N) (.list [])).set (gN (N+1)) (.list [aM (0,0)])) (gN (N+1))=aa (.list [aM (0,0)]):=aR;have Jk:((h.set (gN N) (.list [])).set (gN (N+1)) (.list [aM (0,0)])) (gN em)=aa (.list ((eC R R.length).map aM)):=(k2.2 em [] uL).trans ev;refine bO (ey (n:=lsN) (aB (ey (n:=gN N) aL F.at) (aB (ey (n:=gN (N+1)) (aB (eY (aB bG (aB bG aL))) aL) F1.at) aL)) (o2.at (a:=73))) ?_;refine SS.sub (d_:=pB cm em) ?_ (ai (ai (ai (ai (ai (ai (ai bt)))))));refine(?_:SS _ _ (SH.set (SH.set (SH.set h (gN N) (.list [])) (gN (N+1)) (.list [aM (0,0)])) lsN _) _ _);generalize (h.set (gN N) (.list [])).set (gN (N+1)) (.list [aM (0,0)])=h2 at F2 k2 S2 o2 e0 e1 Jk ⊢;refine fin _ [(gN N,[]),(gN (N+1),[(0,0)])] (S2.kq (.set rfl:Kq [73] (N+2) h2 (h2.set lsN (.list [.ref (gN N),.ref (gN (N+1))]))) (F2.same λ_ _ _=>aq az) (au _)) ⟨(aq az).trans Jk,by exact ah ‹_› (b7 _ _),aR,λp hp=>?_,λj _=>(aq az).trans (o2.at (a:=72))⟩ rfl ((aq az).trans (o2.at (a:=74)));rcases dA.mp hp with rfl|hp
 ·exact⟨(aq az).trans e0,.nil,cb _,λ_ z=>(by exact cS z),.inl (aT N (by exact bT _) rfl)⟩
 ·rw[bU.mp hp]
  exact⟨(aq (n:=lsN) (x:=gN (N+1)) az).trans e1,kf _ _,lf 1 2,λq hq=>by rw[bU.mp hq];exact⟨g.pos,cb _⟩,.inl (aT (N+1) (by exact au _) rfl)⟩
theorem bP.XU {t':List Int} (S:bP R U c N t ps cm h) (a:Kq [70,72] N h h') (F:br h' N) (tp:h' cz=aa (.list (t'.map .int))) (tl:t'.length≤20):bP R U c N t' ps cm h':=
 ⟨S.w.ua a F (au _),S.gr.kq a,λj hj=>(a.1 _ _ rfl).trans (S.nH j hj),tp,tl,(a.1 _ _ rfl).trans S.ru,(a.2 _ _ S.cl).trans S.co,S.cl,S.pl⟩
structure x0 where
 t:List Int
 Ls:List (Nm×List aF)
 h:SH
structure Hh (R:bp) (U:List (List aF)) (c:Int) (N:Nat) (ps:List (Str×Str)) (cm em:Nat) (m:Nat) (s:x0):Prop where
 S:bP R U c N s.t ps cm s.h
 I:u6 R em N s.Ls s.h
 ox:s.h (.mk 74 [])=af
 bw:m+s.Ls.length=4
theorem Vv (g:GR R) {s:x0} (J:Hh R U c N ps cm em (m+1) s) (fin:∀s',Hh R U c N ps cm em m s'→SS (bL i (b+6)) (pB cm em) s'.h k Q):
  SS (bL i (b+6)) (pB cm em) s.h (eu (stN (bc 478) 10)::k) Q:=by
 obtain⟨t,Ls,h⟩:=s;have S:bP R U c N t ps cm h:=J.S;have I:u6 R em N Ls h:=J.I;have bw:m+1+Ls.length=4:=J.bw;refine bO (ey (n:=c9 Ls.length) aL (I.fr _ (au _):h (c9 Ls.length)=af)) ?_;have S1:bP R U c N t ps cm (h.set (c9 Ls.length) (.list [])):=S.kq (B:=[72]) (.set rfl) (S.w.tb.free.same λ_ _ _=>aq az) (au _);have S2:=S1.aa4 (t':=t.tail) (by rw[pq];have:=S.tl;exact ah (kh _ _) ‹_›);have c0:((h.set (c9 Ls.length) (.list [])).set cz (.list (t.tail.map .int))) (c9 Ls.length)=aa (.list []):=(aq az).trans aR;have RA:((h.set (c9 Ls.length) (.list [])).set cz (.list (t.tail.map .int))) (gN em)=aa (.list ((eC R R.length).map aM)):=(aq az).trans ((aq az).trans I.ev);have m3:(1:Int)+gy t % 3=((1+sS (gy t):Nat):Int):=by rw[Kg];exact(Int.natCast_add 1 _).symm
 have l3:=DK (x:=gy t);refine eo (σ:=xG) (λ_=>xc cm em Ls.length) xG.h (λs j=>Ch R N ((h.set (c9 Ls.length) (.list [])).set cz (.list (t.tail.map .int))) Ls.length em j s) ⟨t.tail,[],(h.set (c9 Ls.length) (.list [])).set cz (.list (t.tail.map .int))⟩ ((bq (1+sS (gy t))).map λj:Nat=>SV.int j) (tq (n:=1+sS (gy t)) (b9 (i.K.ty rfl) rfl (aB (fH bG (fH (b9 (i.K.ref rfl) (i.K.keep rfl) (aB n_ aL) (vz (b:=b+5) rfl S1.tp S1.tl).cp) bG (sL aV)) (m3▸ny)) aL) uh) (bf (eZ (cj l3) _) bj)) (⟨c0,.nil,λ_ z=>(cS z),au _,S2.tp,S2.tl,RA,λ_ _ _=>rfl⟩:Ch R N ((h.set (c9 Ls.length) (.list [])).set cz (.list (t.tail.map .int))) Ls.length em 0 ⟨t.tail,[],(h.set (c9 Ls.length) (.list [])).set cz (.list (t.tail.map .int))⟩) (ai (ai (ai (ai (ai (ai (ai (ai bt)))))))) (λs j J=>tU.trans ?_) (λs j v J e=>?_) (λs C=>aH ?_)
 ·rw[dq]
  by_cases hj:j<1+sS (gy t)
  ·rw[aO hj,wY hj];rfl
  ·rw[aK hj,lY (by rw[dR];exact jr.mp ‹_›)];rfl
 ·have hj:=(cU.mp e).1
  rw[aI,dR] at hj;exact dV (XI (v:=v) g J (bK hj (ah (eZ (eQ l3) _) aJ)) λs' J'=>bN (LQ.next (s':xG) J' .rfl))
 ·obtain⟨t',ch,h3⟩:=s
  have C':∀x,x≠cz→x≠c9 Ls.length→h3 x=h x:=λx h1 h2=>(C.same x h1 h2).trans ((aq h1).trans (aq h2));have Rk:h3 (c9 Ls.length)=aa (.list (ch.map aM)):=C.ch;have Ctp:h3 cz=aa (.list (t'.map .int)):=C.tp;have WH:h3 (gN em)=aa (.list ((eC R R.length).map aM)):=C.ev;have Nc:h3 lsN=aa (.list (Ls.map λp=>.ref p.1)):=(C' _ az az).trans I.ls;have kq:Kq [70,72] N h h3:=⟨λk l hk=>C' _ (λz=>by injection z with z;exact iy hk (a:=70) rfl z) λz=>by injection z with z;exact iy hk (a:=72) rfl z,λk l _=>C' _ az az⟩;have F3:br h3 N:=S.w.tb.free.same λk l _=>C' _ az az;have S3:bP R U c N t' ps cm h3:=S.XU kq F3 Ctp C.tl;have cl:ch.length≤3:=by have:=C.len;rw[aI,dR] at this;dsimp only at this;exact ah this (ah (eZ (eQ l3) _) aJ)
  refine fF (de n_ (ga Nc) rfl (aB n_ aL) (fU Nc (by rw[aI _];unfold aZ;exact ah (ah (lf _ _) (bH bw)) aJ))) (aH ?_);refine SS.sub (d_:=pB cm em) ?_ (ai (ai (ai (ai (ai (ai (ai bt)))))));have ll:(Ls++[(c9 Ls.length,ch)]).length=Ls.length+1:=cT;refine fin ⟨t',Ls++[(c9 Ls.length,ch)],h3.set lsN (.list ((Ls.map λp=>SV.ref p.1)++[.ref (c9 Ls.length)]))⟩ ⟨(S3.kq (B:=[73]) (.set rfl) (F3.same λ_ _ _=>aq az) (au _):bP R U c N t' ps cm (h3.set lsN (.list ((Ls.map λp=>SV.ref p.1)++[.ref (c9 Ls.length)])))),⟨((aq az).trans WH:(h3.set lsN (.list ((Ls.map λp=>SV.ref p.1)++[.ref (c9 Ls.length)]))) (gN em)=aa (.list ((eC R R.length).map aM))),I.el,(aR.trans (by rw[dM];rfl):(h3.set lsN (.list ((Ls.map λp=>SV.ref p.1)++[.ref (c9 Ls.length)]))) lsN=aa (.list ((Ls++[(c9 Ls.length,ch)]).map λp=>SV.ref p.1))),λp hp=>?_,λj hj=>?_⟩,((aq az).trans ((C' _ az az).trans J.ox):(h3.set lsN (.list ((Ls.map λp=>SV.ref p.1)++[.ref (c9 Ls.length)]))) (.mk 74 [])=af),by show m+(Ls++[(c9 Ls.length,ch)]).length=4;rw[ll];exact(ur m Ls.length 1).trans bw⟩
  ·rcases du.mp hp with hp|hp
   ·have E:=I.each p hp
    have nn:p.1≠lsN∧p.1≠cz∧p.1≠c9 Ls.length:=by
     rcases E.nm with⟨x,_,e⟩|⟨x,hx,e⟩
     ·rw[e];exact(cI az az az)
     ·rw[e];exact(cI az az (λz=>by injection z with _ z;injection z with z;exact dp ‹_› ‹_›))
    exact⟨(aq nn.1).trans ((C' _ nn.2.1 nn.2.2).trans E.own),E.nd,E.len,E.ok,E.nm.imp id λ⟨x,hx,e⟩=>⟨x,by rw[ll];exact ah ‹_› (b7 _ _),e⟩⟩
   ·rw[bU.mp hp]
    exact⟨((aq az).trans Rk:(h3.set lsN (.list ((Ls.map λp=>SV.ref p.1)++[.ref (c9 Ls.length)]))) (c9 Ls.length)=aa (.list (ch.map aM))),C.nd,cl,C.ok,.inr (aT Ls.length (by rw[ll];exact au _) rfl)⟩
  ·have hj:Ls.length+1≤j:=by rw[←ll];exact hj
   exact(λj hj=>(aq az).trans ((C' _ az λz=>by injection z with _ z;injection z with z;exact dF ‹_› ‹_›).trans (I.fr j (cj ‹_›))):∀j,Ls.length+1≤j→(h3.set lsN (.list ((Ls.map λp=>SV.ref p.1)++[.ref (c9 Ls.length)]))) (c9 j)=af) j hj
theorem XS (g:GR R) (S:bP R U c N t ps cm h) (I:u6 R em N Ls h) (l2:Ls.length=2) (ox:h (.mk 74 [])=af)
  (fin:∀t h' Ls,bP R U c N t ps cm h'→u6 R em N Ls h'→Ls.length≤4→h' (.mk 74 [])=af→SS (bL i (b+6)) (pB cm em) h' [(bc 478).drop 11] Q):SS (bL i (b+6)) (pB cm em) h [(bc 478).drop 10] Q:=by
 refine rR (σ:=x0) (λ_=>pB cm em) x0.h (λs m=>Hh R U c N ps cm em m s) ⟨t,Ls,h⟩ 2 ⟨S,I,ox,ay (2+·) l2⟩ .rfl (λs m J=>?_);have bw:=J.bw;have tl:=J.S.tl;refine(mB (!(s.t.map SV.int).isEmpty && decide (((s.Ls.length:Nat):Int) <4)) s.h ?_ (λe=>aH (fin _ _ _ J.S J.I (ah (lf _ _) (bH bw)) J.ox)) (λe=>?_))
 ·have ll:CP (bL i (b+6)) s.h (.bi "len") [.ref lsN] (is (.int s.Ls.length) s.h):=by
   have:=oS (i:=bL i (b+6)) (.own J.I.ls) (by rw[aI _];exact bf (ah (lf _ _) (bH bw)) bj)
   rwa [aI] at this
  cases z:!(s.t.map SV.int).isEmpty with
  |false=>exact oE (z▸p_ n_ (lO (.own J.S.tp) (by rw[aI _];exact bf ‹_› bj)))
  |true=>rw[ahz _];exact lQ (ag:=s.h) (z▸p_ n_ (lO (.own J.S.tp) (by rw[aI _];exact bf ‹_› bj))) (Oe (bv (b9 (i.K.bi rfl) rfl (aB n_ aL) ll) bG y5))
 ·rw[bR] at e
  have:(s.Ls.length:Int) <4:=fD e.2;obtain⟨m',rfl⟩:∃m',m=m'+1:=⟨m-1,(qG (nU λz=>dp (h9.mp this) ((mP _).symm.trans (z▸bw)))).symm⟩;exact Vv g J λs' J'=>bN (LQ.next (s':x0) (aT m' (dm _) J') .rfl)
variable{J:List aF} {ad bg:List Nat} {U':List (List aF)}
theorem cX.up (w:cX R U c N h) (hU:U ⊆ U') (hl:U'.length≤2000000):cX R U' c N h:=
 ⟨w.tb,w.ca.imp λT ⟨es,C⟩=>⟨es,C.ca,C.nd,λk v e=>(C.ent k v e).imp id λ⟨I,hI,r⟩=>⟨I,hU hI,r⟩,C.heap,C.node,C.root,C.up⟩,hl⟩
theorem eU.reach {k:Nat} {J J':List aF} (C:eU R k J ad J' bg) (P:Nat→Prop) (step:∀y,P y→∀z∈dN R (y,0),P z):(∀q∈J,∀y∈dN R q,P y)→(∀y∈ad,P y)→∀y∈bg,P y:=by
 induction C with
 |done=>exact λ_ h=>h
 |@step k J J' ad bg q e w ih=>
  intro hJ ha;refine g9 (Bb (dN R q) J ad) λx ex h1 h2 h3=>?_;rw[ex] at ih;have hx:∀y∈x,P y:=λy hy=>hJ q (bQ e) y (h2 y hy);refine ih (λp hp y hy=>?_) (λy hy=>?_)
  ·rcases du.mp hp with hp|hp
   ·exact hJ p hp y hy
   ·refine aj (bD.mp hp) λa ha' ar=>?_;subst ar
    exact step a (hx a ha') y hy
  ·rcases du.mp hy with hy|hy
   ·exact ha y hy
   ·exact hx y hy
theorem yB {y:Nat}:y∈dN R q↔∃s,(aG R q.1)[q.2]? =aa s∧y<R.length∧y≠0∧bF R y=s:=by
 unfold dN
 split
 ·next e=>exact⟨λh=>(cS h),λ⟨s,h,_⟩=>(by rw[e] at h;exact a8 h)⟩
 ·next s e=>
  rw[propext mU,propext dQ,bR _ _,propext hH,propext hH];exact⟨λ⟨a,b,c⟩=>⟨s,e,a,b,c⟩,λ⟨t,e',a,b,c⟩=>(by rw[e] at e';obtain rfl:=aU e';exact⟨a,b,c⟩)⟩
theorem Hk {s:Str}:s∈e6 R I↔∃q∈I,(aG R q.1)[q.2]? =aa s:=gP
theorem xW {n:Nat}:n∈iW R ps I↔n<R.length∧∃s∈e6 R I,s=bF R n∨(s,bF R n)∈ps:=by
 unfold iW;rw[propext mU,propext dQ,propext afn];refine and_congr Iff.rfl (exists_congr λs=>and_congr Iff.rfl ?_);unfold oJ;rw[Dz _ _,propext hH,propext hH]
noncomputable def rowM (r0 r1 r2 m0 m1 m2:Bool):Bool:=r0 && m0||(r1 && m1||r2 && m2)
noncomputable def V4 (r0 r1 r2 a0 a1 a2 b0 b1 b2 c0 c1 c2:Bool):Bool:=
 let s0:=r0||rowM r0 r1 r2 a0 b0 c0;let s1:=r1||rowM r0 r1 r2 a1 b1 c1;let s2:=r2||rowM r0 r1 r2 a2 b2 c2
 let A0:=a0||rowM a0 a1 a2 a0 b0 c0;let A1:=a1||rowM a0 a1 a2 a1 b1 c1;let A2:=a2||rowM a0 a1 a2 a2 b2 c2
 let B0:=b0||rowM b0 b1 b2 a0 b0 c0;let B1:=b1||rowM b0 b1 b2 a1 b1 c1;let B2:=b2||rowM b0 b1 b2 a2 b2 c2
 let C0:=c0||rowM c0 c1 c2 a0 b0 c0;let C1:=c1||rowM c0 c1 c2 a1 b1 c1;let C2:=c2||rowM c0 c1 c2 a2 b2 c2
 let t0:=s0||rowM s0 s1 s2 A0 B0 C0;let t1:=s1||rowM s0 s1 s2 A1 B1 C1;let t2:=s2||rowM s0 s1 s2 A2 B2 C2
 (!rowM t0 t1 t2 a0 b0 c0||t0) && (!rowM t0 t1 t2 a1 b1 c1||t1) && (!rowM t0 t1 t2 a2 b2 c2||t2)
theorem X6:∀r0 r1 r2 a0 a1 a2 b0 b1 b2 c0 c1 c2:Bool,V4 r0 r1 r2 a0 a1 a2 b0 b1 b2 c0 c1 c2=ab:=by
 decide +kernel
noncomputable def dj (R:bp) (j:Nat) (x z:Str):Bool:=decide ((x,z)∈Pj R j)
theorem Mb (hC:R.filterMap gE ⊆ lw) {x z:Str}:dj R (j+1) x z=(dj R j x z||rowM (dj R j x "A") (dj R j x "B") (dj R j x "S") (dj R j "A" z) (dj R j "B" z) (dj R j "S" z)):=by
 have:(x,z)∈sq (Pj R j)↔((x,("A":Str))∈Pj R j∧(("A":Str),z)∈Pj R j)∨((x,("B":Str))∈Pj R j∧(("B":Str),z)∈Pj R j)∨((x,("S":Str))∈Pj R j∧(("S":Str),z)∈Pj R j):=by
  rw[propext xB]
  constructor
  ·rintro⟨y,a,c⟩
   have hy:y="A"∨y="B"∨y="S":=by simpa using (pY.mp (rT hC a)).2
   rcases hy with rfl|rfl|rfl
   ·exact .inl ⟨a,c⟩
   ·exact .inr (.inl ⟨a,c⟩)
   ·exact .inr (.inr ⟨a,c⟩)
  ·rintro(⟨a,c⟩|⟨a,c⟩|⟨a,c⟩)<;>exact(aT _ a c)
 unfold dj rowM;rw[Pj,propext Qb];simp only[Dz,bR,hH,du,this]
theorem Vt (hC:R.filterMap gE ⊆ lw) {x y z:Str} (h1:(x,y)∈Pj R 2) (h2:(y,z)∈Pj R 0):(x,z)∈Pj R 2:=by
 have key:((!rowM (dj R 2 x "A") (dj R 2 x "B") (dj R 2 x "S") (dj R 0 "A" "A") (dj R 0 "B" "A") (dj R 0 "S" "A")||dj R 2 x "A") && (!rowM (dj R 2 x "A") (dj R 2 x "B") (dj R 2 x "S") (dj R 0 "A" "B") (dj R 0 "B" "B") (dj R 0 "S" "B")||dj R 2 x "B") && (!rowM (dj R 2 x "A") (dj R 2 x "B") (dj R 2 x "S") (dj R 0 "A" "S") (dj R 0 "B" "S") (dj R 0 "S" "S")||dj R 2 x "S"))=ab:=by
  simp only[(λx z=>Mb (j:=1) hC:∀x z,dj R 2 x z=_),(λx z=>Mb (j:=0) hC:∀x z,dj R 1 x z=_)];exact X6 (dj R 0 x "A") (dj R 0 x "B") (dj R 0 x "S") (dj R 0 "A" "A") (dj R 0 "A" "B") (dj R 0 "A" "S") (dj R 0 "B" "A") (dj R 0 "B" "B") (dj R 0 "B" "S") (dj R 0 "S" "A") (dj R 0 "S" "B") (dj R 0 "S" "S")
 have hy:y="A"∨y="B"∨y="S":=by simpa using (pY.mp (rT hC h1)).2
 have hz:z="A"∨z="B"∨z="S":=by simpa using (pY.mp (rT hC h2)).2
 have d1:dj R 2 x y=ab:=eP h1;simp only[bR,Dz,jI] at key;obtain⟨⟨k1,k2⟩,k3⟩:=key;have row:∀z,dj R 0 y z=ab→rowM (dj R 2 x "A") (dj R 2 x "B") (dj R 2 x "S") (dj R 0 "A" z) (dj R 0 "B" z) (dj R 0 "S" z)=ab:=λz hz=>by
  unfold rowM;rcases hy with rfl|rfl|rfl
  ·rw[d1,hz];rfl
  ·rw[d1,hz];simp
  ·rw[d1,hz];simp
 have hr:=row z (eP h2:dj R 0 y z=ab);refine fD (?_:dj R 2 x z=ab);rcases hz with rfl|rfl|rfl
 ·exact k1.resolve_left (by rw[hr];exact aV)
 ·exact k2.resolve_left (by rw[hr];exact aV)
 ·exact k3.resolve_left (by rw[hr];exact aV)
variable{x:Str}
theorem I3 {a b:Str}:(a,b)∈Pj R 0↔∃j,j<R.length∧bF R j=a∧(aG R j)[0]? =aa b∧b∈a9:=by
 unfold Pj;rw[propext gP];have f:∀{r:Str×List Str},gE r=aa (a,b)↔r.1=a∧r.2[0]? =aa b∧b∈a9:=λ{r}=>by
  obtain⟨x,ss⟩:=r;unfold gE
  cases ss with
  |nil=>exact⟨λz=>(by(first|exact a8 z|obtain rfl:=aU z)),λ⟨_,z,_⟩=>(by(first|exact a8 z|obtain rfl:=aU z))⟩
  |cons s t=>
   dsimp only
   by_cases hs:s∈a9
   ·rw[aO hs]
    exact⟨λz=>(by cases z;exact⟨rfl,rfl,hs⟩),λ⟨z1,z2,_⟩=>(by
     rw[ah8] at z2
     cases z2;exact ay (λy=>aa (y,b)) z1)⟩
   ·rw[aK hs]
    exact⟨λz=>(a8 z),λ⟨_,z,w⟩=>(by
     rw[ah8] at z;obtain rfl:=aU z;exact bd w hs)⟩
 constructor
 ·rintro⟨r,hr,e⟩
  obtain⟨j,hj,rfl⟩:=List.getElem_of_mem hr;have e1:=BO hj;rw[fb hj] at e1;rw[(aU e1)] at e;refine jw (f.mp e) λz1 z2 z3=>?_;exact(ik j hj z1 z2 z3)
 ·rintro⟨j,hj,z1,z2,z3⟩
  exact(aT _ (bQ (BO hj)) (f.mpr (cI z1 z2 z3)))
theorem YS:∀{s:Str},s∈a9→s≠"S'":=λ{s} h=>by
 exact(aV:∀s∈a9,s≠"S'") s h
theorem Uh:∀{s:Str},s∈e8→s≠"S'":=λ{s} h=>by
 exact(aV:∀s∈e8,s≠"S'") s h
theorem Pb (D:eV R) (ej:∀p,p∈ps↔p∈Pj R 2) (C:eU R 0 I [] J ad):J=I++ad.map (·,0)∧ad.Nodup∧∀n,n∈ad↔n∈iW R ps I:=by
 have g:=D.gr;obtain⟨P,Oz⟩:=C.prop;obtain⟨x,e1,e2⟩:=P.ext;have e2:ad=x:=by rw[e2];rfl
 subst e2;have inS:∀s∈e6 R I,s≠"S'":=λs hs=>by
  refine aj (Hk.mp hs) λq _ e=>?_;refine Uh (g.Od q.1 ?_ s (bQ e));refine ag9 λz=>?_;unfold aG at e;rw[lY z] at e;(first|exact a8 e|obtain rfl:=aU e)
 refine(cI e1 (P.nd .nil) (λn=>⟨λhn=>?_,λhn=>?_⟩))
 ·
  have:=C.reach (λy=>y<R.length∧y≠0∧∃s∈e6 R I,s=bF R y∨(s,bF R y)∈Pj R 2) (λy ⟨h1,h2,s,hs,h3⟩ z hz=>?_) (λq hq y hy=>?_) (λ_ z=>by exact cS z) n hn
  ·obtain⟨h1,_,s,hs,h3⟩:=this
   exact xW.mpr ⟨h1,s,hs,h3.imp id (ej _).mpr⟩
  ·refine g9 (yB.mp hz) λs' e' z1 z2 z3=>?_
   have ed:(bF R y,bF R z)∈Pj R 0:=I3.mpr (ik y h1 rfl (z3▸e') (g.DQ z (nU z2) z1));refine⟨z1,z2,s,hs,.inr ?_⟩;rcases h3 with rfl|h3
   ·exact(λp hp=>i6 _ (i6 _ hp):∀p∈Pj R 0,p∈Pj R 2) _ ed
   ·exact Vt D.BK h3 ed
  ·refine g9 (yB.mp hy) λs e z1 z2 z3=>?_
   exact⟨z1,z2,s,Hk.mpr (aT q hq e),.inl z3.symm⟩
 ·refine l_ (xW.mp hn) λh1 s hs h3=>?_
  have Uo:∀a b:Str,a≠"S'"→(a,b)∈Pj R 0→(∀n,0<n→n<R.length→bF R n=a→n∈ad)→∀n,0<n→n<R.length→bF R n=b→n∈ad:=λa b ha hab Q n n0 n1 n2=>by
   refine g9 (I3.mp hab) λj hj z1 z2 z3=>?_;have hm:(j,0)∈J:=e1▸kd _ (bD.mpr (aT j (Q j (nU λz=>ha (by rw[←z1,z,g.xu]):0<j) hj z1) rfl));refine xE (uy hm) λi hi=>?_;exact Oz i _ (cb _) hi n (yB.mpr (ik b z2 n1 (dF n0) n2))
  have path:∀j,∀a b:Str,a≠"S'"→(a,b)∈Pj R j→(∀n,0<n→n<R.length→bF R n=a→n∈ad)→∀n,0<n→n<R.length→bF R n=b→n∈ad:=λj=>by
   induction j with
   |zero=>exact Uo
   |succ j ih=>
    intro a b ha hab Q;rcases du.mp hab with hab|hab
    ·exact ih a b ha hab Q
    ·refine aj (xB.mp hab) λy h1 h2=>?_
     have hy:y≠"S'":=YS (by
      have:=(pY.mp (rT D.BK h1)).2;exact(aV:∀s∈(["A","B","S"]:List Str),s∈a9) _ this)
     exact ih y b hy h2 (ih a y ha h1 Q)
  have Q0:∀n,0<n→n<R.length→bF R n=s→n∈ad:=λn n0 n1 n2=>by
   refine aj (Hk.mp hs) λq hq e=>?_;refine xE (uy (e1▸i6 _ hq:q∈J)) λi hi=>?_;exact Oz i _ (cb _) hi n (yB.mpr (ik s e n1 (dF n0) n2))
  have ns:=inS s hs;rcases h3 with rfl|h3
  ·exact Q0 n (nU λz=>ns (by rw[z,g.xu])) h1 rfl
  ·have h3:=(ej _).mp h3
   have n0:0<n:=nU λz=>by
    have:=(pY.mp (rT D.BK h3)).2;rw[z] at this;dsimp only at this;rw[g.xu] at this;exact bd this aV
   exact path 2 s _ ns h3 Q0 n n0 h1 rfl
theorem Le (D:eV R) (ej:∀p,p∈ps↔p∈Pj R 2) (r:dE R I L):∃ad:List Nat,L=I++ad.map (·,0)∧ad.Nodup∧∀n,n∈ad↔n∈iW R ps I:=by
 rcases r with⟨rfl,rfl⟩|⟨_,ad,C⟩
 ·refine(cL ([]) rfl .nil (λn=>⟨λz=>(cS z),λz=>?_⟩))
  refine l_ (xW.mp z) λ_ s hs _=>?_;exact cS hs
 ·exact⟨ad,Pb D ej C⟩
theorem Ay:(iW R ps I).Nodup:=aug List.filter_sublist Hq
theorem D5 {a c:List Nat} (ha:a.Nodup) (hc:c.Nodup) (e:∀n,n∈a↔n∈c):a.Perm c:=(Ht ha hc).mpr e
theorem ack {key:SV→Int} {vs ws a c:List SV} (pw:vs.Perm ws) (pa:a.Perm vs) (pc:c.Perm ws) (sa:a.Pairwise λx y=>key x<key y) (sc:c.Pairwise λx y=>key x<key y):a=c:=
 List.Perm.eq_of_pairwise (le:=λx y=>key x<key y) (λx y _ _ h1 h2=>bd h1 (ah9 h2)) sa sc (pa.trans (pw.trans pc.symm))
noncomputable def jZ:SV→Int
 |.tup [.int a,.int b]=>a*1000+b
 |_=>0
theorem Yq {a c e d:Nat} (hc:c<1000) (h:a<e):a*1000+c<e*1000+d:=
 bK (aer hc _) (ah (bH (QA a 1000).symm) (ah (qE 1000 h) (b7 _ _)))
theorem AZ {p q:aF} (hp:p.2<1000) (h:p.1<q.1):jZ (aM p) <jZ (aM q):=h9.mpr (Yq (d:=q.2) hp h)
theorem Ze {p q:aF} (hp:p.2<1000) (hq:q.2<1000):lK (aM p) (aM q)=decide (jZ (aM p) <jZ (aM q)):=by
 show(if SV.int p.1=SV.int q.1 then(if SV.int p.2=SV.int q.2 then an else decide ((p.2:Int) <q.2)) else decide ((p.1:Int) <q.1))=_;have inj:∀{a c:Nat},SV.int a=SV.int c→a=c:=λe=>wW (SV.int.inj e)
 by_cases h1:p.1=q.1
 ·rw[aO (ay (λn:Nat=>SV.int n) h1),(mO.mpr (by show(p.1:Int)*1000+p.2< (q.1:Int)*1000+q.2↔_;rw[h1];exact Int.add_lt_add_iff_left _):(decide (jZ (aM p) <jZ (aM q)))=decide ((p.2:Int) <q.2))]
  exact if h2:p.2=q.2 then(aO (ay (λn:Nat=>SV.int n) h2)).trans (h2▸(iZ (Int.lt_irrefl _)).symm) else aK λz=>h2 (inj z)
 ·rw[aK λz=>h1 (inj z)]
  exact mO.mpr ⟨λz=>AZ hp (h9.mp z),λz=>(aia h1).elim (λy=>h9.mpr y) λy=>bd z (ah9 (AZ hq y))⟩
theorem aab {p q:aF} (hp:p.2<1000) (hq:q.2<1000) (h:p≠q):jZ (aM p)≠jZ (aM q):=λe=>
 if h1:p.1=q.1 then h (jv h1 (wW (Int.add_left_cancel ((ay (λn:Nat=>(n:Int)*1000+p.2) h1).symm.trans e))))
 else(aia h1).elim (λy=>QC (AZ hp y) e) λy=>agg (AZ hq y) e
theorem Oy {l:List aF} (h:∀q∈l,q.2<1000) (nd:l.Nodup):((l.map aM).map jZ).Nodup:=by
 rw[o0];exact wK.mpr (nd.imp_of_mem λha hb dh=>aab (h _ ha) (h _ hb) dh)
theorem RV {elt iter:Expr} {z x y:Str} {q q' zi q3 gI:Pos} {nn:Nat} {sc:cu} {pos:Pos} {kk:dB} {acc:Nm} {l ls:List Str} {vs us:List SV} (V:ck (da sc i.F) l=ab) (W:cW (da sc i.F) ls=ab) (ok:(py sc i.F && (l.contains x && l.contains y) && ab)=ab) (a:EI i fr h iter kk ag) (ha:ag acc=af)
  (hit:∀(ws:List SV) (j:Nat),jo kk j (ag.set acc (.list ws))=aa vs[j]?) (hl:us.length=vs.length) (hz:vs.length≤aZ) (hx:(g6 sc fr).lookup x=af) (hy:∀v,((g6 sc fr).put x v).lookup y=af) (two:∀v∈vs,∃a c,v=.tup [a,c])
  (b:∀(ws:List SV) (j:Nat) (v1 v2 u:SV),vs[j]? =aa (.tup [v1,v2])→us[j]? =aa u→EV (i.comp sc l ls V W) (((g6 sc fr).put x v1).put y v2) (ag.set acc (.list ws)) elt u (ag.set acc (.list ws)))
  (c:SS i (fr.put z (.ref acc)) (ag.set acc (.list us)) (rest::k) Q) (X4:autoParam (i.l.contains z=ab) bn) (on:autoParam (rf iter) jn):SS i fr h ((.Assign [.Name z q3] (.ListComp elt [⟨.Tuple [.Name x q,.Name y q'] nn zi,iter,[],0⟩] sc pos) gI::rest)::k) Q:=
 have o:=F8 ok
 vb (P:=λh'=>h'=ag.set acc (.list us)) V W (vk o.c) a ha (Es .tup hit hl hz λws j v u e hu=>jX (two v (bQ e)) λv1 v2 z=>⟨_,z▸at2 o.o,(gM hx).trans (gM (hy v1)),b ws j v1 v2 u (z▸e) hu⟩) (λaC e=>e.symm▸c) X4 on
noncomputable def jT:List bI:=eu (stN (bc 478) 12)
noncomputable def LZ:Expr:=mZ (stN jT 0)
theorem aaf:ck (da (dC LZ) (bE 478)) ["n","dot"]=ab:=by kernel_rfl
theorem Vy:oW (da (dC LZ) (bE 478)) ["grammar"]=ab:=by kernel_rfl
noncomputable def rG (cm em:Nat) (cn:Nm):SF:=[("tape",.ref cz),("rules",.ref iS),("grammar",.ref aX),("table",.ref dg),("corners",.ref (gN cm)),("every",.ref (gN em)),("lists",.ref lsN),("asked",.ref (.mk 74 [])),("chosen",.ref cn)]
theorem Z9 (g:GR R) (S:bP R U c N t ps cm h) {cn:Nm} (E:BX R N K h (cn,I)) (nx:cn≠.mk 99 [])
  (fin:SS (bL i (b+6)) ((rG cm em cn).put "items" (.ref (gN N))) (h.set (gN N) (.list (I.map ba))) (jT.drop 1::k) Q):SS (bL i (b+6)) (rG cm em cn) h (jT::k) Q:=by
 have F:=S.w.tb.free;have own:h cn=aa (.list (I.map aM)):=E.own;have ok:∀q∈I,cY R q:=E.ok;have il:I.length≤3:=E.len;have nn:cn≠gN N:=λz=>by rw[z,gN,F.at] at own;exact a8 own
 obtain⟨es,Z3,T7⟩:∃es:Unit,h aX=aa (.inst 283 pI)∧h (.mk 35 [])=aa (.list ((bq R.length).map bB)):=(aT (()) S.gr.1 S.gr.2);refine RV (acc:=gN N) (kk:=.list cn) (l:=["n","dot"]) (ls:=[]) (vs:=I.map aM) (us:=I.map ba) aaf rfl (by kernel_rfl) (d7 n_ own) F.at (λws j=>d6 ((aq nn).trans own)) (by rw[aI _,aI _]) (by rw[aI _];unfold aZ;exact ah ‹_› aJ) rfl (λ_=>rfl) (λv hv=>by refine aj (bD.mp hv) λq _ ar=>?_;subst ar;exact(tT _ _ rfl)) ?_ fin;intro ws j v1 v2 u e1 e2;refine aj (dH e1) λq hq eq=>?_;rw[dq,hq] at e2
 (first|exact a8 e2|obtain rfl:=aU e2)
 injection eq with eq;injection eq with a1 eq;injection eq with a2 _;subst a1 a2;refine xA (ok q (bQ hq)) λo1 o2=>?_;refine aj (S.w.tb.pr q.1 o1) λx px _=>?_;have XW:((bq ((aG R q.1).length+1)).map λd=>ba (q.1,d))[q.2]? =aa (ba q):=by
  rw[dq,wY (kY o2)];rfl
 have bw:=g.bw q.1;exact mM (j:=q.2) (a_ (n:=bh q.1) (kw (a_ (n:=aX) (lL Vy) (aE Z3)) n_ (aE T7) g.len o1) (aE px)) n_ (.own (aE (S.nH q.1 o1))) (bf o2 (bf bw bj)) XW
theorem bP.run {B:List Nat} (S:bP R U c N t ps cm h) (w:cX R U c' M h') (a:Kq B N h h') (le:N≤M) (hB:autoParam ((rx.all (λk=>!(99::B).contains k) && !(99::B).contains 43 && !(99::B).contains 70 && !(99::B).contains 71)=ab) bn):bP R U c' M t ps cm h':=by
 simp only[bR,jI] at hB;obtain⟨⟨⟨h2,h3⟩,h4⟩,h5⟩:=hB;exact⟨w,S.gr.kq a h2,λj hj=>(a.1 _ _ h3).trans (S.nH j hj),(a.1 _ _ h4).trans S.tp,S.tl,(a.1 _ _ h5).trans S.ru,(a.2 _ _ S.cl).trans S.co,bK S.cl le,S.pl⟩
theorem eU.bw (C:eU R 0 I [] J ad):J.length≤I.length+R.length:=by
 refine aj C.prop.1.ext λx e e2=>?_;have e2:ad=x:=by rw[e2];rfl
 subst e2;have:=fO (C.prop.1.nd .nil) (l₂:=bq R.length) λy hy=>by
  rcases C.prop.1.src y hy with z|⟨q,_,z⟩
  ·exact cS z
  ·refine bM (yB.mp z) λ_ _ z _=>?_
   exact dQ.mpr z
 rw[dR] at this;rw[e,cT,aI _];exact eZ this _
theorem Tg {im:Nat} {fr:SF} {p1 p2:Pos} (g:GR R) (S:bP R U c N t ps cm h) (hi:h (gN im)=aa (.list (I.map ba))) (ok:∀q∈I,cY R q) (il:I.length≤3) (f1:fr.lookup ("table":Str)=aa (.ref dg)) (f2:fr.lookup ("items":Str)=aa (.ref (gN im)))
  (c1:EP (bL i (b+6)) fr h e (λv h'=>∃J ad,yT R c N h I v h' J ad)) (ns:iJ e=ab):
  EP (bL i (b+6)) fr h (.Call (.Name "_law_told" p1) [e] [] p2) (λv h'=>v=.ref (gN (N+1))∧∃J ad,eU R 0 I [] J ad∧bP R U (c+1) (N+2) t ps cm h'∧h' (gN (N+1))=aa (.list (J.map aM))∧Kq [10,30] N h h'):=by
 refine tJ (f:=.glob 473) (i.K.ref rfl) (i.K.keep rfl) c1 (λv h1 ⟨J,ad,C⟩=>?_) (by rw[ns];rfl);refine⟨λfr' Q' X hq=>(EK (b:=b+5) rfl (.inr (aT _ C.v C.list):Told h1 v J) C.ok C.tb.it C.tb.free (ah (eU.bw C.clo) (ah (fp il g.len) aJ))).cp.run fr' Q' X λv h2 ⟨e1,e2⟩=>hq _ _ ⟨e1,J,ad,C.clo,?_,?_,?_⟩⟩
 ·rw[e2];exact(S.run (S.w.clo C) C.kq (bT _):bP R U (c+1) (N+1) t ps cm h1).kq (B:=[]) (M:=N+2) (.new (au _)) (C.tb.free.new [] _) (bT _)
 ·rw[e2];exact aR
 ·rw[e2];exact C.kq.trans (M:=N+1) (.new (au _)) (bT _)
theorem ω {cn:Nm} {im:Nat} (g:GR R) (S:bP R U c N t ps cm h) (hi:h (gN im)=aa (.list (I.map ba))) (ok:∀q∈I,cY R q) (il:I.length≤3)
  (fin:∀J ad h',eU R 0 I [] J ad→bP R U (c+1) (N+2) t ps cm h'→h' (gN (N+1))=aa (.list (J.map aM))→Kq [10,30] N h h'→SS (bL i (b+6)) (((rG cm em cn).put "items" (.ref (gN im))).put "whole" (.ref (gN (N+1)))) h' (jT.drop 2::k) Q):
  SS (bL i (b+6)) ((rG cm em cn).put "items" (.ref (gN im))) h (jT.drop 1::k) Q:=by
 refine ku (Tg g S hi ok il rfl rfl (de n_ (iL S.w.tb.tb rfl) (i.K.keep rfl) (aB n_ aL) (Bv (b:=b+5) rfl S.w.tb hi ok (ah ‹_› aJ)).cp) rfl) ?_;rintro v h' ⟨rfl,J,ad,C,S',hw,kq⟩;exact fin J ad h' C S' hw kq
variable{A:List aF} {im wm rm:Nat} {cn:Nm}
noncomputable def I5 (cm em:Nat) (cn:Nm) (im wm:Nat):SF:=((rG cm em cn).put "items" (.ref (gN im))).put "whole" (.ref (gN wm))
noncomputable def nM (cm em:Nat) (cn:Nm) (im wm rm:Nat):SF:=(I5 cm em cn im wm).put "rest" (.ref (gN rm))
theorem acr (S:bP R U c N t ps cm h) (hc:h cn=aa (.list (I.map aM))) (il:I.length≤3) (hw:h (gN wm)=aa (.list ((I++A).map aM))) (al:A.length≤5)
  (fin:SS (bL i (b+6)) (nM cm em cn im wm N) (h.set (gN N) (.list (A.map aM))) (jT.drop 3::k) Q):
  SS (bL i (b+6)) (I5 cm em cn im wm) h (jT.drop 2::k) Q:=by
 have ll:CP (bL i (b+6)) h (.bi "len") [.ref cn] (is (.int I.length) h):=by
  have:=oS (i:=bL i (b+6)) (.own hc) (by rw[aI];exact bf ‹_› bj)
  rwa [aI] at this
 have sl:fg ((I++A).map aM) (aa (I.length:Int)) af=A.map aM:=by
  rw[Bn (by rw[aI,cT];exact b7 _ _),←zN,List.drop_left]
 exact bO (Fd (n:=gN wm) (m:=gN N) n_ (b9 (i.K.bi rfl) rfl (aB n_ aL) ll) hw (by rw[aI,cT];unfold aZ;exact ah (fp ‹_› ‹_›) aJ) S.w.tb.free.at sl) fin
theorem Tm {fr:SF} {n m:Nm} {vs ws:List SV} {hi:Expr} {j:Int} {p pos:Pos} (hl:dc i.G aC u vs) (a:EV i fr h e u ag) (b:EV i fr ag hi (.int j) aC) (hz:vs.length≤aZ) (hm:aC m=af) (hw:fg vs af (aa j)=ws):EV i fr h (.Subscript e (.Slice af (aa hi) af p) pos) (.ref m) (aC.set m (.list ws)):=hw▸NX (n:=n) hl a b hz hm
theorem Zg (h:I.Nodup):(I.map aM).Nodup:=Ik _ (λa b z e=>z (xK e)) h
theorem WN (g:GR R) (S:bP R U c N t ps cm h) (hc:h cn=aa (.list (I.map aM))) (nx:cn≠.mk 99 []) (ok:∀q∈I,cY R q) (il:I.length≤3) (hi:h (gN im)=aa (.list (I.map ba))) (hw:h (gN wm)=aa (.list ((I++A).map aM))) (hr:h (gN rm)=aa (.list (A.map aM))) (al:A.length≤5) (nd:A.Nodup) (Mk:∀q∈A,cY R q)
  (fin:∀M h',bP R U c M t ps cm h'→N≤M→Kq [] N h h'→SS (bL i (b+6)) (nM cm em cn im wm rm) h' (jT.drop 4::k) Q):
  SS (bL i (b+6)) (nM cm em cn im wm rm) h (jT.drop 3::k) Q:=by
 have F:=S.w.tb.free;have F1:br (h.set (gN N) (.list (I.map aM))) (N+1):=F.new [] _;have k1:Kq [] N h (h.set (gN N) (.list (I.map aM))):=.new (au _);have m6:=kM k1 F hc nx;have GY:=kM k1 F hr (λz=>by injection z with _ z;exact jz z);have F2:br ((h.set (gN N) (.list (I.map aM))).set (gN (N+1)) (.list (I.map aM))) (N+2):=F1.new [] _;have k2:Kq [] N h ((h.set (gN N) (.list (I.map aM))).set (gN (N+1)) (.list (I.map aM))):=k1.at' (bT _);have ll:CP (bL i (b+6)) (h.set (gN N) (.list (I.map aM))) (.bi "len") [.ref cn] (is (.int I.length) (h.set (gN N) (.list (I.map aM)))):=by
  have:=oS (i:=bL i (b+6)) (.own m6) (by rw[aI];exact bf ‹_› bj)
  rwa [aI] at this
 have sl:fg ((I++A).map aM) af (aa (I.length:Int))=I.map aM:=by
  rw[Ph,←H7,List.take_left]
 refine CY (P:=λh'=>∃vs,h'=((h.set (gN N) (.list (I.map aM))).set (gN (N+1)) (.list (I.map aM))).set (gN (N+2)) (.set vs)) (Gr (EB.tB (h':=h.set (gN N) (.list (I.map aM))) ?_) λh1 e1=>?_) λh' ⟨vs,e⟩=>?_
 ·exact bv (u:=.ref (gN N)) (w:=.ref cn) (b9 (i.K.ref rfl) (i.K.keep rfl) (aB n_ aL) (EK (b:=b+5) rfl (.inr (aT _ rfl hi)) ok S.w.tb.it F (ah ‹_› aJ)).cp) n_ (Br (.own aR) (.own m6) xX)
 ·subst e1
  refine Gr (EB.tB (h':=(h.set (gN N) (.list (I.map aM))).set (gN (N+1)) (.list (I.map aM))) ?_) λh2 e2=>?_
  ·exact bv (u:=.ref (gN (N+1))) (w:=.ref cn) (Tm (n:=gN wm) (m:=gN (N+1)) (.own (kM k1 F hw (λz=>by injection z with _ z;exact jz z))) n_ (b9 (i.K.bi rfl) rfl (aB n_ aL) ll) (by rw[aI,cT];unfold aZ;exact ah (fp ‹_› ‹_›) aJ) F1.at sl) n_ (Br (.own aR) (.own (kM k2 F hc nx)) xX)
  ·subst e2
   refine Gr (P:=λh'=>∃vs,h'=((h.set (gN N) (.list (I.map aM))).set (gN (N+1)) (.list (I.map aM))).set (gN (N+2)) (.set vs)) (CA (P1:=λv h'=>∃vs,v=.int A.length∧h'=((h.set (gN N) (.list (I.map aM))).set (gN (N+1)) (.list (I.map aM))).set (gN (N+2)) (.set vs)) (P2:=λu w h'=>u=.int A.length∧w=.int A.length∧∃vs,h'=((h.set (gN N) (.list (I.map aM))).set (gN (N+1)) (.list (I.map aM))).set (gN (N+2)) (.set vs)) ?_ (λu h3 p=>?_) λu w h4 p=>?_) λh3 p=>⟨λfr' s Q X hq=>Ue.run fr' s Q X λh4 e=>hq _ (e▸p)⟩
   ·refine tJ (P:=λv h'=>v=.ref (gN (N+2))∧∃vs:List SV,vs.Nodup∧(∀y,y∈vs↔y∈A.map aM)∧h'=((h.set (gN N) (.list (I.map aM))).set (gN (N+1)) (.list (I.map aM))).set (gN (N+2)) (.set vs)) (i.K.bi rfl) rfl (EP.imp (nF (i.K.ty rfl) rfl (aB n_ aL) (Cm (U:=A.map aM) (.own (kM k2 F hr (λz=>by injection z with _ z;exact jz z))) (λv hv=>?_) (by rw[aI];exact bf ‹_› bj) (λ_ z=>z) F2.at)) λv h' q=>q) λv h3 p=>?_
    ·refine aj (bD.mp hv) λq _ ar=>?_;subst ar
     rfl
    ·refine yG p λcP vs nv mm e7=>?_;clear p;subst cP;subst e7
     have pl:vs.length=A.length:=by
      have:=((Ht nv (Zg nd)).mpr mm).length_eq
      rwa [aI] at this
     exact⟨λfr' Q' X hq=>(XX aR (bf (bH pl) (bf al bj))).run fr' Q' X λv h4 ⟨e1,e2⟩=>hq _ _ (aT vs (by rw[e1,pl]) e2)⟩
   ·refine aj p λvs bu ar=>?_;clear p;subst bu;subst ar
    have l3:CP (bL i (b+6)) (((h.set (gN N) (.list (I.map aM))).set (gN (N+1)) (.list (I.map aM))).set (gN (N+2)) (.set vs)) (.bi "len") [.ref (gN rm)] (is (.int A.length) (((h.set (gN N) (.list (I.map aM))).set (gN (N+1)) (.list (I.map aM))).set (gN (N+2)) (.set vs))):=by
     have:=oS (i:=bL i (b+6)) (.own (kM (k2.at' (b7 _ _)) F hr (λz=>by injection z with _ z;exact jz z):(((h.set (gN N) (.list (I.map aM))).set (gN (N+1)) (.list (I.map aM))).set (gN (N+2)) (.set vs)) (gN rm)=aa (.list (A.map aM)))) (by rw[aI];exact bf ‹_› bj)
     rwa [aI] at this
    exact EP.imp (nF (i.K.bi rfl) rfl (aB n_ aL) l3) λv h' q=>⟨rfl,q.1,vs,q.2⟩
   ·obtain⟨rfl,rfl,p⟩:=p
    exact⟨Fc rfl rfl,p⟩
 ·subst e
  exact aH (fin (N+3) _ (S.kq (B:=[]) (k2.at' (b7 _ _)) (F2.new [] _) (b7 _ _)) (b7 _ _) (k2.at' (b7 _ _)))
theorem Y7 (g:GR R) (S:bP R U c N t ps cm h) (hc:h cn=aa (.list (I.map aM))) (nx:cn≠.mk 99 []) (ok:∀q∈I,cY R q) (il:I.length≤3) (hw:h (gN wm)=aa (.list ((I++ad.map λn=>((n,0):aF)).map aM))) (qg:∀n,n∈ad↔n∈iW R ps I)
  (fin:∀M h',bP R U c M t ps cm h'→N≤M→Kq [] N h h'→SS (bL i (b+6)) (nM cm em cn im wm rm) h' (jT.drop 5::k) Q):
  SS (bL i (b+6)) (nM cm em cn im wm rm) h (jT.drop 4::k) Q:=by
 have F:=S.w.tb.free;have len:=g.len;have UL:((eC R R.length).map aM).length<18:=by rw[aI _];have:=D7 (j:=R.length) g;exact bf this (bf (qE _ len) bj)
 have Ko:∀n∈iW R ps I,((n,0):aF)∈eC R R.length:=λn hn=>Cf.mpr ⟨(xW.mp hn).1,cb _⟩;have Ni:∀q∈I,q∈eC R R.length:=λq hq=>Cf.mpr (ok q hq);have VT:∀v∈(I++ad.map λn=>((n,0):aF)).map aM,v∈(eC R R.length).map aM:=λv hv=>by
  refine aj (bD.mp hv) λq hq ar=>?_;subst ar;refine bD.mpr (aT q ?_ rfl);rcases du.mp hq with hq|hq
  ·exact Ni q hq
  ·refine aj (bD.mp hq) λn hn ar=>?_;subst ar
   exact Ko n ((qg n).mp hn)
 have flat:∀(L:List aF),∀v∈L.map aM,fc v=ab:=λL v hv=>by
  refine aj (bD.mp hv) λq _ ar=>?_;subst ar;rfl
 have KI:(iW R ps I).length≤5:=ah (Io _ _) (by rw[dR];exact len);have em:(iW R ps I).map (λn=>aM (n,0))=((iW R ps I).map λn=>((n,0):aF)).map aM:=by rw[o0];rfl
 refine CY (P:=λh'=>∃M,bP R U c M t ps cm h'∧N≤M∧Kq [] N h h') (CA (P1:=λv h'=>v=.ref (gN N)∧∃vs:List SV,vs.Nodup∧(∀y,y∈vs↔y∈(I++ad.map λn=>((n,0):aF)).map aM)∧h'=h.set (gN N) (.set vs))
  (P2:=λu w h'=>∃n' vs ws,u=.ref (gN N)∧w=.ref n'∧h' (gN N)=aa (.set vs)∧h' n'=aa (.set ws)∧(∀y,y∈vs↔y∈ws)∧∃M,bP R U c M t ps cm h'∧N≤M∧Kq [] N h h') ?_ (λu h1 p=>?_) λu w h4 p=>?_) λh' ⟨M,S',le,kq⟩=>aH (fin M h' S' le kq)
 ·exact EP.imp (nF (i.K.ty rfl) rfl (aB n_ aL) (Cm (U:=(eC R R.length).map aM) (.own hw) (flat _) UL VT F.at)) λv h' q=>q
 ·refine yG p λcP vs nv mm e7=>?_;clear p;subst cP;subst e7
  have F1:br (h.set (gN N) (.set vs)) (N+1):=F.new [] _;have k1:Kq [] N h (h.set (gN N) (.set vs)):=.new (au _);have S1:bP R U c (N+1) t ps cm (h.set (gN N) (.set vs)):=S.kq (B:=[]) k1 F1 (bT _);have m6:=kM k1 F hc nx;have v1:(h.set (gN N) (.set vs)) (gN N)=aa (.set vs):=aR;generalize h.set (gN N) (.set vs)=h1 at F1 k1 S1 m6 v1 ⊢;refine tJ (P:=λv h'=>∃M,v=.ref (gN M)∧h' (gN M)=aa (.list (I.map aM++((iW R ps I).map λn=>((n,0):aF)).map aM))∧N+1≤M∧br h' (M+1)∧Kq [] (N+1) h1 h') (i.K.ty rfl) rfl (Go n_ (nF (i.K.ref rfl) (i.K.keep rfl) (aB n_ (aB n_ (aB n_ aL))) (Nb (b:=b+4) rfl S1.ru len (g.bw:∀j,(aG R j).length≤2) S1.co m6 nx ok (ah ‹_› aJ) F1).cp) λw h2 p=>?_) λv h3 p=>?_
  ·refine BC p λcP M J=>?_;clear p;subst cP
   have k2:=J.kq;have ho:=J.own;rw[em] at ho;have hM:N+1≤M:=by have:=J.lt;exact cj (n8 this)
   exact⟨_,_,Cj (n:=gN M) (.own (kM k2 F1 m6 nx)) (.own ho) (by rw[aI _,aI _,aI _];unfold aZ;exact ah (fp ‹_› ‹_›) aJ) J.free.at,M,rfl,aR,hM,J.free.new [] _,k2.at' hM⟩
  ·refine jA p λM bu hl hM F3 k3=>?_;clear p;subst bu
   refine⟨λfr' Q' X hq=>(Cm (U:=(eC R R.length).map aM) (n:=gN (M+1)) (.own hl) (λv hv=>?_) UL (λv hv=>?_) F3.at).run fr' Q' X λv h4 ⟨e1,ws,nw,mw,e4⟩=>hq _ _ ⟨gN (M+1),vs,ws,rfl,e1,?_,?_,λy=>?_,M+2,?_,by exact c7 (c7 (gd hM)),?_⟩⟩
   ·rw[←dM] at hv;exact flat _ v hv
   ·rw[←dM] at hv
    refine aj (bD.mp hv) λq hq ar=>?_;subst ar;refine bD.mpr ⟨q,?_,rfl⟩;rcases du.mp hq with hq|hq
    ·exact Ni q hq
    ·refine aj (bD.mp hq) λn hn ar=>?_;subst ar
     exact Ko n hn
   ·rw[e4];exact(aq (kD (dp (lb (c7 hM))))).trans ((k3.2 N [] (dm _)).trans v1)
   ·rw[e4];exact aR
   ·rw[mm,mw,←dM]
    refine⟨λz=>?_,λz=>?_⟩<;>obtain⟨q,hq,rfl⟩:=bD.mp z<;>refine bD.mpr (aT q ?_ rfl)<;>rcases du.mp hq with hq|hq
    ·exact i6 _ hq
    ·obtain⟨n,hn,rfl⟩:=bD.mp hq
     exact kd _ (bD.mpr (aT n ((qg n).mp hn) rfl))
    ·exact i6 _ hq
    ·obtain⟨n,hn,rfl⟩:=bD.mp hq
     exact kd _ (bD.mpr (aT n ((qg n).mpr hn) rfl))
   ·rw[e4];exact S1.kq (B:=[]) (k3.at' (ah ‹_› (b7 _ _))) (F3.new [] _) (ah ‹_› (b7 _ _))
   ·rw[e4];exact k1.trans (k3.at' (ah ‹_› (b7 _ _))) (bT _)
 ·obtain⟨n',vs,ws,rfl,rfl,h1,h2,e,p⟩:=p
  exact⟨Sh h1 h2 e,p⟩
noncomputable def oM:List bI:=eu (stN jT 5)
noncomputable def NI:Expr:=mZ (stN oM 0)
theorem Sw:ck (da (dC NI) (bE 478)) ["n","dot"]=ab:=by kernel_rfl
theorem N8:oW (da (dC NI) (bE 478)) ["rules","symbol"]=ab:=by kernel_rfl
theorem IC {vs:List SV} {d:Nat}:fg vs (aa (d:Int)) (aa ((d:Int)+1))=(vs[d]?).toList:=by
 show(vs.drop (fE vs.length d)).take (fE vs.length ((d+1:Nat):Int) - fE vs.length d)=_;rw[show fE vs.length (d:Int)=min d vs.length from AM,show fE vs.length ((d+1:Nat):Int)=min (d+1) vs.length from AM]
 by_cases hd:d<vs.length
 ·rw[r9 (cj hd),r9 hd,ui _ _,fb hd,Ij hd]
  rfl
 ·have hd:=oY hd
  rw[H4 hd,H4 (c7 hd),zx _,lY hd];rfl
noncomputable def Cv (cm em:Nat) (cn:Nm) (im wm rm:Nat) (x:Str):SF:=(nM cm em cn im wm rm).put "symbol" (.str x)
theorem SQ (g:GR R) (S:bP R U c N t ps cm h) (hc:h cn=aa (.list (I.map aM))) (nn:cn≠gN N) (ok:∀q∈I,cY R q) (il:I.length≤3)
  (fin:SS (bL i (b+6)) ((Cv cm em cn im wm rm x).put "moved" (.ref (gN N))) (h.set (gN N) (.list ((cF R I x).map aM))) (oM.drop 1::k) Q):
  SS (bL i (b+6)) (Cv cm em cn im wm rm x) h (oM::k) Q:=by
 refine vb (acc:=gN N) (P:=λh'=>h'=h.set (gN N) (.list ((cF R I x).map aM))) Sw (ls:=[]) rfl (by kernel_rfl) (d7 n_ hc) S.w.tb.free.at ?_ λh' e=>e▸fin;refine rS (σ:=Nat) (λj=>h.set (gN N) (.list ((cF R (I.take j) x).map aM))) (λs j=>s=j∧j≤I.length) 0 I.length ⟨rfl,cb _⟩ (λ_ _ e=>e.2) (λs j ⟨es,hj⟩=>?_) rfl rfl rfl;subst es;refine(cL _ (d6 ((aq nn).trans hc)) (λe=>?_) (λv e=>?_))
 ·have:I.length≤s:=by have:=ke.mp e;rwa [aI] at this
  show h.set (gN N) (.list ((cF R (I.take s) x).map aM))=_;rw[mX this]
 ·refine aj (dH e) λq hq ar=>?_;subst ar
  have hj:=(cU.mp hq).1;refine xA (ok q (bQ hq)) λo1 o2=>?_;have tk:cF R (I.take (s+1)) x=cF R (I.take s) x++(jC R x q).toList:=by
   unfold cF;rw[jK,hq,se];refine ay (uE (jC R x) (I.take s)++·) ?_;show uE _ [q]=_;rw[qC]
   cases jC R x q<;>rfl
  have dd:decide (SV.tup (fg ((aG R q.1).map SV.str) (aa (q.2:Int)) (aa ((q.2:Int)+1)))=SV.tup [.str x])=decide ((aG R q.1)[q.2]? =aa x):=by
   rw[IC,dq]
   cases(aG R q.1)[q.2]? with
   |none=>exact mO.mpr ⟨λz=>(by injection z with z;cases z),λz=>(a8 z)⟩
   |some y=>exact mO.mpr ⟨λz=>(by injection z with z;injection z with z;injection z with z;rw[z]),λz=>(by injection z with z;rw[z];rfl)⟩
  have xa:SV.data 6 (SV.tup (fg ((aG R q.1).map SV.str) (aa (q.2:Int)) (aa ((q.2:Int)+1))))=ab:=by
   rw[IC,dq]
   cases(aG R q.1)[q.2]? <;>rfl
  refine(s7 hj _ (decide ((aG R q.1)[q.2]? =aa x)) (at2 rfl) ((gM rfl).trans (gM rfl)) (Fa (bv (adm (mj (j:=1) (wA (lL N8) n_ ((λa=>(aq az).trans S.ru:∀a:List aF,(h.set (gN N) (.list (a.map aM))) iS=aa (.list (R.map di))) _) g.len o1) bG bj rfl) n_ (fH n_ bG ny) (by rw[aI _];exact ah (g.bw q.1) (by unfold aZ;exact aJ))) (eY (aB (lL N8) aL)) (dd▸yv (by rw[xa];rfl)))) (λe=>?_) (λe=>?_))
  ·have:=rX e
   exact(aT (s+1) ⟨rfl,hj⟩ (by rw[tk,show jC R x q=af from aK this];show _=h.set _ _;rw[ah5,gO _]))
  ·have:=fD e
   refine pJ (EV.ep (eY (aB n_ (aB (fH n_ bG ny) aL)))) ?_;rintro v h1 ⟨rfl,rfl⟩;refine(nQ _ aR ?_ (s+1) ⟨rfl,hj⟩ ?_)
   ·rw[aI _]
    refine ah (uG _ _) ?_;rw[jE];unfold aZ;exact ah (pi _ _) (ah il aJ)
   ·show h.set (gN N) (.list ((cF R (I.take (s+1)) x).map aM))=_
    rw[iD,tk,show jC R x q=aa (q.1,q.2+1) from aO this,dM];rfl
theorem EZ (g:GR R):(iW R ps I).length≤5:=ah (Io _ _) (by rw[dR];exact g.len)
theorem JJ (D:eV R) (ej:∀p,p∈ps↔p∈Pj R 2) (r:dE R I L):L.length≤I.length+5:=by
 refine bM (Le D ej r) λad e nd mm=>?_;have:=(D5 nd Ay mm).length_eq;have:=EZ (R:=R) (ps:=ps) (I:=I) D.gr;rw[e,cT,aI _];exact eZ (ah (bH ‹_›) ‹_›) _
theorem JD {fr:SF} {p1 p2:Pos} (D:eV R) (ej:∀p,p∈ps↔p∈Pj R 2) (S:bP R U c N t ps cm h) (ok:∀q∈I,cY R q) (il:I.length≤3)
  (c1:EP (bL i (b+6)) fr aA e (oO R U N h (cF R I x))) (ns:iJ e=ab):
  EP (bL i (b+6)) fr aA (.Call (.Name "_law_told" p1) [e] [] p2) (λv h'=>∃L c' M,v=.ref (gN M)∧dE R (cF R I x) L∧bP R U c' (M+1) t ps cm h'∧h' (gN M)=aa (.list (L.map aM))∧Kq [10,30,31,32] N h h'∧N≤M):=by
 refine tJ (f:=.glob 473) (i.K.ref rfl) (i.K.keep rfl) c1 (λv h1 ⟨L,c',M,G⟩=>?_) (by rw[ns];rfl);have k1:Kq [10,30,31,32] N h h1:=G.kp.q;refine⟨λfr' Q' X hq=>(EK (b:=b+5) rfl G.told.told (G.res.ok (BH ok)) G.w.tb.it G.w.tb.free (ah (JJ D ej G.res) (nW (ah (uR (R:=R) (I:=I) (x:=x)) (ah il aJ)) _))).cp.run fr' Q' X λv h2 ⟨e1,e2⟩=>hq _ _ ⟨L,c',M,e1,G.res,?_,?_,?_,G.le⟩⟩
 ·rw[e2];exact(S.run G.w k1 G.le:bP R U c' M t ps cm h1).kq (B:=[]) (M:=M+1) (.new (au _)) (G.w.tb.free.new [] _) (bT _)
 ·rw[e2];exact aR
 ·rw[e2];exact k1.trans (M:=M) (.new (au _)) G.le
noncomputable def Hb (cm em:Nat) (cn:Nm) (im wm rm:Nat) (x:Str) (mm:Nat):SF:=(Cv cm em cn im wm rm x).put "moved" (.ref (gN mm))
theorem Vl {mm:Nat} (D:eV R) (ej:∀p,p∈ps↔p∈Pj R 2) (S:bP R U c N t ps cm h) (A:kR R U x I) (il:I.length≤3) (hk:im<N) (hi:h (gN im)=aa (.list (I.map ba)))
  (fin:∀L c' M h',dE R (cF R I x) L→bP R U c' (M+1) t ps cm h'→h' (gN M)=aa (.list (L.map aM))→Kq [10,30,31,32] N h h'→N≤M→SS (bL i (b+6)) ((Hb cm em cn im wm rm x mm).put "answer" (.ref (gN M))) h' (oM.drop 2::k) Q):
  SS (bL i (b+6)) (Hb cm em cn im wm rm x mm) h (oM.drop 1::k) Q:=by
 refine ku (JD (x:=x) D ej S A.ok il (de n_ (iL S.w.tb.tb rfl) (i.K.keep rfl) (aB n_ (aB n_ aL)) (yf (b:=b+4) rfl A S.w hk hi).cp) rfl) ?_;rintro v h' ⟨L,c',M,rfl,r,S',hw,kq,le⟩;exact fin L c' M h' r S' hw kq le
variable{mm am:Nat}
noncomputable def Ba (cm em:Nat) (cn:Nm) (im wm rm:Nat) (x:Str) (mm am:Nat):SF:=(Hb cm em cn im wm rm x mm).put "answer" (.ref (gN am))
theorem Bg (g:GR R) {l:List aF} (ok:∀q∈l,cY R q) (q:aF) (hq:q∈l):q.2<1000:=bf (ah (ok q hq).2 (g.bw q.1)) bj
theorem Nv (g:GR R) {l:List aF} (ok:∀q∈l,cY R q):∀x∈l.map aM,∀y∈l.map aM,lK x y=decide (jZ x<jZ y):=λx hx y hy=>
 aj (bD.mp hx) λp hp e=>aj (bD.mp hy) λq hq e'=>e▸e'▸Ze (Bg g ok p hp) (Bg g ok q hq)
theorem LP {l:List aF}:uv (l.map aM):=⟨ab,λv hv=>aj (bD.mp hv) λp _ e=>e▸⟨_,_,rfl,⟨_,rfl⟩,_,rfl⟩⟩
theorem aa6 (ndI:I.Nodup) (pos:∀q∈I,0<q.2) (D:eV R) (ej:∀p,p∈ps↔p∈Pj R 2) (S:bP R U c N t ps cm h) (ok:∀q∈I,cY R q) (il:I.length≤3) (r:dE R I L) (hm:h (gN mm)=aa (.list (I.map aM))) (ha:h (gN am)=aa (.list (L.map aM)))
  (fin:∀M h',bP R U c M t ps cm h'→N≤M→Kq [] N h h'→SS (bL i (b+6)) (Ba cm em cn im wm rm x mm am) h' (oM.drop 3::k) Q):
  SS (bL i (b+6)) (Ba cm em cn im wm rm x mm am) h (oM.drop 2::k) Q:=by
 have g:=D.gr;have F:=S.w.tb.free;have DR:=r.ok ok;refine bM (Le D ej r) λad eL nd qg=>?_;have KI:=EZ (R:=R) (ps:=ps) (I:=I) g;have TN:(iW R ps I).map (λn=>aM (n,0))=((iW R ps I).map λn=>((n,0):aF)).map aM:=by rw[o0];rfl
 have pm:(L.map aM).Perm ((I++(iW R ps I).map λn=>((n,0):aF)).map aM):=by
  rw[eL];exact((((D5 nd Ay qg).map _).append_left I)).map _
 have Kr:∀{ad:List Nat},ad.Nodup→(I++ad.map λn=>((n,0):aF)).Nodup:=λ{ad} nd=>k_.mpr ⟨ndI,Ik _ (λa b z e=>z (ay mR e)) nd,λa ha c hc e=>aj (bD.mp hc) λn _ e'=>fo 0 (PA (pos a ha) (ay C7 (e.trans e'.symm)))⟩;have vk:∀q∈I++(iW R ps I).map (λn=>((n,0):aF)),cY R q:=λq hq=>by
  have:aM q∈L.map aM:=pm.mem_iff.mpr (bD.mpr (aT q hq rfl));exact DR q (Ng.mp this)
 have Eh:∀{a:Nat},gN a≠.mk 99 []:=λz=>by injection z with _ z;exact jz z
 refine CY (P:=λh'=>∃M,bP R U c M t ps cm h'∧N≤M∧Kq [] N h h') (CA (P1:=λv h'=>v=.ref (gN N)∧∃out:List SV,out.Perm (L.map aM)∧out.Pairwise (λx y=>jZ x<jZ y)∧h'=h.set (gN N) (.list out))
  (P2:=λu w h'=>∃n' out,u=.ref (gN N)∧w=.ref n'∧eH 6 out=ab∧h' (gN N)=aa (.list out)∧h' n'=aa (.list out)∧∃M,bP R U c M t ps cm h'∧N≤M∧Kq [] N h h') ?_ (λu h1 p=>?_) λu w h4 p=>?_) λh' ⟨M,S',le,kq⟩=>aH (fin M h' S' le kq)
 ·exact nF (i.K.bi rfl) rfl (aB n_ aL) (Nl (key:=jZ) (.own ha) LP (by rw[aI _];exact bf (JJ D ej r) (ah7 (bf il bj))) (Nv g DR) (Oy (Bg g DR) (eL▸Kr nd)) F.at λout p s=>⟨rfl,out,p,s,rfl⟩)
 ·refine yG p λcP out po so e7=>?_;clear p;subst cP;subst e7
  have F1:br (h.set (gN N) (.list out)) (N+1):=F.new [] _;have k1:Kq [] N h (h.set (gN N) (.list out)):=.new (au _);have S1:bP R U c (N+1) t ps cm (h.set (gN N) (.list out)):=S.kq (B:=[]) k1 F1 (bT _);have y6:=kM k1 F hm Eh;have v1:(h.set (gN N) (.list out)) (gN N)=aa (.list out):=aR;generalize h.set (gN N) (.list out)=h1 at F1 k1 S1 y6 v1 ⊢;have xa:eH 6 out=ab:=by
   have:∀v∈out,∃q,v=aM q:=λv hv=>by
    refine aj (bD.mp (po.mem_iff.mp hv)) λq _ e=>?_;exact⟨q,e.symm⟩
   clear po so v1
   induction out with
   |nil=>rfl
   |cons a t ih=>
    refine xE (this a dv) λq bu=>?_;subst bu;show(SV.data 6 (aM q) && eH 6 t)=ab;rw[ih λv hv=>this v (eS _ hv),HZ _];rfl
  refine tJ (P:=λv h'=>∃M,v=.ref (gN M)∧h' (gN M)=aa (.list ((I++(iW R ps I).map λn=>((n,0):aF)).map aM))∧N+1≤M∧br h' (M+1)∧Kq [] (N+1) h1 h') (i.K.bi rfl) rfl (Go n_ (nF (i.K.ref rfl) (i.K.keep rfl) (aB n_ (aB n_ (aB n_ aL))) (Nb (b:=b+4) rfl S1.ru g.len g.bw S1.co y6 Eh ok (ah ‹_› aJ) F1).cp) λw h2 p=>?_) λv h3 p=>?_
  ·refine BC p λcP M J=>?_;clear p;subst cP
   have k2:=J.kq;have ho:=J.own;rw[TN] at ho;have hM:N+1≤M:=by have:=J.lt;exact cj (n8 this)
   exact⟨_,_,Cj (n:=gN M) (.own (kM k2 F1 y6 Eh)) (.own ho) (by rw[aI _,aI _,aI _];unfold aZ;exact ah (fp ‹_› ‹_›) aJ) J.free.at,M,rfl,aR.trans (by rw[←dM]),hM,J.free.new [] _,k2.at' hM⟩
  ·refine jA p λM bu hl hM F3 k3=>?_;clear p;subst bu
   refine Nl (key:=jZ) (n:=gN (M+1)) (.own hl) LP (by rw[aI _,cT,aI _];exact bf (fp il KI) bj) (Nv g vk) (Oy (Bg g vk) (Kr Ay)) F3.at λZH p2 s2=>?_;obtain rfl:out=ZH:=ack pm po p2 so s2;refine⟨gN (M+1),out,rfl,rfl,xa,?_,aR,M+2,?_,by exact c7 (c7 (gd hM)),?_⟩
   ·exact(aq (kD (dp (lb (c7 hM))))).trans ((k3.2 N [] (dm _)).trans v1)
   ·exact S1.kq (B:=[]) (k3.at' (ah ‹_› (b7 _ _))) (F3.new [] _) (ah ‹_› (b7 _ _))
   ·exact k1.trans (k3.at' (ah ‹_› (b7 _ _))) (bT _)
 ·obtain⟨n',out,rfl,rfl,xa,h1,h2,p⟩:=p
  exact⟨Br (.own h1) (.own h2) xa,p⟩
noncomputable def ij:Nm:=.mk 74 []
structure gz where
 im:Nat
 I:List aF
 x:Str
 am:Nat
 L:List aF
noncomputable def gz.val (a:gz):SV:=.tup [.ref (gN a.im),.str a.x,.ref (gN a.am)]
structure xU (R:bp) (U:List (List aF)) (N:Nat) (h:SH) (a:gz):Prop where
 i:kR R U a.x a.I
 il:a.I.length≤3
 hi:h (gN a.im)=aa (.list (a.I.map ba))
 li:a.im<N
 res:dE R (cF R a.I a.x) a.L
 ha:h (gN a.am)=aa (.list (a.L.map aM))
 la:a.am<N
theorem xU.rJ {a:gz} (A:xU R U N h a) (s:fz N h h') (le:N≤M):xU R U M h' a:=
 ⟨A.i,A.il,(s _ _ A.li).trans A.hi,bK A.li le,A.res,(s _ _ A.la).trans A.ha,bK A.la le⟩
structure eM (R:bp) (U:List (List aF)) (N:Nat) (as:List gz) (h:SH):Prop where
 ls:h ij=aa (.list (as.map gz.val))
 each:∀a∈as,xU R U N h a
theorem eM.kq {B:List Nat} {as:List gz} (A:eM R U N as h) (a:Kq B N h h') (le:N≤M) (hB:autoParam ((99::B).contains 74=an) dI):eM R U M as h':=
 ⟨(a.1 _ _ hB).trans A.ls,λx hx=>(A.each x hx).rJ a.2 le⟩
theorem Sq {as:List gz} (S:bP R U c N t ps cm h) (A:eM R U N as h) (ho:xU R U N h ⟨im,I,x,am,L⟩) (bw:as.length≤1000)
  (fin:∀h',bP R U c N t ps cm h'→eM R U N (as++[⟨im,I,x,am,L⟩]) h'→Kq [74] N h h'→SS (bL i (b+6)) (Ba cm em cn im wm rm x mm am) h' (oM.drop 4::k) Q):
  SS (bL i (b+6)) (Ba cm em cn im wm rm x mm am) h (oM.drop 3::k) Q:=by
 refine fF (de n_ (ga A.ls) rfl (aB (eY (aB n_ (aB n_ (aB n_ aL)))) aL) (fU A.ls (by rw[aI _];unfold aZ;exact ah ‹_› aJ))) ?_;have k1:Kq [74] N h (h.set ij (.list (as.map gz.val++[gz.val ⟨im,I,x,am,L⟩]))):=.set rfl;refine fin _ (S.kq k1 (S.w.tb.free.same λ_ _ _=>aq az) (au _)) ⟨aR.trans (by rw[dM];rfl),λa ha=>?_⟩ k1;rcases du.mp ha with ha|ha
 ·exact(A.each a ha).rJ k1.2 (au _)
 ·rw[bU.mp ha];exact ho.rJ k1.2 (au _)
noncomputable def fG:List Nat:=[10,30,31,32,74]
structure rv where
 c:Int
 N:Nat
 as:List gz
 h:SH
structure Ex (R:bp) (U:List (List aF)) (t:List Int) (ps:List (Str×Str)) (cm:Nat) (aN:Nat) (aA:SH) (a:Nat) (s:rv):Prop where
 S:bP R U s.c s.N t ps cm s.h
 A:eM R U s.N s.as s.h
 le:aN≤s.N
 kq:Kq fG aN aA s.h
 bw:s.as.length=a
theorem Vu {a:Nat}:gN a≠.mk 99 []:=λz=>by injection z with _ z;exact jz z
theorem Kq.rh {B:List Nat} {o:cy} (a:Kq B N h h') (hn:h n=aa o) (hx:(∃k,k<N∧n=gN k)∨∃j,n=c9 j) (hB:autoParam ((99::B).contains 72=an) dI):h' n=aa o:=by
 rcases hx with⟨k,hk,rfl⟩|⟨j,rfl⟩
 ·exact(a.2 _ _ hk).trans hn
 ·exact(a.1 _ _ hB).trans hn
theorem ady {I:List aF}:∀q∈cF R I x,0<q.2:=λq hq=>aj (gP.mp hq) λp _ e=>by
 unfold jC at e
 split at e
 ·exact aU e▸dJ _
 ·exact a8 e
theorem VN {s:rv} {aN a:Nat} (nd:I.Nodup) (D:eV R) (ej:∀p,p∈ps↔p∈Pj R 2) (J:Ex R U t ps cm aN aA a s) (hc:aA cn=aa (.list (I.map aM))) (hx:(∃k,k<aN∧cn=gN k)∨∃j,cn=c9 j) (G:kR R U x I) (il:I.length≤3) (hi:aA (gN im)=aa (.list (I.map ba))) (li:im<aN) (bw:a≤1000)
  (fin:∀s',Ex R U t ps cm aN aA (a+1) s'→SS (bL i (b+6)) (nM cm em cn im wm rm) s'.h k Q):
  SS (bL i (b+6)) (Cv cm em cn im wm rm x) s.h (oM::k) Q:=by
 obtain⟨c,N,as,h⟩:=s;have S:bP R U c N t ps cm h:=J.S;have le:aN≤N:=J.le;have kq:Kq fG aN aA h:=J.kq;have fa:as.length=a:=J.bw;have nn:cn≠gN N:=by
  rcases hx with⟨k,hk,rfl⟩|⟨j,rfl⟩
  ·exact kD (dp (bK hk le))
  ·exact az
 refine SQ D.gr S (kq.rh hc hx) nn G.ok il ?_;have k1:Kq [] N h (h.set (gN N) (.list ((cF R I x).map aM))):=.new (au _);have F1:br (h.set (gN N) (.list ((cF R I x).map aM))) (N+1):=S.w.tb.free.new [] _;have S1:bP R U c (N+1) t ps cm _:=S.kq (B:=[]) k1 F1 (bT _);have vj:Kq fG aN aA _:=kq.trans (k1.mono (B':=fG)) le;have A1:eM R U (N+1) as _:=(J.A:eM R U N as h).kq k1 (bT _);have m1:(h.set (gN N) (.list ((cF R I x).map aM))) (gN N)=aa (.list ((cF R I x).map aM)):=aR;generalize h.set (gN N) (.list ((cF R I x).map aM))=h1 at k1 F1 S1 vj A1 m1 ⊢;refine Vl (mm:=N) D ej S1 G il (ah ‹_› (ah ‹_› (b7 _ _)):im<N+1) ((vj.2 _ _ li).trans hi) λL c' M h2 res S2 ha k2 AJ=>?_;have A2:eM R U (M+1) as h2:=A1.kq k2 (ah ‹_› (b7 _ _));have ml:=uR (R:=R) (I:=I) (x:=x);refine aa6 (mm:=N) (am:=M) (Gy nd) ady D ej S2 (BH G.ok) (ah ‹_› ‹_›) res ((k2.2 _ _ (dm _)).trans m1:h2 (gN N)=aa (.list ((cF R I x).map aM))) ha λM3 h3 S3 Cg k3=>?_;have wf:Kq fG aN aA h3:=(vj.trans (k2.mono (B':=fG)) (ah ‹_› (b7 _ _)):Kq fG aN aA h2).trans (k3.mono (B':=fG)) (c7 (ah le (gd AJ)));refine Sq S3 (A2.kq k3 Cg:eM R U M3 as h3) (x:=x) (am:=M) (L:=L) ⟨G,il,(wf.2 _ _ li).trans hi,bK (bK li le) (ah (bT _) (ah AJ (ah (bT _) Cg))),res,(k3.2 _ _ (dm _)).trans ha,by show M<M3;assumption⟩ (ah (bH fa) bw) λh4 S4 A4 k4=>?_;refine SS.sub (d_:=nM cm em cn im wm rm) (aH (fin ⟨c',M3,_,h4⟩ ⟨S4,A4,by show aN≤M3;exact ah le (gd (ah AJ (gd Cg))),wf.trans (k4.mono (B':=fG)) (ah le (gd (ah AJ (gd Cg)))),by show(as++[_]).length=a+1;rw[cT,fa];rfl⟩)) ?_;exact ai (ai (ai (ai (ai (ai (ai (ai (ai (ai (ai (ai bt)))))))))))
variable{as:List gz}
theorem Vo:∀x∈Ask,x∈Sy:=aV
theorem RT (nd:I.Nodup) (D:eV R) (ej:∀p,p∈ps↔p∈Pj R 2) (S:bP R U c N t ps cm h) (A:eM R U N as h) (hc:h cn=aa (.list (I.map aM))) (hx:(∃k,k<N∧cn=gN k)∨∃j,cn=c9 j) (ok:∀q∈I,cY R q) (hU:I∈U) (il:I.length≤3) (hi:h (gN im)=aa (.list (I.map ba))) (li:im<N) (bw:as.length≤100)
  (fin:∀c N' jP h',bP R U c N' t ps cm h'→eM R U N' jP h'→N≤N'→Kq fG N h h'→jP.length≤as.length+7→SS (bL i (b+6)) (nM cm em cn im wm rm) h' (jT.drop 6::k) Q):
  SS (bL i (b+6)) (nM cm em cn im wm rm) h (jT.drop 5::k) Q:=by
 have F:=S.w.tb.free;have F1:br (h.set (gN N) (.list (Ask.map .str))) (N+1):=F.new [] _;have k1:Kq [] N h (h.set (gN N) (.list (Ask.map .str))):=.new (au _);have l1:(h.set (gN N) (.list (Ask.map .str))) (gN N)=aa (.list (Ask.map .str)):=aR;refine eo (σ:=rv) (λ_=>nM cm em cn im wm rm) rv.h (λs j=>Ex R U t ps cm (N+1) (h.set (gN N) (.list (Ask.map .str))) (as.length+j) s) ⟨c,N+1,as,h.set (gN N) (.list (Ask.map .str))⟩ (Ask.map .str) (d7 (n:=gN N) (b9 (i.K.ref rfl) (i.K.keep rfl) aL (aci (b:=b+5) rfl F).cp) l1) ⟨(S.kq (B:=[]) k1 F1 (bT _):bP R U c (N+1) t ps cm (h.set (gN N) (.list (Ask.map .str)))),(A.kq k1 (bT _):eM R U (N+1) as (h.set (gN N) (.list (Ask.map .str)))),au _,.same,rfl⟩ .rfl (λs j J=>d6 ((J.kq.2 _ _ (dm _)).trans l1)) (λs j v J e=>?_) (λs J=>aH (fin s.c s.N s.as s.h J.S J.A (by have:=J.le;exact cj ‹_›) ((k1.mono (B':=fG)).trans J.kq (bT _)) (by have:=J.bw;rw[aI] at this;have z:Ask.length=7:=rfl;exact ah (bH this) (eZ aJ _))));refine aj (dH e) λx sK ar=>?_;subst ar;have z:Ask.length=7:=rfl;exact dV (VN nd D ej J ((k1.mono (B':=fG)).rh hc hx) (hx.imp (λ⟨k,a,e⟩=>⟨k,pn a,e⟩) id) ⟨ok,by exact ah ‹_› aJ,hU,Vo _ (bQ sK)⟩ il ((k1.2 _ _ li).trans hi:(h.set (gN N) (.list (Ask.map .str))) (gN im)=aa (.list (I.map ba))) (pn li) (ah (fp bw (cj ((cU.mp sK).1))) aJ) λs' J'=>bN (LQ.next (s':rv) J' .rfl))
theorem aaq (D:eV R) (ej:∀p,p∈ps↔p∈Pj R 2) (S:bP R U c N t ps cm h) (A:eM R U N as h) (E:BX R N K h (cn,I)) (hU:I∈U) (bw:as.length≤100)
  (fin:∀c N' jP h',bP R U c N' t ps cm h'→eM R U N' jP h'→N≤N'→Kq fG N h h'→jP.length≤as.length+7→SS (bL i (b+6)) (rG cm em cn) h' k Q):
  SS (bL i (b+6)) (rG cm em cn) h (jT::k) Q:=by
 have g:=D.gr;have hx:(∃k,k<N∧cn=gN k)∨∃j,cn=c9 j:=E.nm.imp id λ⟨j,_,e⟩=>⟨j,e⟩;have nx:cn≠.mk 99 []:=by
  rcases hx with⟨k,_,rfl⟩|⟨j,rfl⟩
  ·exact Vu
  ·exact az
 have il:I.length≤3:=E.len;have ok:∀q∈I,cY R q:=E.ok;have hc:h cn=aa (.list (I.map aM)):=E.own;refine Z9 g S E nx ?_;have k1:Kq [] N h (h.set (gN N) (.list (I.map ba))):=.new (au _);have S1:bP R U c (N+1) t ps cm (h.set (gN N) (.list (I.map ba))):=S.kq (B:=[]) k1 (S.w.tb.free.new [] _) (bT _);have A1:eM R U (N+1) as (h.set (gN N) (.list (I.map ba))):=A.kq k1 (bT _);have i1:(h.set (gN N) (.list (I.map ba))) (gN N)=aa (.list (I.map ba)):=aR;have vj:Kq fG N h (h.set (gN N) (.list (I.map ba))):=k1.mono;generalize h.set (gN N) (.list (I.map ba))=h1 at k1 S1 A1 i1 vj ⊢;refine ω g S1 i1 ok il λJ ad h2 C S2 hw k2=>?_;refine jw (Pb D ej C) λeJ nd qg=>?_;subst eJ;have LG:Kq fG N h h2:=vj.trans (k2.mono (B':=fG)) (bT _);have IJ:(ad.map λn=>((n,0):aF)).length≤5:=by
  rw[aI,(D5 nd Ay qg).length_eq];exact EZ g
 have Mk:∀q∈ad.map (λn=>((n,0):aF)),cY R q:=λq hq=>by
  refine aj (bD.mp hq) λn hn ar=>?_;subst ar;exact⟨(xW.mp ((qg n).mp hn)).1,cb _⟩
 refine acr (im:=N) S2 (LG.rh hc hx) il hw IJ ?_;have k3:Kq [] (N+3) h2 (h2.set (gN (N+3)) (.list ((ad.map λn=>((n,0):aF)).map aM))):=.new (au _);have S3:bP R U (c+1) (N+4) t ps cm (h2.set (gN (N+3)) (.list ((ad.map λn=>((n,0):aF)).map aM))):=S2.kq (B:=[]) k3 (S2.w.tb.free.new [] _) (bT _);have A3:eM R U (N+4) as _:=(A1.kq k2 (eZ aJ _):eM R U (N+3) as h2).kq k3 (bT _);have wf:Kq fG N h _:=LG.trans (k3.mono (B':=fG)) (b7 _ _);have r3:(h2.set (gN (N+3)) (.list ((ad.map λn=>((n,0):aF)).map aM))) (gN (N+3))=aa (.list ((ad.map λn=>((n,0):aF)).map aM)):=aR;have i3:=(k3.2 N [] (kY (b7 _ _))).trans ((k2.2 _ _ (dm _)).trans i1:h2 (gN N)=aa (.list (I.map ba)));have w3:=(k3.2 (N+1+1) [] (au _)).trans hw;generalize h2.set (gN (N+3)) (.list ((ad.map λn=>((n,0):aF)).map aM))=h3 at k3 S3 A3 wf r3 i3 w3 ⊢;refine WN (im:=N) (rm:=N+3) g S3 (wf.rh hc hx) nx ok il i3 w3 r3 IJ (Ik _ (λa b z e=>z (ay mR e)) nd:(ad.map λn=>((n,0):aF)).Nodup) Mk λM h4 S4 pU k4=>?_;have A4:eM R U M as h4:=A3.kq k4 pU;have Jp:Kq fG N h h4:=wf.trans (k4.mono (B':=fG)) (b7 _ _);refine Y7 g S4 (Jp.rh hc hx) nx ok il ((k4.2 (N+1+1) [] (bT _)).trans w3) qg λM5 h5 S5 sW k5=>?_;have Mq:Kq fG N h h5:=Jp.trans (k5.mono (B':=fG)) (ah (b7 _ _) pU);refine RT E.nd D ej S5 (A4.kq k5 sW:eM R U M5 as h5) (Mq.rh hc hx) (hx.imp (λ⟨k,a,e⟩=>⟨k,bK a (ah (ah (b7 _ 4) pU) sW),e⟩) id) ok hU il ((k5.2 N [] (bK (kY (b7 _ _)) pU)).trans ((k4.2 N [] (kY (b7 _ _))).trans i3)) (bK (bK (qF (dJ 3)) pU) sW) bw λc6 N6 WP h6 S6 A6 le6 k6 f6=>?_;exact SS.sub (aH (fin c6 N6 WP h6 S6 A6 (ah (ah (ah (b7 _ 4) pU) sW) le6) (Mq.trans k6 (ah (ah (b7 _ 4) pU) sW)) f6)) (ai (ai (ai (ai (ai (ai (ai (ai (ai bt)))))))))
noncomputable def rK (cm em:Nat):SF:=[("tape",.ref cz),("rules",.ref iS),("grammar",.ref aX),("table",.ref dg),("corners",.ref (gN cm)),("every",.ref (gN em)),("lists",.ref lsN),("asked",.ref ij)]
theorem WY (D:eV R) (ej:∀p,p∈ps↔p∈Pj R 2) (S:bP R (gG R) c N t ps cm h) (I:u6 R em N Ls h) (l4:Ls.length≤4) (ox:h ij=af)
  (fin:∀U c N as h',bP R U c N t ps cm h'→eM R U N as h'→as.length≤28→SS (bL i (b+6)) (rK cm em) h' [(bc 478).drop 13] Q):
  SS (bL i (b+6)) (pB cm em) h [(bc 478).drop 11] Q:=by
 have hUl:=Gw D.gr;refine bO (ey (n:=ij) aL ox) (SS.sub (d_:=rK cm em) ?_ (ai (ai (ai (ai (ai (ai (ai (ai bt)))))))));have k1:Kq fG N h (h.set ij (.list [])):=.set rfl;have S1:bP R (gG R) c N t ps cm (h.set ij (.list [])):=S.kq (B:=[74]) (.set rfl) (S.w.tb.free.same λ_ _ _=>aq az) (au _);have S2:bP R (gG R++Ls.map (·.2)) c N t ps cm (h.set ij (.list [])):={S1 with w:=S1.w.up (List.subset_append_left _ _) (by rw[cT,aI];exact ah (fp ‹_› ‹_›) aJ)};have E8:(h.set ij (.list [])) lsN=aa (.list (Ls.map λp=>.ref p.1)):=(aq az).trans I.ls;have A1:eM R (gG R++Ls.map (·.2)) N [] (h.set ij (.list [])):=⟨aR,λ_ z=>by exact cS z⟩;have e1:∀p∈Ls,BX R N Ls.length (h.set ij (.list [])) p:=λp hp=>by
  have E:=I.each p hp;exact⟨k1.rh E.own (E.nm.imp id λ⟨j,_,e⟩=>⟨j,e⟩),E.nd,E.len,E.ok,E.nm⟩
 generalize h.set ij (.list [])=h1 at k1 S2 E8 A1 e1 ⊢;refine eo (σ:=rv) (λ_=>rK cm em) rv.h (λs j=>bP R (gG R++Ls.map (·.2)) s.c s.N t ps cm s.h∧eM R (gG R++Ls.map (·.2)) s.N s.as s.h∧N≤s.N∧Kq fG N h1 s.h∧s.as.length≤7*j) ⟨c,N,[],h1⟩ (Ls.map (λp:Nm×List aF=>SV.ref p.1)) (d7 (n:=lsN) n_ E8) (t8 S2 A1 (au _) .same (au _)) .rfl (λs j J=>d6 (n:=lsN) ((J.2.2.2.1.1 73 [] rfl).trans E8)) (λs j v J e=>?_) (λs J=>aH (fin _ s.c s.N s.as s.h J.1 J.2.1 (by have:=J.2.2.2.2;rw[aI] at this;exact ah this (ah (pg _ l4) aJ))));refine aj (dH e) λp hp ar=>?_;subst ar;have hj:=(cU.mp hp).1;obtain⟨cn,I'⟩:=p;refine xD J λS3 A3 le kq bw=>?_;clear J;have pm:=bQ hp;have E:=e1 _ pm;refine dV (SS.sub (d_:=rG cm em cn) (aaq (K:=Ls.length) D ej S3 A3 ⟨kq.rh E.own (E.nm.imp id λ⟨j,_,e⟩=>⟨j,e⟩),E.nd,E.len,E.ok,E.nm.imp (λ⟨x,a,e⟩=>⟨x,by exact ah ‹_› ‹_›,e⟩) id⟩ (kd _ (bD.mpr ⟨_,pm,rfl⟩)) (by lia) λc' N' jP h' S4 A4 pU k4 f4=>bN (LQ.next (⟨c',N',jP,h'⟩:rv) ⟨S4,A4,ah le pU,kq.trans k4 le,by show jP.length≤7*(j+1);exact ah f4 (fp bw aJ)⟩ (ai (ai (ai (ai (ai (ai (ai (ai bt)))))))))) (ai (ai (ai (ai (ai (ai (ai (ai (ai bt))))))))))
theorem adb {fr:SF} {ag:SH} {e:Expr} {u v w:SV} {rest:List bI} {x y z:Str} {p q r tp pos:Pos} {n:Nat} (a:EV i fr h e (.tup [u,v,w]) ag) (b:SS i (((fr.put x u).put y v).put z w) ag (rest::k) Q) (ok:autoParam ((i.l.contains x && i.l.contains y && i.l.contains z && iq e)=ab) bn):SS i fr h ((.Assign [.Tuple [.Name x p,.Name y q,.Name z r] n tp] e pos::rest)::k) Q:=by
 simp only[bR] at ok;exact fM (sV _ a.ep (λv' aC e fr' s Q' hq=>by refine xA e λcP bu=>?_;clear e;subst cP;subst bu;exact GK i.q (λ_=>rfl) rfl (oT i.V (oT i.V (oT i.V (hq _ _ (b.run _ (((s.put _ _).put _ _).put _ _))) ok.1.2) ok.1.1.2) ok.1.1.1)) (by rw[ok.2];rfl))
noncomputable def aar:List bI:=eu (stN (bc 478) 13)
theorem aae {a:gz} (D:eV R) (ej:∀p,p∈ps↔p∈Pj R 2) (S:bP R U c N t ps cm h) (A:eM R U N (as++[a]) h) (bw:as.length≤28)
  (fin:∀c N h',bP R U c N t ps cm h'→eM R U N as h'→SS (bL i (b+6)) (rK cm em) h' k Q):
  SS (bL i (b+6)) (rK cm em) h (aar::k) Q:=by
 have ls:h ij=aa (.list (as.map gz.val++[a.val])):=by have:=A.ls;rwa [dM] at this
 have k1:Kq [74] N h (h.set ij (.list (as.map gz.val))):=.set rfl;have S1:bP R U c N t ps cm (h.set ij (.list (as.map gz.val))):=S.kq k1 (S.w.tb.free.same λ_ _ _=>aq az) (au _);have A1:eM R U N as (h.set ij (.list (as.map gz.val))):=⟨aR,λx hx=>(A.each x (i6 _ hx)).rJ k1.2 (au _)⟩;have O1:=(A.each a (kd _ dv)).rJ k1.2 (au N);refine adb (u:=.ref (gN a.im)) (v:=.str a.x) (w:=.ref (gN a.am)) (hG n_ (Po ls) rfl aL (RM ls (by rw[aI _];unfold aZ;exact bf ‹_› bj):CP (bL i (b+6)) h (.bi "list.pop") [.ref ij] (is a.val (h.set ij (.list (as.map gz.val)))))) ?_;generalize h.set ij (.list (as.map gz.val))=h1 at S1 A1 O1 k1 ⊢;refine rE (de n_ (iL S1.w.tb.tb rfl) (i.K.keep rfl) (aB n_ aL) (Bv (b:=b+5) rfl S1.w.tb O1.hi O1.i.ok (by have:=O1.il;exact ah ‹_› aJ)).cp) ?_;rintro v h2 ⟨J,ad,C⟩;have S2:bP R U (c+1) (N+1) t ps cm h2:=S1.run (S1.w.clo C) C.kq (bT _);have A2:eM R U (N+1) as h2:=A1.kq C.kq (bT _);have O2:=O1.rJ C.kq.2 (bT N);have k3:Kq [] (N+1) h2 (h2.set (gN (N+1)) (.list (a.I.map ba))):=.new (au _);have S3:bP R U (c+1) (N+2) t ps cm (h2.set (gN (N+1)) (.list (a.I.map ba))):=S2.kq (B:=[]) k3 (S2.w.tb.free.new [] _) (bT _);have O3:=O2.rJ k3.2 (bT (N+1));refine CY (P:=λh'=>∃c N,bP R U c N t ps cm h'∧eM R U N as h') (CA (P1:=λv h'=>∃L c' M,v=.ref (gN M)∧dE R (cF R a.I a.x) L∧bP R U c' (M+1) t ps cm h'∧h' (gN M)=aa (.list (L.map aM))∧Kq [10,30,31,32] (N+2) (h2.set (gN (N+1)) (.list (a.I.map ba))) h'∧N+2≤M)
  (P2:=λu w h'=>∃L c' M,u=.ref (gN M)∧w=.ref (gN a.am)∧dE R (cF R a.I a.x) L∧bP R U c' (M+1) t ps cm h'∧h' (gN M)=aa (.list (L.map aM))∧Kq [10,30,31,32] (N+2) (h2.set (gN (N+1)) (.list (a.I.map ba))) h'∧N+2≤M) ?_ (λu h4 p=>?_) λu w h4 p=>?_) λh' ⟨c',N',S',A'⟩=>SS.sub (d_:=rK cm em) (aH (aH (fin c' N' h' S' A'))) ?_
 ·exact JD D ej S3 O3.i.ok O3.il (de n_ (iL S2.w.tb.tb rfl) (i.K.keep rfl) (aB ((λx=>My x O2.hi (by rw[aI _];have:=O1.il;unfold aZ;exact ah ‹_› aJ) S2.w.tb.free.at:∀{e:Expr} {p pos:Pos} {fr:SF},EV (bL i (b+6)) fr h2 e (.ref (gN a.im)) h2→EV (bL i (b+6)) fr h2 (.Subscript e (.Slice af af af p) pos) (.ref (gN (N+1))) (h2.set (gN (N+1)) (.list (a.I.map ba)))) n_) (aB n_ aL)) (yf (b:=b+4) rfl O3.i S3.w (dm _) aR).cp) rfl
 ·obtain⟨L,c',M,rfl,p⟩:=p
  exact EP.imp (n_ (v:=.ref (gN a.am))).ep λv h5 ⟨e1,e2⟩=>⟨L,c',M,rfl,e1,e2▸p⟩
 ·obtain⟨L,c',M,rfl,rfl,r,S4,hL,k4,le⟩:=p
  have O4:=O3.rJ k4.2 (ah ‹_› (b7 _ _):N+2≤M+1);obtain rfl:L=a.L:=dE.det r O4.res;exact⟨Br (.own hL) (.own O4.ha) xX,c',M+1,S4,(A2.kq k3 (bT _):eM R U (N+2) as (h2.set (gN (N+1)) (.list (a.I.map ba)))).kq k4 (ah ‹_› (b7 _ _))⟩
 ·exact ai (ai (ai (ai (ai (ai (ai (ai bt)))))))
structure Fv where
 c:Int
 N:Nat
 as:List gz
 h:SH
theorem Mf {α:Type}:∀{l:List α},l≠[]→∃a x,l=a++[x]
 |[],z=>bd rfl z
 |[x],_=>(tT ([]) x rfl)
 |x::y::r,_=>by
  refine jX (Mf (l:=y::r) (λz=>by exact jz z)) λa z e=>?_;exact(tT (x::a) z (by rw[e];rfl))
theorem Wu (D:eV R) (ej:∀p,p∈ps↔p∈Pj R 2) (S:bP R U c N t ps cm h) (A:eM R U N as h) (bw:as.length≤28)
  (fin:∀fr h',Q (.ret (.bool ab)) fr h'):SS (bL i (b+6)) (rK cm em) h [(bc 478).drop 13] Q:=by
 refine rR (σ:=Fv) (λ_=>rK cm em) Fv.h (λs m=>bP R U s.c s.N t ps cm s.h∧eM R U s.N s.as s.h∧s.as.length=m∧m≤28) ⟨c,N,as,h⟩ as.length (oQ S A rfl bw) .rfl (λs m J=>?_);obtain⟨c,N,as,h⟩:=s;refine mE J λS A e bw=>?_;clear J;dsimp only at S A e bw ⊢;refine(mB (!(as.map gz.val).isEmpty) h (p_ n_ (lO (.own A.ls) (by rw[aI _];exact bf (bH e) (bf bw bj)))) (λz=>aH (gv jy (fin _ _))) (λz=>?_));refine jX (Mf (l:=as) (λq=>by subst q;exact cJ z)) λjP a ar=>?_;subst ar;rw[cT] at e;have e1:jP.length+1=m:=e;exact aae D ej S A (gd (ah (bH e1) bw)) λc' N' h' S' A'=>bN (LQ.next (⟨c',N',jP,h'⟩:Fv) ⟨jP.length,lb (bH e1),S',A',rfl,gd (ah (bH e1) bw)⟩ .rfl)
theorem U0 {i:FI} {b:Nat} {Q:QS} {a:ax} {sc:List Int} (hs:BL i.G a (sc.map .int)) (hz:sc.length≤63) (fin:∀fr h',Q (.ret (.bool ab)) fr h'):
  SS (bL i (b+6)) [("script",.glob a)] (λ_=>af) [bc 478] Q:=
 T4 (b:=b+6) hs hz λt h tl o F tp=>XO (b:=b) tl o F tp λt Rs N h J l4=>UA J l4 λt Rs N h J l5=>
  have D:eV Rs:=⟨J.ok,J.hd⟩
  Wz J λN h G L iE=>Yg D G L iE λN h G L iE=>Tl D G L iE λN h G L iE=>Ri D G L iE λN c h w gr nH L=>
  Xt D w gr nH L λN ps cm h S ej o=>X8 D.gr S (Vh D.gr (S.kq (B:=[]) (.new (au _)) (S.w.tb.free.new [] _) (bT _)) (o.kq (B':=[]) (.new (N:=N) (au _))) N (dm _) aR
  λh' Ls S I l2 ox=>XS D.gr S I l2 ox λt h Ls S I l4 ox=>WY D ej S I l4 ox λU c N as h S A bw=>Wu D ej S A bw fin)
theorem MO {L:Nat}:gu (L+1) (cg 478).names []=([("symbol",L+1+1+1+1),("grammar",L+1+1+1),("rules",L+1+1),("tape",L+1)]:List (Str×ax)):=by kernel_rfl
theorem JI:iT (cg 478)=(["tape","rules","grammar","symbol"]:List Str):=by kernel_rfl
theorem Rp:(cg 478).names.all (λp=>p.2 !=.free)=ab:=by kernel_rfl
theorem V5:(cg 478).names.lookup ("script":Str)=aa .local:=by kernel_rfl
theorem Jw:(cg 478).kind=.function:=by kernel_rfl
theorem δ:(["tape","rules","grammar","symbol"]:List Str).all (λx=>(cg 478).names.lookup x==aa .cell)=ab:=by kernel_rfl
theorem adk {P:aW} {m:Mu} {vK:List Value} {sc:List Int} (h:IntsAre vK sc):aY P m (sc.map .int) vK:=by
 induction h with
 |nil=>rfl
 |cons _ _ _ ih=>exact⟨_,_,rfl,⟨_,rfl⟩,ih⟩
theorem Sv {prog:fq} {w:cD} {base:cO} {K:Frag} {mg mb mm:Str→Option Value} {L a sa:ax} {cd:Value} {nm:Str} {c1 c2 c3 c4:Obj} {vK:List Value} {sc:List Int} {s:ak}
  (hK:∀G:Gl,G.K=K→KD G) (g:base.Ns uk mg) (bb:base.Ns zy mb) (blt:∀x:Str,x≠"__name__"→mb x=Hu x) (nl:base.NoLimit) (fT:K.In base) (Bu:∃o,base.get? C_=aa o)
  (F:Fr base L s.heap mm) (hmm:mm "script"=aa (.ref sa)) (N:News base L s.heap [(L+1+1+1+1,c1),(L+1+1+1,c2),(L+1+1,c3),(L+1,c4),(398,oa #[]),(391,oa #[])])
  (d1:∃v,c1.data=.cell v) (d2:∃v,c2.data=.cell v) (d3:∃v,c3.data=.cell v) (d4:∃v,c4.data=.cell v)
  (hl:base.IsList sa vK.toArray) (hi:IntsAre vK sc) (len:¬((63:Int) <sc.length)) (lt:398<L) (hg:s.gens=#[]):
  aw (aQ prog w) (callerA.deeper (w0 nm (cg 478) L a cd)) (execs (bc 478) (w0 nm (cg 478) L a cd))
   (λf s'=>f=.ret (.bool ab)∧(∀b o,base.get? b=aa o→s'.heap.get? b=aa o)∧s'.os=s.os∧s'.gens=#[]∧s'.heap.get? 398=aa (oa #[])∧s'.heap.get? 391=aa (oa #[]))
   (λ_ _=>False) s:=by
 let G:Gl:=⟨prog,w,base,K,mg,mb,s.os,g,bb,blt,nl,fT,Bu⟩
 have MR:KD G:=hK G rfl;have hLz:=F.above;have cellAt:∀c,c∈[L+1+1+1+1,L+1+1+1,L+1+1,L+1]→(∃v,s.heap.IsCell c v)∧base.get? c=af:=λc hc=>by
  simp only[dA,sj,or_false] at hc;rcases hc with rfl|rfl|rfl|rfl
  ·refine xE d1 λv e=>?_;clear d1;exact⟨⟨v,_,(N _ (.head _)).1,e⟩,(N _ (.head _)).2.2⟩
  ·refine xE d2 λv e=>?_;clear d2;exact⟨⟨v,_,(N _ (.tail _ (.head _))).1,e⟩,(N _ (.tail _ (.head _))).2.2⟩
  ·refine xE d3 λv e=>?_;clear d3;exact⟨⟨v,_,(N _ (.tail _ (.tail _ (.head _)))).1,e⟩,(N _ (.tail _ (.tail _ (.head _)))).2.2⟩
  ·refine xE d4 λv e=>?_;clear d4;exact⟨⟨v,_,(N _ (.tail _ (.tail _ (.tail _ (.head _))))).1,e⟩,(N _ (.tail _ (.tail _ (.tail _ (.head _))))).2.2⟩
 have Er:=N (398,oa #[]) (.tail _ (.tail _ (.tail _ (.tail _ (.head _)))));have FL:=N (391,oa #[]) (.tail _ (.tail _ (.tail _ (.tail _ (.tail _ (.head _))))));have UT:base.get? L=af:=zE hLz;obtain⟨oL,es,ep,q1,q2,q3⟩:=F.ns;have J5:∀x,(cg 478).names.lookup x=aa .cell→∃c,(w0 nm (cg 478) L a cd).cells.lookup x=aa c∧c∈[L+1+1+1+1,L+1+1+1,L+1+1,L+1]:=λx hx=>by
  have hm:x∈iT (cg 478):=bD.mpr (aT ((x,.cell)) (mU.mpr ⟨mV hx,rfl⟩) rfl);rw[JI] at hm;show ∃c,(gu (L+1) (cg 478).names []).lookup x=aa c∧_;rw[MO];simp only[dA,sj,or_false] at hm;rcases hm with rfl|rfl|rfl|rfl
  ·exact(aT _ rfl (.tail _ (.tail _ (.tail _ (.head _)))))
  ·exact(aT _ rfl (.tail _ (.tail _ (.head _))))
  ·exact(aT _ rfl (.tail _ (.head _)))
  ·exact(aT _ rfl (.head _))
 have Bp:∀x,(cg 478).names.lookup x≠aa .free:=λx hx=>by
  have:=db.mp Rp _ (mV hx);exact cJ this
 have frs:∀{x:Str} {v:SV},([("script",SV.glob sa)]:SF).lookup x=aa v→x="script"∧v=.glob sa:=λ{x v} e=>by
  rw[kX] at e
  cases z:x==("script":Str) with
  |true=>rw[z] at e;exact⟨eW.mp z,(aU e).symm⟩
  |false=>rw[z] at e;(first|exact a8 e|obtain rfl:=aU e)
 have FR:∀{c},c∈[L+1+1+1+1,L+1+1+1,L+1+1,L+1]→c≠L∧c≠398∧c≠391:=λ{c} hc=>by
  simp only[dA,sj,or_false] at hc;have hL:L<c:=by
   rcases hc with rfl|rfl|rfl|rfl
   ·exact qF (dJ 3)
   ·exact qF (dJ 2)
   ·exact qF (dJ 1)
   ·exact dm L
  exact(cI (dF hL) (dF (i2 lt hL)) (dF (i2 (i2 bj lt) hL)))
 have R:Rel G (bE 478) 6 (L::[L+1+1+1+1,L+1+1+1,L+1+1,L+1]) (w0 nm (cg 478) L a cd) (callerA.deeper (w0 nm (cg 478) L a cd)) (pQ base [(398,oa #[]),(391,oa #[])]) (λ_=>af) [("script",.glob sa)] (λ_=>af) s:=by
  refine Rel.start (G:=G) (L:=L) (ex:=[(398,oa #[]),(391,oa #[])]) hg rfl F.keep (λp hp=>?_) (λc hc=>?_) rfl rfl dv (by show(cg 478).kind≠_;rw[Jw];nofun) (aT oL q1 (λvs e=>by rw[q2] at e;exact nomatch e)) ?_ (by show 1+claimMargin+1+6<Hv;exact bj) (by show 4+3+8*6+8<ew;exact bj) rfl (λ_=>rfl)
  ·rcases dA.mp hp with rfl|hp
   ·exact⟨Er.1,λz=>(dA.mp z).elim (λz=>Er.2.1 z) λz=>(FR z).2.1 rfl⟩
   ·rw[bU.mp hp]
    exact⟨FL.1,λz=>(dA.mp z).elim (λz=>FL.2.1 z) λz=>(FR z).2.2 rfl⟩
  ·rcases dA.mp hc with rfl|hc
   ·exact UT
   ·exact(cellAt c hc).2
  ·refine⟨rfl,Jw,rfl,rfl,dv,(aT mm F.ns (λx v e hx=>?_)),λx v e hx=>?_,λx hx=>?_,λx hx=>?_,λx y c hx h1 h2=>?_,λc hc=>?_⟩
   ·refine xA (frs e) λcP bu=>?_;subst cP;subst bu
    exact(aT _ hmm rfl)
   ·refine xA (frs e) λcP bu=>?_;subst cP;subst bu
    rcases hx with hx|hx
    ·have:=V5.symm.trans hx;cases this
    ·exact bd hx (Bp _)
   ·rcases hx with hx|hx
    ·refine aj (J5 x hx) λc e1 e2=>?_
     exact(aT c e1 (.inl ⟨eS _ e2,(cellAt c e2).1⟩))
    ·exact bd hx (Bp _)
   ·have hx:x∈iT (cg 478):=hx
    rw[JI] at hx;have hc:=eW.mp (db.mp δ x hx);refine aj (J5 x hc) λc e1 e2=>?_;refine xE ((cellAt c e2).1) λv e3=>?_;exact⟨hc,c,v,e1,eS _ e2,(FR e2).1,e3⟩
   ·have k:∀y (c:ax),(w0 nm (cg 478) L a cd).cells.lookup y=aa c→y=(["tape","rules","grammar","symbol"]:List Str).getD (c- (L+1)) "":=λy c e=>by
     have e:(gu (L+1) (cg 478).names []).lookup y=aa c:=e;rw[MO] at e;have:=mV e;simp only[dA,Prod.mk.injEq,sj,or_false] at this;rcases this with⟨rfl,rfl⟩|⟨rfl,rfl⟩|⟨rfl,rfl⟩|⟨rfl,rfl⟩
     ·exact(ay (λn=>(["tape","rules","grammar","symbol"]:List Str).getD n "") (ui (L+1) 3)).symm
     ·exact(ay (λn=>(["tape","rules","grammar","symbol"]:List Str).getD n "") (ui (L+1) 2)).symm
     ·exact(ay (λn=>(["tape","rules","grammar","symbol"]:List Str).getD n "") (ui (L+1) 1)).symm
     ·exact(ay (λn=>(["tape","rules","grammar","symbol"]:List Str).getD n "") (ui (L+1) 0)).symm
    exact(k _ _ h1).trans (k _ _ h2).symm
   ·rcases dA.mp hc with rfl|hc
    ·exact(aT oL q1 (zf q2))
    ·refine eA ((cellAt c hc).1) λv o e1 e2=>?_
     exact(aT o e1 (BF e2))
 have U_:BL G sa (sc.map .int):=⟨_,hl,λP m _=>adk hi⟩;have i:FI:=⟨G,6,MR,bE 478,[],[],rfl,rfl,rfl⟩;have W:=U0 (i:=⟨G,6,MR,bE 478,[],[],rfl,rfl,rfl⟩) (b:=0) (Q:=λf _ _=>f=.ret (.bool ab)) U_ (by lia) (λ_ _=>rfl);refine(W.run _ .rfl).run _ _ _ _ _ _ _ _ R (λf fr' h' f' s' P' m' hq hP hm hf R'=>?_) λx fr' h' e s' P' m' hq=>hq.elim;have keep:∀x o,pQ base [(398,oa #[]),(391,oa #[])] x=aa o→x≠L→s'.heap.get? x=aa o:=λx o hx hn=>by
  obtain⟨l,e1,_,_,_,e5⟩:=R'.frs;refine aj (e5 x o (hP _ _ hx)) λsl z1 z2=>?_;have:l=[w0 nm (cg 478) L a cd]:=(aU e1).symm;subst this;rw[z1,Ip o sl (z2 λz=>hn (bU.mp z))]
 have hq:up (λf _ _=>f=.ret (.bool ab)) f fr' h':=by cases f<;>exact hq
 refine aj hq λ_ _ ar=>?_;clear hq;subst ar;refine aj hf λv' bu ar=>?_;clear hf;subst bu;subst ar;exact⟨rfl,R'.bs,R'.os,R'.gens,(keep _ _ (by unfold pQ;rw[Er.2.2];rfl) (dp lt)),(keep _ _ (by unfold pQ;rw[FL.2.2];rfl) (dp (i2 bj lt)))⟩
theorem YY {h:cO} {KA:List (ax×ax)} {p:fq} {Uq:List Str} {GG:ExcName→Option Value} {mg mb:Str→Option Value} (hT:TabsAt KA h) (T:Top p Uq GG mg mb h) (hp:importsNone p=ab):∃o,(ghostOf h KA).get? C_=aa o:=by
 obtain⟨mm,n,_⟩:=(T.seer hp).mods;obtain⟨o,_,_,e,_⟩:=ghost_ns hT n;exact⟨o,e⟩
theorem RQ {c:ClaimW} {cl:Str→Option ax} {GG:ExcName→Option Value} {args:List WData} {a5 s':ak} {b:Bool} (hr:∀cls,c.raises args cls=an) (hp:c.post args (.bool b) args=ab)
  (keep:∀b o,a5.heap.get? b=aa o→s'.heap.get? b=aa o) (ho:s'.os=a5.os) (hg:s'.gens=#[]):GoodW c cl GG args a5 (.ok (.ret (.bool b))) s':=
 ⟨.inl ⟨_,_,[],rfl,hr,ReadsW.bool b,hp,λ_=>⟨List.nodup_nil,λ_ hm=>(nomatch hm)⟩⟩,keep,ho,hg⟩
end Mine.Internal
namespace Mine.top
theorem asd:0=0:=rfl
theorem ame:0=0:=rfl
theorem aj2:0=0:=rfl
theorem ami:0=0:=rfl
theorem aj0:0=0:=rfl
theorem ar7:0=0:=rfl
theorem apu:0=0:=rfl
theorem an2:0=0:=rfl
theorem aqk:0=0:=rfl
theorem alk:0=0:=rfl
theorem aih:0=0:=rfl
theorem aom:0=0:=rfl
theorem ase:0=0:=rfl
theorem ajn:0=0:=rfl
theorem ajk:0=0:=rfl
theorem ak5:0=0:=rfl
theorem akl:0=0:=rfl
theorem amp:0=0:=rfl
theorem ajm:0=0:=rfl
theorem aol:0=0:=rfl
theorem apn:0=0:=rfl
theorem ajw:0=0:=rfl
theorem aoj:0=0:=rfl
theorem aq3:0=0:=rfl
theorem aqp:0=0:=rfl
theorem aka:0=0:=rfl
theorem ako:0=0:=rfl
theorem anq:0=0:=rfl
theorem aii:0=0:=rfl
theorem aoh:0=0:=rfl
theorem ar0:0=0:=rfl
theorem art:0=0:=rfl
theorem ajx:0=0:=rfl
theorem ait:0=0:=rfl
theorem al0:0=0:=rfl
theorem aky:0=0:=rfl
theorem alt:0=0:=rfl
theorem apg:0=0:=rfl
theorem aj9:0=0:=rfl
theorem ale:0=0:=rfl
theorem anm:0=0:=rfl
theorem arx:0=0:=rfl
theorem amt:0=0:=rfl
theorem ajp:0=0:=rfl
theorem ak3:0=0:=rfl
theorem aqw:0=0:=rfl
theorem ak6:0=0:=rfl
theorem asq:0=0:=rfl
theorem aj8:0=0:=rfl
theorem arj:0=0:=rfl
theorem asa:0=0:=rfl
theorem anh:0=0:=rfl
theorem ap8:0=0:=rfl
theorem ai5:0=0:=rfl
theorem aow:0=0:=rfl
theorem ant:0=0:=rfl
theorem aja:0=0:=rfl
theorem anz:0=0:=rfl
theorem al4:0=0:=rfl
theorem am0:0=0:=rfl
theorem aph:0=0:=rfl
theorem ans:0=0:=rfl
theorem ajf:0=0:=rfl
theorem aqo:0=0:=rfl
theorem apb:0=0:=rfl
theorem amv:0=0:=rfl
theorem ar8:0=0:=rfl
theorem aos:0=0:=rfl
theorem akx:0=0:=rfl
theorem aps:0=0:=rfl
theorem aj1:0=0:=rfl
theorem ao6:0=0:=rfl
theorem aov:0=0:=rfl
theorem aoc:0=0:=rfl
theorem ajh:0=0:=rfl
theorem alb:0=0:=rfl
theorem amf:0=0:=rfl
theorem al2:0=0:=rfl
theorem apz:0=0:=rfl
theorem aot:0=0:=rfl
theorem ak9:0=0:=rfl
theorem apr:0=0:=rfl
theorem akm:0=0:=rfl
theorem aq9:0=0:=rfl
theorem akp:0=0:=rfl
theorem ap6:0=0:=rfl
theorem aki:0=0:=rfl
theorem ary:0=0:=rfl
theorem ao0:0=0:=rfl
theorem aiy:0=0:=rfl
theorem aq6:0=0:=rfl
theorem akt:0=0:=rfl
theorem ark:0=0:=rfl
theorem apt:0=0:=rfl
theorem ass:0=0:=rfl
theorem aqg:0=0:=rfl
theorem aix:0=0:=rfl
theorem ar6:0=0:=rfl
theorem aqc:0=0:=rfl
theorem arq:0=0:=rfl
theorem amy:0=0:=rfl
theorem alh:0=0:=rfl
theorem ar3:0=0:=rfl
theorem aqv:0=0:=rfl
theorem aiq:0=0:=rfl
theorem aqh:0=0:=rfl
theorem ana:0=0:=rfl
theorem ane:0=0:=rfl
theorem am6:0=0:=rfl
theorem apm:0=0:=rfl
theorem ake:0=0:=rfl
theorem aq5:0=0:=rfl
theorem am1:0=0:=rfl
theorem api:0=0:=rfl
theorem ai7:0=0:=rfl
theorem aqx:0=0:=rfl
theorem apc:0=0:=rfl
theorem al3:0=0:=rfl
theorem an5:0=0:=rfl
theorem arp:0=0:=rfl
theorem arf:0=0:=rfl
theorem aqi:0=0:=rfl
theorem aqf:0=0:=rfl
theorem anx:0=0:=rfl
theorem aqe:0=0:=rfl
theorem ard:0=0:=rfl
theorem ak8:0=0:=rfl
theorem aio:0=0:=rfl
theorem alj:0=0:=rfl
theorem arv:0=0:=rfl
theorem alx:0=0:=rfl
theorem ar9:0=0:=rfl
theorem asc:0=0:=rfl
theorem aj3:0=0:=rfl
theorem aik:0=0:=rfl
theorem ao2:0=0:=rfl
theorem aqr:0=0:=rfl
theorem ao9:0=0:=rfl
theorem akf:0=0:=rfl
theorem akz:0=0:=rfl
theorem apk:0=0:=rfl
theorem an6:0=0:=rfl
theorem apq:0=0:=rfl
theorem ajc:0=0:=rfl
theorem akd:0=0:=rfl
theorem asl:0=0:=rfl
theorem ap9:0=0:=rfl
theorem al8:0=0:=rfl
theorem aoq:0=0:=rfl
theorem amk:0=0:=rfl
theorem asp:0=0:=rfl
theorem ap4:0=0:=rfl
theorem aor:0=0:=rfl
theorem ams:0=0:=rfl
theorem apf:0=0:=rfl
theorem ak2:0=0:=rfl
theorem aiv:0=0:=rfl
theorem ajj:0=0:=rfl
theorem arz:0=0:=rfl
theorem alo:0=0:=rfl
theorem ann:0=0:=rfl
theorem ajg:0=0:=rfl
theorem ajr:0=0:=rfl
theorem asr:0=0:=rfl
theorem am9:0=0:=rfl
theorem aq1:0=0:=rfl
theorem ao1:0=0:=rfl
theorem an7:0=0:=rfl
theorem ak1:0=0:=rfl
theorem ap2:0=0:=rfl
theorem aj5:0=0:=rfl
theorem ao8:0=0:=rfl
theorem akr:0=0:=rfl
theorem ajd:0=0:=rfl
theorem anv:0=0:=rfl
theorem ai4:0=0:=rfl
theorem ao4:0=0:=rfl
theorem arw:0=0:=rfl
theorem aop:0=0:=rfl
theorem asf:0=0:=rfl
theorem apx:0=0:=rfl
theorem apj:0=0:=rfl
theorem apo:0=0:=rfl
theorem am8:0=0:=rfl
theorem aif:0=0:=rfl
theorem aju:0=0:=rfl
theorem ajy:0=0:=rfl
theorem anc:0=0:=rfl
theorem arc:0=0:=rfl
theorem an1:0=0:=rfl
theorem amo:0=0:=rfl
theorem akq:0=0:=rfl
theorem an4:0=0:=rfl
theorem arb:0=0:=rfl
theorem al5:0=0:=rfl
theorem aoo:0=0:=rfl
theorem aqz:0=0:=rfl
theorem als:0=0:=rfl
theorem am2:0=0:=rfl
theorem amz:0=0:=rfl
theorem ajt:0=0:=rfl
theorem ai3:0=0:=rfl
theorem aks:0=0:=rfl
theorem ajo:0=0:=rfl
theorem ama:0=0:=rfl
theorem ajl:0=0:=rfl
theorem ao7:0=0:=rfl
theorem ajq:0=0:=rfl
theorem ajs:0=0:=rfl
theorem ano:0=0:=rfl
theorem am5:0=0:=rfl
theorem aiz:0=0:=rfl
theorem asm:0=0:=rfl
theorem aqq:0=0:=rfl
theorem ai0:0=0:=rfl
theorem ain:0=0:=rfl
theorem alq:0=0:=rfl
theorem aro:0=0:=rfl
theorem akh:0=0:=rfl
theorem aqs:0=0:=rfl
theorem aqt:0=0:=rfl
theorem ala:0=0:=rfl
theorem ap0:0=0:=rfl
theorem ald:0=0:=rfl
theorem aqy:0=0:=rfl
theorem arh:0=0:=rfl
theorem alg:0=0:=rfl
theorem amd:0=0:=rfl
theorem al1:0=0:=rfl
theorem ash:0=0:=rfl
theorem aql:0=0:=rfl
theorem aoa:0=0:=rfl
theorem aon:0=0:=rfl
theorem akb:0=0:=rfl
theorem aox:0=0:=rfl
theorem ap7:0=0:=rfl
theorem anf:0=0:=rfl
theorem anr:0=0:=rfl
theorem ang:0=0:=rfl
theorem ar4:0=0:=rfl
theorem anp:0=0:=rfl
theorem amh:0=0:=rfl
theorem apa:0=0:=rfl
theorem aq2:0=0:=rfl
theorem aqn:0=0:=rfl
theorem al7:0=0:=rfl
theorem amw:0=0:=rfl
theorem akn:0=0:=rfl
theorem aoy:0=0:=rfl
theorem aln:0=0:=rfl
theorem anl:0=0:=rfl
theorem aob:0=0:=rfl
theorem aig:0=0:=rfl
theorem anu:0=0:=rfl
theorem arn:0=0:=rfl
theorem ap5:0=0:=rfl
theorem ai8:0=0:=rfl
theorem alz:0=0:=rfl
theorem ais:0=0:=rfl
theorem ars:0=0:=rfl
theorem air:0=0:=rfl
theorem akj:0=0:=rfl
theorem alm:0=0:=rfl
theorem al9:0=0:=rfl
theorem ar2:0=0:=rfl
theorem amx:0=0:=rfl
theorem an3:0=0:=rfl
theorem ali:0=0:=rfl
theorem amc:0=0:=rfl
theorem amq:0=0:=rfl
theorem aoz:0=0:=rfl
theorem akk:0=0:=rfl
theorem asb:0=0:=rfl
theorem aje:0=0:=rfl
theorem an8:0=0:=rfl
theorem ai6:0=0:=rfl
theorem are:0=0:=rfl
theorem ap3:0=0:=rfl
theorem apd:0=0:=rfl
theorem amm:0=0:=rfl
theorem amu:0=0:=rfl
theorem anb:0=0:=rfl
theorem al6:0=0:=rfl
theorem amj:0=0:=rfl
theorem asn:0=0:=rfl
theorem arr:0=0:=rfl
theorem ak7:0=0:=rfl
theorem apy:0=0:=rfl
theorem an0:0=0:=rfl
theorem alu:0=0:=rfl
theorem apv:0=0:=rfl
theorem aq0:0=0:=rfl
theorem amg:0=0:=rfl
theorem ai9:0=0:=rfl
theorem ai2:0=0:=rfl
theorem arg:0=0:=rfl
theorem amn:0=0:=rfl
theorem aqa:0=0:=rfl
theorem ak0:0=0:=rfl
theorem alw:0=0:=rfl
theorem akw:0=0:=rfl
theorem aku:0=0:=rfl
theorem anw:0=0:=rfl
theorem asj:0=0:=rfl
theorem aie:0=0:=rfl
theorem aq4:0=0:=rfl
theorem alr:0=0:=rfl
theorem aoe:0=0:=rfl
theorem ara:0=0:=rfl
theorem akc:0=0:=rfl
theorem aly:0=0:=rfl
theorem aso:0=0:=rfl
theorem aqm:0=0:=rfl
theorem aj4:0=0:=rfl
theorem aiu:0=0:=rfl
theorem alf:0=0:=rfl
theorem ar5:0=0:=rfl
theorem alc:0=0:=rfl
theorem am3:0=0:=rfl
theorem aqj:0=0:=rfl
theorem arl:0=0:=rfl
theorem aoi:0=0:=rfl
theorem ao3:0=0:=rfl
theorem ak4:0=0:=rfl
theorem aod:0=0:=rfl
end Mine.top
section
open PySem PySem.W PyProof.Rows Mine.Internal
set_option Elab.async true
set_option maxRecDepth 100000
set_option maxHeartbeats 8000000
theorem Mine.top:PySem.Challenge.rw_te0019_03.Holds:=by
 w_on;o_law;k_head;(case hw=>w_witness2)
 k_go0
 rename_i w dG a5 mg mb G Y fa o pm cd doc ho hcd hg X V T B TE TW ari hs Ox hL1 GY hl2 as1 Am la vK as3 hL ra wl r0 hI hr m6 qV hD ag tk c1 c2 c3 c4 l1 l2 l3 l4 X0 X' T' K' F' cH N' l0
 refine nZ (Sv (λG hK=>({
   c:=(by rw[hK];exact⟨by kernel_rfl,by kernel_rfl,by kernel_rfl,by kernel_rfl,by kernel_rfl,by kernel_rfl,by kernel_rfl,by kernel_rfl,by kernel_rfl,by kernel_rfl,by kernel_rfl,by kernel_rfl⟩),
   ident:=mA hK [] [] ⟨by kernel_rfl,by kernel_rfl,by kernel_rfl,by kernel_rfl⟩ rfl (λS v=>by kernel_rfl) (λ_ _ _=>rfl),
   prodinit7:=Yh hK ⟨by kernel_rfl,by kernel_rfl,by kernel_rfl,by kernel_rfl⟩ (λS v1 v2 v3 v4 v5 v6 v7 v8=>by kernel_rfl),
   prodinit3:=WR hK [.ref 54,.none,.str "" 251,.int 0 252] ⟨by kernel_rfl,by kernel_rfl,by kernel_rfl,by kernel_rfl⟩ rfl (λS v1 v2 v3 v4=>by kernel_rfl) (λP m hb=>WG hK hb (a:=54) (by kernel_rfl) λz=>⟨_,_,rfl,⟨54,_,_,_,rfl,z,by kernel_rfl,rfl,⟨_,_,rfl,⟨_,rfl⟩,_,_,rfl,⟨_,rfl⟩,rfl⟩⟩,_,_,rfl,rfl,_,_,rfl,⟨_,rfl⟩,_,_,rfl,⟨_,rfl⟩,rfl⟩),
   plen:=mA hK [] [] ⟨by kernel_rfl,by kernel_rfl,by kernel_rfl,by kernel_rfl⟩ rfl (λS v=>by kernel_rfl) (λ_ _ _=>rfl),
   iteminit:=yx hK [] [] ⟨by kernel_rfl,by kernel_rfl,by kernel_rfl,by kernel_rfl⟩ rfl (λS v w u=>by kernel_rfl) (λ_ _ _=>rfl),
   rightmost:=yF hK [] [] ⟨by kernel_rfl,by kernel_rfl,by kernel_rfl,by kernel_rfl⟩ rfl (λS v w=>by kernel_rfl) (λ_ _ _=>rfl),
   graminit:=yF hK [] [] ⟨by kernel_rfl,by kernel_rfl,by kernel_rfl,by kernel_rfl⟩ rfl (λS v w=>by kernel_rfl) (λ_ _ _=>rfl),
   addprod:=yx hK ["func","file","line"] [.none,.str "" 448,.int 0 449] ⟨by kernel_rfl,by kernel_rfl,by kernel_rfl,by kernel_rfl⟩ rfl (λS v w u=>by kernel_rfl) (λ_ _ _=>⟨_,_,rfl,rfl,_,_,rfl,⟨_,rfl⟩,_,_,rfl,⟨_,rfl⟩,rfl⟩),
   setstart:=mA hK ["start"] [.none] ⟨by kernel_rfl,by kernel_rfl,by kernel_rfl,by kernel_rfl⟩ rfl (λS v=>by kernel_rfl) (λ_ _ _=>⟨_,_,rfl,rfl,rfl⟩),
   first:=yF hK [] [] ⟨by kernel_rfl,by kernel_rfl,by kernel_rfl,by kernel_rfl⟩ rfl (λS v w=>by kernel_rfl) (λ_ _ _=>rfl),
   cfirst:=mA hK [] [] ⟨by kernel_rfl,by kernel_rfl,by kernel_rfl,by kernel_rfl⟩ rfl (λS v=>by kernel_rfl) (λ_ _ _=>rfl),
   cfollow:=mA hK ["start"] [.none] ⟨by kernel_rfl,by kernel_rfl,by kernel_rfl,by kernel_rfl⟩ rfl (λS v=>by kernel_rfl) (λ_ _ _=>⟨_,_,rfl,rfl,rfl⟩),
   blr:=mA hK [] [] ⟨by kernel_rfl,by kernel_rfl,by kernel_rfl,by kernel_rfl⟩ rfl (λS v=>by kernel_rfl) (λ_ _ _=>rfl),
   place:=mA hK [] [] ⟨by kernel_rfl,by kernel_rfl,by kernel_rfl,by kernel_rfl⟩ rfl (λS v=>by kernel_rfl) (λ_ _ _=>rfl),
   tabinit:=yx hK ["log"] [.none] ⟨by kernel_rfl,by kernel_rfl,by kernel_rfl,by kernel_rfl⟩ rfl (λS v w u=>by kernel_rfl) (λ_ _ _=>⟨_,_,rfl,rfl,rfl⟩),
   clo:=yF hK [] [] ⟨by kernel_rfl,by kernel_rfl,by kernel_rfl,by kernel_rfl⟩ rfl (λS v w=>by kernel_rfl) (λ_ _ _=>rfl),
   goto:=yx hK [] [] ⟨by kernel_rfl,by kernel_rfl,by kernel_rfl,by kernel_rfl⟩ rfl (λS v w u=>by kernel_rfl) (λ_ _ _=>rfl),
   items:=mA hK [] [] ⟨by kernel_rfl,by kernel_rfl,by kernel_rfl,by kernel_rfl⟩ rfl (λS v=>by kernel_rfl) (λ_ _ _=>rfl),
   ptable:=mA hK [] [] ⟨by kernel_rfl,by kernel_rfl,by kernel_rfl,by kernel_rfl⟩ rfl (λS v=>by kernel_rfl) (λ_ _ _=>rfl),
   NAMES:=Lk hK ⟨by kernel_rfl,by kernel_rfl,by kernel_rfl,by kernel_rfl⟩ (λS=>by kernel_rfl),
   ASKED:=Lk hK ⟨by kernel_rfl,by kernel_rfl,by kernel_rfl,by kernel_rfl⟩ (λS=>by kernel_rfl),
   next:=mA hK [] [] ⟨by kernel_rfl,by kernel_rfl,by kernel_rfl,by kernel_rfl⟩ rfl (λS v=>by kernel_rfl) (λ_ _ _=>rfl),
   rule:=yF hK [] [] ⟨by kernel_rfl,by kernel_rfl,by kernel_rfl,by kernel_rfl⟩ rfl (λS v w=>by kernel_rfl) (λ_ _ _=>rfl),
   corners:=mA hK [] [] ⟨by kernel_rfl,by kernel_rfl,by kernel_rfl,by kernel_rfl⟩ rfl (λS v=>by kernel_rfl) (λ_ _ _=>rfl),
   added:=yx hK [] [] ⟨by kernel_rfl,by kernel_rfl,by kernel_rfl,by kernel_rfl⟩ rfl (λS v w u=>by kernel_rfl) (λ_ _ _=>rfl),
   told:=mA hK [] [] ⟨by kernel_rfl,by kernel_rfl,by kernel_rfl,by kernel_rfl⟩ rfl (λS v=>by kernel_rfl) (λ_ _ _=>rfl)})) T'.g T'.b T'.builtins T'.nolimit X' (YY hT9 T rfl) F' (sa:=la) rfl N' ⟨_,l1⟩ ⟨_,l2⟩ ⟨_,l3⟩ ⟨_,l4⟩ lifted hI m6 l0.1 hg) ?_ ?_
 ·rintro f s' ⟨rfl,keep,ho,hg,h1,h2⟩
  exact⟨RQ (λ_=>rfl) (by kc_post) keep ho hg,⟨_,h1⟩,⟨_,h2⟩,trivial⟩
 ·rintro e s' z
  exact z.elim
end
theorem PySem.Challenge.cw_te0019_03_holds : PySem.Challenge.rw_te0019_03.Holds :=
 Mine.top
