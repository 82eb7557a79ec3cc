import PyProof.Rows.All
import Wide.All
import OpenK.AllK
import Wide.FinOn
import Lean
import PySem.Challenge.RW_wb0092_01
open PySem PySem.W PyProof.Rows PySem.Calls PySem.Spec
open Builtin Builtin.Str
set_option Elab.async false
set_option maxRecDepth 100000
set_option linter.all false
set_option tactic.hygienic false
set_option genInjectivity false
set_option genSizeOf false
set_option bootstrap.genMatcherCode false
open _root_.Option renaming some→Z,none→ae
open _root_.Bool renaming true→af,false→ag
open _root_.Decidable renaming decide→ah
open _root_.PySem renaming wpAny_bind→ai,wpAny_mono→ar,wpAny_pure→ay,Value→az,Expr→aG,wpAny→aJ,Shared→aK,Addr→aL,wpAny_holding→bg,Scope→bj,Heap→bq,mainGlobals→bO,wpAny_standAt→bU,Stmt→bX,sizeLine_eq→cC,Comprehension→cM,starEach→dq,call→dE,builtinsNs→dK,wpAny_newObj_type→dN,Around→dZ,Pos→eL,wpAny_assign_Name→eZ,wpAny_field→fC,Arguments→fE,assignEach→fX,assign→fY,arm_evalEach_cons→fZ,backTo→gv,Operator→gD,wpAny_callSpecial?_slot→gH,fromIndex→gI,foldedSetIterable→gJ,letOwnedTupleGo→gQ,call_meets→gR,wpAny_nextOf_list_item→hZ,wpAny_execs_cons→ij,NameKind→ix,eval→iD,cellsFrom→iX,sliceBounds→iZ,wpAny_Name→jf,typeIs_str→jg,assignInOrder→jh,PyData→jj,holding→jq,codeAny→jN,behindInMarks→j3,rawInt→ki,wpAny_call_entry→lB,sizeLine→l9,theTreesLotGoes→me,pyNext→nj,callWith→nk,Env→nJ,wpAny_nextOf_list_end→og,codeAny_of_tree→pH,World→pQ,wpAny_seqItems→qX,sliceRange→qZ,ZipApart→q0,wpAny_truthy_bool→rM,wpAny_noted→rN,standAt→rO,spliced→rQ,pyIter→sP,BoolOp→sV,swapsWith→tK,seqIndex?→tM,noteFrame→tN,getMethod→tQ,codeAmong→tS,arm_allTrue_cons→tT,wpAny_call→uJ,Keyword→uQ,wpAny_updateSeq→uW,shortFactorBits→uX,codeAny_call_function→vV,wpAny_bindName→w7,DictEntry→xA,CmpOp→yd,wpAny_rule→zB,wpAny_pyIter_tuple→zC,IsPair→zF,slot_list_getitem→Ao,getMethod_builtin→Ap,compTurn→Aq,bootBuiltins→Ar,bindArgs→As,Obj→Aw,FuncData→AB,wpAny_of_eq→CH,field→CM,wpAny_specialOf→EI,wpAny_execs_nil→EJ,meets_str_split_cannot_occur→EK,Sem→EL,assign→EM,UnaryOp→E0,wpAny_Expr_any→GO,typeLookup→GP,typeIs_int→GQ,recursionLimit→GR,newFunctionEnv→GS,execs→GU,FuncBody→G0,wpAny_binaryOp_repeat_ref→Il,meets_str_split_not_found→Im,wpAny_release→JX,wpAny_getItem_list_slice→JY,swappedStores→JZ,wpAny_list_append_plain→Km,updateSeq→Kn,isSeqSlot→Ko,TriplesOk→Kr,wpAny_typeOf→N3,codeAny_func→N5,wpAny_storeName_local→OE,wpAny_isTrue_Compare1→OF,stI→OG,int___rmul___int_list→OH,builtinLookup_eq_fast→OI,wpAny_storeName_cell→Rz,wpAny_pyIter_revIter→RA,loadIfAlive→RE,keeperOf→RF,interactive→RG,meets_str_split_sep→Tp,arm_eval_Call_Name'→Tq,Keyword→Tv,wpAny_setField_rec→Xg,wpAny_newTextTuple→Xh,wpAny_assign_Tuple→Xi,sysModules→Xj,strKind_is→Xk,qualnameIn→Xl,isTrue→Xn,call_reversed_list→Xo,call_gives→Xp,arm_exec_AugAssign→Xq,Tok→Xr,wpAny_sequenceKey→Yi,wpAny_pyIter_list→Yj,slot_list_setitem→Yk,model→Ym,hashStr→Yn,getItem→Yo,wpAny_pyIter_zip→abE,whileTurn→abF,storeName→abG,exec_Return_some→abJ,exec_Return_none→abK,typeLookup_type→acC,pushCells_keeps→acD,noFill_list_mul→acE,importedModules→acF,codeAny_builtin→acG,arm_allTrue_nil→acH
open _root_.Nat renaming le_trans→aj,lt_of_lt_of_le→aH,lt_of_le_of_lt→aT,le_refl→aV,le_add_right→bw,add_comm→bM,shiftRight_eq_div_pow→bS,pow_le_pow_right→cb,le_of_not_lt→cf,le_of_lt→cm,mul_comm→cA,add_le_add→cL,add_lt_add_left→cQ,pow_pos→c7,le_add_left→dm,ne_of_lt→du,add_assoc→dA,zero_add→dF,min_eq_left→dG,not_lt→dH,zero_le→dW,add_sub_cancel_left→eh,sub_add_cancel→eo,mul_le_mul_right→er,eq_of_testBit_eq→eu,lt_irrefl→eA,min_eq_right→eI,sub_lt_left_of_lt_add→eN,div_lt_iff_lt_mul→eX,mul_add→fz,mul_assoc→fF,succ_le_of_lt→fH,ne_of_gt→fI,lt_of_add_right_lt→fJ,le_add_right_of_le→fK,mul_le_mul_left→fM,add_le_add_left→fN,pow_add→fU,succ_add_eq_add_succ→gk,pow_succ→gm,le_of_succ_le→gA,mod_lt→gE,le_of_eq→gS,mul_one→gU,and_one_is_mod→ib,one_mul→iE,mul_zero→iF,lt_trans→iG,le_total→iH,add_zero→iI,add_sub_of_le→iJ,zero_testBit→jk,testBit_mod_two_pow→jl,div_add_mod→jF,add_mul_div_right→jO,sub_pos_of_lt→jU,le_succ_of_le→jW,le_succ→km,add_mul_mod_self_right→ko,add_le_add_right→ku,succ_mul→kK,mod_eq_of_lt→kL,testBit_xor→lD,testBit_and→lE,sub_le→lS,add_right_comm→lT,add_mul→lW,testBit_shiftRight→my,testBit_lt_two_pow→mz,ne_zero_of_lt→mA,lt_succ_of_le→mB,succ_le_succ→nq,min_le_right→nr,and_two_pow_sub_one_eq_mod→nu,and_le_right→nv,sub_sub→nX,div_lt_of_lt_mul→nY,casesOn→nZ,min_le_left→oJ,add_sub_cancel'→oP,testBit_two_pow_mul_add→oU,pow_zero→oV,pos_of_ne_zero→pK,mod_two_eq_zero_or_one→pL,add_sub_cancel→pM,lt_of_add_lt_add_left→qp,mul_two→qv,le_of_lt_succ→qw,testBit_div_two_pow→rD,pos_of_mul_pos_left→rG,max_eq_right→rH,lt_of_not_le→rI,lt_log2_self→rJ,exists_eq_add_of_le→rK,div_div_eq_div_mul→sQ,le_antisymm→tA,le_of_sub_eq_zero→tU,two_mul→uL,sub_le_sub_right→uM,sub_le_of_le_add→uN,sub_eq_of_eq_add→uO,div_one→uP,lt_two_pow_self→vW,not_le→w9,zero_lt_of_lt→xJ,sub_zero→xK,succ_ne_zero→zD,div_eq_of_lt→zE,log2_eq_iff→Ax,div_le_self→Ay,testBit_or→Cv,add_lt_add_of_lt_of_le→Cw,add_lt_add→Cy,mul_div_cancel_left→E2,le_of_add_right_le→GX,sub_eq_zero_of_le→Iq,lt_of_sub_eq_succ→Ir,le_sub_of_add_le'→It,le_div_iff_mul_le→Iu,succ→J2,lt_sub_of_add_lt→J3,log2_lt→J4,add_lt_add_right→J5,sub_le_sub_left→Ks,lt_mul_div_succ→Kt,lt_of_le_of_ne→N7,lt_succ_of_lt→OK,le_of_pred_lt→OL,beq→OM,succ_ne_self→RJ,shiftLeft_eq→RK,lt_succ_self→RL,two_pow_pos→Tw,max_eq_left→Tx,mul_le_mul→Xu,mul_div_le→Xv,pow_succ'→Yp,mul_succ→abN,min_self→abO,pow_one→acW,mul_pos→acX
open _root_.PySem.Builtin.Int renaming intBits→ak,intTooBig→lF
open _root_.PySem.PyData renaming casesOn→ao,int→aI,list→bJ,str→gT,canLayAll0→ik,bool→ji,weight→jv,depthAll→lb,eqv→mJ,layable0→nG,weightAll→qu,shownAll→rC,tuple→CR,depth→CS,showableAll→Io,hasDictAll→J0
open _root_.List renaming length_map→au,range→av,casesOn→aA,mem_singleton→aF,mem_cons→aM,length_range→aN,length_append→aP,map_cons→aR,all_eq_true→a9,mem_cons_of_mem→ba,mem_cons_self→bf,length_cons→bA,map_map→bI,map_append→bN,getElem?_map→bY,mem_range→b9,replicate→cz,take_of_length_le→cE,mem_map→cG,length_reverse→cI,length_drop→cJ,getElem?_eq_some_iff→cK,getElem?_eq_getElem→cR,drop_of_length_le→cS,mem_filter→cZ,getD_eq_getElem?_getD→dr,map_congr_left→dx,not_mem_nil→dU,length_singleton→dX,flatten_cons→d6,mem_append→ez,flatten→eF,isEmpty_eq_false_iff→eK,length_replicate→eU,length_filter_le→eV,contains_iff_mem→eW,range'→fw,mem_reverse→fx,foldl_cons→fT,size_toArray→gy,forIn_cons→gB,lookup_cons→gV,length_take→gW,drop_eq_getElem_cons→io,length_nil→iy,replicate_succ→i5,getElem?_range→i6,getElem_mem→i8,append_nil→jC,mem_append_right→jG,append_assoc→jP,mem_of_getElem?→j5,mem_append_left→j6,drop_zero→j7,map_nil→kB,getElem?_eq_none_iff→kM,filterMap_cons→kT,map_take→lr,map_drop→lu,length_eq_zero_iff→lU,filter_cons_of_pos→lV,getElem?_reverse→mU,range'_succ→mV,map_reverse→mW,isEmpty_map→mX,range_eq_range'→nH,eq_nil_of_length_eq_zero→nI,nil_append→oh,getElem?_drop→pd,filterMap→pe,reverse_cons→qq,length→qr,isEmpty_iff→rh,filter_cons_of_neg→rj,range_succ_eq_map→rS,range_succ→sR,nodup_cons→sS,length_zip→sT,getElem?_eq_none→tB,map→ui,forIn_nil→uj,take_succ_cons→uZ,mem_map_of_mem→u0,filter_eq_self→u6,contains_cons→wg,mem_range'_1→xx,any_eq_false→xy,eraseIdx_eq_take_drop_succ→xM,take→x8,mem_flatten→x9,drop→ya,cons_append→yb,any_eq_true→yc,take_left→Bw,drop_left→Bx,getElem?_zip_eq_some→Cz,sum_cons→CU,getElem?_take_of_lt→CW,any_cons→CX,toArray→E3,filter_eq_nil_iff→E4,reverse_reverse→Iw,length_take_le'→Iy,idxOf_cons_self→Iz,getElem?_zipIdx→IA,flatten_append→J6,flatMap_append→J7,mem_filterMap→Ku,getElem_range→Kv,foldl→Kw,findIdx?_cons→Kz,filterMap_nil→KA,filterMap_map→KC,ext_getElem?→N8,flatten_nil→ON,ext_getElem→OO,take_zero→TA,nodup_nil→TB,foldl_nil→TC,drop_drop→TF,take_nil→Xw,all_cons→Xx,map_set→Yq,flatMap→Yr
open _root_.Bool renaming casesOn→ax,and_eq_true→bG,eq_iff_iff→cj,not_eq_true'→cN,false_ne_true→dP,true_and→nz,false_eq_true→pg,false_or→vY,or_eq_true→zR,xor_false→TJ,false_and→TK,and_false→TL,and_comm→XA,not_not→Yx
open _root_.Option renaming casesOn→aB,isSome_iff_exists→aW,map_eq_some_iff→dM,bind_eq_some_iff→d8,map_some→gw,isNone_iff_eq_none→pb,map→Ip
open _root_.PySem.Str renaming ofString→aQ,mk→oI
open _root_.PySem.Builtin renaming bitNot→aS,bitXor→bD,divisionGoesByPylong→bT,bitAnd→dS,bitOr→eQ
open _root_.Int renaming natCast_nonneg→aU,toNat_natCast→bH,toNat_of_nonneg→cw,emod_nonneg→cD,emod_lt_of_pos→cO,ofNat_le→da,fdiv_eq_ediv_of_nonneg→dI,ofNat→dO,natAbs_natCast→dR,ofNat_lt→d9,ne_of_gt→eb,fmod_eq_emod_of_nonneg→fL,ediv_emod_unique→iK,mul_comm→jw,add_comm→jx,not_ofNat_neg→jX,not_lt→ky,toNat_lt→kN,natCast_emod→kO,natCast_ediv→kP,le_trans→kQ,natAbs_add_le→mC,le_of_lt→mD,natCast_pow→oK,natCast_pos→oL,mul_neg→qx,ofNat_sub→q6,neg_ofNat_le_ofNat→sU,natCast_mul→tC,mul_ediv_add_emod→tV,natAbs_neg→uR,casesOn→uS,add_sub_cancel→xa,ediv_one→xN,neg_fmod_neg→zG,neg_fdiv_neg→zH,min_le_left→Az,le_max_left→AA,sub_nonneg→CA,neg_ofNat_le_natCast→EN,toNat_le→GZ,mul_one→J8,ofNat_add_ofNat→KE,ofNat_succ_pos→N9,natAbs_eq_zero→Oa,max_le→Ob,lt_of_le_of_lt→Oc,max_eq_left→TG,neg_le_neg→Xy,natAbs_mul→Xz,toNat_sub→Yu,mul_assoc→Yv,add_assoc→Yw,sub_sub→acY,one_mul→acZ,mul_sub→ac0
open _root_.Array renaming length_toList→aX,isEmpty_eq_false_iff→oX,forIn_toList→oY,toList_append→uT,toList_push→xc,eq_empty_of_size_eq_zero→xO,getElem?_eq_none→EO,toList_inj→Oe,size_pop→RN
open _root_.PySem.Heap renaming lt_size→aZ,get?_push_size→bc,get?_none_of_le→cU,SameBut→d7,get?_push_of_some→eG,get?_update_self→jH,size_push→pf,get?_update_other→rT,ExtBut→IB
open _root_.PySem.Expr renaming casesOn→bC
open _root_.PySem.Builtin.Range renaming rangeSize→cc,small→ei,rangeFitsLong→abT
open _root_.PySem.Builtin.SmallTypes renaming nextOf→cP,ownedTupleIsFree→pN
open _root_.PySem.Value renaming casesOn→dk,none→j0,int→lC,ref→oN,type→Au
open _root_.PySem.Builtin.Str renaming occurrences→dz,partsBetween→fy,strKind→jn,strSliceIndices→mf,glued→CJ,tooLong→EZ,subAt→RD
open _root_.PySem.Builtin.List renaming listFitsIndex→dY,listTooLong→oi,listExtendWith→vX,listSameRef→xB,listUpdate→ac1,listTouch→ac2,listSubscript?→ac3,listItems→ac4
open _root_.PySem.Challenge renaming rw_wb0092_01→eE,pw_wb0092_01→Xs
open _root_.PySem.W renaming isStarred→fD,callWith_of→gd,Look→n0,w_div→RB,w_and→RC
open _root_.PySem.NameKind renaming free→gc,cell→jo
open _root_.PySem.Heap.SameBut renaming update→gg,refl→CB
open _root_.PySem.Obj renaming mapSeq→ia,data_mapFields→N6
open _root_.Exists renaming elim→ip
open _root_.PySem.Txt renaming contains→iB,startswith→mx,endswith→oS
open _root_.Eq renaming trans→iN,symm→tD
open _root_.PySem.Arg renaming casesOn→jr
open _root_.PySem.Builtin.Slice renaming slicePlaces→jD,sliceAdjust→ny,sliceApplied→abS
open _root_.PySem.Builtin.Tuple renaming tupleExact→jQ,tupleItemsOf→abR
open _root_.Option.some renaming inj→j4,injEq→lg
open _root_.PyProof.Rows renaming encM→kj,add_lists→mI,slot_tuple_getitem→qY,Subscript_→q5,is_none_ne→uK,subscriptTail→x7,Tuple_→Av,List_→Bv,bits_mul→GW,len_str→N4,Assign_Tuple→Od,bits_add→RH,MethodCall_→RM,not_of→Xm,ne_bool→Yl,IntsAre→Ys,foldl_rep→abI,truthy_int→acR,bitOr_and→acS,bitAnd_pp→acT,bitAnd_nn→acU,bitAnd_m1→acV
open _root_.ForInStep renaming yield→kC
open _root_.Int.ofNat renaming inj→mh
open _root_.PySem.Operator renaming casesOn→oO
open _root_.False renaming elim→oW
open _root_.PySem.AutoSeq1 renaming wpAny_loadPart'→ph
open _root_.PySem.UnaryOp renaming casesOn→pI
open _root_.PySem.IsL renaming update→pJ
open _root_.PySem.Calls renaming spliced_cons→qo,docDef→xb,evalArgs_plain→GV
open _root_.PySem.W.Fast renaming tw14364793385576792824→rA,te14364793385576792824→rB,tw1435165496053646825→rR,tw4187177175401517315→acI,tw14289696077712309145→acJ,tw14082659384304107361→acK,tw10274390034422433532→acL,te4187177175401517315→acM,te1435165496053646825→acN,te14289696077712309145→acO,te14082659384304107361→acP,te10274390034422433532→acQ
open _root_.PySem.AutoListH renaming list___mul___list_int_3→uk
open _root_.PySem.W.Looks renaming andThen→uY,now→CT,ld→GY
open _root_.PySem.Arguments renaming casesOn→we
open _root_.PySem.Keeper renaming boundFrame→wh,machine→zQ,frame→CY
open _root_.String.Pos.Raw renaming mk_le_mk→w8
open _root_.PySem.BoolOp renaming casesOn→zP
open _root_.PySem.Const renaming casesOn→Bt
open _root_.PySem.CmpOp renaming casesOn→Bu
open _root_.PySem.Data renaming casesOn→CO,seq→TH
open _root_.PySem.Around renaming under_plainId→E5
open _root_.And renaming intro→E6
open _root_.Nat.ToInt renaming of_le→Iv
open _root_.PySem.OldK renaming staticOf_congr→J1
open _root_.Prod.mk renaming injEq→OJ
open _root_.Ne renaming symm→RI
open _root_.PySem.Walks renaming listRev→Ts
open _root_.Std.Legacy.Range renaming size→Tt,forIn_eq_forIn_range'→Tu
open _root_.Nat.le renaming intro→Tz
open _root_.PySem.Keyword renaming casesOn→abL
open _root_.List.Pairwise renaming nil→abQ
namespace Mine.Internal
noncomputable section
theorem aq{p:Prop}[i:Decidable p](h:p):decide p=af:=decide_eq_true h
theorem aw{p:Prop}[i:Decidable p](h:decide p=af):p:=of_decide_eq_true h
theorem aC{α:Type u}[BEq α][LawfulBEq α]{a b:α}:(a==b)=af↔a=b:=beq_iff_eq
theorem aD{α:Sort u}{β:Sort v}{a b:α}(f:α->β)(h:a=b):f a=f b:=congrArg f h
theorem bi{p:Prop}[i:Decidable p](h:¬p):decide p=ag:=decide_eq_false h
theorem bz{c:Prop}{h:Decidable c}(hc:c){α:Sort u}{t e:α}:ite c t e=t:=if_pos hc
theorem bF{c:Prop}{h:Decidable c}(hc:¬c){α:Sort u}{t e:α}:ite c t e=e:=if_neg hc
variable{α β α0 α1 α2 β0:Type}{P p0 p1 p2 p4:Prop}{motive:aG->Prop}{c xY:Bool}{x y qual:Str}{a:Option aL}{z c' TI TO l1 l2:aL}{e r slice dh bR iw iter e1 e2:aG}{k n m i W u tk N depth j kk:Nat}{A:dZ}{B O O' K:aL->Prop}{q:aL×aL}{L nn:Int}{h':bq}{s s' s1:aK}{env:nJ}{T:bq->az->Prop}{pos ju px mq tp:eL}{Q:az->aK->Prop}{op:yd}{es rz ts:List aG}{id:String}{st:bX}{sc scope:bj}{fp wr:List aL}{St:Nat->bq->Prop}{Src:bq->Prop}{sW:aG->Bool}{it di pm ctv:az}{items:Array az}{gens fG:List cM}{R:Result->aK->Prop}{cl:List (Str×aL)}{ss body:List bX}{ow:List Str}{fd:AB}{params:fE}
theorem bK{d:α}(h:(ae:Option α)=Z d):P:=by cases h
theorem bE{o:Option α}{f:α->Option β}{d:β}(h:o.bind f=Z d)(k:∀x,o=Z x->f x=Z d->P):P:=by
 cases o with
 |none=>cases h
 |some x=>exact k x rfl h
@[elab_as_elim] theorem mE{o:Option α}{f:α->β}{motive:β->Prop}{d:β}(h:o.map f=Z d)(k:∀x,o=Z x->motive (f x)):motive d:=by
 cases o with
 |none=>cases h
 |some x=>cases h;exact k x rfl
@[elab_as_elim] theorem Nu{x d:α}{motive:α->Prop}(h:(bif c then Z x else ae)=Z d)(k:c=af->motive x):motive d:=by
 cases c
 ·cases h
 ·cases h;exact k rfl
theorem vN{x:Option α}{d:α}(h:(bif c then x else ae)=Z d)(k:c=af->x=Z d->P):P:=by
 cases c
 ·cases h
 ·exact k rfl h
theorem Q8{x:Option α}{d:α}(h:(bif c then ae else x)=Z d)(k:c=ag->x=Z d->P):P:=by
 cases c
 ·exact k rfl h
 ·cases h
theorem iW{a b:Bool}(h:(a&&b)=af)(k:a=af->b=af->P):P:=by
 cases a
 ·cases h
 ·exact k rfl h
theorem ff(h:ag=af):P:=by cases h
@[elab_as_elim] theorem qS{a b:α}{motive:α->Prop}(h:Z a=Z b)(m:motive a):motive b:=by
 cases h
 exact m
@[elab_as_elim] theorem qT{a b:α}{motive:α->Prop}(h:Z b=Z a)(m:motive a):motive b:=by
 cases h
 exact m
@[elab_as_elim] theorem qE{a b:α}{motive:α->Prop}(h:a=b)(m:motive a):motive b:=by
 cases h
 exact m
@[elab_as_elim] theorem qF{a b:α}{motive:α->Prop}(h:b=a)(m:motive a):motive b:=by
 cases h
 exact m
theorem jR{a b:Prop}(h:a∨b)(x:a->P)(y:b->P):P:=by
 cases h with
 |inl h=>exact x h|inr h=>exact y h
theorem x6{a b c:Prop}(h:a∨b∨c)(x:a->P)(y:b->P)(z:c->P):P:=jR h x λh=>jR h y z
theorem R0{d:α}(h:Z d=(ae:Option α)):P:=by cases h
theorem ftf(h:af=ag):P:=by cases h
theorem c8(h:p0∧p1)(k:p0->p1->P):P:=k h.1 h.2
theorem bh{p0:α0->Prop}{p1:α0->Prop}(h:∃x0:α0,p0 x0∧p1 x0)(k:∀x0,p0 x0->p1 x0->P):P:=ip h λx h=>c8 h (k x)
theorem bQ{p0:α0->Prop}(h:∃x0:α0,p0 x0)(k:∀x0,p0 x0->P):P:=ip h k
theorem jY{p0:α0->α1->Prop}(h:∃x0:α0,∃x1:α1,p0 x0 x1)(k:∀x0,∀x1,p0 x0 x1->P):P:=ip h λx h=>bQ h (k x)
theorem DE{p0:α0->α1->α2->Prop}(h:∃x0:α0,∃x1:α1,∃x2:α2,p0 x0 x1 x2)(k:∀x0,∀x1,∀x2,p0 x0 x1 x2->P):P:=ip h λx h=>jY h (k x)
theorem fj{α3:Type}{p0:α0->α1->α2->α3->Prop}(h:∃x0:α0,∃x1:α1,∃x2:α2,∃x3:α3,p0 x0 x1 x2 x3)(k:∀x0,∀x1,∀x2,∀x3,p0 x0 x1 x2 x3->P):P:=ip h λx h=>DE h (k x)
theorem eP(h:p0∧p1∧p2)(k:p0->p1->p2->P):P:=c8 h.2 (k h.1)
theorem mM{p3:Prop}(h:p0∧p1∧p2∧p3)(k:p0->p1->p2->p3->P):P:=eP h.2 (k h.1)
theorem dD{p3:Prop}(h:p0∧p1∧p2∧p3∧p4)(k:p0->p1->p2->p3->p4->P):P:=mM h.2 (k h.1)
theorem gM{p0:α0->Prop}{p1:α0->Prop}{p2:α0->Prop}(h:∃x0:α0,p0 x0∧p1 x0∧p2 x0)(k:∀x0,p0 x0->p1 x0->p2 x0->P):P:=ip h λx h=>eP h (k x)
theorem mL{p0:α0->α1->Prop}{p1:α0->α1->Prop}(h:∃x0:α0,∃x1:α1,p0 x0 x1∧p1 x0 x1)(k:∀x0,∀x1,p0 x0 x1->p1 x0 x1->P):P:=ip h λx h=>bh h (k x)
theorem iP{p0:α0->Prop}{p1:α0->Prop}{p2:α0->Prop}{p3:α0->Prop}(h:∃x0:α0,p0 x0∧p1 x0∧p2 x0∧p3 x0)(k:∀x0,p0 x0->p1 x0->p2 x0->p3 x0->P):P:=ip h λx h=>mM h (k x)
theorem dn{p0:α0->α1->Prop}{p1:α0->α1->Prop}{p2:α0->α1->Prop}{p3:α0->α1->Prop}(h:∃x0:α0,∃x1:α1,p0 x0 x1∧p1 x0 x1∧p2 x0 x1∧p3 x0 x1)(k:∀x0,∀x1,p0 x0 x1->p1 x0 x1->p2 x0 x1->p3 x0 x1->P):P:=ip h λx h=>iP h (k x)
theorem bV{p0:α0->α1->Prop}{p1:α0->α1->Prop}{p2:α0->α1->Prop}(h:∃x0:α0,∃x1:α1,p0 x0 x1∧p1 x0 x1∧p2 x0 x1)(k:∀x0,∀x1,p0 x0 x1->p1 x0 x1->p2 x0 x1->P):P:=ip h λx h=>gM h (k x)
theorem g8{p0:α0->α1->α2->Prop}{p1:α0->α1->α2->Prop}(h:∃x0:α0,∃x1:α1,∃x2:α2,p0 x0 x1 x2∧p1 x0 x1 x2)(k:∀x0,∀x1,∀x2,p0 x0 x1 x2->p1 x0 x1 x2->P):P:=ip h λx h=>mL h (k x)
@[elab_as_elim] theorem Se{f0:β0}{b0:β0}{motive:β0->Prop}(h:p0∧b0=f0)(k:p0->motive (f0)):motive b0:=by
 obtain⟨h0,rfl⟩:=h;exact k h0
@[elab_as_elim] theorem uV{f0:β0}{b0:β0}{motive:β0->Prop}(h:p0∧f0=b0)(k:p0->motive (f0)):motive b0:=by
 obtain⟨h0,rfl⟩:=h;exact k h0
@[elab_as_elim] theorem Lg{f0:β0}{b0:β0}{motive:β0->Prop}(h:b0=f0∧p1∧p2)(k:p1->p2->motive (f0)):motive b0:=by
 obtain⟨rfl,⟨h1,h2⟩⟩:=h;exact k h1 h2
@[elab_as_elim] theorem Pr{f0:β0}{b0:β0}{motive:β0->Prop}(h:p0∧p1∧p2∧b0=f0∧p4)(k:p0->p1->p2->p4->motive (f0)):motive b0:=by
 obtain⟨h0,⟨h1,⟨h2,⟨rfl,h4⟩⟩⟩⟩:=h;exact k h0 h1 h2 h4
@[elab_as_elim] theorem afa{f0:β0}{b0:β0}{β1:Type}{f1:β1}{b1:β1}{motive:β0->β1->Prop}(h:b0=f0∧b1=f1)(k:motive (f0) (f1)):motive b0 b1:=by
 obtain⟨rfl,rfl⟩:=h;exact k
@[elab_as_elim] theorem J{α:Sort u}{a b:α}{motive:α->Prop}(h:a=b)(m:motive b):motive a:=by
 cases h;exact m
@[elab_as_elim] theorem rF{α:Sort u}{a b:α}{motive:α->Prop}(h:b=a)(m:motive b):motive a:=by
 cases h;exact m
theorem vo{p3:Prop}{p5:Prop}{p6:Prop}{p7:Prop}{p8:Prop}{p9:Prop}{p10:Prop}(h:p0∧p1∧p2∧p3∧p4∧p5∧p6∧p7∧p8∧p9∧p10)(k:p0->p1->p2->p3->p4->p5->p6->p7->p8->p9->p10->P):P:=dD h λy1 y2 y3 y4 y5=>dD y5 λy6 y7 y8 y9 y10=>eP y10 λy11 y12 y13=>k y1 y2 y3 y4 y6 y7 y8 y9 y11 y12 y13
theorem lK{p2:α0->Prop}{p3:α0->Prop}{p4:α0->Prop}(h:p0∧p1∧∃x0:α0,p2 x0∧p3 x0∧p4 x0)(k:p0->p1->∀x0,p2 x0->p3 x0->p4 x0->P):P:=eP h λy14 y15 y16=>bQ y16 λy17 y18=>eP y18 λy19 y20 y21=>k y14 y15 y17 y19 y20 y21
theorem yu{p2:α0->α1->α2->Prop}{p3:α0->α1->α2->Prop}{p4:α0->α1->α2->Prop}{p5:α0->α1->α2->Prop}(h:p0∧p1∧∃x0:α0,∃x1:α1,∃x2:α2,p2 x0 x1 x2∧p3 x0 x1 x2∧p4 x0 x1 x2∧p5 x0 x1 x2)(k:p0->p1->∀x0,∀x1,∀x2,p2 x0 x1 x2->p3 x0 x1 x2->p4 x0 x1 x2->p5 x0 x1 x2->P):P:=eP h λy22 y23 y24=>DE y24 λy25 y26 y27 y28=>mM y28 λy29 y30 y31 y32=>k y22 y23 y25 y26 y27 y29 y30 y31 y32
@[elab_as_elim] theorem Lh{f0:β0}{b0:β0}{p2:α0->Prop}{p3:α0->Prop}{p4:α0->Prop}{motive:β0->Prop}(h:p0∧b0=f0∧∃x0:α0,p2 x0∧p3 x0∧p4 x0)(k:p0->∀x0,p2 x0->p3 x0->p4 x0->motive (f0)):motive b0:=by
 obtain⟨h0,⟨rfl,⟨x0,⟨h2,⟨h3,h4⟩⟩⟩⟩⟩:=h;exact k h0 x0 h2 h3 h4
@[elab_as_elim] theorem Zl{f0:β0}{b0:β0}{motive:β0->Prop}(h:p0∧b0=f0∧p2)(k:p0->p2->motive (f0)):motive b0:=by
 obtain⟨h0,⟨rfl,h2⟩⟩:=h;exact k h0 h2
theorem xk{p1:α0->Prop}{p2:α0->Prop}(h:p0∧∃x0:α0,p1 x0∧p2 x0)(k:p0->∀x0,p1 x0->p2 x0->P):P:=c8 h λy33 y34=>bQ y34 λy35 y36=>c8 y36 λy37 y38=>k y33 y35 y37 y38
theorem Pq{p1:α0->α1->Prop}{p2:α0->α1->α2->Prop}(h:p0∧∃x0:α0,∃x1:α1,p1 x0 x1∧∃x2:α2,p2 x0 x1 x2)(k:p0->∀x0,∀x1,p1 x0 x1->∀x2,p2 x0 x1 x2->P):P:=c8 h λy39 y40=>jY y40 λy41 y42 y43=>c8 y43 λy44 y45=>bQ y45 λy46 y47=>k y39 y41 y42 y44 y46 y47
theorem Zk{p1:α0->Prop}(h:p0∧∃x0:α0,p1 x0)(k:p0->∀x0,p1 x0->P):P:=c8 h λy48 y49=>bQ y49 λy50 y51=>k y48 y50 y51
theorem I4{p0:α0->α1->Prop}{p1:α0->α1->Prop}{p2:α0->α1->Prop}{p3:α0->α1->Prop}(h:(∃x0:α0,∃x1:α1,p0 x0 x1∧p1 x0 x1∧p2 x0 x1∧p3 x0 x1)∧p4)(k:∀x0,∀x1,p0 x0 x1->p1 x0 x1->p2 x0 x1->p3 x0 x1->p4->P):P:=c8 h λy52 y53=>jY y52 λy54 y55 y56=>mM y56 λy57 y58 y59 y60=>k y54 y55 y57 y58 y59 y60 y53
theorem Pp{p0:α0->α1->Prop}{p1:α0->α1->Prop}(h:(∃x0:α0,∃x1:α1,p0 x0 x1∧p1 x0 x1)∧p2)(k:∀x0,∀x1,p0 x0 x1->p1 x0 x1->p2->P):P:=c8 h λy61 y62=>jY y61 λy63 y64 y65=>c8 y65 λy66 y67=>k y63 y64 y66 y67 y62
theorem pq{p0:α0->Prop}{p1:α0->Prop}{p2:α0->α1->Prop}(h:∃x0:α0,p0 x0∧p1 x0∧∃x1:α1,p2 x0 x1)(k:∀x0,p0 x0->p1 x0->∀x1,p2 x0 x1->P):P:=bQ h λy68 y69=>eP y69 λy70 y71 y72=>bQ y72 λy73 y74=>k y68 y70 y71 y73 y74
theorem AU{p0:α0->α1->Prop}{p1:α0->α1->Prop}{p2:α0->α1->Prop}{p3:α0->α1->Prop}{p4:α0->α1->Prop}{p5:α0->α1->Prop}(h:∃x0:α0,∃x1:α1,p0 x0 x1∧p1 x0 x1∧p2 x0 x1∧p3 x0 x1∧p4 x0 x1∧p5 x0 x1)(k:∀x0,∀x1,p0 x0 x1->p1 x0 x1->p2 x0 x1->p3 x0 x1->p4 x0 x1->p5 x0 x1->P):P:=jY h λy75 y76 y77=>dD y77 λy78 y79 y80 y81 y82=>c8 y82 λy83 y84=>k y75 y76 y78 y79 y80 y81 y83 y84
theorem AS{p0:α0->α1->Prop}{p1:α0->α1->Prop}{p2:α0->α1->α2->Prop}{p3:α0->α1->Prop}(h:∃x0:α0,∃x1:α1,p0 x0 x1∧p1 x0 x1∧(∃x2:α2,p2 x0 x1 x2)∧p3 x0 x1)(k:∀x0,∀x1,p0 x0 x1->p1 x0 x1->∀x2,p2 x0 x1 x2->p3 x0 x1->P):P:=jY h λy85 y86 y87=>eP y87 λy88 y89 y90=>c8 y90 λy91 y92=>bQ y91 λy93 y94=>k y85 y86 y88 y89 y93 y94 y92
theorem ou{p0:α0->α1->α2->Prop}{p1:α0->α1->α2->Prop}{p2:α0->α1->α2->Prop}{p3:α0->α1->α2->Prop}(h:∃x0:α0,∃x1:α1,∃x2:α2,p0 x0 x1 x2∧p1 x0 x1 x2∧p2 x0 x1 x2∧p3 x0 x1 x2)(k:∀x0,∀x1,∀x2,p0 x0 x1 x2->p1 x0 x1 x2->p2 x0 x1 x2->p3 x0 x1 x2->P):P:=DE h λy95 y96 y97 y98=>mM y98 λy99 adJ adI adH=>k y95 y96 y97 y99 adJ adI adH
theorem jz{p0:α0->α1->α2->Prop}{p1:α0->α1->α2->Prop}{p2:α0->α1->α2->Prop}(h:∃x0:α0,∃x1:α1,∃x2:α2,p0 x0 x1 x2∧p1 x0 x1 x2∧p2 x0 x1 x2)(k:∀x0,∀x1,∀x2,p0 x0 x1 x2->p1 x0 x1 x2->p2 x0 x1 x2->P):P:=DE h λadG adF adE adD=>eP adD λadC adB adA=>k adG adF adE adC adB adA
theorem I3{α3:Type}{p0:α0->α1->α2->α3->Prop}{p1:α0->α1->α2->α3->Prop}{p2:α0->α1->α2->α3->Prop}{p3:α0->α1->α2->α3->Prop}(h:∃x0:α0,∃x1:α1,∃x2:α2,∃x3:α3,p0 x0 x1 x2 x3∧p1 x0 x1 x2 x3∧p2 x0 x1 x2 x3∧p3 x0 x1 x2 x3)(k:∀x0,∀x1,∀x2,∀x3,p0 x0 x1 x2 x3->p1 x0 x1 x2 x3->p2 x0 x1 x2 x3->p3 x0 x1 x2 x3->P):P:=fj h λadz ady adx adw adv=>mM adv λadu adt adq adp=>k adz ady adx adw adu adt adq adp
theorem ni{α3 α4 α5:Type}{p0:α0->α1->α2->α3->α4->α5->Prop}{p1:α0->α1->α2->α3->α4->α5->Prop}{p2:α0->α1->α2->α3->α4->α5->Prop}{p3:α0->α1->α2->α3->α4->α5->Prop}{p4:α0->α1->α2->α3->α4->α5->Prop}{p5:α0->α1->α2->α3->α4->α5->Prop}{p6:α0->α1->α2->α3->α4->α5->Prop}{p7:α0->α1->α2->α3->α4->α5->Prop}(h:∃x0:α0,∃x1:α1,∃x2:α2,∃x3:α3,∃x4:α4,∃x5:α5,p0 x0 x1 x2 x3 x4 x5∧p1 x0 x1 x2 x3 x4 x5∧p2 x0 x1 x2 x3 x4 x5∧p3 x0 x1 x2 x3 x4 x5∧p4 x0 x1 x2 x3 x4 x5∧p5 x0 x1 x2 x3 x4 x5∧p6 x0 x1 x2 x3 x4 x5∧p7 x0 x1 x2 x3 x4 x5)(k:∀x0,∀x1,∀x2,∀x3,∀x4,∀x5,p0 x0 x1 x2 x3 x4 x5->p1 x0 x1 x2 x3 x4 x5->p2 x0 x1 x2 x3 x4 x5->p3 x0 x1 x2 x3 x4 x5->p4 x0 x1 x2 x3 x4 x5->p5 x0 x1 x2 x3 x4 x5->p6 x0 x1 x2 x3 x4 x5->p7 x0 x1 x2 x3 x4 x5->P):P:=fj h λado adn adm adl adk=>jY adk λadj adi adh=>dD adh λadg adf ade adb ada=>mM ada λac9 ac8 ac7 ac6=>k ado adn adm adl adj adi adg adf ade adb ac9 ac8 ac7 ac6
theorem lk1{a z:Str}{c d:β}(h:[(a,c)].lookup z=Z d):z=a∧d=c:=by
 have h:(match z==a with|true=>Z c|false=>ae)=Z d:=h;generalize e:(z==a)=b at h
 induction b using ax with
 |true=>exact⟨aC.mp e,(j4 h).symm⟩
 |false=>exact bK h
theorem lk2{a b z:Str}{c c' d:β}(h:[(a,c),(b,c')].lookup z=Z d):z=a∧d=c∨z=b:=by
 have h:(match z==a with|true=>Z c|false=>[(b,c')].lookup z)=Z d:=h;generalize e:(z==a)=b at h
 induction b using ax with
 |true=>exact .inl ⟨aC.mp e,(j4 h).symm⟩|false=>exact .inr (lk1 h).1
section
variable{d:α}
noncomputable def xv(e:aG)(k0:aG->List aG->List uQ->eL->α)(k1:Str->eL->α)(k2:aG->Str->eL->α)(k3:aG->aG->eL->α)(k4:List aG->Nat->eL->α)(k5:aG->List cM->bj->eL->α)(k6:fE->aG->bj->eL->α)(k7:aG->List yd->List aG->eL->α)(k8:List aG->eL->α)(z:α):α:=match e with
 |.Call f as ks p=>k0 f as ks p
 |.Name x p=>k1 x p
 |.Attribute o a p=>k2 o a p
 |.Subscript v i p=>k3 v i p
 |.Tuple es c p=>k4 es c p
 |.ListComp t g s p=>k5 t g s p
 |.Lambda a b s p=>k6 a b s p
 |.Compare l o r p=>k7 l o r p
 |.List es p=>k8 es p
 |_=>z
theorem KG{k0:aG->List aG->List uQ->eL->α}{k1:Str->eL->α}{k2:aG->Str->eL->α}{k3:aG->aG->eL->α}{k4:List aG->Nat->eL->α}{k5:aG->List cM->bj->eL->α}{k6:fE->aG->bj->eL->α}{k7:aG->List yd->List aG->eL->α}{k8:List aG->eL->α}{z:α}{P:α->Prop}(m0:∀f as ks p,P (k0 f as ks p)->motive (.Call f as ks p))(m1:∀x p,P (k1 x p)->motive (.Name x p))(m2:∀o a p,P (k2 o a p)->motive (.Attribute o a p))(m3:∀v i p,P (k3 v i p)->motive (.Subscript v i p))(m4:∀es c p,P (k4 es c p)->motive (.Tuple es c p))(m5:∀t g s p,P (k5 t g s p)->motive (.ListComp t g s p))(m6:∀a b s p,P (k6 a b s p)->motive (.Lambda a b s p))(m7:∀l o r p,P (k7 l o r p)->motive (.Compare l o r p))(m8:∀es p,P (k8 es p)->motive (.List es p))(m:¬P z)(h:P (xv e k0 k1 k2 k3 k4 k5 k6 k7 k8 z)):motive e:=by
 induction e using bC with
 |Call f as ks p=>exact m0 f as ks p h|Name x p=>exact m1 x p h|Attribute o a p=>exact m2 o a p h|Subscript v i p=>exact m3 v i p h|Tuple es c p=>exact m4 es c p h|ListComp t g s p=>exact m5 t g s p h|Lambda a b s p=>exact m6 a b s p h|Compare l o r p=>exact m7 l o r p h|List es p=>exact m8 es p h|_=>exact absurd h m
def wt(e:aG)(k:aG->List aG->List uQ->eL->Option α):Option α:=xv e k (λ_ _=>ae) (λ_ _ _=>ae) (λ_ _ _=>ae) (λ_ _ _=>ae) (λ_ _ _ _=>ae) (λ_ _ _ _=>ae) (λ_ _ _ _=>ae) (λ_ _=>ae) ae
@[elab_as_elim] theorem DV{k:aG->List aG->List uQ->eL->Option α}(h:wt e k=Z d)(m:∀f as ks p,k f as ks p=Z d->motive (.Call f as ks p)):motive e:=KG (P:=λx=>x=Z d) m (λ_ _=>bK) (λ_ _ _=>bK) (λ_ _ _=>bK) (λ_ _ _=>bK) (λ_ _ _ _=>bK) (λ_ _ _ _=>bK) (λ_ _ _ _=>bK) (λ_ _=>bK) bK h
def nh(e:aG)(k:Str->eL->Option α):Option α:=xv e (λ_ _ _ _=>ae) k (λ_ _ _=>ae) (λ_ _ _=>ae) (λ_ _ _=>ae) (λ_ _ _ _=>ae) (λ_ _ _ _=>ae) (λ_ _ _ _=>ae) (λ_ _=>ae) ae
@[elab_as_elim] theorem sm{k:Str->eL->Option α}(h:nh e k=Z d)(m:∀x p,k x p=Z d->motive (.Name x p)):motive e:=KG (P:=λx=>x=Z d) (λ_ _ _ _=>bK) m (λ_ _ _=>bK) (λ_ _ _=>bK) (λ_ _ _=>bK) (λ_ _ _ _=>bK) (λ_ _ _ _=>bK) (λ_ _ _ _=>bK) (λ_ _=>bK) bK h
def Fw(e:aG)(k:aG->Str->eL->Option α):Option α:=xv e (λ_ _ _ _=>ae) (λ_ _=>ae) k (λ_ _ _=>ae) (λ_ _ _=>ae) (λ_ _ _ _=>ae) (λ_ _ _ _=>ae) (λ_ _ _ _=>ae) (λ_ _=>ae) ae
@[elab_as_elim] theorem Sv{k:aG->Str->eL->Option α}(h:Fw e k=Z d)(m:∀o a p,k o a p=Z d->motive (.Attribute o a p)):motive e:=KG (P:=λx=>x=Z d) (λ_ _ _ _=>bK) (λ_ _=>bK) m (λ_ _ _=>bK) (λ_ _ _=>bK) (λ_ _ _ _=>bK) (λ_ _ _ _=>bK) (λ_ _ _ _=>bK) (λ_ _=>bK) bK h
def R8(e:aG)(k:aG->aG->eL->Option α):Option α:=xv e (λ_ _ _ _=>ae) (λ_ _=>ae) (λ_ _ _=>ae) k (λ_ _ _=>ae) (λ_ _ _ _=>ae) (λ_ _ _ _=>ae) (λ_ _ _ _=>ae) (λ_ _=>ae) ae
@[elab_as_elim] theorem af3{k:aG->aG->eL->Option α}(h:R8 e k=Z d)(m:∀v i p,k v i p=Z d->motive (.Subscript v i p)):motive e:=KG (P:=λx=>x=Z d) (λ_ _ _ _=>bK) (λ_ _=>bK) (λ_ _ _=>bK) m (λ_ _ _=>bK) (λ_ _ _ _=>bK) (λ_ _ _ _=>bK) (λ_ _ _ _=>bK) (λ_ _=>bK) bK h
def Hr(e:aG)(k:List aG->Nat->eL->Option α):Option α:=xv e (λ_ _ _ _=>ae) (λ_ _=>ae) (λ_ _ _=>ae) (λ_ _ _=>ae) k (λ_ _ _ _=>ae) (λ_ _ _ _=>ae) (λ_ _ _ _=>ae) (λ_ _=>ae) ae
@[elab_as_elim] theorem ZQ{k:List aG->Nat->eL->Option α}(h:Hr e k=Z d)(m:∀es c p,k es c p=Z d->motive (.Tuple es c p)):motive e:=KG (P:=λx=>x=Z d) (λ_ _ _ _=>bK) (λ_ _=>bK) (λ_ _ _=>bK) (λ_ _ _=>bK) m (λ_ _ _ _=>bK) (λ_ _ _ _=>bK) (λ_ _ _ _=>bK) (λ_ _=>bK) bK h
def Fv(e:aG)(k:aG->List cM->bj->eL->Option α):Option α:=xv e (λ_ _ _ _=>ae) (λ_ _=>ae) (λ_ _ _=>ae) (λ_ _ _=>ae) (λ_ _ _=>ae) k (λ_ _ _ _=>ae) (λ_ _ _ _=>ae) (λ_ _=>ae) ae
@[elab_as_elim] theorem Su{k:aG->List cM->bj->eL->Option α}(h:Fv e k=Z d)(m:∀t g s p,k t g s p=Z d->motive (.ListComp t g s p)):motive e:=KG (P:=λx=>x=Z d) (λ_ _ _ _=>bK) (λ_ _=>bK) (λ_ _ _=>bK) (λ_ _ _=>bK) (λ_ _ _=>bK) m (λ_ _ _ _=>bK) (λ_ _ _ _=>bK) (λ_ _=>bK) bK h
def R9(e:aG)(k:fE->aG->bj->eL->Option α):Option α:=xv e (λ_ _ _ _=>ae) (λ_ _=>ae) (λ_ _ _=>ae) (λ_ _ _=>ae) (λ_ _ _=>ae) (λ_ _ _ _=>ae) k (λ_ _ _ _=>ae) (λ_ _=>ae) ae
@[elab_as_elim] theorem af4{k:fE->aG->bj->eL->Option α}(h:R9 e k=Z d)(m:∀a b s p,k a b s p=Z d->motive (.Lambda a b s p)):motive e:=KG (P:=λx=>x=Z d) (λ_ _ _ _=>bK) (λ_ _=>bK) (λ_ _ _=>bK) (λ_ _ _=>bK) (λ_ _ _=>bK) (λ_ _ _ _=>bK) m (λ_ _ _ _=>bK) (λ_ _=>bK) bK h
def Sb(e:aG)(k:aG->List yd->List aG->Option α):Option α:=xv e (λ_ _ _ _=>ae) (λ_ _=>ae) (λ_ _ _=>ae) (λ_ _ _=>ae) (λ_ _ _=>ae) (λ_ _ _ _=>ae) (λ_ _ _ _=>ae) (λl o r _=>k l o r) (λ_ _=>ae) ae
@[elab_as_elim] theorem af6{k:aG->List yd->List aG->Option α}(h:Sb e k=Z d)(m:∀l o r p,k l o r=Z d->motive (.Compare l o r p)):motive e:=KG (P:=λx=>x=Z d) (λ_ _ _ _=>bK) (λ_ _=>bK) (λ_ _ _=>bK) (λ_ _ _=>bK) (λ_ _ _=>bK) (λ_ _ _ _=>bK) (λ_ _ _ _=>bK) m (λ_ _=>bK) bK h
def Zc(e:aG)(k:fE->aG->bj->Option α)(k':Str->Option α):Option α:=xv e (λ_ _ _ _=>ae) (λx _=>k' x) (λ_ _ _=>ae) (λ_ _ _=>ae) (λ_ _ _=>ae) (λ_ _ _ _=>ae) (λa b s _=>k a b s) (λ_ _ _ _=>ae) (λ_ _=>ae) ae
@[elab_as_elim] theorem iLN{k:fE->aG->bj->Option α}{k':Str->Option α}(h:Zc e k k'=Z d)(m:∀a b s p,k a b s=Z d->motive (.Lambda a b s p))(m':∀x p,k' x=Z d->motive (.Name x p)):motive e:=KG (P:=λx=>x=Z d) (λ_ _ _ _=>bK) m' (λ_ _ _=>bK) (λ_ _ _=>bK) (λ_ _ _=>bK) (λ_ _ _ _=>bK) m (λ_ _ _ _=>bK) (λ_ _=>bK) bK h
def Zb(e:aG)(k:Str->eL->Option α)(k':List aG->Nat->eL->Option α):Option α:=xv e (λ_ _ _ _=>ae) k (λ_ _ _=>ae) (λ_ _ _=>ae) k' (λ_ _ _ _=>ae) (λ_ _ _ _=>ae) (λ_ _ _ _=>ae) (λ_ _=>ae) ae
@[elab_as_elim] theorem iNT{k:Str->eL->Option α}{k':List aG->Nat->eL->Option α}(h:Zb e k k'=Z d)(m:∀x p,k x p=Z d->motive (.Name x p))(m':∀es c p,k' es c p=Z d->motive (.Tuple es c p)):motive e:=KG (P:=λx=>x=Z d) (λ_ _ _ _=>bK) m (λ_ _ _=>bK) (λ_ _ _=>bK) m' (λ_ _ _ _=>bK) (λ_ _ _ _=>bK) (λ_ _ _ _=>bK) (λ_ _=>bK) bK h
def Sa(e:aG)(k:List aG->eL->Option α)(k':aG->List cM->bj->eL->Option α)(PO:aG->List aG->List uQ->eL->Option α):Option α:=xv e PO (λ_ _=>ae) (λ_ _ _=>ae) (λ_ _ _=>ae) (λ_ _ _=>ae) k' (λ_ _ _ _=>ae) (λ_ _ _ _=>ae) k ae
@[elab_as_elim] theorem af5{k:List aG->eL->Option α}{k':aG->List cM->bj->eL->Option α}{PO:aG->List aG->List uQ->eL->Option α}(h:Sa e k k' PO=Z d)(m:∀es p,k es p=Z d->motive (.List es p))(m':∀t g s p,k' t g s p=Z d->motive (.ListComp t g s p))(m'':∀f as ks p,PO f as ks p=Z d->motive (.Call f as ks p)):motive e:=KG (P:=λx=>x=Z d) m'' (λ_ _=>bK) (λ_ _ _=>bK) (λ_ _ _=>bK) (λ_ _ _=>bK) m' (λ_ _ _ _=>bK) (λ_ _ _ _=>bK) m bK h
noncomputable def sv(e:bX)(k0:aG->eL->α)(k1:aG->List bX->List bX->eL->α)(k2:List aG->aG->eL->α)(k3:aG->aG->List bX->List bX->eL->α)(k4:aG->List bX->List bX->eL->α)(k5:Str->fE->List bX->bj->eL->α)(k6:Option aG->eL->α)(k7:aG->gD->aG->eL->α)(k8:aG->Option aG->eL->α)(k9:List aG->eL->α)(z:α):α:=match e with
 |.Expr e p=>k0 e p
 |.If t b o p=>k1 t b o p
 |.Assign t v p=>k2 t v p
 |.For t i b o p=>k3 t i b o p
 |.While t b o p=>k4 t b o p
 |.FunctionDef n a b _ _ _ s _ _ p=>k5 n a b s p
 |.Return v p=>k6 v p
 |.AugAssign t o v p=>k7 t o v p
 |.Assert t m p=>k8 t m p
 |.Delete t p=>k9 t p
 |_=>z
theorem svE{e:bX}{k0:aG->eL->α}{k1:aG->List bX->List bX->eL->α}{k2:List aG->aG->eL->α}{k3:aG->aG->List bX->List bX->eL->α}{k4:aG->List bX->List bX->eL->α}{k5:Str->fE->List bX->bj->eL->α}{k6:Option aG->eL->α}{k7:aG->gD->aG->eL->α}{k8:aG->Option aG->eL->α}{k9:List aG->eL->α}{z:α}{motive:bX->Prop}{P:α->Prop}(m0:∀e p,P (k0 e p)->motive (.Expr e p))(m1:∀t b o p,P (k1 t b o p)->motive (.If t b o p))(m2:∀t v p,P (k2 t v p)->motive (.Assign t v p))(m3:∀t i b o p,P (k3 t i b o p)->motive (.For t i b o p))(m4:∀t b o p,P (k4 t b o p)->motive (.While t b o p))(m5:∀n a b s p,¬P (k5 n a b s p))(m6:∀v p,P (k6 v p)->motive (.Return v p))(m7:∀t o v p,P (k7 t o v p)->motive (.AugAssign t o v p))(m8:∀t m p,P (k8 t m p)->motive (.Assert t m p))(m9:∀t p,P (k9 t p)->motive (.Delete t p))(m:¬P z)(h:P (sv e k0 k1 k2 k3 k4 k5 k6 k7 k8 k9 z)):motive e:=by
 induction e using PySem.Stmt.casesOn with
 |Expr e p=>exact m0 e p h|If t b o p=>exact m1 t b o p h|Assign t v p=>exact m2 t v p h|For t i b o p=>exact m3 t i b o p h|While t b o p=>exact m4 t b o p h|FunctionDef n a b _ _ _ s _ _ p=>exact absurd h (m5 n a b s p)|Return v p=>exact m6 v p h|AugAssign t o v p=>exact m7 t o v p h|Assert t m p=>exact m8 t m p h|Delete t p=>exact m9 t p h|_=>exact absurd h m
def Ze(e:bX)(k:List aG->aG->Option α)(k':aG->aG->List bX->List bX->Option α):Option α:=sv e (λ_ _=>ae) (λ_ _ _ _=>ae) (λt v _=>k t v) (λt i b o _=>k' t i b o) (λ_ _ _ _=>ae) (λ_ _ _ _ _=>ae) (λ_ _=>ae) (λ_ _ _ _=>ae) (λ_ _ _=>ae) (λ_ _=>ae) ae
@[elab_as_elim] theorem iAF{e:bX}{k:List aG->aG->Option α}{k':aG->aG->List bX->List bX->Option α}{motive:bX->Prop}(h:Ze e k k'=Z d)(m:∀t v p,k t v=Z d->motive (.Assign t v p))(m':∀t i b o p,k' t i b o=Z d->motive (.For t i b o p)):motive e:=svE (P:=λx=>x=Z d) (λ_ _=>bK) (λ_ _ _ _=>bK) m m' (λ_ _ _ _=>bK) (λ_ _ _ _ _=>bK) (λ_ _=>bK) (λ_ _ _ _=>bK) (λ_ _ _=>bK) (λ_ _=>bK) bK h
def UK(e:bX)(k:aG->Option α)(k':aG->List bX->List bX->Option α):Option α:=sv e (λe _=>k e) (λt b o _=>k' t b o) (λ_ _ _=>ae) (λ_ _ _ _ _=>ae) (λ_ _ _ _=>ae) (λ_ _ _ _ _=>ae) (λ_ _=>ae) (λ_ _ _ _=>ae) (λ_ _ _=>ae) (λ_ _=>ae) ae
@[elab_as_elim] theorem iEI{e:bX}{k:aG->Option α}{k':aG->List bX->List bX->Option α}{motive:bX->Prop}(h:UK e k k'=Z d)(m:∀e p,k e=Z d->motive (.Expr e p))(m':∀t b o p,k' t b o=Z d->motive (.If t b o p)):motive e:=svE (P:=λx=>x=Z d) m m' (λ_ _ _=>bK) (λ_ _ _ _ _=>bK) (λ_ _ _ _=>bK) (λ_ _ _ _ _=>bK) (λ_ _=>bK) (λ_ _ _ _=>bK) (λ_ _ _=>bK) (λ_ _=>bK) bK h
def Y9(e:bX)(k:Option aG->eL->Option α)(k':aG->List bX->List bX->eL->Option α)(PO:List aG->aG->eL->Option α)(PN:aG->gD->aG->eL->Option α)(HE:aG->aG->List bX->List bX->eL->Option α)(BW:aG->List bX->List bX->eL->Option α)(xU:aG->eL->Option α)(vw:aG->Option aG->eL->Option α)(tj:List aG->eL->Option α):Option α:=sv e xU k' PO HE BW (λ_ _ _ _ _=>ae) k PN vw tj ae
@[elab_as_elim] theorem iSt{e:bX}{k:Option aG->eL->Option α}{k':aG->List bX->List bX->eL->Option α}{PO:List aG->aG->eL->Option α}{PN:aG->gD->aG->eL->Option α}{HE:aG->aG->List bX->List bX->eL->Option α}{BW:aG->List bX->List bX->eL->Option α}{xU:aG->eL->Option α}{vw:aG->Option aG->eL->Option α}{tj:List aG->eL->Option α}{motive:bX->Prop}(h:Y9 e k k' PO PN HE BW xU vw tj=Z d)(m:∀v p,k v p=Z d->motive (.Return v p))(m':∀t b o p,k' t b o p=Z d->motive (.If t b o p))(m'':∀t v p,PO t v p=Z d->motive (.Assign t v p))(afk:∀t o v p,PN t o v p=Z d->motive (.AugAssign t o v p))(Zq:∀t i b o p,HE t i b o p=Z d->motive (.For t i b o p))(U1:∀t b o p,BW t b o p=Z d->motive (.While t b o p))(PE:∀e p,xU e p=Z d->motive (.Expr e p))(LB:∀t m p,vw t m p=Z d->motive (.Assert t m p))(Ja:∀t p,tj t p=Z d->motive (.Delete t p)):motive e:=svE (P:=λx=>x=Z d) PE m' m'' Zq U1 (λ_ _ _ _ _=>bK) m afk LB Ja bK h
noncomputable def Ol(l:List β)(k:Option α):Option α:=match l with
 |[]=>k
 |_=>ae
@[elab_as_elim] theorem i0{l:List β}{k:Option α}{motive:List β->Prop}(h:Ol l k=Z d)(m:k=Z d->motive []):motive l:=by
 induction l using aA with
 |nil=>exact m h|cons=>exact bK h
noncomputable def ER(l:List β)(k:β->Option α):Option α:=match l with
 |[x]=>k x
 |_=>ae
@[elab_as_elim] theorem i1{l:List β}{k:β->Option α}{motive:List β->Prop}(h:ER l k=Z d)(m:∀x,k x=Z d->motive [x]):motive l:=by
 induction l using aA with
 |nil=>exact bK h
 |cons x r=>induction r using aA with
  |nil=>exact m x h|cons=>exact bK h
noncomputable def Pl(l:List β)(k:β->List β->Option α):Option α:=match l with
 |x::r=>k x r
 |_=>ae
@[elab_as_elim] theorem iC{l:List β}{k:β->List β->Option α}{motive:List β->Prop}(h:Pl l k=Z d)(m:∀x r,k x r=Z d->motive (x::r)):motive l:=by
 induction l using aA with
 |nil=>exact bK h|cons x r=>exact m x r h
noncomputable def AQ(l:List β)(k:β->β->Option α):Option α:=match l with
 |[x,y]=>k x y
 |_=>ae
@[elab_as_elim] theorem i2{l:List β}{k:β->β->Option α}{motive:List β->Prop}(h:AQ l k=Z d)(m:∀x y,k x y=Z d->motive [x,y]):motive l:=by
 induction l using aA with
 |nil=>exact bK h
 |cons x r=>induction r using aA with
  |nil=>exact bK h
  |cons y r=>induction r using aA with
   |nil=>exact m x y h|cons=>exact bK h
def XI(l:List β)(k:β->β->β->Option α):Option α:=Pl l λx r=>AQ r (k x)
@[elab_as_elim] theorem i3{l:List β}{k:β->β->β->Option α}{motive:List β->Prop}(h:XI l k=Z d)(m:∀x y z,k x y z=Z d->motive [x,y,z]):motive l:=iC h λx r h=>i2 h λy z h=>m x y z h
def on4(l:List β)(k:β->β->β->β->Option α):Option α:=Pl l λx r=>XI r (k x)
@[elab_as_elim] theorem i4{l:List β}{k:β->β->β->β->Option α}{motive:List β->Prop}(h:on4 l k=Z d)(m:∀x y z w,k x y z w=Z d->motive [x,y,z,w]):motive l:=iC h λx r h=>i3 h λy z w h=>m x y z w h
noncomputable def Zf(l:List β)(k:Option α)(k':β->Option α):Option α:=match l with
 |[]=>k
 |[x]=>k' x
 |_=>ae
@[elab_as_elim] theorem i01{l:List β}{k:Option α}{k':β->Option α}{motive:List β->Prop}(h:Zf l k k'=Z d)(m:k=Z d->motive [])(m':∀x,k' x=Z d->motive [x]):motive l:=by
 induction l using aA with
 |nil=>exact m h
 |cons x r=>induction r using aA with
  |nil=>exact m' x h|cons=>exact bK h
noncomputable def Za(l:Option β)(k:Option α):Option α:=match l with
 |none=>k
 |_=>ae
@[elab_as_elim] theorem iNo{l:Option β}{k:Option α}{motive:Option β->Prop}(h:Za l k=Z d)(m:k=Z d->motive ae):motive l:=by
 induction l using aB with
 |none=>exact m h|_=>exact bK h
noncomputable def Sd(l:gD)(k:Option α):Option α:=match l with
 |.Add=>k
 |_=>ae
@[elab_as_elim] theorem af7{l:gD}{k:Option α}{motive:gD->Prop}(h:Sd l k=Z d)(m:k=Z d->motive .Add):motive l:=by
 induction l using oO with
 |Add=>exact m h|_=>exact bK h
theorem ifE{γ:Type}{A B d:γ}(h:(bif c then A else B)=d)(t:c=af->A=d->P)(f:c=ag->B=d->P):P:=by
 induction c using ax with
 |true=>exact t rfl h|false=>exact f rfl h
noncomputable def sH(e:jj)(k:Int->Option α):Option α:=match e with
 |.int i=>k i
 |_=>ae
@[elab_as_elim] theorem uz{e:jj}{k:Int->Option α}{motive:jj->Prop}(h:sH e k=Z d)(m:∀i,k i=Z d->motive (.int i)):motive e:=by
 induction e using ao with
 |int i=>exact m i h|_=>exact bK h
noncomputable def kY(e:jj)(k:Nat->Option α):Option α:=match e with
 |.int (.ofNat i)=>k i
 |_=>ae
@[elab_as_elim] theorem lA{e:jj}{k:Nat->Option α}{motive:jj->Prop}(h:kY e k=Z d)(m:∀i,k i=Z d->motive (.int (.ofNat i))):motive e:=by
 induction e using ao with
 |int i=>induction i using uS with
  |ofNat i=>exact m i h|negSucc=>exact bK h
 |_=>exact bK h
noncomputable def Gi(e:jj)(k:Str->Option α):Option α:=match e with
 |.str x=>k x
 |_=>ae
@[elab_as_elim] theorem Jf{e:jj}{k:Str->Option α}{motive:jj->Prop}(h:Gi e k=Z d)(m:∀i,k i=Z d->motive (.str i)):motive e:=by
 induction e using ao with
 |str i=>exact m i h|_=>exact bK h
noncomputable def o9(e:jj)(k:List jj->Option α):Option α:=match e with
 |.list x=>k x
 |_=>ae
@[elab_as_elim] theorem sf{e:jj}{k:List jj->Option α}{motive:jj->Prop}(h:o9 e k=Z d)(m:∀i,k i=Z d->motive (.list i)):motive e:=by
 induction e using ao with
 |list i=>exact m i h|_=>exact bK h
noncomputable def ah1(e:jj)(k:List jj->Option α):Option α:=match e with
 |.tuple x=>k x
 |_=>ae
@[elab_as_elim] theorem anA{e:jj}{k:List jj->Option α}{motive:jj->Prop}(h:ah1 e k=Z d)(m:∀i,k i=Z d->motive (.tuple i)):motive e:=by
 induction e using ao with
 |tuple i=>exact m i h|_=>exact bK h
noncomputable def S6(e:jj)(k:Option α):Option α:=match e with
 |.none=>k
 |_=>ae
@[elab_as_elim] theorem ZM{e:jj}{k:Option α}{motive:jj->Prop}(h:S6 e k=Z d)(m:k=Z d->motive .none):motive e:=by
 induction e using ao with
 |none=>exact m h|_=>exact bK h
noncomputable def UJ(e:uQ)(k:Str->aG->Option α):Option α:=match e with
 |⟨Z x,v,_⟩=>k x v
 |_=>ae
@[elab_as_elim] theorem iKw{e:uQ}{k:Str->aG->Option α}{motive:uQ->Prop}(h:UJ e k=Z d)(m:∀x v p,k x v=Z d->motive ⟨Z x,v,p⟩):motive e:=by
 induction e using abL with
 |mk a v p=>induction a using aB with
  |none=>exact bK h|some x=>exact m x v p h
noncomputable def Y5(a b:Option α):Option α:=match a with
 |some x=>Z x
 |none=>b
theorem iOr{a b:Option α}(h:Y5 a b=Z d)(x:a=Z d->P)(y:b=Z d->P):P:=by
 induction a using aB with
 |none=>exact y h|some=>exact x h
end
theorem aMM(a b c:Nat):max (a:Int) (min b c)=((max a (min b c):Nat):Int):=by
 rw[Int.max_def,Int.min_def,Nat.max_def,Nat.min_def]
 by_cases h:b<=c
 ·rw[bz h,bz (da.mpr h)]
  by_cases h:a<=b
  ·rw[bz h,bz (da.mpr h)]
  ·rw[bF h,bF λx=>h (da.mp x)]
 ·rw[bF h,bF λx=>h (da.mp x)]
  by_cases h:a<=c
  ·rw[bz h,bz (da.mpr h)]
  ·rw[bF h,bF λx=>h (da.mp x)]
theorem air(n i:Nat):((n:Int)-1+-(i:Int)).toNat=n-1-i:=by
 rw[←Int.sub_eq_add_neg,acY];exact(Yu n (1+i)).trans (nX ..).symm
theorem aCl{x:Int}(h:x<=n):(max 0 x).toNat<=n:=GZ.mpr (Ob.mpr ⟨aU n,h⟩)
theorem aLe{x c:Nat}(h:x<=n)(hn:n<=m)(hc:m<=c):x<=c:=aj h (aj hn hc)
theorem NR{x c:Nat}(h:n<=c):n-x<=c:=aj (lS ..) h
theorem aPr{a b:Nat}(h:a+n-1<b+n):a<=b:=Nat.le_of_add_le_add_right (OL h)
theorem ais{a:Nat}(h:n*i+n<=n*a):n*a=n*i+n+(n*a-n*i-n):=by
 rw[nX];exact(oP h).symm
theorem aiu{p r q M:Int}(hM:(m:Int)=M)(e:M*q+r=p)(h1:0<=r)(h2:r<M)(hq:q=0∨q=-1):p.natAbs<m*2:=by
 subst hM e
 rcases hq with rfl|rfl<;>omega
theorem aNb{a:Int}(h:a<0):(-a-1).natAbs<=a.natAbs:=by
 cases a with
 |ofNat n=>exact absurd h (ky.mpr (aU n))
 |negSucc n=>
  rw[show-Int.negSucc n-1=(n:Int)from xa (n:Int) 1];exact km n
theorem aSw{w:Nat}(h:w<W):W=w+(W-w-1+1):=by
 rw[eo (jU h),oP (cm h)]
theorem aKt{k:Int}(h0:0<=k)(h:k.toNat<n):(0<=if k<0 then k+n else k)∧(if k<0 then k+n else k)<n:=by
 rw[bF (ky.mpr h0)];exact⟨h0,(kN h0).mp h⟩
theorem aCs{a b:Nat}(h:b<=a):(a:Int)-(b:Int)=((a-b:Nat):Int):=(q6 h).symm
theorem abp{d:Nat}(h:d<=m*2):d-d/2<=m:=by omega
theorem aRm(h:m<=n)(hu:u+20*n<=9800):u+20*m<=9800:=aj (fN (fM 20 h) u) hu
theorem aTn(x:Int):max 0 x=((max 0 x).toNat:Int):=(cw (AA ..)).symm
theorem aZi(h:i<=n)(h0:n-i=0):i=n:=tA h (tU h0)
theorem aLg{L:Nat}(h:i<L):L+1-1-i=1+(L-1-i):=by
 rw[pM,nX,bM 1 i,bM 1];exact(eo (jU h)).symm
theorem aDb{c b:Nat}(h:b<2):(2*c+b)/2=c:=by rw[Nat.mul_add_div (by decide),zE h];rfl
theorem aMb{c b:Nat}(h:b<2):(2*c+b)%2=b:=(Nat.mul_add_mod ..).trans (kL h)
theorem aLb{c b M:Nat}(hb:b<2)(h:c<M):2*c+b<M*2:=aH (cQ hb _) (cA M 2▸fM 2 h)
theorem aR3(h:u+20*(n+1)<=9800):u+3+20*n<=9800:=by
 refine aj ?_ h;rw[dA,bM 3];exact fN (fN (by decide) _) u
theorem aHb{p q:Nat}(h:m<n)(e:p+n<=q):p+m<q:=aH (cQ h p) e
theorem zu(x:Int)(m:Nat)(h:0<m):(x%(m:Int)).toNat<m:=(kN (cD x (eb (oL.mpr h)))).mpr (cO x (oL.mpr h))
theorem aT3:∀x<3,1+x=1∨1+x=2∨1+x=3:=by decide
theorem aTl{x:Int}{L:Nat}(h0:0<=x)(h:x<((L-1:Nat):Int)):1<=x.toNat+1∧x.toNat+1<L:=⟨dm ..,Nat.add_lt_of_lt_sub ((kN h0).mpr h)⟩
theorem aq3{p:Prop}(h:∀P:Prop,(p->P)->P):p:=h p id
noncomputable abbrev pw:=Xs
abbrev D:=jj
variable{d d1 d2:D}{ds xs ys:List D}{lm:D->List D}{key:D->Option D}
structure Gd where
 w:pQ
 H:bq
 mg:Str->Option az
 mb:Str->Option az
 tabs:List (aL×aL)
 tq:aL->Str
 lc:aL×aL
 lq:Str
variable{G:Gd}
def NC(o:Aw):Prop:=o.cls≠ .type "code"∨∀vs,o.data≠ .fields vs
theorem NC.seq{o:Aw}{vs:Array az}(h:o.data=.seq vs k):NC o:=.inr λ_ e=>by rw[h]at e;cases e
theorem NC.dict{o:Aw}{es ep}(h:o.data=.dict es ep):NC o:=.inr λ_ e=>by rw[h]at e;cases e
theorem NC.cell{o:Aw}{v:Option az}(h:o.data=.cell v):NC o:=.inr λ_ e=>by rw[h]at e;cases e
theorem NC.cls{o:Aw}{nm:String}(h:o.cls=.type nm)(hn:nm≠"code":=by decide):NC o:=.inl λe=>hn (by rw[h]at e;injection e)
theorem NC.plain{h:bq}{l:aL}{vs:Array az}(x:h.PlainList l vs):∀o,h.get? l=Z o->NC o:=λo e=>by
 refine bQ x λk e'=>?_;rw[e']at e;exact qS e (.seq rfl)
theorem NC.ns{h:bq}{l:aL}{m:Str->Option az}(x:h.Ns l m):∀o,h.get? l=Z o->NC o:=λo e=>by
 refine jz x λo' es ep e' hd _=>?_;rw[e']at e;exact qS e (.dict hd)
theorem NC.live{h:bq}{b:aL}(x:∃o,h.get? b=Z o∧NC o):∀o,h.get? b=Z o->NC o:=λo e=>by
 refine bh x λo' e' n=>?_;rw[e']at e;exact qS e n
theorem NC.some{h:bq}{b:aL}(x:∃o,h.get? b=Z o∧NC o):(h.get? b).isSome:=by
 exact bh x λo' e' n=>J e' rfl
def GJ(h:bq)(q:Str)(ps:Array az):Prop:=
 ∀pos cv,tS pos ps.toList=Z cv->∃c o vs t,cv=.ref c∧h.get? c=Z o∧o.cls=.type "code"∧o.data=.fields vs∧vs[1]?=Z (.str q t)
theorem GJ.keeps{h:bq}{q:Str}{ps:Array az}(x:GJ h q ps)(k:∀b o,h.get? b=Z o->¬NC o->h'.get? b=Z o):GJ h' q ps:=λpos cv e=>by
 refine fj (x pos cv e) λc o vs t z1=>dD z1 λvJ e1 e2 e3 e4=>?_;subst vJ;exact⟨c,o,vs,t,rfl,k _ _ e1 (λz=>z.elim (λz=>z e2) λz=>z _ e3),e2,e3,e4⟩
abbrev Gd.M(G:Gd):Model:=Ym pw G.w
def Gd.Tb(G:Gd)(b:aL):Prop:=∃q∈G.tabs,b=q.2
structure Gd.Wd(G:Gd)(h:bq):Prop where
 lt:∀q∈G.tabs,q.1<G.H.objs.size∧q.2<G.H.objs.size
 last:∃k o,G.H.objs.size=k+1∧G.H.get? k=Z o
 old:OldK G.H h
 keep:∀b o,G.H.get? b=Z o->¬G.Tb b->h.get? b=Z o
 base:∀q∈G.tabs,∃ps,G.H.TableAt q.1 q.2 ps
 tab:∀q∈G.tabs,∃ps,h.IsCode q.1 q.2 ps∧h.TableAt q.1 q.2 ps∧GJ h (G.tq q.2) ps
def Gd.Ke(G:Gd)(h h':bq):Prop:=∀b o,h.get? b=Z o->¬G.Tb b->h'.get? b=Z o
theorem Ke.refl(h:bq):G.Ke h h:=λ_ _ e _=>e
theorem Ke.trans{h h'':bq}(x:G.Ke h h')(y:G.Ke h' h''):G.Ke h h'':=λb o e n=>y b o (x b o e n) n
theorem Ke.of{h:bq}(k:∀b o,h.get? b=Z o->h'.get? b=Z o):G.Ke h h':=λb o e _=>k b o e
theorem Gd.Wd.keeps{h:bq}(W:G.Wd h)(k:∀b o,h.get? b=Z o->h'.get? b=Z o):G.Wd h' where
 lt:=W.lt
 last:=W.last
 old:=W.old.step_keeps k
 keep:=λb o e n=>k _ _ (W.keep b o e n)
 base:=W.base
 tab:=λq hq=>let⟨ps,a,b,c⟩:=W.tab q hq;⟨ps,a.keeps k,b.keeps k,c.keeps λb o e _=>k b o e⟩
theorem Gd.Wd.same{h:bq}(W:G.Wd h){b0:aL}(hb:G.H.objs.size<=b0)(k:d7 b0 h h')(hk:∀o,h.get? b0=Z o->NC o):G.Wd h' where
 lt:=W.lt
 last:=W.last
 old:=W.old.step_same hb k
 keep:=λb o e n=>by
  exact J (k.2 b (λhc=>by subst hc;exact eA _ (aH (aZ e) hb))) (W.keep b o e n)
 base:=W.base
 tab:=λq hq=>by
  refine gM (W.tab q hq) λps a b c=>?_;have:=W.lt q hq;have h1:q.1≠b0:=λe=>eA _ (aH (e▸this.1) hb);have h2:q.2≠b0:=λe=>eA _ (aH (e▸this.2) hb);exact⟨ps,a.extBut k.extBut h1 h2,b.extBut k.extBut h1 h2,c.keeps λb o e n=>by exact J (k.2 b (λhc=>by subst hc;exact n (hk _ e))) e⟩
theorem Gd.Wd.sz{h:bq}(W:G.Wd h):G.H.objs.size<=h.objs.size:=by
 refine mL W.last λk o e h1=>bQ (W.old.there _ _ h1) λo' e'=>J e ?_;exact aZ e'
theorem Gd.Wd.tbNone{h:bq}(W:G.Wd h){b:aL}(hb:G.Tb b){o:Aw}(e:h.get? b=Z o):o.cls=.none∧∃vs,o.data=.fields vs:=by
 refine bh hb λq hq jE=>?_;subst jE;refine gM (W.tab q hq) λps _ t _=>?_;have:=t.2;rw[e]at this;exact qT this ⟨rfl,_,rfl⟩
def Gd.Kx(G:Gd)(s s':aK):Prop:=∃h' tk,s'={s with heap:=h',toks:=tk}∧G.Ke s.heap h'∧G.Wd h'
theorem Gd.Kx.refl(W:G.Wd s.heap):G.Kx s s:=⟨_,_,rfl,Ke.refl _,W⟩
theorem Gd.Kx.trans{R2:aK}(x:G.Kx s s')(y:G.Kx s' R2):G.Kx s R2:=by
 refine bV x λh1 t1 sE k1 w1=>?_;subst sE;refine bV y λh2 t2 qe k2 w2=>?_;subst qe;exact⟨h2,t2,rfl,Ke.trans k1 k2,w2⟩
theorem Gd.Kx.wd(x:G.Kx s s'):G.Wd s'.heap:=by
 refine bV x λh1 t1 wQ k1 w1=>?_;subst wQ;exact w1
theorem Gd.Kx.ke(x:G.Kx s s'):G.Ke s.heap s'.heap:=by
 refine bV x λh1 t1 vJ k1 w1=>?_;subst vJ;exact k1
theorem Gd.Kx.of(W:G.Wd s.heap)(k:∀b o,s.heap.get? b=Z o->h'.get? b=Z o):G.Kx s {s with heap:=h',toks:=tk}:=
 ⟨h',tk,rfl,Ke.of k,W.keeps k⟩
theorem Gd.Kx.tok(W:G.Wd s.heap):G.Kx s {s with toks:=tk}:=⟨s.heap,tk,rfl,Ke.refl _,W⟩
mutual
noncomputable def jT(h:bq)(O:aL->Prop):az->D->Prop
 |v,.none=>v=.none
 |v,.bool b=>v=.bool b
 |v,.int i=>∃t,v=.int i t
 |v,.str x=>∃t,v=.str x t
 |v,.list xs=>∃a vs,v=.ref a∧¬O a∧h.PlainList a vs∧bb h O vs.toList xs
 |v,.tuple xs=>∃a vs,v=.ref a∧¬O a∧IsTup h a vs∧bb h O vs.toList xs
 |_,.dict _=>False
noncomputable def bb(h:bq)(O:aL->Prop):List az->List D->Prop
 |[],[]=>True
 |v::vs,d::ds=>jT h O v d∧bb h O vs ds
 |_,_=>False
end
def gu(h:bq)(O:aL->Prop)(v:az)(d:D):Prop:=
 jT h O v d∨∃a vs xs,v=.ref a∧d=.list xs∧h.PlainList a vs∧bb h O vs.toList xs
theorem bb.nil{h:bq}:bb h O [] []:=trivial
theorem bb.cons{h:bq}{v:az}{vs:List az}(a:jT h O v d)(b:bb h O vs ds):bb h O (v::vs) (d::ds):=by
 exact⟨a,b⟩
theorem bb.inv{h:bq}{vs:List az}(x:bb h O vs (d::ds)):∃v ma,vs=v::ma∧jT h O v d∧bb h O ma ds:=by
 induction vs using aA with
 |nil=>exact oW x|cons v vs=>skip;exact⟨v,vs,rfl,x.1,x.2⟩
mutual
theorem jT.mono{h:bq}(k:∀b o,h.get? b=Z o->(∃vs n,o.data=.seq vs n)->¬O b->h'.get? b=Z o)(hO:∀b,(h.get? b).isSome->¬O b->¬O' b):∀(d:D) (v:az),jT h O v d->jT h' O' v d
 |.none,v,x=>x
 |.bool b,v,x=>x
 |.int i,v,x=>x
 |.str i,v,x=>x
 |.list xs,v,x=>by
  refine dn x λa vs JF ha v18 r=>?_;subst JF;exact bQ v18 λo e=>⟨a,vs,rfl,hO a (J e rfl) ha,⟨o,k _ _ e ⟨_,_,rfl⟩ ha⟩,bb.mono k hO xs _ r⟩
 |.tuple xs,v,x=>by
  refine dn x λa vs JC ha v21 r=>?_;subst JC;exact gM v21 λo e hc hd=>⟨a,vs,rfl,hO a (J e rfl) ha,⟨o,k _ _ e ⟨_,hd⟩ ha,hc,hd⟩,bb.mono k hO xs _ r⟩
 |.dict _,v,x=>oW x
theorem bb.mono{h:bq}(k:∀b o,h.get? b=Z o->(∃vs n,o.data=.seq vs n)->¬O b->h'.get? b=Z o)(hO:∀b,(h.get? b).isSome->¬O b->¬O' b):∀(ds:List D) (vs:List az),bb h O vs ds->bb h' O' vs ds
 |[],[],_=>bb.nil
 |[],_::_,x=>oW x
 |_::_,[],x=>oW x
 |d::ds,v::vs,x=>by
  exact bb.cons (jT.mono k hO d v x.1) (bb.mono k hO ds vs x.2)
end
theorem cV{h:bq}{vs:List az}(x:bb h O vs []):vs=[]:=by
 induction vs using aA with
 |nil=>rfl|cons v vs=>exact x.elim
theorem bb.length{h:bq}:∀{ds:List D} {vs:List az},bb h O vs ds->vs.length=ds.length
 |[],vs,x=>by exact J (cV x) rfl
 |d::ds,vs,x=>by
  refine bV x.inv λv ma JB a b=>?_;subst JB;exact J bA (J bA (J b.length rfl))
theorem bb.append{h:bq}:∀{ds es:List D} {vs ws:List az},bb h O vs ds->bb h O ws es->bb h O (vs++ws) (ds++es)
 |[],es,vs,ws,x,y=>by exact J (cV x) y
 |d::ds,es,vs,ws,x,y=>by
  refine bV x.inv λv ma M0 a b=>?_;subst M0;exact bb.cons a (b.append y)
theorem bb.take{h:bq}:∀(n:Nat) {ds:List D} {vs:List az},bb h O vs ds->bb h O (vs.take n) (ds.take n)
 |0,ds,vs,x=>bb.nil
 |n+1,[],vs,x=>by exact J (cV x) bb.nil
 |n+1,d::ds,vs,x=>by
  refine bV x.inv λv ma Gf a b=>?_;subst Gf;exact bb.cons a (b.take n)
theorem bb.drop{h:bq}:∀(n:Nat) {ds:List D} {vs:List az},bb h O vs ds->bb h O (vs.drop n) (ds.drop n)
 |0,ds,vs,x=>x
 |n+1,[],vs,x=>by exact J (cV x) bb.nil
 |n+1,d::ds,vs,x=>by
  refine bV x.inv λv ma MZ a b=>?_;subst MZ;exact b.drop n
theorem bb.reverse{h:bq}:∀{ds:List D} {vs:List az},bb h O vs ds->bb h O vs.reverse ds.reverse
 |[],vs,x=>by exact J (cV x) bb.nil
 |d::ds,vs,x=>by
  refine bV x.inv λv ma QF a b=>?_;subst QF;exact J qq (J qq (b.reverse.append (bb.cons a bb.nil)))
theorem bb.get{h:bq}:∀{ds:List D} {vs:List az} {i:Nat} {d:D},bb h O vs ds->ds[i]?=Z d->∃v,vs[i]?=Z v∧jT h O v d
 |[],vs,i,d,x,e=>by simp at e
 |d'::ds,vs,i,d,x,e=>by
  refine bV x.inv λv ma QE a b=>?_;subst QE
  induction i using nZ with
  |zero=>simp at e;subst e;exact⟨v,rfl,a⟩
  |succ i=>simpa using b.get (i:=i) (by simpa using e)
mutual
theorem jT.reads{h:bq}:∀(d:D) (v:az),jT h O v d->∃as,Reads h v d as
 |.none,v,x=>by replace x:v=.none:=x;subst x;exact⟨_,.none⟩
 |.bool b,v,x=>by replace x:v=.bool b:=x;subst x;exact⟨_,.bool b⟩
 |.int i,v,x=>by refine bQ x λt MY=>?_;subst MY;exact⟨_,.int i t⟩
 |.str i,v,x=>by refine bQ x λt Wo=>?_;subst Wo;exact⟨_,.str i t⟩
 |.list xs,v,x=>by
  refine dn x λa vs e71 ha v32 r=>?_;subst e71;exact bQ v32 λn e=>bQ (bb.reads xs _ r) λas r'=>⟨_,.list e rfl rfl r'⟩
 |.tuple xs,v,x=>by
  refine dn x λa vs e74 ha v35 r=>?_;subst e74;exact pq v35 λo e hc n hd=>bQ (bb.reads xs _ r) λas r'=>⟨_,.tuple e hc hd r'⟩
 |.dict _,v,x=>oW x
theorem bb.reads{h:bq}:∀(ds:List D) (vs:List az),bb h O vs ds->∃as,ReadsAll h vs ds as
 |[],vs,x=>by exact J (cV x) ⟨_,.nil⟩
 |d::ds,[],x=>oW x
 |d::ds,v::vs,x=>by
  exact bQ (jT.reads d v x.1) λas r=>bQ (bb.reads ds vs x.2) λbs r'=>⟨_,.cons r r'⟩
end
theorem gu.reads{h:bq}{v:az}(x:gu h O v d):∃as,Reads h v d as:=by
 rcases x with x|⟨a,vs,xs,rfl,rfl,⟨n,e⟩,r⟩
 ·exact x.reads
 ·exact bQ (bb.reads xs _ r) λas r'=>⟨_,.list e rfl rfl r'⟩
theorem gu.list{h:bq}{v:az}(x:gu h O v (.list xs)):∃a vs,v=.ref a∧h.PlainList a vs∧bb h O vs.toList xs:=by
 rcases x with x|⟨a,vs,xs,rfl,e,l,r⟩
 ·exact dn x λa vs e _ l r=>⟨a,vs,e,l,r⟩
 ·cases e;exact⟨a,vs,rfl,l,r⟩
theorem gu.tuple{h:bq}{v:az}(x:gu h O v (.tuple xs)):∃a vs,v=.ref a∧IsTup h a vs∧bb h O vs.toList xs:=by
 rcases x with x|⟨a,vs,xs,rfl,e,l,r⟩
 ·exact dn x λa vs e _ l r=>⟨a,vs,e,l,r⟩
 ·cases e
theorem gu.int{h:bq}{i:Int}{v:az}(x:gu h O v (.int i)):∃t,v=.int i t:=by
 rcases x with x|⟨a,vs,xs,rfl,e,l,r⟩
 ·exact x
 ·cases e
theorem gu.bool{h:bq}{i:Bool}{v:az}(x:gu h O v (.bool i)):v=.bool i:=by
 rcases x with x|⟨a,vs,xs,rfl,e,l,r⟩
 ·exact x
 ·cases e
theorem gu.str{h:bq}{i:Str}{v:az}(x:gu h O v (.str i)):∃t,v=.str i t:=by
 rcases x with x|⟨a,vs,xs,rfl,e,l,r⟩
 ·exact x
 ·cases e
theorem gu.none{h:bq}{v:az}(x:gu h O v .none):v=.none:=by
 rcases x with x|⟨a,vs,xs,rfl,e,l,r⟩
 ·exact x
 ·cases e
theorem jT.ke{h:bq}(W:G.Wd h)(k:G.Ke h h'){v:az}(x:jT h O v d):jT h' O v d:=
 x.mono (λb o e hc _=>k b o e λhb=>by refine jY hc λvs n hc=>?_;refine c8 (W.tbNone hb e) λ_ z1=>bQ z1 λvs z=>?_;rw[hc]at z;cases z) (λ_ _ e=>e)
theorem bb.ke{h:bq}(W:G.Wd h)(k:G.Ke h h'){d:List D}{v:List az}(x:bb h O v d):bb h' O v d:=
 x.mono (λb o e hc _=>k b o e λhb=>by refine jY hc λvs n hc=>?_;refine c8 (W.tbNone hb e) λ_ z1=>bQ z1 λvs z=>?_;rw[hc]at z;cases z) (λ_ _ e=>e)
theorem gL{h:bq}(W:G.Wd h)(k:G.Ke h h'){a:aL}{vs:Array az}(x:h.PlainList a vs):h'.PlainList a vs:=by
 exact bQ x λn e=>⟨n,k _ _ e λhb=>(by refine c8 (W.tbNone hb e) λz _=>?_;cases z)⟩
theorem gu.ke{h:bq}(W:G.Wd h)(k:G.Ke h h'){v:az}(x:gu h O v d):gu h' O v d:=by
 rcases x with x|⟨a,vs,xs,rfl,rfl,l,r⟩
 ·exact .inl (x.ke W k)
 ·exact .inr ⟨a,vs,xs,rfl,rfl,gL W k l,r.ke W k⟩
noncomputable def je(sc:bj):Bool:=sc.names.lookup ("table":Str)==Z jo||sc.names.lookup ("table":Str)==Z gc
structure dQ(G:Gd)(env:nJ):Prop where
 kind:env.scope.kind=.function
 lo:G.H.objs.size<=env.locals
 co:∀x c,env.cells.lookup x=Z c->G.H.objs.size<=c
 cl:∀x,env.kindOf x=Z .cell∨env.kindOf x=Z .free->∃c,env.cells.lookup x=Z c
 glob:env.globals=bO
 bui:env.builtins=dK
 apart:∀x y c,env.cells.lookup x=Z c->env.cells.lookup y=Z c->x=y
 ZH:je env.scope=af->env.code=.ref G.lc.1∧env.qual=G.lq
def n0(env:nJ)(h:bq)(m:Str->Option az)(x:Str)(v:az):Prop:=
 (env.kindOf x=Z .local∧m x=Z v)∨((env.kindOf x=Z .cell∨env.kindOf x=Z .free)∧x≠"__classdict__"∧∃c,env.cells.lookup x=Z c∧h.IsCell c (Z v))
inductive jS|val (d:D)|own (ds:List D)|fn (K:aL->Prop) (T:bq->az->Prop) (f:D->Option D) (k:Nat)
abbrev aE:=List (Str×jS)
variable{ρ ρ':aE}
def Ow(O:aL->Prop)(a:Option aL)(b:aL):Prop:=O b∨a=Z b
def Al(h:bq)(O:aL->Prop):Prop:=∀b,O b->∃o,h.get? b=Z o∧NC o
structure sO(G:Gd)(env:nJ)(O:aL->Prop)(a:Option aL)(h:bq)(K:aL->Prop)(T:bq->az->Prop)(f:D->Option D)(k:Nat):Prop where
 st:∀h h' v,T h v->(∀b o,K b->h.get? b=Z o->h'.get? b=Z o)->T h' v
 al:∀b,K b->∃o,h.get? b=Z o∧∀es ep,o.data≠ .dict es ep
 nO:∀b,K b->¬Ow O a b
 nF:∀b,K b->b≠env.locals∧∀y,env.kindOf y=Z .cell->env.cells.lookup y≠Z b
 nT:∀b,K b->¬G.Tb b
 sem:∀(A:dZ) (s:aK) (O':aL->Prop) (v u:az) (d r:D),A.depth+k<=990->A.units+20*k<=9800->A.handled=ae->A.guards=Z []->G.Wd s.heap->Al s.heap O'->T s.heap v->jT s.heap O' u d->f d=Z r->aJ G.M A (call v [u]) (λw s'=>G.Kx s s'∧jT s'.heap O' w r) (λ_ _=>False) s
 kp:∀h v,G.Wd h->T h v->∃q,(q=CY∨q=zQ∨q=wh)∧Looks G.M h (RF v) q
 ne:∀h v,T h v->v≠ .none
theorem sO.next{Qv:nJ}{a':Option aL}{h:bq}{f:D->Option D}{v:az}(F:sO G env O a h K T f k)(t:T h v)(kp:∀b o,K b->h.get? b=Z o->h'.get? b=Z o)(nO:∀b,K b->¬Ow O' a' b)(nF:∀b,K b->b≠Qv.locals∧∀y,Qv.kindOf y=Z .cell->Qv.cells.lookup y≠Z b):
 T h' v∧sO G Qv O' a' h' K T f k:=
 ⟨F.st _ _ _ t kp,⟨F.st,λb hb=>let⟨o,e,d⟩:=F.al b hb;⟨o,kp b o hb e,d⟩,nO,nF,F.nT,F.sem,F.kp,F.ne⟩⟩
structure Cn(G:Gd)(env:nJ)(O:aL->Prop)(a:Option aL)(h:bq)(m:Str->Option az)(p:Str×jS):Prop where
 nd:(p.1==("__debug__":Str))=ag
 ok:match p.2 with
  |.val d=>∃v,n0 env h m p.1 v∧jT h (Ow O a) v d
  |.own ds=>∃l vs,n0 env h m p.1 (.ref l)∧a=Z l∧h.PlainList l vs∧bb h (Ow O a) vs.toList ds
  |.fn K T f k=>∃v,n0 env h m p.1 v∧T h v∧sO G env O a h K T f k
structure SR(G:Gd)(env:nJ)(O:aL->Prop)(a:Option aL)(ρ:aE)(h:bq):Prop where
 ns:∃m,h.Ns env.locals m∧∀p∈ρ,Cn G env O a h m p
 cells:∀x c,env.cells.lookup x=Z c->∃v,h.IsCell c v
 al:∀b,O b->∃o,h.get? b=Z o∧NC o
 ow:∀b,a=Z b->¬O b∧∃vs,h.PlainList b vs
 nl:¬O env.locals
 nc:∀x c,env.cells.lookup x=Z c->¬O c
theorem Sg{h:bq}(W:G.Wd h)(k:G.Ke h h'){a:aL}{m:Str->Option az}(x:h.Ns a m):h'.Ns a m:=by
 exact jz x λo es ep e hd r=>⟨o,es,ep,k _ _ e λhb=>(by refine c8 (W.tbNone hb e) λ_ z1=>bQ z1 λvs z=>?_;rw[hd]at z;cases z),hd,r⟩
theorem Cd{h:bq}(W:G.Wd h)(k:G.Ke h h'){a:aL}{m:Option az}(x:h.IsCell a m):h'.IsCell a m:=by
 exact bh x λo e hd=>⟨o,k _ _ e λhb=>(by refine c8 (W.tbNone hb e) λ_ z1=>bQ z1 λvs z=>?_;rw[hd]at z;cases z),hd⟩
theorem n0.ke{h:bq}(W:G.Wd h)(k:G.Ke h h'){m:Str->Option az}{v:az}(l:n0 env h m x v):n0 env h' m x v:=by
 rcases l with l|⟨a,b,c,d,e⟩
 ·exact .inl l
 ·exact .inr ⟨a,b,c,d,Cd W k e⟩
theorem Cn.ke{h:bq}(W:G.Wd h)(k:G.Ke h h'){m:Str->Option az}{p:Str×jS}(f:Cn G env O a h m p):Cn G env O a h' m p:=by
 obtain⟨x,b⟩:=p;obtain⟨nd,f⟩:=f;refine⟨nd,?_⟩
 induction b using Internal.jS.casesOn with
 |val d=>refine bh f λv l r=>?_;exact⟨v,l.ke W k,r.ke W k⟩
 |own ds=>refine dn f λl vs f1 f2 f3 f4=>?_;exact⟨l,vs,f1.ke W k,f2,gL W k f3,f4.ke W k⟩
 |fn K T f' n'=>refine gM f λv l t F=>?_;exact⟨v,l.ke W k,F.next t (λb o hb e=>k b o e (F.nT b hb)) F.nO F.nF⟩
theorem SR.ke{h:bq}(W:G.Wd h)(W':G.Wd h')(k:G.Ke h h')(S:SR G env O a ρ h):SR G env O a ρ h' where
 ns:=let⟨m,x,y⟩:=S.ns;⟨m,Sg W k x,λp hp=>(y p hp).ke W k⟩
 cells:=λx c e=>let⟨v,r⟩:=S.cells x c e;⟨v,Cd W k r⟩
 al:=λb hb=>by
  refine bh (S.al b hb) λo e n=>?_
  by_cases t:G.Tb b
  ·refine bh t λq hq M3=>?_;subst M3;exact gM (W'.tab q hq) λps _ z _=>⟨_,z.2,.inl (by simp)⟩
  ·exact⟨o,k b o e t,n⟩
 ow:=λb hb=>let⟨x,vs,y⟩:=S.ow b hb;⟨x,vs,gL W k y⟩
 nl:=S.nl
 nc:=S.nc
theorem SR.kx(W:G.Wd s.heap)(x:G.Kx s s')(S:SR G env O a ρ s.heap):SR G env O a ρ s'.heap:=S.ke W x.wd x.ke
theorem Al.kx(x:G.Kx s s')(S:Al s.heap O):Al s'.heap O:=λb hb=>by
 refine bh (S b hb) λo e n=>?_
 by_cases t:G.Tb b
 ·refine bh t λq hq Ej=>?_;subst Ej;exact gM (x.wd.tab q hq) λps _ z _=>⟨_,z.2,.inl (by simp)⟩
 ·exact⟨o,x.ke b o e t,n⟩
theorem SR.oM{h:bq}(S:SR G env O a ρ h):Al h (Ow O a):=λb hb=>by
 rcases hb with hb|hb
 ·exact S.al b hb
 ·exact c8 (S.ow b hb) λ_ z1=>bQ z1 λvs v50=>bQ v50 λo e=>⟨_,e,.seq rfl⟩
structure g9(A:dZ)(n:Nat):Prop where
 depth:A.depth+n<=990
 units:A.units+20*n<=9800
 handled:A.handled=ae
 guards:A.guards=Z []
theorem g9.le(h:m<=n)(R:g9 A n):g9 A m:=⟨aj (fN h _) R.depth,aRm h R.units,R.handled,R.guards⟩
abbrev cW:az->aK->Prop:=λ_ _=>False
def Ev(G:Gd)(n:Nat)(env:nJ)(ρ:aE)(e:aG)(d:D):Prop:=
 ∀(A:dZ) (s:aK) (O:aL->Prop) (a:Option aL),g9 A n->dQ G env->G.Wd s.heap->SR G env O a ρ s.heap->
  aJ G.M A (eval e env) (λv s'=>G.Kx s s'∧jT s'.heap (Ow O a) v d) cW s
def rf(G:Gd)(n:Nat)(env:nJ)(ρ:aE)(e:aG)(d:D):Prop:=
 ∀(A:dZ) (s:aK) (O:aL->Prop) (a:Option aL),g9 A n->dQ G env->G.Wd s.heap->SR G env O a ρ s.heap->
  aJ G.M A (eval e env) (λv s'=>G.Kx s s'∧gu s'.heap (Ow O a) v d) cW s
def Tr(G:Gd)(n:Nat)(env:nJ)(ρ:aE)(e:aG)(b:Bool):Prop:=
 ∀(A:dZ) (s:aK) (O:aL->Prop) (a:Option aL),g9 A n->dQ G env->G.Wd s.heap->SR G env O a ρ s.heap->
  aJ G.M A (Xn e env (eval e env)) (λv s'=>G.Kx s s'∧v=b) cW s
def Op(G:Gd)(n:Nat)(O:aL->Prop)(s:aK)(t:EL az)(d:D):Prop:=
 ∀A,g9 A n->aJ G.M A t (λv s'=>G.Kx s s'∧jT s'.heap O v d) cW s
def OpB(G:Gd)(n:Nat)(s:aK)(t:EL Bool)(d:Bool):Prop:=
 ∀A,g9 A n->aJ G.M A t (λv s'=>G.Kx s s'∧v=d) cW s
def uh(G:Gd)(n:Nat)(op:gD)(d1 d2 d:D):Prop:=
 ∀(s:aK) (O:aL->Prop) (v1 v2:az),G.Wd s.heap->Al s.heap O->gu s.heap O v1 d1->gu s.heap O v2 d2->Op G n O s (binaryOp op v1 v2) d
def qm(G:Gd)(n:Nat)(op:yd)(d1 d2:D)(b:Bool):Prop:=
 ∀(s:aK) (O:aL->Prop) (v1 v2:az),G.Wd s.heap->Al s.heap O->gu s.heap O v1 d1->gu s.heap O v2 d2->Op G n O s (compareOp op v1 v2) (.bool b)
def Yc(G:Gd)(n:Nat)(op:E0)(d1 d:D):Prop:=
 ∀(s:aK) (O:aL->Prop) (v1:az),G.Wd s.heap->Al s.heap O->gu s.heap O v1 d1->Op G n O s (unaryOp op v1) d
def Ie(G:Gd)(n:Nat)(d1:D)(b:Bool):Prop:=
 ∀(s:aK) (O:aL->Prop) (v1:az),G.Wd s.heap->Al s.heap O->gu s.heap O v1 d1->OpB G n s (truthy v1) b
theorem Ev.w(h:Ev G n env ρ e d):rf G n env ρ e d:=λA s O a R Ek W S=>ar (h A s O a R Ek W S) (λv s' x=>⟨x.1,.inl x.2⟩) λ_ _ x=>x
theorem rf.toEv(h:rf G n env ρ e d)(hd:∀xs,d≠ .list xs):Ev G n env ρ e d:=λA s O a R Ek W S=>ar (h A s O a R Ek W S) (λv s' x=>⟨x.1,by
 rcases x.2 with y|⟨_,_,xs,_,e,_⟩
 ·exact y
 ·exact absurd e (hd xs)⟩) λ_ _ x=>x
theorem Ev.cInt{i:Int}:Ev G n env ρ (.Constant (.int i) k pos) (.int i):=λA s O a R Ek W S=>
 wpAny_Constant_int ⟨Gd.Kx.tok W,by exact⟨_,rfl⟩⟩
theorem Ev.cBool{i:Bool}:Ev G n env ρ (.Constant (.bool i) k pos) (.bool i):=λA s O a R Ek W S=>by
 show aJ G.M A (pure (Value.bool i)) _ _ s;exact ay ⟨Gd.Kx.refl W,rfl⟩
theorem Ev.aba:Ev G n env ρ (.Constant .none k pos) .none:=λA s O a R Ek W S=>by
 show aJ G.M A (pure j0) _ _ s;exact ay ⟨Gd.Kx.refl W,rfl⟩
theorem fA{M:Model}{E:az->aK->Prop}{v:az}{m:Str->Option az}(Ek:dQ G env)(hn:s.heap.Ns env.locals m)(l:n0 env s.heap m x v)(h:Q v s):
 aJ M A (loadName env x) Q E s:=by
 rcases l with⟨hl,hv⟩|⟨hl,hx,c,hc,hv⟩
 ·exact wpAny_loadName_local Ek.kind hl hn hv h
 ·refine jR hl (λhl=>?_) λhl=>?_
  ·exact wpAny_loadName_cell Ek.kind hl hc hv h
  ·exact wpAny_loadName_free Ek.kind hl hc hv h (by simpa using hx)
theorem Ev.name(hm:(x,jS.val d)∈ρ):Ev G n env ρ (.Name x pos) d:=λA s O a R Ek W S=>by
 refine bh S.ns λm hn f=>?_;obtain⟨nd,v,l,r⟩:=f _ hm;exact jf (fA Ek hn l ⟨Gd.Kx.refl W,r⟩) nd
theorem rf.own(hm:(x,jS.own ds)∈ρ):rf G n env ρ (.Name x pos) (.list ds):=λA s O a R Ek W S=>by
 refine bh S.ns λm hn f=>?_;obtain⟨nd,l,vs,lk,ha,hl,r⟩:=f _ hm;exact jf (fA Ek hn lk ⟨Gd.Kx.refl W,.inr ⟨l,vs,ds,rfl,rfl,hl,r⟩⟩) nd
theorem Ev.bin{l:aG}{op:gD}(h1:rf G n env ρ l d1)(h2:rf G n env ρ r d2)(h:uh G n op d1 d2 d):Ev G n env ρ (.BinOp l op r pos) d:=λA s O a R Ek W S=>
 wpAny_BinOp (ar (h1 A s O a R Ek W S) (λv1 s1 x1=>ar (h2 A s1 O a R Ek x1.1.wd (S.kx W x1.1)) (λv2 s2 x2=>
  ar (h s2 _ v1 v2 x2.1.wd (S.kx W (x1.1.trans x2.1)).oM (x1.2.ke x1.1.wd x2.1.ke) x2.2 A R) (λv s3 x3=>⟨(x1.1.trans x2.1).trans x3.1,x3.2⟩) λ_ _ x=>x) λ_ _ x=>x) λ_ _ x=>x)
theorem Ev.una{l:aG}{op:E0}(h1:rf G n env ρ l d1)(h:Yc G n op d1 d):Ev G n env ρ (.UnaryOp op l pos) d:=λA s O a R Ek W S=>by
 refine J (arm_eval_UnaryOp ..) (ai (ar (h1 A s O a R Ek W S) (λv1 s1 x1=>ai (bU (bg ?_))) λ_ _ x=>x));exact ar (h s1 _ v1 x1.1.wd (S.kx W x1.1).oM x1.2 A R) (λv s3 x3=>⟨x1.1.trans x3.1,x3.2⟩) λ_ _ x=>x
theorem Ev.cmp{l:aG}{b:Bool}(h1:rf G n env ρ l d1)(h2:rf G n env ρ r d2)(h:qm G n op d1 d2 b)(hm:j3 op r=ag:=by rfl):
 Ev G n env ρ (.Compare l [op] [r] pos) (.bool b):=λA s O a R Ek W S=>
 wpAny_Compare1 (ar (h1 A s O a R Ek W S) (λv1 s1 x1=>ar (h2 A s1 O a R Ek x1.1.wd (S.kx W x1.1)) (λv2 s2 x2=>
  ar (h s2 _ v1 v2 x2.1.wd (S.kx W (x1.1.trans x2.1)).oM (x1.2.ke x1.1.wd x2.1.ke) x2.2 A R) (λv s3 x3=>⟨(x1.1.trans x2.1).trans x3.1,x3.2⟩) λ_ _ x=>x) λ_ _ x=>x) λ_ _ x=>x) hm
theorem Tr.cmp{l:aG}{b:Bool}(h1:rf G n env ρ l d1)(h2:rf G n env ρ r d2)(h:qm G n op d1 d2 b)(hm:j3 op r=ag:=by rfl):
 Tr G n env ρ (.Compare l [op] [r] pos) b:=λA s O a R Ek W S=>
 OF (ar (h1 A s O a R Ek W S) (λv1 s1 x1=>ar (h2 A s1 O a R Ek x1.1.wd (S.kx W x1.1)) (λv2 s2 x2=>
  ar (h s2 _ v1 v2 x2.1.wd (S.kx W (x1.1.trans x2.1)).oM (x1.2.ke x1.1.wd x2.1.ke) x2.2 A R) (λv s3 x3=>by
   have:=x3.2;subst this;exact rM ⟨(x1.1.trans x2.1).trans x3.1,rfl⟩) λ_ _ x=>x) λ_ _ x=>x) λ_ _ x=>x) hm
noncomputable def ta:aG->Bool
 |.UnaryOp .Not _ _|.BoolOp .. |.IfExp .. |.Compare .. =>ag
 |_=>af
set_option tactic.hygienic true in
theorem z7{t:EL az}(h:ta e=af):Xn e env t=(do let v←t;rO e.pos;jq [v] (truthy v)):=by
 induction e using bC<;>first|rfl|(exfalso;exact dP h)|skip
 rename_i op x pos
 induction op using pI<;>first|rfl|(exfalso;exact dP h)
theorem Tr.plain{b:Bool}(h1:rf G n env ρ e d)(h:Ie G n d b)(hp:ta e=af:=by rfl):Tr G n env ρ e b:=λA s O a R Ek W S=>by
 refine J (z7 hp) (ai (ar (h1 A s O a R Ek W S) (λv1 s1 x1=>ai (bU (bg ?_))) λ_ _ x=>x));exact ar (h s1 _ v1 x1.1.wd (S.kx W x1.1).oM x1.2 A R) (λv s3 x3=>⟨x1.1.trans x3.1,x3.2⟩) λ_ _ x=>x
theorem Tr.not{b:Bool}(h1:Tr G n env ρ e b):Tr G n env ρ (.UnaryOp .Not e pos) (!b):=λA s O a R Ek W S=>by
 exact J (arm_isTrue_UnaryOp ..) (ai (ar (h1 A s O a R Ek W S) (λv1 s1 x1=>ay ⟨x1.1,by exact J x1.2 rfl⟩) λ_ _ x=>x))
theorem Tr.Gv{op:sV}{vs:List aG}{b:Bool}(h:∀(A:dZ) (s:aK) (O:aL->Prop) (a:Option aL),g9 A n->dQ G env->G.Wd s.heap->SR G env O a ρ s.heap->
 aJ G.M A (allTrue op vs env) (λv s'=>G.Kx s s'∧v=b) cW s):Tr G n env ρ (.BoolOp op vs pos) b:=λA s O a R Ek W S=>by
 exact J (arm_isTrue_BoolOp ..) (h A s O a R Ek W S)
inductive OD (G:Gd) (n:Nat) (env:nJ) (ρ:aE):sV->List aG->Bool->Prop
 |abn:OD G n env ρ .And [] af
 |or0:OD G n env ρ .Or [] ag
 |NO {x:aG} {r:List aG}:Tr G n env ρ x ag->OD G n env ρ .And (x::r) ag
 |Cj {x:aG} {r:List aG} {b:Bool}:Tr G n env ρ x af->OD G n env ρ .And r b->OD G n env ρ .And (x::r) b
 |Hq {x:aG} {r:List aG}:Tr G n env ρ x af->OD G n env ρ .Or (x::r) af
 |Y7 {x:aG} {r:List aG} {b:Bool}:Tr G n env ρ x ag->OD G n env ρ .Or r b->OD G n env ρ .Or (x::r) b
theorem Tr.bool{op:sV}{vs:List aG}{b:Bool}(h:OD G n env ρ op vs b):Tr G n env ρ (.BoolOp op vs pos) b:=Tr.Gv (by
 induction h with
 |abn=>intro A s O a R Ek W S;exact J (acH ..) (ay ⟨Gd.Kx.refl W,rfl⟩)
 |or0=>intro A s O a R Ek W S;exact J (acH ..) (ay ⟨Gd.Kx.refl W,rfl⟩)
 |NO h1=>intro A s O a R Ek W S;exact J (tT ..) (ai (ar (h1 A s O a R Ek W S) (λv1 s1 x1=>by exact J x1.2 (ay ⟨x1.1,rfl⟩)) λ_ _ x=>x))
 |Hq h1=>intro A s O a R Ek W S;exact J (tT ..) (ai (ar (h1 A s O a R Ek W S) (λv1 s1 x1=>by exact J x1.2 (ay ⟨x1.1,rfl⟩)) λ_ _ x=>x))
 |Cj h1 _ ih=>intro A s O a R Ek W S;exact J (tT ..) (ai (ar (h1 A s O a R Ek W S) (λv1 s1 x1=>by
  exact J x1.2 (ar (ih A s1 O a R Ek x1.1.wd (S.kx W x1.1)) (λv s2 x2=>⟨x1.1.trans x2.1,x2.2⟩) λ_ _ x=>x)) λ_ _ x=>x))
 |Y7 h1 _ ih=>intro A s O a R Ek W S;exact J (tT ..) (ai (ar (h1 A s O a R Ek W S) (λv1 s1 x1=>by
  exact J x1.2 (ar (ih A s1 O a R Ek x1.1.wd (S.kx W x1.1)) (λv s2 x2=>⟨x1.1.trans x2.1,x2.2⟩) λ_ _ x=>x)) λ_ _ x=>x)))
inductive Ru (G:Gd) (n:Nat) (env:nJ) (ρ:aE):sV->List aG->D->Prop
 |last {op:sV} {x:aG} {d:D}:Ev G n env ρ x d->Ru G n env ρ op [x] d
 |NO {x y:aG} {r:List aG} {d:D}:Ev G n env ρ x d->Ie G n d ag->Ru G n env ρ .And (x::y::r) d
 |Cj {x y:aG} {r:List aG} {d d':D}:Ev G n env ρ x d->Ie G n d af->Ru G n env ρ .And (y::r) d'->Ru G n env ρ .And (x::y::r) d'
 |Hq {x y:aG} {r:List aG} {d:D}:Ev G n env ρ x d->Ie G n d af->Ru G n env ρ .Or (x::y::r) d
 |Y7 {x y:aG} {r:List aG} {d d':D}:Ev G n env ρ x d->Ie G n d ag->Ru G n env ρ .Or (y::r) d'->Ru G n env ρ .Or (x::y::r) d'
theorem Ev.Gv{op:sV}{vs:List aG}(h:Ru G n env ρ op vs d):Ev G n env ρ (.BoolOp op vs pos) d:=λA s O a R Ek W S=>by
 refine J (arm_eval_BoolOp ..) ?_
 induction h generalizing s with
 |last h1=>exact J (fZ ..) (J (arm_evalEach_nil ..) (h1 A s O a R Ek W S))
 |NO h1 t=>exact J (fZ ..) (J (fZ ..) (ai (ar (h1 A s O a R Ek W S) (λv1 s1 x1=>ai (bU (ai (bg (ar (t s1 _ v1 x1.1.wd (S.kx W x1.1).oM (.inl x1.2) A R) (λb s2 x2=>by
  exact J x2.2 (ay ⟨x1.1.trans x2.1,x1.2.ke x1.1.wd x2.1.ke⟩)) λ_ _ x=>x))))) λ_ _ x=>x)))
 |Hq h1 t=>exact J (fZ ..) (J (fZ ..) (ai (ar (h1 A s O a R Ek W S) (λv1 s1 x1=>ai (bU (ai (bg (ar (t s1 _ v1 x1.1.wd (S.kx W x1.1).oM (.inl x1.2) A R) (λb s2 x2=>by
  exact J x2.2 (ay ⟨x1.1.trans x2.1,x1.2.ke x1.1.wd x2.1.ke⟩)) λ_ _ x=>x))))) λ_ _ x=>x)))
 |Cj h1 t _ ih=>exact J (fZ ..) (J (fZ ..) (ai (ar (h1 A s O a R Ek W S) (λv1 s1 x1=>ai (bU (ai (bg (ar (t s1 _ v1 x1.1.wd (S.kx W x1.1).oM (.inl x1.2) A R) (λb s2 x2=>by
  exact J x2.2 (ar (ih s2 x2.1.wd (S.kx W (x1.1.trans x2.1))) (λv s3 x3=>⟨(x1.1.trans x2.1).trans x3.1,x3.2⟩) λ_ _ x=>x)) λ_ _ x=>x))))) λ_ _ x=>x)))
 |Y7 h1 t _ ih=>exact J (fZ ..) (J (fZ ..) (ai (ar (h1 A s O a R Ek W S) (λv1 s1 x1=>ai (bU (ai (bg (ar (t s1 _ v1 x1.1.wd (S.kx W x1.1).oM (.inl x1.2) A R) (λb s2 x2=>by
  exact J x2.2 (ar (ih s2 x2.1.wd (S.kx W (x1.1.trans x2.1))) (λv s3 x3=>⟨(x1.1.trans x2.1).trans x3.1,x3.2⟩) λ_ _ x=>x)) λ_ _ x=>x))))) λ_ _ x=>x)))
theorem Ev.Mg{t b o:aG}(ht:Tr G n env ρ t af)(h:Ev G n env ρ b d):Ev G n env ρ (.IfExp t b o pos) d:=λA s O a R Ek W S=>by
 exact J (arm_eval_IfExp ..) (ai (ar (ht A s O a R Ek W S) (λv1 s1 x1=>by exact J x1.2 (ar (h A s1 O a R Ek x1.1.wd (S.kx W x1.1)) (λv s2 x2=>⟨x1.1.trans x2.1,x2.2⟩) λ_ _ x=>x)) λ_ _ x=>x))
theorem Ev.Mh{t b o:aG}(ht:Tr G n env ρ t ag)(h:Ev G n env ρ o d):Ev G n env ρ (.IfExp t b o pos) d:=λA s O a R Ek W S=>by
 exact J (arm_eval_IfExp ..) (ai (ar (ht A s O a R Ek W S) (λv1 s1 x1=>by exact J x1.2 (ar (h A s1 O a R Ek x1.1.wd (S.kx W x1.1)) (λv s2 x2=>⟨x1.1.trans x2.1,x2.2⟩) λ_ _ x=>x)) λ_ _ x=>x))
inductive wb (G:Gd) (n:Nat) (env:nJ) (ρ:aE):List aG->List D->Prop
 |nil:wb G n env ρ [] []
 |cons {e:aG} {es:List aG} {d:D} {ds:List D}:Ev G n env ρ e d->wb G n env ρ es ds->fD e=ag->wb G n env ρ (e::es) (d::ds)
theorem eO(h:fD e=ag):dq (e::es) env=(ag,eval e env)::dq es env:=by
 induction e using bC<;>first|rfl|(exfalso;exact dP h.symm)
theorem wb.run(h:wb G n env ρ es ds):∀(A:dZ) (s:aK) (O:aL->Prop) (a:Option aL),g9 A n->dQ G env->G.Wd s.heap->SR G env O a ρ s.heap->
 aJ G.M A (rQ (gv pos (dq es env))) (λvs s'=>G.Kx s s'∧bb s'.heap (Ow O a) vs ds) cW s:=by
 induction h with
 |nil=>intro A s O a R Ek W S;exact ay ⟨Gd.Kx.refl W,bb.nil⟩
 |@cons e es d ds h1 _ hs ih=>
  intro A s O a R Ek W S;refine J (eO hs) ?_
  show aJ G.M A (do
   let v←eval e env
   let EH←(pure [v]:EL (List az))
   return EH++(←jq EH (rQ (gv pos (dq es env))))) _ _ s
  refine ai (ar (h1 A s O a R Ek W S) (λv1 s1 x1=>ai (ay (ai (bg ?_)))) λ_ _ x=>x);exact ar (ih A s1 O a R Ek x1.1.wd (S.kx W x1.1)) (λvs s2 x2=>ay ⟨x1.1.trans x2.1,bb.cons (x1.2.ke x1.1.wd x2.1.ke) x2.2⟩) λ_ _ x=>x
theorem bL{h:bq}(o:Aw):∀b x,h.get? b=Z x->(h.push o).get? b=Z x:=λ_ _ e=>eG _ e
theorem oa{h:bq}(al:Al h O):¬O h.objs.size:=λhO=>by
 exact bh (al _ hO) λo e _=>eA _ (aZ e)
theorem jI{h:bq}(al:Al h O){vs:Array az}(r:bb h O vs.toList ds):jT (h.push {cls:=.type "list",data:=.seq vs k}) O (.ref h.objs.size) (.list ds):=by
 exact⟨_,vs,rfl,oa al,⟨k,bc _ rfl⟩,r.mono (λb o e _ _=>bL _ b o e) λ_ _ e=>e⟩
theorem qD{h:bq}(al:Al h O){vs:Array az}(r:bb h O vs.toList ds):jT (h.push {cls:=.type "tuple",data:=.seq vs k}) O (.ref h.objs.size) (.tuple ds):=by
 exact⟨_,vs,rfl,oa al,⟨_,bc _ rfl,rfl,_,rfl⟩,r.mono (λb o e _ _=>bL _ b o e) λ_ _ e=>e⟩
theorem Op.newList{vs:List az}(W:G.Wd s.heap)(al:Al s.heap O)(r:bb s.heap O vs ds)(hz:ds.length<=16777216):Op G n O s (newList vs) (.list ds):=λA R=>
 dN ⟨Gd.Kx.of W (bL _),jI al r⟩ (by show vs.toArray.size<=l9;exact J gy (J r.length (J cC hz)))
theorem Op.newTuple{vs:List az}(W:G.Wd s.heap)(al:Al s.heap O)(r:bb s.heap O vs ds)(hz:ds.length<=16777216):Op G n O s (newTuple vs) (.tuple ds):=λA R=>
 dN ⟨Gd.Kx.of W (bL _),qD al r⟩ (by show vs.toArray.size<=l9;exact J gy (J r.length (J cC hz)))
theorem Ev.list(h:wb G n env ρ es ds)(hz:ds.length<=16777216:=by decide):Ev G n env ρ (.List es pos) (.list ds):=λA s O a R Ek W S=>
 Bv (ar (h.run A s O a R Ek W S) (λvs s1 x1=>ar (Op.newList x1.1.wd (S.kx W x1.1).oM x1.2 hz A R) (λv s2 x2=>⟨x1.1.trans x2.1,x2.2⟩) λ_ _ x=>x) λ_ _ x=>x)
theorem Ev.tuple(h:wb G n env ρ es ds)(hz:ds.length<=16777216:=by decide):Ev G n env ρ (.Tuple es k pos) (.tuple ds):=λA s O a R Ek W S=>
 Av (ar (h.run A s O a R Ek W S) (λvs s1 x1=>ar (Op.newTuple x1.1.wd (S.kx W x1.1).oM x1.2 hz A R) (λv s2 x2=>⟨x1.1.trans x2.1,x2.2⟩) λ_ _ x=>x) λ_ _ x=>x)
theorem dJ{h:bq}{i:Int}{t:Xr}:jT h O (.int i t) (.int i):=⟨t,rfl⟩
theorem eB{h:bq}{i:Bool}:jT h O (.bool i) (.bool i):=rfl
theorem jy{h:bq}{i:Str}{t:Xr}:jT h O (.str i t) (.str i):=⟨t,rfl⟩
theorem uh.add{a b:Int}:uh G n .Add (.int a) (.int b) (.int (a+b)):=λs O v1 v2 W al r1 r2 A R=>by
 refine bQ r1.int λt jE=>?_;subst jE;refine bQ r2.int λu sE=>?_;subst sE
 with_reducible refine add_int ?_
 exact⟨Gd.Kx.tok W,dJ⟩
theorem uh.sub{a b:Int}:uh G n .Sub (.int a) (.int b) (.int (a-b)):=λs O v1 v2 W al r1 r2 A R=>by
 refine bQ r1.int λt qe=>?_;subst qe;refine bQ r2.int λu wQ=>?_;subst wQ
 with_reducible refine sub_int ?_
 exact⟨Gd.Kx.tok W,dJ⟩
theorem uh.mul{a b:Int}(h:IntMulOk a b):uh G n .Mult (.int a) (.int b) (.int (a*b)):=λs O v1 v2 W al r1 r2 A R=>by
 refine bQ r1.int λt vJ=>?_;subst vJ;refine bQ r2.int λu y0=>?_;subst y0
 with_reducible refine mul_int ?_ h
 exact⟨Gd.Kx.tok W,dJ⟩
theorem uh.fdiv{a b:Int}(h0:b≠0)(h:bT a b=ag):uh G n .FloorDiv (.int a) (.int b) (.int (a.fdiv b)):=λs O v1 v2 W al r1 r2 A R=>by
 refine bQ r1.int λt Ac=>?_;subst Ac;refine bQ r2.int λu M4=>?_;subst M4
 with_reducible refine floordiv_int h0 ?_ (Or.inl h)
 exact⟨Gd.Kx.tok W,dJ⟩
theorem uh.mod{a b:Int}(h0:b≠0):uh G n .Mod (.int a) (.int b) (.int (a.fmod b)):=λs O v1 v2 W al r1 r2 A R=>by
 refine bQ r1.int λt Gh=>?_;subst Gh;refine bQ r2.int λu M3=>?_;subst M3
 with_reducible refine mod_int' h0 ?_
 exact⟨Gd.Kx.tok W,dJ⟩
theorem uh.and{a b:Int}:uh G n .BitAnd (.int a) (.int b) (.int (dS a b)):=λs O v1 v2 W al r1 r2 A R=>by
 refine bQ r1.int λt Ej=>?_;subst Ej;refine bQ r2.int λu JG=>?_;subst JG
 with_reducible refine and_int ?_
 exact⟨Gd.Kx.tok W,dJ⟩
theorem uh.or{a b:Int}:uh G n .BitOr (.int a) (.int b) (.int (eQ a b)):=λs O v1 v2 W al r1 r2 A R=>by
 refine bQ r1.int λt M2=>?_;subst M2;refine bQ r2.int λu Wp=>?_;subst Wp
 with_reducible refine or_int ?_
 exact⟨Gd.Kx.tok W,dJ⟩
theorem uh.xor{a b:Int}:uh G n .BitXor (.int a) (.int b) (.int (bD a b)):=λs O v1 v2 W al r1 r2 A R=>by
 refine bQ r1.int λt Gg=>?_;subst Gg;refine bQ r2.int λu M1=>?_;subst M1
 with_reducible refine xor_int ?_
 exact⟨Gd.Kx.tok W,dJ⟩
theorem uh.shr{a b:Int}(h0:0<=b):uh G n .RShift (.int a) (.int b) (.int (a.fdiv (2^b.toNat))):=λs O v1 v2 W al r1 r2 A R=>by
 refine bQ r1.int λt JF=>?_;subst JF;refine bQ r2.int λu JE=>?_;subst JE
 with_reducible refine rshift_int h0 ?_
 exact⟨Gd.Kx.tok W,dJ⟩
theorem uh.shl{a b:Int}(h0:0<=b)(hz:(ak a:Int)+b<=2^27):uh G n .LShift (.int a) (.int b) (.int (a*2^b.toNat)):=λs O v1 v2 W al r1 r2 A R=>by
 refine bQ r1.int λt JD=>?_;subst JD;refine bQ r2.int λu JC=>?_;subst JC
 with_reducible refine lshift_int_or R.handled (λh=>absurd h0 (by lia)) (λ_=>hz) (λ_=>?_)
 exact⟨Gd.Kx.tok W,dJ⟩
theorem uh.pow{a b:Int}(h0:0<=b)(hz:(ak a:Int)*b<=2^27):uh G n .Pow (.int a) (.int b) (.int (a^b.toNat)):=λs O v1 v2 W al r1 r2 A R=>by
 refine bQ r1.int λt QG=>?_;subst QG;refine bQ r2.int λu JB=>?_;subst JB
 with_reducible refine pow_int h0 hz ?_
 exact⟨Gd.Kx.tok W,dJ⟩
theorem Yc.neg{a:Int}:Yc G n .USub (.int a) (.int (-a)):=λs O v1 W al r1 A R=>by
 refine bQ r1.int λt M0=>?_;subst M0
 with_reducible refine neg_int ?_
 exact⟨Gd.Kx.tok W,dJ⟩
theorem Yc.inv{a:Int}:Yc G n .Invert (.int a) (.int (aS a)):=λs O v1 W al r1 A R=>by
 refine bQ r1.int λt Gf=>?_;subst Gf
 with_reducible refine invert_int ?_
 exact⟨Gd.Kx.tok W,dJ⟩
theorem uh.W4(h:x.length+y.length<=16777216):uh G n .Add (.str x) (.str y) (.str (x++y)):=λs O v1 v2 W al r1 r2 A R=>by
 refine bQ r1.str λt MZ=>?_;subst MZ;refine bQ r2.str λu QF=>?_;subst QF;exact add_str (λt' tk=>⟨Gd.Kx.tok W,jy⟩) (J cC h)
theorem uh.UW{k:Int}(h:MulOk x k):uh G n .Mult (.str x) (.int k) (.str (Txt.mul x k)):=λs O v1 v2 W al r1 r2 A R=>by
 refine bQ r1.str λt QE=>?_;subst QE;refine bQ r2.int λu MY=>?_;subst MY;exact SB.mul h (λt' tk=>⟨Gd.Kx.tok W,jy⟩)
theorem uh.Rl{x y:List D}(h:x.length+y.length<=16777216):uh G n .Add (.list x) (.list y) (.list (x++y)):=λs O v1 v2 W al r1 r2 A R=>by
 refine bV r1.list λl vs e70 v31 q1=>?_;subst e70;obtain⟨k1,h1⟩:=v31;refine bV r2.list λb ws e73 v34 q2=>?_;subst e73;obtain⟨k2,h2⟩:=v34;refine PySem.P.add_list h1 h2 ⟨Gd.Kx.of W (bL _),jI al (J uT (q1.append q2))⟩ ?_;have e1:=q1.length;have e2:=q2.length;rw[aX]at e1 e2;exact J cC (J e1 (J e2 h))
theorem abI(k:Nat)(vs:Array az):(Kw (λx1 x2=>x1++x2) #[] (cz k vs)).toList=(cz k vs.toList).flatten:=by
 have:∀(k:Nat) (di:Array az),(Kw (λx1 x2=>x1++x2) di (cz k vs)).toList=di.toList++(cz k vs.toList).flatten:=by
  intro k
  induction k with
  |zero=>intro di;simp
  |succ k ih=>intro di;exact J i5 (J fT (J (ih ..) (J uT (J i5 (J d6 (J (jP ..) rfl))))))
 simpa using this k #[]
theorem bb.rep{h:bq}{vs:List az}(r:bb h O vs ds):∀k,bb h O (cz k vs).flatten (cz k ds).flatten
 |0=>bb.nil
 |k+1=>by exact J i5 (J i5 (J d6 (J d6 (r.append (r.rep k)))))
theorem uh.PC{x:List D}{k:Int}(hx:x≠[])(h:x.length*k.toNat<=16777216)(hk:-(2^63)<=k∧k<2^63):uh G n .Mult (.list x) (.int k) (.list (cz k.toNat x).flatten):=λs O v1 v2 W al r1 r2 A R=>by
 refine bV r1.list λl items e76 v37 q1=>?_;subst e76;obtain⟨c,hl⟩:=v37;refine bQ r2.int λu e78=>?_;subst e78;have e1:=q1.length;rw[aX]at e1
 have n9:items.isEmpty=ag:=by
  rw[oX];intro e;rw[e]at e1;exact hx (nI e1.symm)
 refine Il (T:="list") (U:="int") (by decide) ⟨_,hl,rfl⟩ (λs'=>GQ s' k u) acE F.fills_int_mul F.slot_int_rmul repeat_list F.slot_int_index.lookup
  (gR F.slot_int_rmul (GQ s k u) F.entry_int_rmul (F.args_int_rmul_2 _ _) (OH k u l items c)
   ⟨hl,rfl,⟨_,hl,rfl⟩,gR F.slot_list_mul ⟨_,hl,rfl⟩ F.entry_list_mul (F.args_list_mul_2 _ _)
    (uk l items c k u (by simp[dY];lia) (by refine J e1 ?_;lia) (by simp[oi,l9];refine J e1 ?_;lia))
    ⟨hl,⟨Gd.Kx.of W (bL _),jI al ?_⟩⟩⟩)
 exact J n9 (J (abI ..) (q1.rep _))
theorem qm.eq(h1:d1.canLay0=af)(h2:d2.canLay0=af)(hd:d1.depth<=90):qm G n .Eq d1 d2 (mJ d1 d2):=λs O v1 v2 W al r1 r2 A R=>by
 exact bQ r1.reads λas q1=>bQ r2.reads λbs q2=>SeqAt.compareEq_reads q1 q2 h1 h2 (aT (cL (aj (bw ..) R.units) (aj (oJ ..) hd)) (by decide)) ⟨Gd.Kx.refl W,eB⟩
theorem qm.ne(h1:d1.canLay0=af)(h2:d2.canLay0=af)(hd:d1.depth<=90):qm G n .NotEq d1 d2 (!mJ d1 d2):=λs O v1 v2 W al r1 r2 A R=>by
 exact bQ r1.reads λas q1=>bQ r2.reads λbs q2=>SeqAt.compareNe_reads q1 q2 h1 h2 (aT (cL (aj (bw ..) R.units) (aj (oJ ..) hd)) (by decide)) ⟨Gd.Kx.refl W,eB⟩
theorem qm.eqI{a b:Int}:qm G n .Eq (.int a) (.int b) (a==b):=λs O v1 v2 W al r1 r2 A R=>by
 refine bQ r1.int λt e79=>?_;subst e79;refine bQ r2.int λu e80=>?_;subst e80
 with_reducible refine eq_int ?_
 exact⟨Gd.Kx.refl W,eB⟩
theorem qm.neI{a b:Int}:qm G n .NotEq (.int a) (.int b) (a !=b):=λs O v1 v2 W al r1 r2 A R=>by
 refine bQ r1.int λt e81=>?_;subst e81;refine bQ r2.int λu e82=>?_;subst e82
 with_reducible refine ne_int ?_
 exact⟨Gd.Kx.refl W,eB⟩
theorem qm.lt{a b:Int}:qm G n .Lt (.int a) (.int b) (ah (a<b)):=λs O v1 v2 W al r1 r2 A R=>by
 refine bQ r1.int λt e83=>?_;subst e83;refine bQ r2.int λu e84=>?_;subst e84
 with_reducible refine lt_int ?_
 exact⟨Gd.Kx.refl W,eB⟩
theorem qm.le{a b:Int}:qm G n .LtE (.int a) (.int b) (ah (a<=b)):=λs O v1 v2 W al r1 r2 A R=>by
 refine bQ r1.int λt e85=>?_;subst e85;refine bQ r2.int λu e86=>?_;subst e86
 with_reducible refine le_int ?_
 exact⟨Gd.Kx.refl W,eB⟩
theorem qm.gt{a b:Int}:qm G n .Gt (.int a) (.int b) (ah (b<a)):=λs O v1 v2 W al r1 r2 A R=>by
 refine bQ r1.int λt e87=>?_;subst e87;refine bQ r2.int λu e88=>?_;subst e88
 with_reducible refine gt_int ?_
 exact⟨Gd.Kx.refl W,eB⟩
theorem qm.ge{a b:Int}:qm G n .GtE (.int a) (.int b) (ah (b<=a)):=λs O v1 v2 W al r1 r2 A R=>by
 refine bQ r1.int λt e89=>?_;subst e89;refine bQ r2.int λu e90=>?_;subst e90
 with_reducible refine ge_int ?_
 exact⟨Gd.Kx.refl W,eB⟩
theorem qm.eqS{a b:Str}:qm G n .Eq (.str a) (.str b) (a==b):=λs O v1 v2 W al r1 r2 A R=>by
 refine bQ r1.str λt e91=>?_;subst e91;refine bQ r2.str λu e92=>?_;subst e92
 with_reducible refine eq_str ?_
 exact⟨Gd.Kx.refl W,eB⟩
theorem qm.FO(h1:d.canLay0=af)(h2:ik xs=af)(hd:d.depth<=80):qm G n .In d (.list xs) (xs.any λy=>mJ y d):=λs O v1 v2 W al r1 r2 A R=>by
 exact bQ r1.reads λas q1=>bQ r2.reads λbs q2=>SeqAt.in_list_reads q2 q1 h2 h1 (by have:=R.units;have:min (lb xs) d.depth<=d.depth:=nr _ _;simp only[cLine];lia) ⟨Gd.Kx.refl W,eB⟩
theorem qm.UO(h1:d.canLay0=af)(h2:ik xs=af)(hd:d.depth<=80):qm G n .NotIn d (.list xs) (!xs.any λy=>mJ y d):=λs O v1 v2 W al r1 r2 A R=>by
 exact bQ r1.reads λas q1=>bQ r2.reads λbs q2=>SeqAt.notIn_list_reads q2 q1 h2 h1 (by have:=R.units;have:min (lb xs) d.depth<=d.depth:=nr _ _;simp only[cLine];lia) ⟨Gd.Kx.refl W,eB⟩
theorem Ie.bool{b:Bool}:Ie G n (.bool b) b:=λs O v1 W al r1 A R=>by
 obtain rfl:=r1.bool;exact rM ⟨Gd.Kx.refl W,rfl⟩
theorem Ie.int{a:Int}:Ie G n (.int a) (a !=0):=λs O v1 W al r1 A R=>by
 refine bQ r1.int λt e93=>?_;subst e93;exact acR ⟨Gd.Kx.refl W,rfl⟩
theorem Ie.str(h:x.length<=16777216):Ie G n (.str x) ((x.length:Int) !=0):=λs O v1 W al r1 A R=>by
 refine bQ r1.str λt e94=>?_;subst e94;exact PySem.P.truthy_str (by lia) ⟨Gd.Kx.tok W,rfl⟩
theorem Ie.list(h:xs.length<=16777216):Ie G n (.list xs) (!xs.isEmpty):=λs O v1 W al r1 A R=>by
 refine bV r1.list λl vs e95 hl q=>?_;subst e95;have e1:=q.length;rw[aX]at e1;refine wpAny_truthy_list hl.isList (by refine J e1 ?_;lia) ⟨Gd.Kx.tok W,?_⟩
 induction xs using aA with
 |nil=>exact J (Array.isEmpty_iff.mpr (xO e1)) rfl
 |cons d ds=>
  exact J (oX.mpr (λe=>by rw[e]at e1;cases e1)) rfl
set_option tactic.hygienic true in
theorem xD(o i:az):∃Yg,subscripted slice ag o i=operate Yg (Yo o i):=by
 induction slice using bC<;>first|exact⟨_,rfl⟩|(rename_i a b c _;induction a using aB<;>first|exact⟨_,rfl⟩|(induction b using aB<;>first|exact⟨_,rfl⟩|(induction c using aB<;>exact⟨_,rfl⟩)))
theorem mi{E:az->aK->Prop}{o i:az}{T:String}(hT:s.TypeIs o T)
 (hl:GP (.type T) "__getitem__"=pure (Z (.builtin id))) (h:aJ G.M A (Yo o i) Q E s):aJ G.M A (x7 dh slice o i) Q E s:=by
 exact bQ (xD (slice:=slice) o i) λYg e=>tail_any hT hl h e
noncomputable def zO(ds:List D)(k:Int):Option D:=if 0<=k then ds[k.toNat]? else if-(ds.length:Int)<=k then ds[(k+ds.length).toNat]? else ae
theorem bb.at{h:bq}{vs:Array az}(r:bb h O vs.toList ds)(e:ds[i]?=Z d):∃v,vs[i]?=Z v∧jT h O v d:=by
 exact bh (r.get e) λv a b=>⟨v,by simpa using a,b⟩
theorem Op.L7{v1 v2:az}{k:Int}(W:G.Wd s.heap)(r1:gu s.heap O v1 (.list ds))(r2:gu s.heap O v2 (.int k))(hz:ds.length<=16777216)(hd:zO ds k=Z d):
 Op G n O s (x7 dh slice v1 v2) d:=λA R=>by
 refine bV r1.list λl items jE hl q1=>?_;subst jE;refine bQ r2.int λu sE=>?_;subst sE;have e1:=q1.length;rw[aX]at e1;refine mi hl.isList.typeIs Ao.lookup ?_;unfold zO at hd
 by_cases h0:0<=k
 ·rw[bz h0]at hd;refine bh (q1.at hd) λv hv rv=>?_
  have hk:k.toNat<ds.length:=by
   obtain⟨h,_⟩:=cK.mp hd;exact h
  exact wpAny_getItem_list hl.isList h0 (by lia) hv ⟨Gd.Kx.refl W,rv⟩
 ·rw[bF h0]at hd
  by_cases h1:-(ds.length:Int)<=k
  ·rw[bz h1]at hd;exact bh (q1.at hd) λv hv rv=>wpAny_getItem_list_neg hl.isList (Int.lt_of_not_ge h0) (J e1 h1) (by lia) (J e1 hv) ⟨Gd.Kx.refl W,rv⟩
  ·rw[bF h1]at hd;exact bK hd
theorem Op.L6{v1 v2:az}{k:Int}(W:G.Wd s.heap)(r1:gu s.heap O v1 (.tuple ds))(r2:gu s.heap O v2 (.int k))(h0:0<=k)(hz:ds.length<=16777216)(hd:ds[k.toNat]?=Z d):
 Op G n O s (x7 dh slice v1 v2) d:=λA R=>by
 refine bV r1.tuple λl items qe hl q1=>?_;subst qe;refine bQ r2.int λu wQ=>?_;subst wQ;have e1:=q1.length;rw[aX]at e1;refine mi hl.typeIs qY.lookup (bh (q1.at hd) λv hv rv=>?_)
 have hk:k.toNat<ds.length:=by
  obtain⟨h,_⟩:=cK.mp hd;exact h
 refine getItem_tuple hl (by lia) (by lia) (j:=k.toNat) ?_ hv ⟨Gd.Kx.refl W,rv⟩;refine J e1 ?_;unfold tM;exact(bz (Bool.and_eq_true_iff.mpr ⟨aq (aKt h0 hk).1,aq (aKt h0 hk).2⟩)).trans (aD (λz:Int=>Z z.toNat) (bF (ky.mpr h0):(if k<0 then k+(ds.length:Int)else k)=k))
theorem Ev.L7{v i:aG}{k:Int}(h1:rf G n env ρ v (.list ds))(h2:rf G n env ρ i (.int k))(hd:zO ds k=Z d)(hz:ds.length<=16777216):Ev G n env ρ (.Subscript v i pos) d:=λA s O a R Ek W S=>
 q5 (ar (h1 A s O a R Ek W S) (λv1 s1 x1=>ar (h2 A s1 O a R Ek x1.1.wd (S.kx W x1.1)) (λv2 s2 x2=>
  ar (Op.L7 x2.1.wd (x1.2.ke x1.1.wd x2.1.ke) x2.2 hz hd A R) (λv s3 x3=>⟨(x1.1.trans x2.1).trans x3.1,x3.2⟩) λ_ _ x=>x) λ_ _ x=>x) λ_ _ x=>x)
theorem Ev.L6{v i:aG}{k:Int}(h1:rf G n env ρ v (.tuple ds))(h2:rf G n env ρ i (.int k))(h0:0<=k)(hd:ds[k.toNat]?=Z d)(hz:ds.length<=16777216):Ev G n env ρ (.Subscript v i pos) d:=λA s O a R Ek W S=>
 q5 (ar (h1 A s O a R Ek W S) (λv1 s1 x1=>ar (h2 A s1 O a R Ek x1.1.wd (S.kx W x1.1)) (λv2 s2 x2=>
  ar (Op.L6 x2.1.wd (x1.2.ke x1.1.wd x2.1.ke) x2.2 h0 hz hd A R) (λv s3 x3=>⟨(x1.1.trans x2.1).trans x3.1,x3.2⟩) λ_ _ x=>x) λ_ _ x=>x) λ_ _ x=>x)
inductive qU (G:Gd) (n:Nat) (env:nJ) (ρ:aE):Option aG->Option Int->Prop
 |none:qU G n env ρ ae ae
 |some {e:aG} {k:Int}:rf G n env ρ e (.int k)->qU G n env ρ (Z e) (Z k)
theorem qU.run{e:Option aG}{k:Option Int}(h:qU G n env ρ e k):∀(A:dZ) (s:aK) (O:aL->Prop) (a:Option aL),g9 A n->dQ G env->G.Wd s.heap->SR G env O a ρ s.heap->
 aJ G.M A (evalPart e env) (λv s'=>G.Kx s s'∧∃p:Option (Int×Xr),v=partValue p∧p.map (·.1)=k) cW s:=by
 intro A s O a R Ek W S
 cases h with
 |none=>exact J (evalPart_none ..) (ay ⟨Gd.Kx.refl W,.none,rfl,rfl⟩)|some h=>exact J (evalPart_some ..) (ar (h A s O a R Ek W S) (λv s' x=>⟨x.1,by refine bQ x.2.int λt vJ=>?_;subst vJ;exact⟨.some (_,t),rfl,rfl⟩⟩) λ_ _ x=>x)
theorem n8(p:Option (Int×Xr)):IsPart (partValue p) (p.map (·.1)):=by
 induction p using aB with
 |none=>exact .none|some q=>exact .int _ _
noncomputable def rk(ds:List α)(lo hi:Option Int):List α:=(ds.drop (lo.elim 0 (clipAt ds.length))).take (hi.elim ds.length (clipAt ds.length)-lo.elim 0 (clipAt ds.length))
theorem lH{lo hi st:Option aG}{l u k:Option Int}(h1:qU G n env ρ lo l)(h2:qU G n env ρ hi u)(h3:qU G n env ρ st k){p:eL}(A:dZ)(s:aK)(O:aL->Prop)(a:Option aL)(R:g9 A n)(Ek:dQ G env)(W:G.Wd s.heap)(S:SR G env O a ρ s.heap):
 aJ G.M A (eval (.Slice lo hi st p) env) (λv s'=>G.Kx s s'∧∃sl pl pu pk,v=.ref sl∧s'.heap.IsSlice sl pl pu pk∧pl.map (·.1)=l∧pu.map (·.1)=u∧pk.map (·.1)=k) cW s:=
 wpAny_Slice (ar (h1.run A s O a R Ek W S) (λv1 s1 x1=>ar (h2.run A s1 O a R Ek x1.1.wd (S.kx W x1.1)) (λv2 s2 x2=>ar (h3.run A s2 O a R Ek x2.1.wd (S.kx W (x1.1.trans x2.1))) (λv3 s3 x3=>by
  refine c8 x1 λy1 z1=>bh z1 λp1 y0 e1=>?_;subst y0;refine c8 x2 λy2 z1=>bh z1 λp2 Ac e2=>?_;subst Ac;refine c8 x3 λy3 z1=>bh z1 λp3 M4 e3=>?_;subst M4;exact⟨((y1.trans y2).trans y3).trans (Gd.Kx.of y3.wd (bL _)),_,p1,p2,p3,rfl,⟨_,bc _ rfl,rfl,rfl⟩,e1,e2,e3⟩) λ_ _ x=>x) λ_ _ x=>x) λ_ _ x=>x)
theorem Ev.Up{v:aG}{lo hi:Option aG}{l u:Option Int}{p:eL}(h1:rf G n env ρ v (.list ds))(hl:qU G n env ρ lo l)(hu:qU G n env ρ hi u)(hz:ds.length<=16777216):Ev G n env ρ (.Subscript v (.Slice lo hi ae p) pos) (.list (rk ds l u)):=λA s O a R Ek W S=>
 q5 (ar (h1 A s O a R Ek W S) (λv1 s1 x1=>ar (lH hl hu .none A s1 O a R Ek x1.1.wd (S.kx W x1.1)) (λv2 s2 x2=>by
  refine c8 x2 λy2 z1=>fj z1 λsl pl pu pk z2=>dD z2 λGh hs M3 Ej ek=>?_;subst Gh;subst M3;subst Ej;refine bV ((x1.2.ke x1.1.wd y2.ke).list) λb items JG hb q=>?_;subst JG;have e1:=q.length;rw[aX]at e1;refine mi hb.isList.typeIs Ao.lookup (JY (st:=ae) hb.isList hs (n8 pl) (n8 pu) (ek▸n8 pk) (by simp) ?_ (J e1 (J cC hz)));refine⟨(x1.1.trans y2).trans (Gd.Kx.of y2.wd (bL _)),jI (S.kx W (x1.1.trans y2)).oM ?_⟩;refine J (slicePick_plain ..) ?_;unfold rk;exact rF e1 ((q.drop _).take _)) λ_ _ x=>x) λ_ _ x=>x)
structure GI(G:Gd)(env:nJ)(x:Str)(v:az):Prop where
 kind:env.kindOf x=Z .globalImplicit
 nd:(x==("__debug__":Str))=ag
 val:G.mg x=Z v∨(G.mg x=ae∧G.mb x=Z v)
structure l8(G:Gd):Prop where
 g:G.H.Ns bO G.mg
 b:G.H.Ns dK G.mb
 gt:¬G.Tb bO
 bt:¬G.Tb dK
 st:¬G.Tb cStatics
 nolimit:G.H.NoLimit
 bu:∀x:Str,x≠"__name__"->G.mb x=Ar x
theorem Gd.Wd.ns{h:bq}(W:G.Wd h){a:aL}{m:Str->Option az}(x:G.H.Ns a m)(ht:¬G.Tb a):h.Ns a m:=by
 exact g8 x λo es ep e r=>⟨o,es,ep,W.keep _ _ e ht,r⟩
theorem iO{E:az->aK->Prop}{v:az}(K:l8 G)(Ek:dQ G env)(W:G.Wd s.heap)(g:GI G env x v)(h:Q v s):aJ G.M A (eval (.Name x pos) env) Q E s:=by
 refine Calls.Name_function_global Ek.kind g.kind ?_ g.nd;refine jR g.val (λhv=>?_) λz=>c8 z λhn hv=>?_
 ·exact Calls.loadGlobal_global (Ek.glob▸W.ns K.g K.gt) hv h
 ·exact Calls.loadGlobal_builtin (Ek.glob▸W.ns K.g K.gt) hn (Ek.bui▸W.ns K.b K.bt) hv h
noncomputable def iz(h:bq)(O:aL->Prop):List az->List D->Prop
 |[],[]=>True
 |v::vs,d::ds=>gu h O v d∧iz h O vs ds
 |_,_=>False
theorem iz.ke{h:bq}(W:G.Wd h)(k:G.Ke h h'):∀{ds:List D} {vs:List az},iz h O vs ds->iz h' O vs ds
 |[],[],_=>trivial
 |[],_::_,x=>x.elim
 |_::_,[],x=>x.elim
 |d::ds,v::vs,x=>⟨x.1.ke W k,iz.ke W k x.2⟩
inductive wc (G:Gd) (n:Nat) (env:nJ) (ρ:aE):List aG->List D->Prop
 |nil:wc G n env ρ [] []
 |cons {e:aG} {es:List aG} {d:D} {ds:List D}:rf G n env ρ e d->wc G n env ρ es ds->fD e=ag->wc G n env ρ (e::es) (d::ds)
theorem wc.noStar(h:wc G n env ρ es ds):(gv pos (dq es env)).any (·.1)=ag:=by
 induction h with
 |nil=>rfl|cons _ _ hs ih=>exact J (eO hs) ih
theorem wc.run(h:wc G n env ρ es ds):∀(A:dZ) (s:aK) (O:aL->Prop) (a:Option aL),g9 A n->dQ G env->G.Wd s.heap->SR G env O a ρ s.heap->
 aJ G.M A (rQ (gv pos (dq es env))) (λvs s'=>G.Kx s s'∧iz s'.heap (Ow O a) vs ds) cW s:=by
 induction h with
 |nil=>intro A s O a R Ek W S;exact ay ⟨Gd.Kx.refl W,trivial⟩
 |@cons e es d ds h1 _ hs ih=>
  intro A s O a R Ek W S;refine J (eO hs) ?_
  show aJ G.M A (do
   let v←eval e env
   let EH←(pure [v]:EL (List az))
   return EH++(←jq EH (rQ (gv pos (dq es env))))) _ _ s
  refine ai (ar (h1 A s O a R Ek W S) (λv1 s1 x1=>ai (ay (ai (bg ?_)))) λ_ _ x=>x);exact ar (ih A s1 O a R Ek x1.1.wd (S.kx W x1.1)) (λvs s2 x2=>ay ⟨x1.1.trans x2.1,x1.2.ke x1.1.wd x2.1.ke,x2.2⟩) λ_ _ x=>x
theorem wc.eval{f:az}(h:wc G n env ρ es ds):∀(A:dZ) (s:aK) (O:aL->Prop) (a:Option aL),g9 A n->dQ G env->G.Wd s.heap->SR G env O a ρ s.heap->
 aJ G.M A (evalArgs f af (gv pos (dq es env)) []) (λx s'=>G.Kx s s'∧iz s'.heap (Ow O a) x.pos ds∧x.kw=[]) cW s:=by
 intro A s O a R Ek W S;have r:=h.run (pos:=pos) A s O a R Ek W S
 cases h with
 |nil=>exact evalArgs_nil3 ⟨Gd.Kx.refl W,trivial,rfl⟩
 |cons h1 h2 hs=>
  rw[eO hs]at r⊢;exact GV (ar r (λvs s' x=>⟨x.1,x.2,rfl⟩) λ_ _ x=>x)
inductive pa:az->Prop
 |type (T:String):pa (.type T)
 |builtin (i:String):pa (.builtin i)
theorem pa.keeps{f:az}(h:pa f)(M:Model)(H:bq)(_:True):∃k,(k=CY∨k=zQ∨k=wh)∧Looks M H (RF f) k:=by
 cases h<;>exact⟨.machine,.inr (.inl rfl),Looks.of_pure rfl⟩
def Bq(G:Gd)(n:Nat)(f:az)(first:List az)(ds:List D)(d:D):Prop:=
 ∀(s:aK) (O:aL->Prop) (vs:List az),G.Wd s.heap->Al s.heap O->iz s.heap O vs ds->Op G n O s (call f (first++vs)) d
theorem iz.inv{h:bq}{vs:List az}(x:iz h O vs (d::ds)):∃v r,vs=v::r∧gu h O v d∧iz h O r ds:=by
 induction vs using aA with
 |nil=>exact x.elim|cons v r=>exact⟨v,r,rfl,x⟩
theorem iz.one{h:bq}{vs:List az}(x:iz h O vs [d]):∃v,vs=[v]∧gu h O v d:=by
 refine bV x.inv λv r e a b=>?_
 induction r using aA with
 |nil=>exact⟨v,e,a⟩
 |cons _ _=>exact b.elim
theorem iz.two{h:bq}{vs:List az}(x:iz h O vs [d,d2]):∃v v2,vs=[v,v2]∧gu h O v d∧gu h O v2 d2:=by
 exact bV x.inv λv r e a b=>bh b.one λv2 e2 c=>⟨v,v2,e2▸e,a,c⟩
theorem Bq.afS(hz:ds.length<=16777216):Bq G n (.builtin "len") [] [.list ds] (.int ds.length):=λs O vs W al r A R=>by
 refine bh r.one λv JF r1=>?_;subst JF;refine bV r1.list λl items JE hl q=>?_;subst JE;have e1:=q.length;rw[aX]at e1;refine len_list hl.isList (by refine J e1 ?_;lia) ?_;exact J e1 ⟨Gd.Kx.tok W,dJ⟩
theorem Bq.afR(hz:x.length<=16777216):Bq G n (.builtin "len") [] [.str x] (.int x.length):=λs O vs W al r A R=>by
 refine bh r.one λv JD r1=>?_;subst JD;refine bQ r1.str λt JC=>?_;subst JC;exact PySem.P.len_str (by lia) ⟨Gd.Kx.tok W,dJ⟩
theorem Bq.divmod{a b:Int}(h0:b≠0)(h:bT a b=ag):Bq G n (.builtin "divmod") [] [.int a,.int b] (.tuple [.int (a.fdiv b),.int (a.fmod b)]):=λs O vs W al r A R=>by
 refine bV r.two λv v2 QG r1 r2=>?_;subst QG;refine bQ r1.int λt JB=>?_;subst JB;refine bQ r2.int λu M0=>?_;subst M0;refine divmod_int h0 ⟨Gd.Kx.of W (bL _),qD al ?_⟩ (.inl h);exact bb.cons dJ (bb.cons dJ bb.nil)
theorem Bq.abs{a:Int}:Bq G n (.builtin "abs") [] [.int a] (.int (if a<0 then-a else a)):=λs O vs W al r A R=>by
 refine bh r.one λv Gf r1=>?_;subst Gf;refine bQ r1.int λt MZ=>?_;subst MZ;exact call_abs_int λu tk=>⟨Gd.Kx.tok W,dJ⟩
theorem Bq.max{a b:Int}:Bq G n (.builtin "max") [] [.int a,.int b] (.int (if b>a then b else a)):=λs O vs W al r A R=>by
 refine bV r.two λv v2 QF r1 r2=>?_;subst QF;refine bQ r1.int λt QE=>?_;subst QE;refine bQ r2.int λu MY=>?_;subst MY;refine max_two_ints R.handled λh' tk hk=>⟨Gd.Kx.of W hk,?_⟩
 split<;>exact dJ
theorem Bq.min{a b:Int}:Bq G n (.builtin "min") [] [.int a,.int b] (.int (if b<a then b else a)):=λs O vs W al r A R=>by
 refine bV r.two λv v2 Wo r1 r2=>?_;subst Wo;refine bQ r1.int λt e70=>?_;subst e70;refine bQ r2.int λu e71=>?_;subst e71;refine min_two_ints R.handled λh' tk hk=>⟨Gd.Kx.of W hk,?_⟩
 split<;>exact dJ
theorem Bq.str(hd:d=.list ds)(hs:d.showable=af)(hn:d.hasDict=ag)(VM:d.depth<=60)(hz:d.shown.length<=16777216):Bq G n (.type "str") [] [d] (.str d.shown):=λs O vs W al r A R=>by
 refine bh r.one λv e72 r1=>?_;subst e72;refine bQ r1.reads λas q=>?_;subst hd;refine bV r1.list λl items e73 hl _=>?_;subst e73;exact str_of_reads q hs (λh=>by rw[hn]at h;exact ff h) R.guards (by have:=R.units;simp only[cLine];lia) (λ_ _ e=>e) (λh' u tk hk=>⟨Gd.Kx.of W hk,jy⟩) (J cC hz)
theorem Ev.afj{o:aG}{name:Str}(h1:rf G n env ρ o d1)(h:wc G n env ρ es ds)
 (hm:∀(A:dZ) (s:aK) (O:aL->Prop) (v:az) (pl:EL Bool) (Q:az×List az->aK->Prop),G.Wd s.heap->gu s.heap O v d1->Q (.builtin id,[v]) s->aJ G.M A (tQ v name pl) Q cW s)
 (A6:∀(s:aK) (O:aL->Prop) (v:az) (vs:List az),G.Wd s.heap->Al s.heap O->gu s.heap O v d1->iz s.heap O vs ds->Op G n O s (call (.builtin id) (v::vs)) d)
 (pl:EL Bool) (he:iD (.Call (.Attribute o name ju) es [] pos) env=(do
  let ov←iD o env
  rO ju.atName
  let(f,first)←jq [ov] (tQ ov name pl)
  nk pos f first (gv pos (dq es env)) [])):Ev G n env ρ (.Call (.Attribute o name ju) es [] pos) d:=λA s O a R Ek W S=>by
 refine RM (pl:=pl) (ar (h1 A s O a R Ek W S) (λv1 s1 x1=>hm A s1 _ v1 pl _ x1.1.wd x1.2 ?_) λ_ _ x=>x) he;refine gd (P:=λ_=>True) (J h.noStar rfl) (λH=>(pa.builtin id).keeps _ H) (ar (h.eval A s1 O a R Ek x1.1.wd (S.kx W x1.1)) (λx s2 x2=>⟨trivial,?_⟩) λ_ _ x=>x);exact J x2.2.2 (ar (A6 s2 _ v1 x.pos x2.1.wd (S.kx W (x1.1.trans x2.1)).oM (x1.2.ke x1.1.wd x2.1.ke) x2.2.1 A R) (λv s3 x3=>⟨(x1.1.trans x2.1).trans x3.1,x3.2⟩) λ_ _ x=>x)
def Gd.Kp(G:Gd)(X:aL->Prop)(s s':aK):Prop:=
 ∃h' tk,s'={s with heap:=h',toks:=tk}∧(∀b o,s.heap.get? b=Z o->¬X b->¬G.Tb b->h'.get? b=Z o)∧(∀b,(s.heap.get? b).isSome->(h'.get? b).isSome)∧G.Wd h'
theorem Gd.Wd.Fd{h:bq}(W:G.Wd h){b:aL}(hb:G.Tb b):(h.get? b).isSome:=by
 refine bh hb λq hq jE=>?_;subst jE;refine gM (W.tab q hq) λps _ z _=>J z.2 ?_;rfl
theorem Gd.Kx.kp{X:aL->Prop}(x:G.Kx s s'):G.Kp X s s':=by
 refine bV x λh' tk sE k W=>?_;subst sE;refine⟨h',tk,rfl,λb o e _ t=>k b o e t,λb hb=>?_,W⟩
 by_cases t:G.Tb b
 ·exact W.Fd t
 ·exact bQ (aW.mp hb) λo e=>J (k b o e t) rfl
theorem Gd.Kp.refl{X:aL->Prop}(W:G.Wd s.heap):G.Kp X s s:=(Gd.Kx.refl W).kp
theorem Gd.Kp.wd{X:aL->Prop}(x:G.Kp X s s'):G.Wd s'.heap:=by refine dn x λ_ _ qe _ _ W=>?_;subst qe;exact W
theorem Gd.Kp.ex{X:aL->Prop}(x:G.Kp X s s'):∀b,(s.heap.get? b).isSome->(s'.heap.get? b).isSome:=by refine dn x λ_ _ wQ _ e W=>?_;subst wQ;exact e
theorem Gd.Kp.kp{X:aL->Prop}(x:G.Kp X s s'):∀b o,s.heap.get? b=Z o->¬X b->¬G.Tb b->s'.heap.get? b=Z o:=by refine dn x λ_ _ vJ k e W=>?_;subst vJ;exact k
theorem Gd.Kp.trans{X:aL->Prop}{R2:aK}(x:G.Kp X s s')(y:G.Kp X s' R2):G.Kp X s R2:=by
 refine dn x λh1 t1 y0 k1 e1 w1=>?_;subst y0;refine dn y λh2 t2 Ac k2 e2 w2=>?_;subst Ac;exact⟨h2,t2,rfl,λb o e hx ht=>k2 b o (k1 b o e hx ht) hx ht,λb hb=>e2 b (e1 b hb),w2⟩
theorem bb.kp{X:aL->Prop}{h:bq}(W:G.Wd h)(k:∀b o,h.get? b=Z o->¬X b->¬G.Tb b->h'.get? b=Z o)(hX:∀b o vs n,X b->h.get? b=Z o->o.data=.seq vs n->O b){d:List D}{v:List az}(x:bb h O v d):bb h' O v d:=
 x.mono (λb o e hc hO=>k b o e (λhb=>by refine jY hc λvs n hc=>?_;exact hO (hX b o vs n hb e hc)) λhb=>by refine jY hc λvs n hc=>?_;refine c8 (W.tbNone hb e) λ_ z1=>bQ z1 λvs z=>?_;rw[hc]at z;cases z) (λ_ _ e=>e)
noncomputable def g0(sc:bj)(x:Str):Bool:=(sc.names.lookup x==Z .local||sc.names.lookup x==Z .cell)&&!(x==("__classdict__":Str))&&!(x==("__debug__":Str))
theorem ic(h:g0 sc x=af):(sc.names.lookup x=Z .local∨sc.names.lookup x=Z .cell)∧x≠"__classdict__"∧(x==("__debug__":Str))=ag:=by
 unfold g0 at h;simp only[bG,zR,cN,aC,beq_eq_false_iff_ne]at h;exact⟨h.1.1,h.1.2,by simpa using h.2⟩
def Fr(sc:bj)(env:nJ)(b:aL):Prop:=b=env.locals∨∃y,g0 sc y=af∧env.cells.lookup y=Z b
theorem Fr.lo(Ek:dQ G env){b:aL}(h:Fr sc env b):G.H.objs.size<=b:=by
 rcases h with rfl|⟨y,_,h⟩
 ·exact Ek.lo
 ·exact Ek.co y b h
theorem SR.HR{h:bq}(S:SR G env O a ρ h){b:aL}(hb:Fr sc env b){o:Aw}(e:h.get? b=Z o):(∃es ep,o.data=.dict es ep)∨∃v,o.data=.cell v:=by
 rcases hb with rfl|⟨y,_,hy⟩
 ·refine bh S.ns λm v21 _=>jz v21 λo' es ep e' hd _=>?_;rw[e]at e';exact qT e' (.inl ⟨es,ep,hd⟩)
 ·refine bQ (S.cells y b hy) λv v23=>bh v23 λo' e' hd=>?_;rw[e]at e';exact qT e' (.inr ⟨v,hd⟩)
theorem SR.aal{h:bq}(S:SR G env O a ρ h){b:aL}(hb:Fr sc env b){o:Aw}(e:h.get? b=Z o):NC o:=by
 refine jR (S.HR hb e) (λz=>jY z λes ep z=>?_) λz=>bQ z λv z=>?_
 ·exact .dict z
 ·exact .cell z
theorem SR.iL{h:bq}(S:SR G env O a ρ h){b:aL}(hb:Fr sc env b){o:Aw}(e:h.get? b=Z o){vs:Array az}(hd:o.data=.seq vs k):False:=by
 refine jR (S.HR hb e) (λz=>jY z λes ep z=>?_) λz=>bQ z λv z=>?_<;>rw[hd]at z<;>cases z
theorem SR.frO{h:bq}(S:SR G env O a ρ h){b:aL}(hb:Fr sc env b):¬Ow O a b:=by
 intro hO
 rcases hO with hO|hO
 ·rcases hb with rfl|⟨y,_,hy⟩
  ·exact S.nl hO
  ·exact S.nc y b hy hO
 ·exact c8 (S.ow b hO) λ_ z1=>bQ z1 λvs v25=>bQ v25 λk e=>S.iL hb e rfl
theorem SR.Lw{O₁:aL->Prop}{h:bq}(S:SR G env O a ρ h)(W:G.Wd h)(hO:∀b,O₁ b->O b)(k:∀b o,h.get? b=Z o->¬O b->¬G.Tb b->h'.get? b=Z o)(al:Al h' O₁):SR G env O₁ a ρ h':=by
 have nt:∀b o,h.get? b=Z o->(¬∃vs,o.data=.fields vs)->¬G.Tb b:=λb o e hd hb=>hd (W.tbNone hb e).2;have hO1:∀b,¬Ow O a b->¬Ow O₁ a b:=λb h z=>h (z.elim (λz=>.inl (hO b z)) .inr);have kr:∀{d v},jT h (Ow O a) v d->jT h' (Ow O₁ a) v d:=λr=>r.mono (λb o e hc hO=>k b o e (λz=>hO (.inl z)) (nt b o e λ⟨vs,z⟩=>by refine jY hc λ_ _ y=>?_;rw[z]at y;cases y)) λb _ e=>hO1 b e;have krs:∀{d v},bb h (Ow O a) v d->bb h' (Ow O₁ a) v d:=λr=>r.mono (λb o e hc hO=>k b o e (λz=>hO (.inl z)) (nt b o e λ⟨vs,z⟩=>by refine jY hc λ_ _ y=>?_;rw[z]at y;cases y)) λb _ e=>hO1 b e;have kc:∀x c v,env.cells.lookup x=Z c->h.IsCell c v->h'.IsCell c v:=λx c v hc ⟨o,e,hd⟩=>⟨o,k c o e (S.nc x c hc) (nt c o e λ⟨vs,z⟩=>by rw[z]at hd;cases hd),hd⟩;have kl:∀b vs,a=Z b->h.PlainList b vs->h'.PlainList b vs:=λb vs hb ⟨n,e⟩=>⟨n,k b _ e (S.ow b hb).1 (nt b _ e λ⟨_,z⟩=>by cases z)⟩;refine bh S.ns λm hn f=>?_
 have z8:h'.Ns env.locals m:=by
  exact jz hn λo es ep e hd r=>⟨o,es,ep,k _ _ e S.nl (nt _ _ e λ⟨_,z⟩=>by rw[z]at hd;cases hd),hd,r⟩
 refine⟨⟨m,z8,λp hp=>?_⟩,λx c hc=>?_,al,λb hb=>?_,λz=>S.nl (hO _ z),λx c hc z=>S.nc x c hc (hO _ z)⟩
 ·obtain⟨nd,ok⟩:=f p hp
  have lk:∀v,n0 env h m p.1 v->n0 env h' m p.1 v:=λv l=>by
   rcases l with l|⟨l1,l2,c,l3,l4⟩
   ·exact .inl l
   ·exact .inr ⟨l1,l2,c,l3,kc _ _ _ l3 l4⟩
  refine⟨nd,?_⟩;obtain⟨x,b⟩:=p
  induction b using Internal.jS.casesOn with
  |val d=>refine bh ok λv l r=>?_;exact⟨v,lk v l,kr r⟩
  |own ds=>refine dn ok λl vs l1 l2 l3 l4=>?_;exact⟨l,vs,lk _ l1,l2,kl _ _ l2 l3,krs l4⟩
  |fn K T f' n'=>refine gM ok λv l t F=>?_;exact⟨v,lk v l,F.next t (λb o hb e=>k b o e (λz=>F.nO b hb (.inl z)) (F.nT b hb)) (λb hb=>hO1 b (F.nO b hb)) F.nF⟩
 ·exact bQ (S.cells x c hc) λv r=>⟨v,kc x c v hc r⟩
 ·exact c8 (S.ow b hb) λz z1=>bQ z1 λvs y=>⟨λq=>z (hO b q),vs,kl b vs hb y⟩
theorem SR.mono{h:bq}(S:SR G env O a ρ h)(W:G.Wd h)(k:∀b o,h.get? b=Z o->¬O b->¬G.Tb b->h'.get? b=Z o)(al:Al h' O):SR G env O a ρ h':=S.Lw W (λ_ h=>h) k al
noncomputable def vU(ρ:aE)(x:Str)(b:jS):aE:=(x,b)::ρ.filter λp=>!(p.1==x)
theorem lh{v:az}{Q:Unit->aK->Prop}{E:az->aK->Prop}(Ek:dQ G env)(W:G.Wd s.heap)(S:SR G env O a ρ s.heap)
 (xm:g0 sc x=af) (hx:env.kindOf x=Z .local∨env.kindOf x=Z .cell) (r:jT s.heap (Ow O a) v d)
 (hQ:∀s',G.Kp (Fr sc env) s s'->SR G env O a (vU ρ x (.val d)) s'.heap->Q () s'):aJ G.M A (abG env x v) Q E s:=by
 refine eP (ic xm) λ_ hc nd=>bh S.ns λm hn f=>?_
 have key:∀(b0:aL) (h':bq) (tk:Nat) (m':Str->Option az),Fr sc env b0->(b0=env.locals∨∃y,env.kindOf y=Z .cell∧env.cells.lookup y=Z b0)->d7 b0 s.heap h'->h'.Ns env.locals m'->(∀y,y≠x->m' y=m y)->(∀y c v,y≠x->env.cells.lookup y=Z c->s.heap.IsCell c v->h'.IsCell c v)->
  (∀y c,env.cells.lookup y=Z c->∃v,h'.IsCell c v)->n0 env h' m' x v->Q () {s with heap:=h',toks:=tk}:=by
  intro b0 h' tk m' hb Qd sb z8 hm pP Kd lk;have W':=W.same (hb.lo Ek) sb λo e=>S.aal hb e
  have kb:∀b o,s.heap.get? b=Z o->(∃vs k,o.data=.seq vs k)->h'.get? b=Z o:=λb o e hs=>by
   exact J (sb.2 b λxo=>by subst xo;refine jY hs λvs k hs=>?_;exact S.iL hb e hs) e
  have ex:∀b,(s.heap.get? b).isSome->(h'.get? b).isSome:=λb hbs=>by
   by_cases xo:b=b0
   ·subst xo
    rcases hb with rfl|⟨y,_,hy⟩
    ·exact g8 z8 λo _ _ e _=>J e rfl
    ·exact bQ (Kd y b hy) λ_ v35=>bh v35 λo e _=>J e rfl
   ·exact J (sb.2 b xo) hbs
  refine hQ _ ⟨h',tk,rfl,λb o e hf _=>by exact J (sb.2 b λxo=>hf (xo▸hb)) e,ex,W'⟩ ?_;refine⟨⟨m',z8,λp hp=>?_⟩,Kd,λb hO=>(let⟨o,e,nc⟩:=S.al b hO;⟨o,by exact J (sb.2 b λxo=>S.frO (xo▸hb) (.inl hO)) e,nc⟩),λb D1=>?_,S.nl,S.nc⟩
  ·rcases aM.mp hp with rfl|hp
   ·exact⟨nd,v,lk,r.mono (λb o e hs _=>kb b o e hs) λ_ _ e=>e⟩
   ·refine c8 (cZ.mp hp) λhp n9=>?_;have n9:p.1≠x:=by simpa using n9
    obtain⟨UR,ok⟩:=f p hp
    have lk:∀v,n0 env s.heap m p.1 v->n0 env h' m' p.1 v:=λv l=>by
     rcases l with⟨l,l'⟩|⟨l1,l2,c,l3,l4⟩
     ·exact .inl ⟨l,by exact J (hm _ n9) l'⟩
     ·exact .inr ⟨l1,l2,c,l3,pP _ _ _ n9 l3 l4⟩
    refine⟨UR,?_⟩;obtain⟨y,b⟩:=p
    induction b using Internal.jS.casesOn with
    |val d=>refine bh ok λv l r=>?_;exact⟨v,lk v l,r.mono (λb o e hs _=>kb b o e hs) λ_ _ e=>e⟩
    |own ds=>refine dn ok λl vs l1 l2 v41 l4=>?_;refine bQ v41 λk l3=>?_;exact⟨l,vs,lk _ l1,l2,⟨k,kb _ _ l3 ⟨_,_,rfl⟩⟩,l4.mono (λb o e hs _=>kb b o e hs) λ_ _ e=>e⟩
    |fn K T f' n'=>refine gM ok λv l t F=>?_;exact⟨v,lk v l,F.next t (λb o hK e=>by exact J (sb.2 b λxo=>by subst xo;refine jR Qd (λh=>?_) λz=>bh z λy hy h=>?_<;>first|exact(F.nF b hK).1 h|exact(F.nF b hK).2 y hy h) e) F.nO F.nF⟩
  ·exact c8 (S.ow b D1) λz z1=>bQ z1 λvs v43=>bQ v43 λk y=>⟨z,vs,k,kb _ _ y ⟨_,_,rfl⟩⟩
 have uv:∀y c,env.cells.lookup y=Z c->c≠env.locals:=λy c nQ he=>by
  refine bQ (S.cells y c nQ) λv v45=>bh v45 λo e hd=>jz hn λo' es ep e' CE _=>?_;rw[he,e']at e;cases e;rw[hd]at CE;cases CE
 refine jR hx (λhx=>?_) λhx=>?_
 ·refine OE hx hn (λh' z8 sb=>key env.locals h' _ _ (.inl rfl) (.inl rfl) sb z8 (λy hy=>bF hy) (λy c v hy nQ hv=>hv.sameBut sb (uv y c nQ)) (λy c nQ=>?_) (.inl ⟨hx,bz rfl⟩)) (J Ek.kind rfl);exact bQ (S.cells y c nQ) λv hv=>⟨v,hv.sameBut sb (uv y c nQ)⟩
 ·refine bQ (Ek.cl x (.inl hx)) λc nQ=>bQ (S.cells x c nQ) λv₀ hv₀=>?_
  have ap:∀y c',y≠x->env.cells.lookup y=Z c'->c'≠c:=λy c' hy h1 h2=>by
   subst h2;exact hy (Ek.apart _ _ _ h1 nQ)
  refine Rz Ek.kind hx nQ hv₀ λh' ZV sb=>key c h' _ m (.inr ⟨x,xm,nQ⟩) (.inr ⟨x,hx,nQ⟩) sb (hn.sameBut sb (uv x c nQ).symm) (λ_ _=>rfl) (λy c' v hy h1 hv=>hv.sameBut sb (ap y c' hy h1)) (λy c' h1=>?_) (.inr ⟨.inl hx,hc,c,nQ,ZV⟩)
  by_cases hy:y=x
  ·subst hy;rw[nQ]at h1;exact qS h1 ⟨_,ZV⟩
  ·exact bQ (S.cells y c' h1) λv hv=>⟨v,hv.sameBut sb (ap y c' hy h1)⟩
noncomputable def xZ:List String:=["enumerate","zip","dict_itemiterator","dict_reverseitemiterator","odict_iterator","itertools.zip_longest","itertools.pairwise"]
theorem Mw{E:az->aK->Prop}{ac:aL}{v:az}{o:Aw}{nm:String}{Q:Unit->aK->Prop}(ho:s.heap.get? ac=Z o)(hc:o.cls=.type nm)(hn:xZ.contains nm=ag)(hQ:Q () s):
 aJ G.M A (gQ bR (.ref ac) v) Q E s:=by
 have key:∀a,aJ G.M A (do
  let o←load ac
  match o.cls,o.data with
  |.type n,.fields vs=>
   if xZ.contains n&&vs[0]?==Z (ki a)then
    rule "for.unpacks-the-owned-tuple"
    updateField ac 0 .none
  |_,_=>pure ()) Q E s:=λa=>by
  refine ai (wpAny_load ho ?_);refine J hc ?_;generalize o.data=dt
  induction dt using CO with
  |fields vs=>
   show aJ G.M A (if(xZ.contains nm&&_)=af then _ else _) _ _ _;exact J hn (J (TK ..) (ay hQ))
  |_=>exact ay hQ
 induction bR using bC<;>first|exact ay hQ|skip
 ·induction v using dk<;>first|exact ay hQ|exact key _
 ·induction v using dk<;>first|exact ay hQ|exact key _
def Bp(O:aL->Prop)(Src:bq->Prop):Prop:=∀h h',Src h->(∀b o,h.get? b=Z o->(∃vs n,o.data=.seq vs n)->¬O b->h'.get? b=Z o)->Src h'
structure Wk(G:Gd)(O:aL->Prop)(ac:aL)(fp wr:List aL)(xs:List D)(sW:aG->Bool)(Src:bq->Prop)(St:Nat->bq->Prop):Prop where
 sub:∀b∈wr,b∈fp
 nt:∀b∈fp,¬G.Tb b
 src:Bp O Src
 frame:∀i h h',St i h->(∀b∈fp,∀o,h.get? b=Z o->h'.get? b=Z o)->St i h'
 live:∀i h,St i h->∀b∈wr,∃o,h.get? b=Z o∧NC o
 nx:∀(A:dZ) (i:Nat) (s:aK) (d:D) (Q:Option az->aK->Prop) (E:az->aK->Prop) (bR:aG),A.handled=ae->Al s.heap O->Src s.heap->St i s.heap->xs[i]?=Z d->sW bR=af->
  (∀v h tk,(∀b o,b∉wr->s.heap.get? b=Z o->h.get? b=Z o)->
   (∀(Q':Unit->aK->Prop) (E':az->aK->Prop),(∀h',(∀b o,b∉wr->h.get? b=Z o->h'.get? b=Z o)->St (i+1) h'->jT h' O v d->Q' () {s with heap:=h',toks:=tk})->
    aJ G.M A (gQ bR (.ref ac) v) Q' E' {s with heap:=h,toks:=tk})->Q (Z v) {s with heap:=h,toks:=tk})->
  aJ G.M A (nj (.ref ac)) Q E s
 done:∀(A:dZ) (s:aK) (Q:Option az->aK->Prop) (E:az->aK->Prop),A.handled=ae->St xs.length s.heap->
  (∀h' tk,(∀b o,b∉wr->s.heap.get? b=Z o->h'.get? b=Z o)->Q ae {s with heap:=h',toks:=tk})->aJ G.M A (nj (.ref ac)) Q E s
 self:∀(A:dZ) (i:Nat) (s:aK) (Q:az->aK->Prop) (E:az->aK->Prop),A.handled=ae->St i s.heap->Q (.ref ac) s->aJ G.M A (sP (.ref ac)) Q E s
theorem Wk.pW{ac:aL}{P:Nat->az->Prop}(W:∀A:dZ,A.handled=ae->Walks pw G.w A ac fp wr N P St)(hn:N=xs.length)
 (nt:∀b∈fp,¬G.Tb b) (src:Bp O Src) (PZ:∀b∈wr,O b) (live:∀i h,St i h->∀b∈wr,∃o,h.get? b=Z o∧NC o)
 (hI:∀i h,St i h->∃o nm,h.get? ac=Z o∧o.cls=.type nm∧xZ.contains nm=ag)
 (hP:∀i v h d,P i v->Src h->xs[i]?=Z d->jT h O v d):Wk G O ac fp wr xs (λ_=>af) Src St where
 sub:=(W {depth:=0,handled:=ae,frames:=ae,guards:=ae,units:=0} rfl).sub
 nt:=nt
 src:=src
 frame:=(W {depth:=0,handled:=ae,frames:=ae,guards:=ae,units:=0} rfl).frame
 live:=live
 nx:=λA i s d Q E bR hA al sr st hd _ hQ=>by
  refine(W A hA).item i s Q E (J hn ((cK.mp hd).1)) st λv h tk hp XF hk=>?_;refine hQ v h tk hk λQ' E' hq=>bV (hI _ _ XF) λo nm e1 e2 e3=>Mw e1 e2 e3 (hq h (λ_ _ _ e=>e) XF ?_);exact hP i v h d hp (src _ _ sr λb o e hs hO=>hk b o (λhb=>hO (PZ b hb)) e) hd
 done:=λA s Q E hA st hQ=>(W A hA).done s Q E (hn▸st) hQ
 self:=λA i s Q E hA st hQ=>(W A hA).self i s Q E st hQ
theorem Gd.Wd.md{h:bq}(W:G.Wd h){b:aL}{o:Aw}(e:h.get? b=Z o){vs:Array az}(hd:o.data=.seq vs k):¬G.Tb b:=λhb=>by
 refine c8 (W.tbNone hb e) λ_ z1=>bQ z1 λ_ z=>?_;rw[hd]at z;cases z
theorem Gd.Wd.pY{h:bq}(W:G.Wd h){b:aL}(e:h.get? b=ae):¬G.Tb b:=λhb=>by
 have:=W.Fd hb;rw[e]at this;exact ff this
theorem fR(h:bq)(k:Nat:=0):h.get? (h.objs.size+k)=ae:=cU (bw _ _)
def Ft(G:Gd)(h:bq)(b:aL):Prop:=∃o,h.get? b=Z o∧((∃vs n,o.data=.seq vs n)∨(∃vs,o.data=.fields vs)∨b<G.H.objs.size)
def W7(G:Gd)(s:aK)(O:aL->Prop)(xs:List D)(sW:aG->Bool)(st:Bool)(it:az)(s2:aK):Prop:=
 ∃(ac:aL) (fp wr:List aL) (Src:(aL->Prop)->bq->Prop) (St:Nat->bq->Prop) (hb:bq),it=.ref ac∧(∀b,(hb.get? b).isSome->(s2.heap.get? b).isSome)∧(∀b,(s.heap.get? b).isSome->(hb.get? b).isSome)∧(∀b∈wr,hb.get? b=ae∧G.H.objs.size<=b)∧(∀b∈fp,Ft G s2.heap b)∧(st=af->∀b∈fp,¬O b)∧St 0 s2.heap∧
  ∀O':aL->Prop,(∀b,O b->O' b)->(∀b∈wr,O' b)->(∀b,O' b->O b∨hb.get? b=ae)->Wk G O' ac fp wr xs sW (Src O') St∧Src O' s2.heap
def tz(G:Gd)(n:Nat)(env:nJ)(ρ:aE)(e:aG)(xs:List D)(sW:aG->Bool)(st:Bool):Prop:=
 ∀(A:dZ) (s:aK) (O:aL->Prop) (a:Option aL),g9 A n->dQ G env->G.Wd s.heap->SR G env O a ρ s.heap->
  aJ G.M A (eval e env) (λx s1=>aJ G.M A (sP x) (λit s2=>G.Kx s s2∧W7 G s (Ow O a) xs sW st it s2) cW s1) cW s
theorem Gd.Kx.ex(x:G.Kx s s'):∀b,(s.heap.get? b).isSome->(s'.heap.get? b).isSome:=(x.kp (X:=λ_=>False)).ex
theorem s9(h:bq)(o:Aw):∀b,(h.get? b).isSome->((h.push o).get? b).isSome:=λb hb=>by
 refine bQ (aW.mp hb) λx e=>J (bL o b x e) ?_;rfl
theorem qB{vs:List az}:Bp O (λh=>bb h O vs ds):=λh h' r k=>r.mono k λ_ _ e=>e
theorem bb.wide{h:bq}{vs:List az}(r:bb h O vs ds)(k:∀b o,h.get? b=Z o->h'.get? b=Z o)(hO:∀b,O' b->O b∨h.get? b=ae):bb h' O' vs ds:=
 r.mono (λb o e _ _=>k b o e) λb hb hn ho=>by
  refine jR (hO b ho) (λx=>?_) λx=>?_
  ·exact hn x
  ·rw[x]at hb;exact ff hb
theorem gu.T7{h:bq}{v:az}(x:gu h O v (.tuple xs)):∃a vs,v=.ref a∧¬O a∧IsTup h a vs∧bb h O vs.toList xs:=by
 rcases x with x|⟨a,vs,xs,rfl,e,l,r⟩
 ·exact x
 ·cases e
theorem DP{l:aL}{vs:Array az}{E:az->aK->Prop}(x:G.Kx s s1)(hl:s1.heap.PlainList l vs)(r:bb s1.heap O vs.toList ds)(al:Al s1.heap O){st:Bool}(xm:st=af->¬O l):
 aJ G.M A (sP (.ref l)) (λit s2=>G.Kx s s2∧W7 G s O ds (λ_=>af) st it s2) E s1:=by
 refine Yj hl.isList ?_;have jJ:l≠s1.heap.objs.size:=by refine bQ hl λk e=>?_;exact du (aZ e)
 have el:=r.length;rw[aX]at el
 refine⟨x.trans (Gd.Kx.of x.wd (bL _)),s1.heap.objs.size,[s1.heap.objs.size,l],[s1.heap.objs.size],λO' h=>bb h O' vs.toList ds,λi h=>h.IsListIter s1.heap.objs.size l i∧h.IsList l vs,s1.heap,rfl,s9 _ _,x.ex,
  λb hb=>?_,λb hb=>?_,λhs b hb=>?_,⟨⟨_,bc _ rfl,rfl,rfl⟩,?_⟩,λO' h1 h2 h3=>⟨Wk.pW (λA hA=>Walks.list hA _ l jJ vs) el ?_ qB h2 ?_ ?_ ?_,r.wide (bL _) h3⟩⟩
 ·exact J (aF.mp hb) ⟨fR s1.heap,x.wd.sz⟩
 ·rcases aM.mp hb with rfl|hb
  ·exact⟨_,bc _ rfl,.inr (.inl ⟨_,rfl⟩)⟩
  ·refine J (aF.mp hb) (bQ hl λk e=>?_);exact⟨_,bL _ _ _ e,.inl ⟨_,_,rfl⟩⟩
 ·rcases aM.mp hb with rfl|hb
  ·exact oa al
  ·exact J (aF.mp hb) (xm hs)
 ·exact bQ hl λk e=>⟨_,bL _ _ _ e,rfl,_,rfl⟩
 ·intro b hb
  rcases aM.mp hb with rfl|hb
  ·exact x.wd.pY (fR s1.heap)
  ·refine J (aF.mp hb) (bQ hl λk e=>?_);exact x.wd.md e rfl
 ·rintro i h ⟨⟨o,e,hc,_⟩,_⟩ b hb;exact J (aF.mp hb) ⟨o,e,.cls hc⟩
 ·rintro i h ⟨⟨o,e,hc,_⟩,_⟩;exact⟨o,_,e,hc,by decide⟩
 ·intro i v h d hp hr hd;refine bh (bb.at hr hd) λv' e1 e2=>?_;rw[hp]at e1;exact qT e1 e2
theorem Jg{l:aL}{vs:Array az}{E:az->aK->Prop}(x:G.Kx s s1)(hl:IsTup s1.heap l vs)(r:bb s1.heap O vs.toList ds)(al:Al s1.heap O)(xm:¬O l):
 aJ G.M A (sP (.ref l)) (λit s2=>G.Kx s s2∧W7 G s O ds (λ_=>af) af it s2) E s1:=by
 refine zC hl ?_;have jJ:l≠s1.heap.objs.size:=by refine bh hl λk e _=>?_;exact du (aZ e)
 have el:=r.length;rw[aX]at el
 refine⟨x.trans (Gd.Kx.of x.wd (bL _)),s1.heap.objs.size,[s1.heap.objs.size,l],[s1.heap.objs.size],λO' h=>bb h O' vs.toList ds,λi h=>h.IsTupleIter s1.heap.objs.size l i∧h.IsTuple l vs,s1.heap,rfl,s9 _ _,x.ex,
  λb hb=>?_,λb hb=>?_,λhs b hb=>?_,⟨⟨_,bc _ rfl,rfl,rfl⟩,?_⟩,λO' h1 h2 h3=>⟨Wk.pW (λA hA=>Walks.tuple hA _ l jJ vs) el ?_ qB h2 ?_ ?_ ?_,r.wide (bL _) h3⟩⟩
 ·exact J (aF.mp hb) ⟨fR s1.heap,x.wd.sz⟩
 ·rcases aM.mp hb with rfl|hb
  ·exact⟨_,bc _ rfl,.inr (.inl ⟨_,rfl⟩)⟩
  ·refine J (aF.mp hb) (pq hl λk e _ _ hd=>?_);exact⟨_,bL _ _ _ e,.inl ⟨_,_,hd⟩⟩
 ·rcases aM.mp hb with rfl|hb
  ·exact oa al
  ·exact J (aF.mp hb) xm
 ·exact bh hl λk e c=>⟨_,bL _ _ _ e,c⟩
 ·intro b hb
  rcases aM.mp hb with rfl|hb
  ·exact x.wd.pY (fR s1.heap)
  ·refine J (aF.mp hb) (pq hl λk e _ _ hd=>?_);exact x.wd.md e hd
 ·rintro i h ⟨⟨o,e,hc,_⟩,_⟩ b hb;exact J (aF.mp hb) ⟨o,e,.cls hc⟩
 ·rintro i h ⟨⟨o,e,hc,_⟩,_⟩;exact⟨o,_,e,hc,by decide⟩
 ·intro i v h d hp hr hd;refine bh (bb.at hr hd) λv' e1 e2=>?_;rw[hp]at e1;exact qT e1 e2
theorem tz.list(h:rf G n env ρ e (.list ds)):tz G n env ρ e ds (λ_=>af) ag:=λA s O a R Ek W S=>
 ar (h A s O a R Ek W S) (λv s1 x=>by
  refine bV x.2.list λl vs JF hl r=>?_;subst JF;exact DP x.1 hl r (S.kx W x.1).oM (λh=>by exact ff h)) λ_ _ x=>x
theorem tz.listS(h:Ev G n env ρ e (.list ds)):tz G n env ρ e ds (λ_=>af) af:=λA s O a R Ek W S=>
 ar (h A s O a R Ek W S) (λv s1 x=>by
  have y:=x.2;refine dn y λl vs JE ho hl r=>?_;subst JE;exact DP x.1 hl r (S.kx W x.1).oM (λ_=>ho)) λ_ _ x=>x
theorem tz.tuple(h:rf G n env ρ e (.tuple ds)):tz G n env ρ e ds (λ_=>af) af:=λA s O a R Ek W S=>
 ar (h A s O a R Ek W S) (λv s1 x=>by
  refine dn x.2.T7 λl vs JD ho hl r=>?_;subst JD;exact Jg x.1 hl r (S.kx W x.1).oM ho) λ_ _ x=>x
theorem tz.call{p:eL}{st:Bool}{f:az}(K:l8 G)(g:GI G env x f)(hf:pa f)(h:wc G n env ρ es ds)
 (A6:∀(s s1:aK) (O:aL->Prop) (vs:List az) (A:dZ),g9 A n->G.Kx s s1->Al s1.heap O->iz s1.heap O vs ds->aJ G.M A (dE f vs) (λit s2=>aJ G.M A (sP it) (λit s3=>G.Kx s s3∧W7 G s O xs sW st it s3) cW s2) cW s1):
 tz G n env ρ (.Call (.Name x p) es [] pos) xs sW st:=λA s O a R Ek W S=>by
 show aJ G.M A (do nk pos (←iD (.Name x p) env) [] (gv pos (dq es env)) []) _ _ s;refine ai (iO K Ek W g ?_);refine gd (P:=λ_=>True) (J h.noStar rfl) (λH=>hf.keeps _ H) (ar (h.eval A s O a R Ek W S) (λx s1 x1=>⟨trivial,?_⟩) λ_ _ x=>x);exact J x1.2.2 (A6 s s1 _ x.pos A R x1.1 (S.kx W x1.1).oM x1.2.1)
noncomputable def fh(a b c:Int):List D:=(av (cc a b c).toNat).map λ(i:Nat)=>.int (a+i*c)
theorem wx{r:aL}{a b c:Int}{t u v:Xr}{E:az->aK->Prop}(x:G.Kx s s1)(hr:IsRange s1.heap r a b c t u v)(hs:ei a b c=af)(h0:0<=cc a b c)(al:Al s1.heap O):
 aJ G.M A (sP (.ref r)) (λit s2=>G.Kx s s2∧W7 G s O (fh a b c) (λ_=>af) af it s2) E s1:=by
 refine wpAny_pyIter_range hr hs ?_;have hN:(fh a b c).length=(cc a b c).toNat:=by simp[fh]
 refine⟨x.trans (Gd.Kx.of x.wd (bL _)),s1.heap.objs.size,[s1.heap.objs.size],[s1.heap.objs.size],λO' h=>True,λi h=>IsRangeIter h s1.heap.objs.size (a+(i:Nat)*c) (((cc a b c).toNat:Int)-(i:Nat)) c,s1.heap,rfl,s9 _ _,x.ex,
  λb hb=>?_,λb hb=>?_,λ_ b hb=>?_,?_,λO' h1 h2 h3=>⟨Wk.pW (λA hA=>Walks.range hA _ a c _) hN.symm ?_ (λ_ _ _ _=>trivial) h2 ?_ ?_ ?_,trivial⟩⟩
 ·exact J (aF.mp hb) ⟨fR s1.heap,x.wd.sz⟩
 ·exact J (aF.mp hb) ⟨_,bc _ rfl,.inr (.inl ⟨_,rfl⟩)⟩
 ·exact J (aF.mp hb) (oa al)
 ·have e1:a+((0:Nat):Int)*c=a:=by simp
  have e2:((cc a b c).toNat:Int)-((0:Nat):Int)=cc a b c:=by lia
  show IsRangeIter _ _ _ _ _;exact J e1 (J e2 (bc _ rfl))
 ·intro b hb;exact J (aF.mp hb) (x.wd.pY (fR s1.heap))
 ·intro i h st b hb;exact J (aF.mp hb) ⟨_,st,.cls rfl⟩
 ·intro i h st;exact⟨_,_,st,rfl,by decide⟩
 ·rintro i v h d ⟨t,rfl⟩ _ hd
  unfold fh at hd;rw[bY]at hd;refine mE hd λj hj=>?_;obtain⟨jJ,hj⟩:=cK.mp hj;rw[Kv]at hj;subst hj;exact dJ
theorem tz.UB{p:eL}{b:Int}(K:l8 G)(g:GI G env x (.type "range"))(h:wc G n env ρ es [.int b])(hs:ei 0 b 1=af)(h0:0<=cc 0 b 1):
 tz G n env ρ (.Call (.Name x p) es [] pos) (fh 0 b 1) (λ_=>af) af:=
 .call K g (.type _) h λs s1 O vs A R x1 al r=>by
  refine bh r.one λv QG r1=>?_;subst QG;refine bQ r1.int λt JB=>?_;subst JB;exact call_range_1 (wx (x1.trans (Gd.Kx.of x1.wd (bL _))) (bc _ rfl) hs h0 (Al.kx (Gd.Kx.of x1.wd (bL _)) al))
theorem tz.UA{p:eL}{a b:Int}(K:l8 G)(g:GI G env x (.type "range"))(h:wc G n env ρ es [.int a,.int b])(hs:ei a b 1=af)(h0:0<=cc a b 1):
 tz G n env ρ (.Call (.Name x p) es [] pos) (fh a b 1) (λ_=>af) af:=
 .call K g (.type _) h λs s1 O vs A R x1 al r=>by
  refine bV r.two λv v2 M0 r1 r2=>?_;subst M0;refine bQ r1.int λt Gf=>?_;subst Gf;refine bQ r2.int λu MZ=>?_;subst MZ;exact call_range_2 (wx (x1.trans (Gd.Kx.of x1.wd (bL _))) (bc _ rfl) hs h0 (Al.kx (Gd.Kx.of x1.wd (bL _)) al))
theorem iz.three{h:bq}{vs:List az}{d3:D}(x:iz h O vs [d,d2,d3]):∃v v2 v3,vs=[v,v2,v3]∧gu h O v d∧gu h O v2 d2∧gu h O v3 d3:=by
 exact bV x.inv λv r e a b=>mL b.two λv2 v3 e2 c=>⟨v,v2,v3,e2▸e,a,c⟩
theorem tz.Uz{p:eL}{a b c:Int}(K:l8 G)(g:GI G env x (.type "range"))(h:wc G n env ρ es [.int a,.int b,.int c])(hc:c≠0)(hp:bT (b-a) c=ag)(hs:ei a b c=af)(h0:0<=cc a b c):
 tz G n env ρ (.Call (.Name x p) es [] pos) (fh a b c) (λ_=>af) af:=
 .call K g (.type _) h λs s1 O vs A R x1 al r=>by
  refine g8 r.three λv v2 v3 QF z1=>eP z1 λr1 r2 r3=>?_;subst QF;refine bQ r1.int λt QE=>?_;subst QE;refine bQ r2.int λu MY=>?_;subst MY;refine bQ r3.int λw Wo=>?_;subst Wo;exact call_range_3 hc (wx (x1.trans (Gd.Kx.of x1.wd (bL _))) (bc _ rfl) hs h0 (Al.kx (Gd.Kx.of x1.wd (bL _)) al)) (Or.inl hp)
def lM(e:aG):Bool:=xv e (λ_ _ _ _=>ag) (λ_ _=>ag) (λ_ _ _=>ag) (λ_ _ _=>ag) (λ_ _ _=>af) (λ_ _ _ _=>ag) (λ_ _ _ _=>ag) (λ_ _ _ _=>ag) (λ_ _=>ag) ag
theorem Wk.AR{ac:aL}{Pt:Nat->Array az->Prop}{Mid:Nat->aL->bq->Prop}(W:∀A:dZ,A.handled=ae->WalksT pw G.w A ac fp wr N Pt St Mid)(hn:N=xs.length)
 (nt:∀b∈fp,¬G.Tb b) (src:Bp O Src) (PZ:∀b∈wr,O b) (live:∀i h,St i h->∀b∈wr,∃o,h.get? b=Z o∧NC o)
 (hP:∀i EF h d,Pt i EF->Src h->xs[i]?=Z d->∃ds,d=.tuple ds∧bb h O EF.toList ds):Wk G O ac fp wr xs lM Src St where
 sub:=(W {depth:=0,handled:=ae,frames:=ae,guards:=ae,units:=0} rfl).sub
 nt:=nt
 src:=src
 frame:=(W {depth:=0,handled:=ae,frames:=ae,guards:=ae,units:=0} rfl).frame
 live:=live
 nx:=λA i s d Q E bR hA al sr st hd ht hQ=>by
  have WA:=W A hA;refine WA.item i s Q E (J hn ((cK.mp hd).1)) st λT EF h tk hp hT agc Jp hk=>?_;refine hQ (.ref T) h tk hk λQ' E' hq=>?_
  induction bR using bC<;>first|(exfalso;exact dP ht)|skip
  refine WA.go _ _ _ i T _ Q' E' Jp λh' XF A7=>hq h' A7 XF ?_;have s1:=src _ _ sr λb o e hs hO=>hk b o (λhb=>hO (PZ b hb)) e;have s2:=src _ _ s1 λb o e hs hO=>A7 b o (λhb=>hO (PZ b hb)) e;refine bh (hP i EF h' d hp s2 hd) λds jE r=>?_;subst jE;refine pq agc λo e hc k hdd=>?_
  exact⟨T,EF,rfl,λhO=>by
   exact bh (al T hO) λx ex _=>absurd (aZ ex) (dH.mpr hT),⟨o,A7 T o (WA.apart i T _ Jp) e,hc,k,hdd⟩,r⟩
 done:=λA s Q E hA st hQ=>(W A hA).done s Q E (hn▸st) hQ
 self:=λA i s Q E hA st hQ=>(W A hA).self i s Q E st hQ
theorem tz.rev{p:eL}(K:l8 G)(g:GI G env x (.type "reversed"))(h:wc G n env ρ es [.list ds]):
 tz G n env ρ (.Call (.Name x p) es [] pos) ds.reverse (λ_=>af) ag:=
 .call K g (.type _) h λs s1 O vs A R x1 al r=>by
  obtain⟨v,rfl,r1⟩:=r.one;obtain⟨l,items,rfl,hl,r⟩:=r1.list;refine Xo hl.isList ?_;have jJ:l≠s1.heap.objs.size:=by obtain⟨k,e⟩:=hl;exact du (aZ e)
  have el:=r.length;rw[aX]at el;have hI:(s1.heap.push (revObj l ((items.size:Int)-1))).IsRevIter s1.heap.objs.size l ((items.size:Int)-1):=⟨_,bc _ rfl,rfl,rfl⟩;refine RA hI ?_
  refine⟨x1.trans (Gd.Kx.of x1.wd (bL _)),s1.heap.objs.size,[s1.heap.objs.size,l],[s1.heap.objs.size],λO' h=>bb h O' items.toList ds,λi h=>i<=items.size∧h.IsRevIter s1.heap.objs.size l ((items.size:Int)-1-(i:Int))∧h.IsList l items,s1.heap,rfl,s9 _ _,x1.ex,
   λb hb=>?_,λb hb=>?_,(λh=>by exact ff h),⟨dW _,?_,?_⟩,λO' h1 h2 h3=>⟨Wk.pW (λA hA=>Ts hA _ l jJ items) (by simpa using el) ?_ qB h2 ?_ ?_ ?_,r.wide (bL _) h3⟩⟩
  ·exact J (aF.mp hb) ⟨fR s1.heap,x1.wd.sz⟩
  ·rcases aM.mp hb with rfl|hb
   ·exact⟨_,bc _ rfl,.inr (.inl ⟨_,rfl⟩)⟩
   ·refine J (aF.mp hb) ?_;obtain⟨k,e⟩:=hl;exact⟨_,bL _ _ _ e,.inl ⟨_,_,rfl⟩⟩
  ·exact J (show(items.size:Int)-1-((0:Nat):Int)=(items.size:Int)-1 by lia) hI
  ·obtain⟨k,e⟩:=hl;exact⟨_,bL _ _ _ e,rfl,_,rfl⟩
  ·intro b hb
   rcases aM.mp hb with rfl|hb
   ·exact x1.wd.pY (fR s1.heap)
   ·refine J (aF.mp hb) ?_;obtain⟨k,e⟩:=hl;exact x1.wd.md e rfl
  ·rintro i h ⟨_,⟨o,e,hc,_⟩,_⟩ b hb;exact J (aF.mp hb) ⟨o,e,.cls hc⟩
  ·rintro i h ⟨_,⟨o,e,hc,_⟩,_⟩;exact⟨o,_,e,hc,by decide⟩
  ·intro i v h d hp hr hd;have hi:i<ds.length:=by have:=(cK.mp hd).1;simpa using this
   rw[mU hi]at hd;obtain⟨v',e1,e2⟩:=bb.at hr hd;rw[el]at hp;rw[hp]at e1;exact qT e1 e2
theorem vq{E:az->aK->Prop}{it l:aL}{x:az}(GN:s.heap.IsTupleIter it l i)
 (hl:s.heap.IsTuple l items) (hx:items[i]?=Z x)
 (hQ:∀h',h'.IsTupleIter it l (i+1)->d7 it s.heap h'->Q x {s with heap:=h'}):
 aJ G.M A (cP (.ref it)) Q E s:=by
 refine gM (id GN) λo ho hc hd=>pq hl λol VF _ nl XX=>ai (gH (name:=aQ "__next__") GN.typeIs F.slot_tuple_iterator_next
  (lB F.slot_tuple_iterator_next GN.typeIs F.entry_tuple_iterator_next ?_ (F.args_tuple_iterator_next_1 _)))
 show aJ _ _ (CM (.ref it) 0>>=_) _ _ s;refine ai (fC ho hd (x:=.ref l) rfl ?_);show aJ _ _ (if(oN l==j0)=af then _ else _) _ _ s;refine J (bF (show ¬((oN l==j0)=af)from dP)) ?_;show aJ _ _ (CM (.ref it) 1>>=_) _ _ s;refine ai (fC ho hd (x:=.int i 0) rfl ?_);show aJ _ _ (seqItems? (.ref l)>>=_) _ _ s;refine ai (qX VF XX ?_);simp only[bH,hx];refine ai (wpAny_setField ho hd (by simp) (ay ⟨x,rfl,ay (hQ _ ?_ (gg ..))⟩))
 exact⟨_,jH _ ho (Obj.isFreed_of_fields (N6 hd _)),(Obj.cls_mapFields ..).trans hc,by
  refine J (N6 hd ..) ?_;simp[ki]⟩
theorem wu{E:az->aK->Prop}{it l:aL}(hh:A.handled=ae)
 (GN:s.heap.IsTupleIter it l i) (hl:s.heap.IsTuple l items) (hx:items[i]?=ae)
 (hE:∀h' e,IB it s.heap h'->(∃o,h'.get? e=Z o∧o.cls=.type "StopIteration")->E (.ref e) {s with heap:=h'}):
 aJ G.M A (cP (.ref it)) Q E s:=by
 refine gM (id GN) λo ho hc hd=>pq hl λol VF _ nl XX=>ai (gH (name:=aQ "__next__") GN.typeIs F.slot_tuple_iterator_next
  (lB F.slot_tuple_iterator_next GN.typeIs F.entry_tuple_iterator_next ?_ (F.args_tuple_iterator_next_1 _)))
 show aJ _ _ (CM (.ref it) 0>>=_) _ _ s;refine ai (fC ho hd (x:=.ref l) rfl ?_);show aJ _ _ (if(oN l==j0)=af then _ else _) _ _ s;refine J (bF (show ¬((oN l==j0)=af)from dP)) ?_;show aJ _ _ (CM (.ref it) 1>>=_) _ _ s;refine ai (fC ho hd (x:=.int i 0) rfl ?_);show aJ _ _ (seqItems? (.ref l)>>=_) _ _ s;refine ai (qX VF XX ?_);simp only[bH,hx];refine ai (zB (ai (wpAny_setField ho hd (by simp) ?_)));show aJ _ _ (newExc (.type "StopIteration") []>>=_) _ _ _;refine ai ?_;simp only[newExc,newTuple];refine ai (dN ?_ (by size_fits));refine ai (m:=firstArgMember _ _) (CH (a:=j0) (by first|rfl|(simp only[firstArgMember];rfl)) ?_);refine dN ?_ (by size_fits);show aJ _ _ (handled>>=_) _ _ _;refine ai (wpAny_handled ?_)
 first|rw[show A.in1.handled=ae from hh]|rw[hh]
 refine ai (ay (wpAny_throw ?_));exact hE _ _ (((gg ..).extBut.push _).push _) ⟨_,bc _ rfl,rfl⟩
theorem Em(hh:A.handled=ae)(it l:aL)(n9:l≠it)(items:Array az):
 Draws pw G.w A it [it,l] items.size (λi v=>items[i]?=Z v) (λi h=>h.IsTupleIter it l i∧h.IsTuple l items)where
 live:=λ_ _ st=>let⟨o,ho,_⟩:=st.1;⟨o,ho⟩
 frame:=λ_ _ _ st hk=>⟨st.1.at λo e=>hk it (by simp) o e,st.2.at λo e=>hk l (by simp) o e⟩
 item:=λi s Q E hi st hQ=>by
  exact vq st.1 st.2 (x:=items[i]) (by simp[hi]) λh' agA hs'=>hQ _ h' s.toks (by simp[hi]) ⟨agA,st.2.extBut hs'.extBut n9⟩ hs'
 done:=λs Q E st hE=>wu hh st.1 st.2 (by simp) hE
theorem By{M:Model}{c:Prop}[Decidable c]{X Y:EL α}{Q:α->aK->Prop}{E:az->aK->Prop}(h1:aJ M A X Q E s)(h2:aJ M A Y Q E s):aJ M A (if c then X else Y) Q E s:=by
 by_cases h:c
 ·exact bz h▸h1
 ·exact bF h▸h2
set_option tactic.hygienic true in
theorem sd(l:aL)(items:Array az)(n:Nat)(dct:Option aL)(sl:Array (Option az)):
 Meets (Builtin.«enumerate.__new__» ⟨[.type "enumerate",.ref l],[]⟩) (λ_ R s=>s.heap.get? l=Z {cls:=.type "tuple",dict:=dct,data:=.seq items n,slots:=sl}∧
  R (.ok (.ret (.ref (s.heap.push {cls:=.type "tuple_iterator",data:=.fields #[.ref l,.int 0 0]}).objs.size)))
   {s with heap:=(s.heap.push {cls:=.type "tuple_iterator",data:=.fields #[.ref l,.int 0 0]}).push {cls:=.type "enumerate",data:=.fields #[.none,.bool ag,.ref s.heap.objs.size,ki 0,.none,.none]}}):=
 .of_wp λprog w A R s h=>by
  obtain⟨hp,g,d,tk,os⟩:=s;refine c8 h λhl h=>?_;have Vz:=sub_enumerate;have hL:Heap.IsTuple (Shared.heap ⟨hp,g,d,tk,os⟩) l items:=⟨_,hl,rfl,n,rfl⟩
  wp_walk using ph hl
  refine wpAny_stack_any λst=>ay ?_;refine By ?_ ?_
  ·wp_walk using ph hl,zC hL
   exact⟨_,rfl,h⟩
  ·wp_walk using ph hl,zC hL
   exact⟨_,rfl,h⟩
theorem sJ{E:az->aK->Prop}{l:aL}(hL:s.heap.IsTuple l items)
 (h:∀h',IsEnum h' (s.heap.objs.size+1) s.heap.objs.size 0 .none->h'.IsTupleIter s.heap.objs.size l 0->h'.objs.size=s.heap.objs.size+2->
  (∀b o,s.heap.get? b=Z o->h'.get? b=Z o)->Q (.ref (s.heap.objs.size+1)) {s with heap:=h'}):
 aJ G.M A (dE (.type "enumerate") [.ref l]) Q E s:=by
 refine pq hL λv5 hl hc n hd=>?_;obtain⟨c,dct,dt,sl⟩:=v5;replace hc:c=.type "tuple":=hc;replace hd:dt=.seq items n:=hd;subst hc hd
 refine callType_new F.called_enumerate (by decide) (F.typeCall_enumerate_1 _) (F.newCall_enumerate_1 _) (λXd=>F.args_object_init_2 Xd _) F.entry_enumerate_new
  (sd l items n dct sl) ⟨hl,?_⟩
 have hz:(s.heap.push {cls:=.type "tuple_iterator",data:=.fields #[.ref l,.int 0 0]}).objs.size=s.heap.objs.size+1:=pf ..;show _∧_;refine J hz ?_
 have he:IsEnum ((s.heap.push {cls:=.type "tuple_iterator",data:=.fields #[.ref l,.int 0 0]}).push
  {cls:=.type "enumerate",data:=.fields #[.none,.bool ag,.ref s.heap.objs.size,ki 0,.none,.none]}) (s.heap.objs.size+1) s.heap.objs.size 0 .none:=by
  have:=bc (s.heap.push {cls:=.type "tuple_iterator",data:=.fields #[.ref l,.int 0 0]})
   (o:={cls:=.type "enumerate",data:=.fields #[.none,.bool ag,.ref s.heap.objs.size,ki 0,.none,.none]}) rfl
  rw[hz]at this;exact this
 refine⟨⟨_,he,rfl⟩,h _ he ⟨_,eG _ (bc _ rfl),rfl,rfl⟩ (J (pf ..) (J hz rfl)) λb o x=>eG _ (eG _ x)⟩
noncomputable def qd(ds:List D):List D:=ds.zipIdx.map λp=>.tuple [.int (p.2:Nat),p.1]
theorem DQ{l:aL}{vs:Array az}{E:az->aK->Prop}(x:G.Kx s s1)(r:bb s1.heap O vs.toList ds)(hl:∃o k,s1.heap.get? l=Z o∧o.data=.seq vs k)
 (Kc:∀i h,St i h->∃o vs,h.get? s1.heap.objs.size=Z o∧o.data=.fields vs∧NC o)
 (D:∀A:dZ,A.handled=ae->Draws pw G.w A s1.heap.objs.size [s1.heap.objs.size,l] vs.size (λi v=>vs[i]?=Z v) St) (st:St 0 h') (he:IsEnum h' (s1.heap.objs.size+1) s1.heap.objs.size 0 .none) (hz:h'.objs.size=s1.heap.objs.size+2) (k:∀b o,s1.heap.get? b=Z o->h'.get? b=Z o):
 aJ G.M A (sP (.ref (s1.heap.objs.size+1))) (λit s2=>G.Kx s s2∧W7 G s O (qd ds) lM ag it s2) E {s1 with heap:=h'}:=by
 refine mL hl λol kl VF XX=>?_;have jJ:l<s1.heap.objs.size:=aZ VF;refine wpAny_pyIter_enum he ?_;have el:=r.length;rw[aX]at el;have x2:G.Kx s {s1 with heap:=h'}:=x.trans (Gd.Kx.of (tk:=s1.toks) x.wd k)
 have hef:s1.heap.objs.size+1∉[s1.heap.objs.size,l]:=by
  intro hb;refine jR (aM.mp hb) (λe=>?_) λhb=>?_
  ·exact RJ _ e
  ·rw[aF]at hb;exact absurd jJ (rF hb (dH.mpr (km _)))
 have lv:∀i h,St i h->∃o,h.get? s1.heap.objs.size=Z o:=(D {depth:=0,handled:=ae,frames:=ae,guards:=ae,units:=0} rfl).live
 refine⟨x2,s1.heap.objs.size+1,(s1.heap.objs.size+1)::[s1.heap.objs.size,l],[s1.heap.objs.size+1,s1.heap.objs.size],λO' h=>bb h O' vs.toList ds,λi h=>(∃old,IsEnum h (s1.heap.objs.size+1) s1.heap.objs.size i old)∧St i h,s1.heap,rfl,λb hb=>?_,x.ex,
  λb hb=>?_,λb hb=>?_,(λh=>by exact ff h),⟨⟨_,he⟩,st⟩,λO' h1 h2 h3=>⟨Wk.AR (N:=vs.size) (λA hA=>WalksT.enumerateD (D A.in1 hA) _ (RJ _) hef (by simp)) (by simp[qd,el]) ?_ qB h2 ?_ ?_,r.wide k h3⟩⟩
 ·refine bQ (aW.mp hb) λo e=>?_;show(h'.get? b).isSome;exact J (k b o e) rfl
 ·rcases aM.mp hb with rfl|hb
  ·exact⟨fR s1.heap 1,aj x.wd.sz (bw _ _)⟩
  ·exact J (aF.mp hb) ⟨fR s1.heap,x.wd.sz⟩
 ·rcases aM.mp hb with rfl|hb
  ·exact⟨_,he,.inr (.inl ⟨_,rfl⟩)⟩
  ·rcases aM.mp hb with rfl|hb
   ·exact bV (Kc 0 h' st) λo ma e CE _=>⟨_,e,.inr (.inl ⟨_,CE⟩)⟩
   ·exact J (aF.mp hb) ⟨_,k _ _ VF,.inl ⟨_,_,XX⟩⟩
 ·intro b hb
  rcases aM.mp hb with rfl|hb
  ·exact x.wd.pY (fR s1.heap 1)
  ·rcases aM.mp hb with rfl|hb
   ·exact x.wd.pY (fR s1.heap)
   ·exact J (aF.mp hb) (x.wd.md VF XX)
 ·rintro i h ⟨⟨old,e⟩,XF⟩ b hb
  rcases aM.mp hb with rfl|hb
  ·exact⟨_,e,.cls rfl⟩
  ·refine J (aF.mp hb) (bV (Kc i h XF) λo _ e _ c=>?_);exact⟨o,e,c⟩
 ·rintro i EF h d ⟨t,y,hy,rfl⟩ hr hd
  unfold qd at hd;rw[bY]at hd;refine mE hd λp hp=>?_;rw[IA]at hp;refine mE hp λd' CE=>bh (bb.at hr CE) λv' e1 e2=>?_;rw[hy]at e1;refine qT e1 ?_;refine⟨_,rfl,bb.cons ?_ (bb.cons e2 bb.nil)⟩;simp only[dF];exact dJ
theorem tz.qd{p:eL}(K:l8 G)(g:GI G env x (.type "enumerate"))(h:wc G n env ρ es [.list ds]):
 tz G n env ρ (.Call (.Name x p) es [] pos) (Internal.qd ds) lM ag:=
 .call K g (.type _) h λs s1 O vs A R x1 al r=>by
  refine bh r.one λv MY r1=>?_;subst MY;obtain⟨l,items,rfl,hl,r⟩:=r1.list;have n9:l≠s1.heap.objs.size:=by obtain⟨k,e⟩:=hl;exact du (aZ e)
  refine call_enumerate_list hl.isList λh' he GN hz k=>DQ x1 r ?_ (λi h st=>let⟨o,e,c,d⟩:=st.1;⟨o,_,e,d,.cls c⟩) (λA hA=>Draws.list hA _ l n9 items) ?_ he hz k
  ·exact bQ hl λk e=>⟨_,_,e,rfl⟩
  ·exact bQ hl λk' e=>⟨GN,_,k _ _ e,rfl,_,rfl⟩
theorem tz.aax{p:eL}(K:l8 G)(g:GI G env x (.type "enumerate"))(h:wc G n env ρ es [.tuple ds]):
 tz G n env ρ (.Call (.Name x p) es [] pos) (Internal.qd ds) lM ag:=
 .call K g (.type _) h λs s1 O vs A R x1 al r=>by
  refine bh r.one λv e76 r1=>?_;subst e76;obtain⟨l,items,rfl,hl,r⟩:=r1.tuple;have n9:l≠s1.heap.objs.size:=by obtain⟨k,e,_⟩:=hl;exact du (aZ e)
  refine sJ hl λh' he GN hz k=>DQ x1 r ?_ (λi h st=>let⟨o,e,c,d⟩:=st.1;⟨o,_,e,d,.cls c⟩) (λA hA=>Em hA _ l n9 items) ?_ he hz k
  ·exact pq hl λo e _ m hd=>⟨o,m,e,hd⟩
  ·exact bh hl λo e c=>⟨GN,o,k _ _ e,c⟩
noncomputable def oj(xs ys:List D):List D:=(xs.zip ys).map λp=>.tuple [p.1,p.2]
theorem AV{a b:Nat}(h:a<b∨b<a):a≠b:=by lia
theorem C6(S l l2:Nat)(g1:l<S)(g2:l2<S):q0 (S+4) (S+2) (S+3) S (S+1) l l2:=by constructor<;>exact AV (by lia)
theorem tz.zip{p:eL}{es':List D}(K:l8 G)(g:GI G env x (.type "zip"))(h:wc G n env ρ es [.list ds,.list es']):
 tz G n env ρ (.Call (.Name x p) es [] pos) (oj ds es') lM ag:=
 .call K g (.type _) h λs s1 O vs A R x1 al rr=>by
  refine bV rr.two λv v2 e84 r1 r2=>?_;subst e84;clear rr;refine bV r1.list λl items e85 hl r=>?_;subst e85;refine bV r2.list λl2 wy e86 o6 r'=>?_;subst e86;refine call_zip_2 hl.isList o6.isList λh' hz Aa HO h1 h2 hsz k=>?_;have g1:l<s1.heap.objs.size:=by refine bQ hl λk e=>?_;exact aZ e
  have g2:l2<s1.heap.objs.size:=by refine bQ o6 λk e=>?_;exact aZ e
  have el:=r.length;rw[aX]at el;have QD:=r'.length;rw[aX]at QD;refine abE hz ?_;generalize hS:s1.heap.objs.size=S at*;have x2:G.Kx s {s1 with heap:=h'}:=x1.trans (Gd.Kx.of (tk:=s1.toks) x1.wd k);have fr:∀j,s1.heap.get? (S+j)=ae:=λj=>hS▸fR s1.heap j;have ap:q0 (S+4) (S+2) (S+3) S (S+1) l l2:=C6 _ _ _ g1 g2;have L1:h'.IsList l items:=by refine bQ hl λm e=>?_;exact⟨_,k _ _ e,rfl,_,rfl⟩
  have L2:h'.IsList l2 wy:=by refine bQ o6 λm e=>?_;exact⟨_,k _ _ e,rfl,_,rfl⟩
  refine⟨x2,S+4,[S+4,S+2,S+3,S,S+1,l,l2],[S+4,S+3,S,S+1],λO' h=>bb h O' items.toList ds∧bb h O' wy.toList es',
   λi h=>IsZip h (S+4) (S+2) (S+3) .none∧zF h (S+2) (.ref S) (.ref (S+1))∧(∃a b,zF h (S+3) a b)∧h.IsListIter S l i∧h.IsListIter (S+1) l2 i∧h.IsList l items∧h.IsList l2 wy,
   s1.heap,rfl,λb hb=>?_,x1.ex,λb hb=>?_,λb hb=>?_,(λh=>by exact ff h),⟨hz,Aa,⟨_,_,HO⟩,h1,h2,L1,L2⟩,λO' q1 q2 q3=>⟨Wk.AR (λA hA=>WalksT.zip2 hA _ _ _ _ _ _ _ ap items wy) (by simp[oj,el,QD]) ?_ ?_ q2 ?_ ?_,r.wide k q3,r'.wide k q3⟩⟩
  ·refine bQ (aW.mp hb) λo e=>?_;show(h'.get? b).isSome;exact J (k b o e) rfl
  ·simp at hb
   rcases hb with rfl|rfl|rfl|rfl
   ·exact⟨fr 4,aj (hS▸x1.wd.sz) (bw _ _)⟩
   ·exact⟨fr 3,aj (hS▸x1.wd.sz) (bw _ _)⟩
   ·exact⟨fr 0,hS▸x1.wd.sz⟩
   ·exact⟨fr 1,aj (hS▸x1.wd.sz) (bw _ _)⟩
  ·simp at hb
   rcases hb with rfl|rfl|rfl|rfl|rfl|rfl|rfl
   ·exact⟨_,hz,.inr (.inl ⟨_,rfl⟩)⟩
   ·exact⟨_,Aa,.inl ⟨_,_,rfl⟩⟩
   ·exact⟨_,HO,.inl ⟨_,_,rfl⟩⟩
   ·exact gM h1 λo e _ d=>⟨_,e,.inr (.inl ⟨_,d⟩)⟩
   ·exact gM h2 λo e _ d=>⟨_,e,.inr (.inl ⟨_,d⟩)⟩
   ·exact pq L1 λo e _ m d=>⟨_,e,.inl ⟨_,_,d⟩⟩
   ·exact pq L2 λo e _ m d=>⟨_,e,.inl ⟨_,_,d⟩⟩
  ·intro b hb;simp at hb
   rcases hb with rfl|rfl|rfl|rfl|rfl|rfl|rfl
   ·exact x1.wd.pY (fr 4)
   ·exact x1.wd.pY (fr 2)
   ·exact x1.wd.pY (fr 3)
   ·exact x1.wd.pY (fr 0)
   ·exact x1.wd.pY (fr 1)
   ·exact bQ hl λm e=>x1.wd.md e rfl
   ·exact bQ o6 λm e=>x1.wd.md e rfl
  ·intro h h' q k;exact⟨qB _ _ q.1 k,qB _ _ q.2 k⟩
  ·rintro i h ⟨hz,Aa,⟨a,b',HO⟩,h1,h2,L1,L2⟩ b hb
   simp at hb
   rcases hb with rfl|rfl|rfl|rfl
   ·exact⟨_,hz,.cls rfl⟩
   ·exact⟨_,HO,.seq rfl⟩
   ·exact gM h1 λo e c _=>⟨_,e,.cls c⟩
   ·exact gM h2 λo e c _=>⟨_,e,.cls c⟩
  ·rintro i EF h d ⟨y,z,hy,hz,rfl⟩ ⟨hr,VA⟩ hd
   unfold oj at hd;rw[bY]at hd;refine bh (dM.mp hd) λv72 hp ahI=>?_;obtain⟨p,q⟩:=v72;subst ahI;rw[Cz]at hp;refine bh (bb.at hr hp.1) λv' e1 e2=>bh (bb.at VA hp.2) λv'' e3 e4=>?_;rw[hy]at e1;refine qT e1 ?_;rw[hz]at e3;cases e3;exact⟨_,rfl,bb.cons e2 (bb.cons e4 bb.nil)⟩
theorem SR.sub{h:bq}(S:SR G env O a ρ h)(hs:∀p∈ρ',p∈ρ):SR G env O a ρ' h where
 ns:=let⟨m,x,y⟩:=S.ns;⟨m,x,λp hp=>y p (hs p hp)⟩
 cells:=S.cells
 al:=S.al
 ow:=S.ow
 nl:=S.nl
 nc:=S.nc
noncomputable def nE(f:aG->D->aE->Option aE):List aG->List D->aE->Option aE
 |[],[],ρ=>Z ρ
 |e::es,d::ds,ρ=>(f e d ρ).bind (nE f es ds)
 |_,_,_=>ae
noncomputable def nV(sc:bj):Nat->aG->D->aE->Option aE
 |k+1,.Name x _,d,ρ=>bif g0 sc x then Z (vU ρ x (.val d))else ae
 |k+1,.Tuple es _ _,.tuple ds,ρ=>nE (nV sc k) es ds ρ
 |_,_,_,_=>ae
noncomputable def KO(f:aG->List Str):List aG->List Str
 |[]=>[]
 |e::es=>f e++KO f es
noncomputable def tn:Nat->aG->List Str
 |k+1,.Name x _=>[x]
 |k+1,.Tuple es _ _=>KO (tn k) es
 |_,_=>[]
theorem PD{p:Str×jS}{b:jS}(hp:p∈ρ)(hn:p.1≠x):p∈vU ρ x b:=
 ba _ (cZ.mpr ⟨hp,by simpa using hn⟩)
set_option tactic.hygienic true in
theorem Nv:∀(k:Nat) (e:aG) (d:D) (ρ ρ':aE),nV sc k e d ρ=Z ρ'->∀p∈ρ,p.1∉tn k e->p∈ρ':=by
 intro k
 induction k with
 |zero=>intro e d ρ ρ' h;exact bK h
 |succ k ih=>
  intro e d ρ ρ' h p hp hn
  induction e using bC<;>try (exact bK h;done)
  ·rename_i x pos;have h:(bif g0 sc x then Z (vU ρ x (.val d))else ae)=Z ρ':=h
   cases hs:g0 sc x<;>rw[hs]at h
   ·exact bK h
   ·exact qS h (PD hp λe=>hn (aF.mpr e))
  ·rename_i es k2 pos
   induction d using ao<;>try (exact bK h;done)
   rename_i ds
   have key:∀(es:List aG) (ds:List D) (ρ ρ':aE),nE (nV sc k) es ds ρ=Z ρ'->∀p∈ρ,p.1∉KO (tn k) es->p∈ρ':=by
    intro es
    induction es with
    |nil=>intro ds ρ ρ' h p hp hn;induction ds using aA with
     |nil=>refine qS h ?_;exact hp
     |cons _ _=>exact bK h
    |cons e es PW=>intro ds ρ ρ' h p hp hn;induction ds using aA with
     |nil=>exact bK h
     |cons d ds=>
      refine bE h λρ1 h1 h2=>?_
      have z8:p.1∉tn k e∧p.1∉KO (tn k) es:=by
       rw[KO,ez]at hn;exact⟨λz=>hn (.inl z),λz=>hn (.inr z)⟩
      exact PW ds ρ1 ρ' h2 p (ih e d ρ ρ1 h1 p hp z8.1) z8.2
   exact key es ds ρ ρ' h p hp hn
theorem od{h:bq}(S:SR G env O a ρ h):∀b o vs k,Fr sc env b->h.get? b=Z o->o.data=.seq vs k->Ow O a b:=λb o vs k hb e hd=>(S.iL hb e hd).elim
set_option tactic.hygienic true in
theorem kZ(jm:∀x,g0 sc x=af->env.kindOf x=Z .local∨env.kindOf x=Z .cell):∀(k:Nat) (e:aG) (d:D) (ρ ρ':aE),nV sc k e d ρ=Z ρ'->
 ∀(A:dZ) (s:aK) (O:aL->Prop) (a:Option aL) (v:az) (Q:Unit->aK->Prop) (E:az->aK->Prop),A.handled=ae->dQ G env->G.Wd s.heap->SR G env O a ρ s.heap->jT s.heap (Ow O a) v d->
 (∀s',G.Kp (Fr sc env) s s'->SR G env O a ρ' s'.heap->Q () s')->aJ G.M A (fY e env v) Q E s:=by
 intro k
 induction k with
 |zero=>intro e d ρ ρ' h;exact bK h
 |succ k ih=>
  intro e d ρ ρ' h A s O a v Q E hA Ek W S r hQ
  induction e using bC<;>try (exact bK h;done)
  ·rename_i x pos;have h:(bif g0 sc x then Z (vU ρ x (.val d))else ae)=Z ρ':=h
   cases hs:g0 sc x<;>rw[hs]at h
   ·exact bK h
   ·cases h
    exact eZ (lh Ek W S hs (jm x hs) r hQ)
  ·rename_i es k2 pos
   induction d using ao<;>try (exact bK h;done)
   rename_i ds;have h:nE (nV sc k) es ds ρ=Z ρ':=h
   have UP:∀(es:List aG) (ds:List D) (ρ ρ':aE),nE (nV sc k) es ds ρ=Z ρ'->(fX es env).length=ds.length∧(fX es env).findIdx? (·.1)=ae∧(fX es env).map (·.2)=es.map λe=>fY e env:=by
    intro es
    induction es with
    |nil=>intro ds ρ ρ' h;induction ds using aA with
     |nil=>exact⟨rfl,rfl,rfl⟩
     |cons _ _=>exact bK h
    |cons e es PW=>intro ds ρ ρ' h;induction ds using aA with
     |nil=>exact bK h
     |cons d ds=>
      refine bE h λρ1 h1 h2=>eP (PW ds ρ1 ρ' h2) λi1 i2 i3=>?_
      have:fX (e::es) env=(ag,fY e env)::fX es env:=by
       induction e using bC<;>first|rfl|(exfalso;induction k using nZ<;>exact bK h1)
      refine J this ⟨by simp[i1],?_,by simp[i3]⟩;exact J Kz (J i2 rfl)
   obtain⟨l,vs,rfl,hO,ht,r⟩:=r;obtain⟨n1,n2,n3⟩:=UP es ds ρ ρ' h;have el:=r.length;rw[aX]at el;refine Xi hA ht (J n1 (J el rfl)) n2 λh' ext=>J n3 ?_;have k0:∀b o,s.heap.get? b=Z o->h'.get? b=Z o:=λb o e=>ext b o (du (aZ e)) e;have x0:G.Kx s {s with heap:=h'}:=Gd.Kx.of (tk:=s.toks) W k0
   have key:∀(es:List aG) (ds:List D) (ρ ρ':aE),nE (nV sc k) es ds ρ=Z ρ'->∀(s:aK) (vs:List az),G.Wd s.heap->SR G env O a ρ s.heap->bb s.heap (Ow O a) vs ds->
    ∀(Q:Unit->aK->Prop),(∀s',G.Kp (Fr sc env) s s'->SR G env O a ρ' s'.heap->Q () s')->aJ G.M A (jh (es.map λe=>fY e env) vs) Q E s:=by
    intro es
    induction es with
    |nil=>intro ds ρ ρ' h s vs W S r Q hQ;induction ds using aA with
     |nil=>cases h;exact ay (hQ s (Gd.Kp.refl W) S)
     |cons _ _=>exact bK h
    |cons e es PW=>intro ds ρ ρ' h s vs W S r Q hQ;induction ds using aA with
     |nil=>exact bK h
     |cons d ds=>
      refine bE h λρ1 h1 h2=>bV r.inv λv ma sE ra rb=>?_;subst sE;show aJ G.M A (do jq ma (fY e env v);jh (es.map λe=>fY e env) ma) Q E s;refine ai (bg (ih e d ρ ρ1 h1 A s O a v _ E hA Ek W S ra λs1 kp S1=>?_));exact PW ds ρ1 ρ' h2 s1 ma kp.wd S1 (rb.kp W kp.kp (od (sc:=sc) S)) Q λs2 LZ S2=>hQ s2 (kp.trans LZ) S2
   exact key es ds ρ ρ' h _ _ x0.wd (S.kx W x0) (r.ke W x0.ke) Q λs' kp S'=>hQ s' ((Gd.Kx.kp x0).trans kp) S'
def Gd.Kq(G:Gd)(X:aL->Prop)(s s':aK):Prop:=
 ∃h' tk,s'={s with heap:=h',toks:=tk}∧(∀b o,s.heap.get? b=Z o->¬X b->¬G.Tb b->h'.get? b=Z o)∧G.Wd h'
theorem Gd.Kx.kq{X:aL->Prop}(x:G.Kx s s'):G.Kq X s s':=let⟨h',tk,e,k,W⟩:=x;⟨h',tk,e,λb o g _ t=>k b o g t,W⟩
theorem Gd.Kp.kq{X:aL->Prop}(x:G.Kp X s s'):G.Kq X s s':=let⟨h',tk,e,k,_,W⟩:=x;⟨h',tk,e,k,W⟩
theorem Gd.Kq.wd{X:aL->Prop}(x:G.Kq X s s'):G.Wd s'.heap:=by refine bV x λ_ _ sE _ W=>?_;subst sE;exact W
theorem Gd.Kq.kp{X:aL->Prop}(x:G.Kq X s s'):∀b o,s.heap.get? b=Z o->¬X b->¬G.Tb b->s'.heap.get? b=Z o:=by refine bV x λ_ _ qe k W=>?_;subst qe;exact k
theorem Gd.Kq.trans{X:aL->Prop}{R2:aK}(x:G.Kq X s s')(y:G.Kq X s' R2):G.Kq X s R2:=by
 refine bV x λh1 t1 wQ k1 w1=>?_;subst wQ;refine bV y λh2 t2 vJ k2 w2=>?_;subst vJ;exact⟨h2,t2,rfl,λb o e hx ht=>k2 b o (k1 b o e hx ht) hx ht,w2⟩
theorem Gd.Kq.mono{X Y:aL->Prop}(x:G.Kq X s s')(h:∀b,X b->(s.heap.get? b).isSome->Y b):G.Kq Y s s':=by
 refine bV x λh1 t1 y0 k1 w1=>?_;subst y0;exact⟨h1,t1,rfl,λb o e hx ht=>k1 b o e (λz=>hx (h b z (J e rfl))) ht,w1⟩
theorem Gd.Kq.kx{X:aL->Prop}(x:G.Kq X s s')(h:∀b,X b->s.heap.get? b=ae):G.Kx s s':=by
 refine bV x λh1 t1 Ac k1 w1=>?_;subst Ac;exact⟨h1,t1,rfl,λb o e ht=>k1 b o e (λz=>by rw[h b z]at e;exact bK e) ht,w1⟩
theorem OldK.KS{h₀ h:bq}(K:OldK h₀ h){wr:aL->Prop}(PZ:∀b,wr b->h₀.objs.size<=b)(hk:∀b o,¬wr b->h.get? b=Z o->h'.get? b=Z o):OldK h₀ h':=by
 have ne:∀b o,h₀.get? b=Z o->¬wr b:=λb o e hb=>eA _ (aH (aZ e) (PZ b hb));refine⟨λb o e=>?_,λb o e=>let⟨o',SA⟩:=K.there b o e;⟨o',hk _ _ (ne b o e) SA⟩⟩
 rcases K.old b o e with x|⟨t,hc,vs,more,hv,x⟩|⟨rfl,hc,⟨o',es,n,SA,r⟩,z⟩
 ·exact .inl (hk _ _ (ne b o e) x)
 ·exact .inr (.inl ⟨t,hc,vs,more,hv,hk _ _ (ne b o e) x⟩)
 ·exact .inr (.inr ⟨rfl,hc,⟨o',es,n,hk _ _ (ne _ o e) SA,r⟩,λkey=>by exact J (J1 ((hk _ _ (ne _ o e) SA).trans SA.symm) key) (z key)⟩)
theorem Gd.Wd.but{h:bq}(W:G.Wd h){wr:aL->Prop}(PZ:∀b,wr b->G.H.objs.size<=b)(hk:∀b o,¬wr b->h.get? b=Z o->h'.get? b=Z o)(hc:∀b,wr b->∀o,h.get? b=Z o->NC o):G.Wd h':=by
 have ne:∀b,b<G.H.objs.size->¬wr b:=λb hb hw=>eA _ (aH hb (PZ b hw));refine⟨W.lt,W.last,OldK.KS W.old PZ hk,λb o e n=>hk _ _ (ne b (aZ e)) (W.keep b o e n),W.base,λq hq=>?_⟩;exact gM (W.tab q hq) λps v15 OR en=>fj v15 λo vs aiF tf z=>fj z λabD tg inF text z=>jY z λtt op z=>dD z λa r1 r2 r3 z=>dD z λr4 r5 r6 b r=>Pp OR λo2 vs2 e2 c2 t2=>c8 (W.lt q hq) λl1 l2=>⟨ps,⟨o,vs,aiF,tf,abD,tg,inF,text,tt,op,hk _ _ (ne _ l1) a,r1,r2,r3,r4,r5,r6,hk _ _ (ne _ l2) b,r⟩,⟨⟨o2,vs2,hk _ _ (ne _ l1) e2,c2⟩,hk _ _ (ne _ l2) t2⟩,en.keeps λb o e n=>hk b o (λw=>n (hc b w o e)) e⟩
inductive mS (G:Gd) (n:Nat) (env:nJ) (ρ:aE):List aG->Bool->Prop
 |nil:mS G n env ρ [] af
 |S8 {c:aG} {cs:List aG} {b:Bool}:Tr G n env ρ c af->mS G n env ρ cs b->mS G n env ρ (c::cs) b
 |S9 {c:aG} {cs:List aG}:Tr G n env ρ c ag->mS G n env ρ (c::cs) ag
noncomputable abbrev tY(env:nJ)(c:aG)(r:Bool):EL (ForInStep Bool):=if r=af then do let ok←Xn c env (eval c env);pure (kC ok)else pure (kC r)
theorem xi{Q:Bool->aK->Prop}{E:az->aK->Prop}:∀(cs:List aG),Q ag s->aJ G.M A (forIn cs ag (tY env)) Q E s
 |[],h=>ay h
 |c::cs,h=>by
  refine J (gB ..) ?_;unfold tY;exact J (bF (by simp)) (ai (ay (xi cs h)))
theorem mS.run{b:Bool}(h:mS G n env ρ rz b):∀(A:dZ) (s:aK) (O:aL->Prop) (a:Option aL),g9 A n->dQ G env->G.Wd s.heap->SR G env O a ρ s.heap->
 aJ G.M A (forIn rz af (tY env)) (λok s'=>G.Kx s s'∧ok=b) cW s:=by
 induction h with
 |nil=>intro A s O a R Ek W S;exact ay ⟨Gd.Kx.refl W,rfl⟩
 |S8 h1 _ ih=>
  intro A s O a R Ek W S;refine J (gB ..) ?_;show aJ _ _ (tY env _ af>>=_) _ _ _;unfold tY;refine J (bz rfl) (ai (ai (ar (h1 A s O a R Ek W S) (λv s1 x1=>?_) λ_ _ x=>x)));exact Se x1 λk1=>ay (ar (ih A s1 O a R Ek k1.wd (S.kx W k1)) (λv s2 x2=>⟨k1.trans x2.1,x2.2⟩) λ_ _ x=>x)
 |S9 h1=>
  intro A s O a R Ek W S;refine J (gB ..) ?_;show aJ _ _ (tY env _ af>>=_) _ _ _;unfold tY;refine J (bz rfl) (ai (ai (ar (h1 A s O a R Ek W S) (λv s1 x1=>?_) λ_ _ x=>x)));exact Se x1 λk1=>ay (xi _ ⟨k1,rfl⟩)
def aiz(G:Gd)(n:Nat)(sc:bj)(env:nJ)(di:aL)(t:EL Unit)(ρ:aE)(ds:List D):Prop:=
 ∀(A:dZ) (s:aK) (O:aL->Prop) (a:Option aL) (vs:Array az) (mR:List D),g9 A n->dQ G env->G.Wd s.heap->SR G env O a ρ s.heap->O di->G.H.objs.size<=di->
  s.heap.PlainList di vs->bb s.heap (Ow O a) vs.toList mR->mR.length+ds.length<=16777216->
  aJ G.M A t (λ_ s'=>G.Kq (λb=>Fr sc env b∨b=di) s s'∧SR G env O a ρ s'.heap∧∃ma,s'.heap.PlainList di ma∧bb s'.heap (Ow O a) ma.toList (mR++ds)) cW s
theorem Eg{di:aL}(h:Ev G n env ρ iw d):aiz G n sc env di (do let _←dE (.builtin "list.append") [.ref di,←eval iw env]) ρ [d]:=by
 intro A s O a vs mR R Ek W S hO lo hl r hz;refine ai (ar (h A s O a R Ek W S) (λv s1 x1=>?_) λ_ _ x=>x);have W1:=x1.1.wd;have S1:=S.kx W x1.1;have rL:=gL W x1.1.ke hl;have r1:=r.ke W x1.1.ke;have el:=r1.length;rw[aX]at el;refine ai (Km (hsz:=by refine J el (J cC ?_);simp at hz;exact jW hz) rL λh2 o6 sb=>?_);have W2:G.Wd h2:=W1.same lo sb (NC.plain rL);have kp:∀b o,s1.heap.get? b=Z o->¬O b->¬G.Tb b->h2.get? b=Z o:=λb o e hb _=>by exact J (sb.2 b λe'=>hb (e'▸hO)) e
 refine ay ⟨(Gd.Kx.kq x1.1).trans ⟨h2,s1.toks,rfl,λb o e hb _=>by exact J (sb.2 b λe'=>hb (.inr e')) e,W2⟩,S1.mono W1 kp λb hb=>?_,vs.push v,o6,?_⟩
 ·by_cases e:b=di
  ·obtain⟨k,g⟩:=o6;exact J e ⟨_,g,.seq rfl⟩
  ·exact J (sb.2 b e) (S1.al b hb)
 ·have mono:∀b o,s1.heap.get? b=Z o->(∃vs n,o.data=.seq vs n)->¬Ow O a b->h2.get? b=Z o:=λb o e _ hb=>by exact J (sb.2 b λe'=>hb (.inl (e'▸hO))) e
  exact J xc ((r1.mono mono λ_ _ e=>e).append (bb.cons (x1.2.mono mono λ_ _ e=>e) bb.nil))
noncomputable def wA(iw:aG)(di:az)(env:nJ):EL Unit:=do let _←dE (.builtin "list.append") [di,←eval iw env]
theorem Af(hg:gens[depth]?=Z ⟨bR,iter,rz,0⟩)(hn:gens[depth+1]?=ae):
 Aq (.ListComp iw gens scope pos) depth it di env=(do
  rO iter.pos
  match←nj it with
  |none=>pure (.done .next)
  |some v=>
   gQ bR it v
   fY bR env v
   let mut ok:=af
   for c in rz do
    if ok then ok←Xn c env (eval c env)
   if ok then
    wA iw di env
   again (.compLoop (.ListComp iw gens scope pos) depth it di env)):=by
 unfold Aq;simp only[hg,hn]
 rfl
theorem Ae{vf oZ:aG}{Mf:List aG}(hg:gens[depth]?=Z ⟨bR,iter,rz,0⟩)(hn:gens[depth+1]?=Z ⟨vf,oZ,Mf,0⟩):
 Aq (.ListComp iw gens scope pos) depth it di env=(do
  rO iter.pos
  match←nj it with
  |none=>pure (.done .next)
  |some v=>
   gQ bR it v
   fY bR env v
   let mut ok:=af
   for c in rz do
    if ok then ok←Xn c env (eval c env)
   if ok then
    let x←eval oZ env
    rO oZ.pos
    let x←gJ oZ env x
    let _←runOwn (.compStart (.ListComp iw gens scope pos) (depth+1) (←jq [x] (sP x)) di env) env
   again (.compLoop (.ListComp iw gens scope pos) depth it di env)):=by
 unfold Aq;simp only[hg,hn]
 rfl
theorem rp(hg:gens[depth]?=Z ⟨bR,iter,rz,0⟩)(hn:gens[depth+1]?=ae)(ab:Nat->aK->Prop)
 (turn:∀m s,ab m s->aJ G.M A (nj it) (λr s1=>match r with
  |none=>R (.ok .next) s1
  |some v=>aJ G.M A (gQ bR it v) (λ_ s2=>aJ G.M A (fY bR env v) (λ_ s3=>aJ G.M A (forIn rz af (tY env)) (λok s4=>
   if ok=af then aJ G.M A (wA iw di env) (λ_ s5=>∃k,k<m∧ab k s5) cW s4 else∃k,k<m∧ab k s4) cW s3) cW s2) cW s1) cW s)
 (m:Nat) (h:ab m s):jN G.M A (.compLoop (.ListComp iw gens scope pos) depth it di env) R s:=by
 refine codeAny_loop rfl ab (λm s hJ=>?_) m h;show aJ _ A ((Aq (.ListComp iw gens scope pos) depth it di env).onRaise (λx=>do tN x env;me x)) _ _ s;refine rN (J (Af hg hn) ?_);refine ai (bU (ai (ar (turn m s hJ) (λr s1 h1=>?_) λ_ _ x=>x.elim)))
 induction r using aB with
 |none=>exact ay h1
 |some v=>
  refine ai (ar h1 (λ_ s2 h2=>ai (ar h2 (λ_ s3 h3=>ai (ar h3 (λok s4 h4=>?_) λ_ _ x=>x.elim)) λ_ _ x=>x.elim)) λ_ _ x=>x.elim)
  induction ok using ax with
  |false=>exact ay ⟨rfl,h4⟩|true=>exact ai (ar h4 (λ_ s5 h5=>ay ⟨rfl,h5⟩) λ_ _ x=>x.elim)
theorem ro{vf oZ:aG}{Mf:List aG}(hg:gens[depth]?=Z ⟨bR,iter,rz,0⟩)(hn:gens[depth+1]?=Z ⟨vf,oZ,Mf,0⟩)(ab:Nat->aK->Prop)
 (turn:∀m s,ab m s->aJ G.M A (nj it) (λr s1=>match r with
  |none=>R (.ok .next) s1
  |some v=>aJ G.M A (gQ bR it v) (λ_ s2=>aJ G.M A (fY bR env v) (λ_ s3=>aJ G.M A (forIn rz af (tY env)) (λok s4=>
   if ok=af then aJ G.M A (eval oZ env) (λx s5=>aJ G.M A (gJ oZ env x) (λx s6=>aJ G.M A (sP x) (λit2 s7=>
    jN G.M A (.compStart (.ListComp iw gens scope pos) (depth+1) it2 di env) (λr s8=>(∃f,r=.ok f)∧∃k,k<m∧ab k s8) s7) cW s6) cW s5) cW s4 else∃k,k<m∧ab k s4) cW s3) cW s2) cW s1) cW s)
 (m:Nat) (h:ab m s):jN G.M A (.compLoop (.ListComp iw gens scope pos) depth it di env) R s:=by
 refine codeAny_loop rfl ab (λm s hJ=>?_) m h;show aJ _ A ((Aq (.ListComp iw gens scope pos) depth it di env).onRaise (λx=>do tN x env;me x)) _ _ s;refine rN (J (Ae hg hn) ?_);refine ai (bU (ai (ar (turn m s hJ) (λr s1 h1=>?_) λ_ _ x=>x.elim)))
 induction r using aB with
 |none=>exact ay h1
 |some v=>
  refine ai (ar h1 (λ_ s2 h2=>ai (ar h2 (λ_ s3 h3=>ai (ar h3 (λok s4 h4=>?_) λ_ _ x=>x.elim)) λ_ _ x=>x.elim)) λ_ _ x=>x.elim)
  induction ok using ax with
  |false=>exact ay ⟨rfl,h4⟩
  |true=>
   refine ai (ar h4 (λx s5 h5=>ai (bU (ai (ar h5 (λx s6 h6=>?_) λ_ _ x=>x.elim)))) λ_ _ x=>x.elim);refine ai (bg (ar h6 (λit2 s7 h7=>ai (wpAny_runOwn ?_)) λ_ _ x=>x.elim));refine codeAny_mono h7 λr s8 h8=>?_;obtain⟨⟨f,rfl⟩,h8⟩:=h8;exact ay ⟨rfl,h8⟩
structure Lp(G:Gd)(sc:bj)(env:nJ)(ρ:aE)(O:aL->Prop)(a:Option aL)(di:aL)(wr:List aL)(Src:bq->Prop)(St:Nat->bq->Prop)(s₀:aK)(i:Nat)(ds:List D)(s:aK):Prop where
 kq:G.Kq (λb=>Fr sc env b∨b=di∨b∈wr) s₀ s
 sr:SR G env O a ρ s.heap
 st:St i s.heap
 src:Src s.heap
 ls:∃vs,s.heap.PlainList di vs∧bb s.heap (Ow O a) vs.toList ds
theorem A0{di ac:aL}{s₀:aK}{mR:List D}
 (Inn:(aK->Prop)->aK->Prop) (Z3:∀P Q s,(∀s',P s'->Q s')->Inn P s->Inn Q s) (lm:D->List D)
 (Rm:g9 A n) (Ek:dQ G env) (jm:∀x,g0 sc x=af->env.kindOf x=Z .local∨env.kindOf x=Z .cell) (Wl:Wk G (Ow O a) ac fp wr xs sW Src St) (ht:sW bR=af)
 (Ou:∀b∈wr,O b) (Mi:∀b∈wr,G.H.objs.size<=b) (hO:O di) (Oy:G.H.objs.size<=di) (Z8:di∉fp) (VL:∀b∈fp,¬Fr sc env b)
 (Ov:∀p∈ρ,p.1∉tn k bR) (hz:mR.length+(xs.flatMap lm).length<=16777216)
 (step:∀d∈xs,∃ρ',nV sc k bR d ρ=Z ρ'∧((mS G n env ρ' rz ag∧lm d=[])∨(mS G n env ρ' rz af∧
  ∀(s:aK) (vs:Array az) (ds:List D),G.Wd s.heap->SR G env O a ρ' s.heap->s.heap.PlainList di vs->bb s.heap (Ow O a) vs.toList ds->ds.length+(lm d).length<=16777216->
   Inn (λs'=>G.Kq (λb=>Fr sc env b∨b=di) s s'∧SR G env O a ρ' s'.heap∧∃ma,s'.heap.PlainList di ma∧bb s'.heap (Ow O a) ma.toList (ds++lm d)) s)))
 (hR:∀s',G.Kq (λb=>Fr sc env b∨b=di∨b∈wr) s₀ s'->(∀O₁:aL->Prop,(∀b,O₁ b->O b∧b∉wr)->SR G env O₁ a ρ s'.heap)->(∃vs,s'.heap.PlainList di vs∧bb s'.heap (Ow O a) vs.toList (mR++xs.flatMap lm))->R (.ok .next) s'):
 ∀m s,(∃i,i<=xs.length∧m=xs.length-i∧Lp G sc env ρ O a di wr Src St s₀ i (mR++(xs.take i).flatMap lm) s)->aJ G.M A (nj (.ref ac)) (λr s1=>match r with
  |none=>R (.ok .next) s1
  |some v=>aJ G.M A (gQ bR (.ref ac) v) (λ_ s2=>aJ G.M A (fY bR env v) (λ_ s3=>aJ G.M A (forIn rz af (tY env)) (λok s4=>
   if ok=af then Inn (λs5=>∃k,k<m∧∃i,i<=xs.length∧k=xs.length-i∧Lp G sc env ρ O a di wr Src St s₀ i (mR++(xs.take i).flatMap lm) s5) s4
   else∃k,k<m∧∃i,i<=xs.length∧k=xs.length-i∧Lp G sc env ρ O a di wr Src St s₀ i (mR++(xs.take i).flatMap lm) s4) cW s3) cW s2) cW s1) cW s:=by
 rintro m s ⟨i,hi,rfl,L⟩
 obtain⟨kq,S,st,sr,vs,hl,rl⟩:=L;have W:=kq.wd;have hm:∀b o vs n,s.heap.get? b=Z o->o.data=.seq vs n->¬Ow O a b->b∉wr:=λb o vs n _ _ h hb=>h (.inl (Ou b hb))
 rcases Nat.lt_or_eq_of_le hi with jJ|rfl
 ·have hd:xs[i]?=Z xs[i]:=cR jJ;refine Wl.nx A i s xs[i] _ _ bR Rm.handled S.oM sr st hd ht λv h1 tk k1 hgo=>hgo _ _ λh2 k2 Oi r2=>?_;have HD:∀b o,b∉wr->s.heap.get? b=Z o->h2.get? b=Z o:=λb o hb e=>k2 b o hb (k1 b o hb e);have W2:G.Wd h2:=W.but Mi HD λb hb=>NC.live (Wl.live _ _ st b hb)
  have al2:Al h2 O:=λb hb=>by
   by_cases hw:b∈wr
   ·exact Wl.live _ _ Oi b hw
   ·exact bh (S.al b hb) λo e nc=>⟨o,HD b o hw e,nc⟩
  have S2:SR G env O a ρ h2:=S.mono W (λb o e hb _=>HD b o (λhw=>hb (Ou b hw)) e) al2;have O4:Src h2:=Wl.src _ _ sr λb o e _ hb=>HD b o (λhw=>hb (.inl (Ou b hw))) e
  have o6:h2.PlainList di vs:=by
   exact bQ hl λc e=>⟨c,HD _ _ (λhw=>Z8 (Wl.sub _ hw)) e⟩
  have rl2:bb h2 (Ow O a) vs.toList (mR++(xs.take i).flatMap lm):=rl.mono (λb o e _ hb=>HD b o (λhw=>hb (.inl (Ou b hw))) e) λ_ _ e=>e;refine bh (step xs[i] (i8 jJ)) λρ' hb cs=>?_;have XN:G.Kq (λb=>Fr sc env b∨b=di∨b∈wr) s₀ {s with heap:=h2,toks:=tk}:=kq.trans ⟨h2,tk,rfl,λb o e hx _=>HD b o (λhw=>hx (.inr (.inr hw))) e,W2⟩;refine kZ jm k bR xs[i] ρ ρ' hb A _ O a v _ _ Rm.handled Ek W2 S2 r2 λs3 kp S3=>?_
  have fpk:∀{s s':aK} {i},G.Kq (λb=>Fr sc env b∨b=di) s s'->St i s.heap->St i s'.heap:=λx st=>Wl.frame _ _ _ st λb hb o e=>x.kp b o e (λz=>by
   rcases z with z|z
   ·exact VL b hb z
   ·exact Z8 (z▸hb)) (Wl.nt b hb)
  have YR:∀{s s':aK} {ρ':aE},G.Wd s.heap->SR G env O a ρ' s.heap->G.Kq (λb=>Fr sc env b∨b=di) s s'->Src s.heap->Src s'.heap:=λW S x r=>Wl.src _ _ r λb o e hs hb=>x.kp b o e (λz=>by
   refine jY hs λvs c hs=>?_
   rcases z with z|z
   ·exact S.iL z e hs
   ·exact hb (.inl (z▸hO))) (λt=>by refine jY hs λvs c hs=>?_;exact W.md e hs t)
  have kp':G.Kq (λb=>Fr sc env b∨b=di) {s with heap:=h2,toks:=tk} s3:=kp.kq.mono λb hb _=>.inl hb;have W3:=kp.wd;have RZ:=fpk kp' Oi;have sr3:=YR W2 S2 kp' O4
  have hl3:s3.heap.PlainList di vs:=by
   exact bQ o6 λc e=>⟨c,kp.kp _ _ e (λz=>S2.iL z e rfl) (W2.md e rfl)⟩
  have rl3:bb s3.heap (Ow O a) vs.toList (mR++(xs.take i).flatMap lm):=rl2.kp W2 kp.kp (od (sc:=sc) S2)
  have tk1:(xs.take (i+1)).flatMap lm=(xs.take i).flatMap lm++lm xs[i]:=by
   refine J List.take_add_one (J hd (J (Option.toList_some ..) (J J7 ?_)));simp
  have fin:∀{s5:aK} {vs5:Array az},G.Kq (λb=>Fr sc env b∨b=di) s3 s5->SR G env O a ρ' s5.heap->s5.heap.PlainList di vs5->bb s5.heap (Ow O a) vs5.toList (mR++(xs.take i).flatMap lm++lm xs[i])->
   ∃k,k<xs.length-i∧∃i,i<=xs.length∧k=xs.length-i∧Lp G sc env ρ O a di wr Src St s₀ i (mR++(xs.take i).flatMap lm) s5:=λx S5 hl5 r5=>by
   refine⟨xs.length-(i+1),Nat.sub_succ_lt_self _ _ jJ,i+1,jJ,rfl,⟨?_,S5.sub λp hp=>Nv k bR _ ρ ρ' hb p hp (Ov p hp),fpk x RZ,YR W3 S3 x sr3,_,hl5,by exact J tk1 (rF (jP ..) r5)⟩⟩;exact XN.trans ((kp'.trans x).mono λb hb _=>hb.elim .inl λe=>.inr (.inl e))
  rcases cs with⟨tf,he⟩|⟨tt,P9⟩
  ·refine ar (tf.run A s3 O a Rm Ek W3 S3) (λok s4 x4=>?_) λ_ _ x=>x;refine Se x4 λx4=>J (bF (by simp)) ?_;exact fin x4.kq (S3.kx W3 x4) (gL W3 x4.ke hl3) (J he (J (jC ..) (rl3.ke W3 x4.ke)))
  ·refine ar (tt.run A s3 O a Rm Ek W3 S3) (λok s4 x4=>?_) λ_ _ x=>x;refine Se x4 λx4=>J (bz rfl) ?_;refine Z3 _ _ _ (λs5 x5=>?_) (P9 s4 vs _ x4.wd (S3.kx W3 x4) (gL W3 x4.ke hl3) (rl3.ke W3 x4.ke) ?_)
   ·exact eP x5 λx5 S5 z1=>bh z1 λvs5 hl5 r5=>fin (x4.kq.trans x5) S5 hl5 r5
   ·have e1:((xs.take i).flatMap lm).length+(lm xs[i]).length<=(xs.flatMap lm).length:=by
     have:xs.flatMap lm=(xs.take (i+1)).flatMap lm++(xs.drop (i+1)).flatMap lm:=by exact rF J7 (J (List.take_append_drop ..) rfl)
     exact J this (J aP (J tk1 (J aP (bw ((Yr lm (x8 i xs)).length+(lm xs[i]).length) (Yr lm (ya (i+1) xs)).length))))
    refine J aP ?_
    lia
 ·refine Wl.done A s _ _ Rm.handled st λh' tk k1=>?_;have W2:G.Wd h':=W.but Mi k1 λb hb=>NC.live (Wl.live _ _ st b hb);refine hR _ (kq.trans ⟨h',tk,rfl,λb o e hx _=>k1 b o (λhw=>hx (.inr (.inr hw))) e,W2⟩) (λO₁ h₁=>?_) ⟨vs,?_,?_⟩
  ·exact S.Lw W (λb hb=>(h₁ b hb).1) (λb o e hb _=>k1 b o (λhw=>hb (Ou b hw)) e) λb hb=>bh (S.al b (h₁ b hb).1) λo e nc=>⟨o,k1 b o (h₁ b hb).2 e,nc⟩
  ·exact bQ hl λc e=>⟨c,k1 _ _ (λhw=>Z8 (Wl.sub _ hw)) e⟩
  ·have:=rl.mono (h':=h') (O':=Ow O a) (λb o e _ hb=>k1 b o (λhw=>hb (.inl (Ou b hw))) e) λ_ _ e=>e;simpa using this
theorem mP(hg:gens[depth]?=Z ⟨bR,iter,rz,0⟩)
 (h0:jN G.M A (.compLoop (.ListComp iw gens scope pos) depth it di env) R s)
 (h:aJ G.M A (sP it) (λit' s'=>jN G.M A (.compLoop (.ListComp iw gens scope pos) depth it' di env) R s') cW s):
 jN G.M A (.compStart (.ListComp iw gens scope pos) depth it di env) R s:=by
 refine pH ?_;show aJ _ A ((compStart (.ListComp iw gens scope pos) depth it di env).onRaise (λx=>do tN x env;rO theWindowsPlace)) _ _ s;refine wpAny_notedAt ?_;unfold compStart;refine J (show(clausesOf (.ListComp iw gens scope pos))[depth]?=Z ⟨bR,iter,rz,0⟩from hg) ?_;show aJ _ _ (ask>>=_) _ _ s;refine ai (wpAny_askSetting (wpAny_ite ?_))
 split
 ·first
   |exact ai (ay (ay (E6 rfl h0)))
   |exact ay (E6 rfl h0)
 ·first
   |exact ai (zB (ai (bU (ai (ar h (λit' s' h'=>ay (E6 rfl h')) λ_ _ x=>x.elim)))))
   |(refine ai (zB ?_);show aJ _ _ (rO iter.pos>>=_) _ _ s;exact ai (bU (ai (ar h (λit' s' h'=>ay (E6 rfl h')) λ_ _ x=>x.elim))))
structure Lv(G:Gd)(sc:bj)(env:nJ)(ρ:aE)(O:aL->Prop)(a:Option aL)(di ac:aL)(fp wr:List aL)(xs:List D)(sW:aG->Bool)(Src:bq->Prop)(St:Nat->bq->Prop)(mR:List D)(s:aK):Prop where
 wk:Wk G (Ow O a) ac fp wr xs sW Src St
 wO:∀b∈wr,O b
 wlo:∀b∈wr,G.H.objs.size<=b
 hO:O di
 lo:G.H.objs.size<=di
 fa:di∉fp
 fr:∀b∈fp,¬Fr sc env b
 wd:G.Wd s.heap
 sr:SR G env O a ρ s.heap
 st:St 0 s.heap
 src:Src s.heap
 ls:∃vs,s.heap.PlainList di vs∧bb s.heap (Ow O a) vs.toList mR
theorem FI{di ac:aL}{mR:List D}
 (hg:gens[depth]?=Z ⟨bR,iter,rz,0⟩) (hn:gens[depth+1]?=ae) (lm:D->List D)
 (Rm:g9 A n) (Ek:dQ G env) (jm:∀x,g0 sc x=af->env.kindOf x=Z .local∨env.kindOf x=Z .cell) (L:Lv G sc env ρ O a di ac fp wr xs sW Src St mR s) (ht:sW bR=af)
 (Ov:∀p∈ρ,p.1∉tn k bR) (hz:mR.length+(xs.flatMap lm).length<=16777216)
 (step:∀d∈xs,∃ρ',nV sc k bR d ρ=Z ρ'∧((mS G n env ρ' rz ag∧lm d=[])∨(mS G n env ρ' rz af∧∃y,Ev G n env ρ' iw y∧lm d=[y])))
 (hR:∀s',G.Kq (λb=>Fr sc env b∨b=di∨b∈wr) s s'->(∀O₁:aL->Prop,(∀b,O₁ b->O b∧b∉wr)->SR G env O₁ a ρ s'.heap)->(∃vs,s'.heap.PlainList di vs∧bb s'.heap (Ow O a) vs.toList (mR++xs.flatMap lm))->R (.ok .next) s'):
 jN G.M A (.compStart (.ListComp iw gens scope pos) depth (.ref ac) (.ref di) env) R s:=by
 have N1:jN G.M A (.compLoop (.ListComp iw gens scope pos) depth (.ref ac) (.ref di) env) R s:=by
  refine rp hg hn _ (A0 (Inn:=λQ s=>aJ G.M A (wA iw (.ref di) env) (λ_ s'=>Q s') cW s) (λP Q s h x=>ar x (λ_ s' y=>h s' y) λ_ _ y=>y) lm Rm Ek jm L.wk ht L.wO L.wlo L.hO L.lo L.fa L.fr Ov hz (λd hd=>?_) hR) _
   ⟨0,dW _,rfl,⟨(Gd.Kx.refl L.wd).kq,L.sr,L.st,L.src,by simpa using L.ls⟩⟩
  refine bh (step d hd) λρ' h1 cs=>⟨ρ',h1,cs.imp (λx=>x) λ⟨x,y,ey,e⟩=>⟨x,λs vs ds W S hl r hz=>?_⟩⟩;rw[e]at hz⊢;exact Eg ey A s O a vs ds Rm Ek W S L.hO L.lo hl r hz
 exact mP hg N1 (L.wk.self A 0 s _ _ Rm.handled L.st N1)
theorem SR.wide(S:SR G env O a ρ s.heap)(W:G.Wd s.heap)(x:G.Kx s s')(hO:∀b,O' b->O b∨s.heap.get? b=ae)(al:Al s'.heap O'):SR G env O' a ρ s'.heap:=by
 have S':=S.kx W x
 have nO:∀b,(s.heap.get? b).isSome->¬O b->¬O' b:=λb hb hn ho=>by
  refine jR (hO b ho) (λy=>?_) λy=>?_
  ·exact hn y
  ·rw[y]at hb;exact ff hb
 have nOw:∀b,(s.heap.get? b).isSome->¬Ow O a b->¬Ow O' a b:=λb hb hn ho=>ho.elim (λz=>nO b hb (λy=>hn (.inl y)) z) λz=>hn (.inr z);have kt:∀b o,s.heap.get? b=Z o->(∃vs n,o.data=.seq vs n)->s'.heap.get? b=Z o:=λb o e ⟨vs,c,hd⟩=>x.ke b o e (W.md e hd);refine bh S.ns λm hn f=>?_;have hl:(s.heap.get? env.locals).isSome:=by refine g8 hn λo _ _ e _=>?_;exact J e rfl
 refine⟨⟨m,Sg W x.ke hn,λp hp=>?_⟩,S'.cells,al,λb hb=>⟨?_,(S'.ow b hb).2⟩,nO _ hl S.nl,λy c hc=>?_⟩
 ·obtain⟨nd,ok⟩:=f p hp;refine⟨nd,?_⟩;obtain⟨y,b⟩:=p
  induction b using Internal.jS.casesOn with
  |val d=>refine bh ok λv l r=>?_;exact⟨v,l.ke W x.ke,r.mono (λb o e hs _=>kt b o e hs) nOw⟩
  |own ds=>refine dn ok λl vs l1 l2 l3 l4=>?_;exact⟨l,vs,l1.ke W x.ke,l2,gL W x.ke l3,l4.mono (λb o e hs _=>kt b o e hs) nOw⟩
  |fn K T f' n'=>refine gM ok λv l t F=>?_;exact⟨v,l.ke W x.ke,F.next t (λb o hb e=>x.ke b o e (F.nT b hb)) (λb hb=>nOw b (by refine bh (F.al b hb) λo e _=>?_;exact J e rfl) (F.nO b hb)) F.nF⟩
 ·exact c8 (S.ow b hb) λh1 z1=>bQ z1 λvs v7=>bQ v7 λk e=>nO b (J e rfl) h1
 ·exact bQ (S.cells y c hc) λv v9=>bh v9 λo e _=>nO c (J e rfl) (S.nc y c hc)
theorem Ft.DG(Ek:dQ G env){h:bq}(S:SR G env O a ρ h){b:aL}(f:Ft G h b):¬Fr sc env b:=λhb=>by
 refine bh f λo e f=>x6 f (λz=>jY z λvs k hd=>?_) (λz=>bQ z λvs hd=>?_) λjJ=>?_
 ·exact S.iL hb e hd
 ·refine jR (S.HR hb e) (λz=>jY z λ_ _ z=>?_) λz=>bQ z λ_ z=>?_<;>rw[hd]at z<;>cases z
 ·exact eA _ (aH jJ (hb.lo Ek))
noncomputable def K4(scope sc:bj):bj:=
 {scope with names:=scope.names.map λ(n,k)=>if(k==.free&&sc.kind==.function&&sc.names.lookup n==Z .cell)then(n,.cell)else(n,k)}
noncomputable def nU(sc:bj)(x:Str):Bool:=sc.names.lookup x==Z .cell||sc.names.lookup x==Z .free
def kR(scope sc:bj):Bool:=(!je scope||je sc)&&(scope.kind==.function&&scope.names.all (λq=>scope.names.lookup q.1==Z q.2)&&scope.names.all (λq=>!(q.2==.free)||nU sc q.1))
def Oq(scope sc:bj)(ρ:aE):aE:=ρ.filter λp=>scope.names.lookup p.1==Z .free&&nU sc p.1&&!(p.1==("__classdict__":Str))
theorem ux(sc:bj):∀(names:List (Str×ix)) (x:Str),(names.map λ(n,k)=>if(k==.free&&sc.kind==.function&&sc.names.lookup n==Z .cell)=af then(n,jo)else(n,k)).lookup x=
 (names.lookup x).map λk=>if(k==.free&&sc.kind==.function&&sc.names.lookup x==Z .cell)then .cell else k
 |[],x=>rfl
 |(n,k)::r,x=>by
  have ih:=ux sc r x;show List.lookup x ((if(k==.free&&sc.kind==.function&&sc.names.lookup n==Z .cell)=af then(n,jo)else(n,k))::_)=_
  cases hx:x==n with
  |true=>
   have e:x=n:=aC.mp hx;subst e
   by_cases hc:(k==.free&&sc.kind==.function&&sc.names.lookup x==Z .cell)=af
   ·refine J (bz hc) ?_;simp only[gV,hx,gw];exact J (bz hc) rfl
   ·refine J (bF hc) ?_;simp only[gV,hx,gw];exact J (bF hc) rfl
  |false=>
   by_cases hc:(k==.free&&sc.kind==.function&&sc.names.lookup n==Z .cell)=af
   ·refine J (bz hc) ?_;simp only[gV,hx];exact ih
   ·refine J (bF hc) ?_;simp only[gV,hx];exact ih
noncomputable def lZ(cells:List (Str×aL)):List (Str×ix)->List (Str×aL)->List (Str×aL)
 |[],di=>di
 |(n,k)::r,di=>if k==.free then lZ cells r ((n,(cells.lookup n).getD 0)::di)else lZ cells r di
theorem Gm{cells di:List (Str×aL)}{n:Str}{k:ix}{r:List (Str×ix)}:lZ cells ((n,k)::r) di=if k==.free then lZ cells r ((n,(cells.lookup n).getD 0)::di)else lZ cells r di:=rfl
theorem ug(h:∀p∈scope.names,p.2=.free->∃c,env.cells.lookup p.1=Z c):closureFor scope env=pure (lZ env.cells scope.names []):=by
 have key:∀(names:List (Str×ix)) (di:List (Str×aL)),(∀p∈names,p.2=.free->∃c,env.cells.lookup p.1=Z c)->
  (forIn names di (λ(x:Str×ix) (r:List (Str×aL))=>match x with
   |(name,kind)=>if(kind==gc)=af then(do let a←cellOf env name;pure (kC ((name,a)::r)))else pure (kC r)):EL (List (Str×aL)))=pure (lZ env.cells names di):=by
  intro names
  induction names with
  |nil=>intro di _;rfl
  |cons p r ih=>
   intro di h;obtain⟨n,k⟩:=p;refine J (gB ..) (J Gm ?_)
   cases hk:k==gc with
   |true=>
    refine bQ (h _ bf (aC.mp hk)) λc hc=>?_;have hc:env.cells.lookup n=Z c:=hc;have ih':=ih ((n,c)::di) λp hp=>h p (ba _ hp);have e:cellOf env n=pure c:=by unfold cellOf;exact J hc rfl
    simp only[hk,if_true];exact J hc (J e ih')
   |false=>
    simp only[hk,pg,if_false];exact ih di λp hp=>h p (ba _ hp)
 have:=key scope.names [] h;show(forIn scope.names [] _>>=λr=>pure r)=_;exact(aD (·>>=λr=>(pure r:EL (List (Str×aL)))) this)
theorem zc(cells:List (Str×aL)):∀(names:List (Str×ix)) (di:List (Str×aL)) (x:Str) (c:aL),(x,c)∈lZ cells names di->(x,c)∈di∨((x,gc)∈names∧c=(cells.lookup x).getD 0)
 |[],di,x,c,h=>.inl h
 |(n,k)::r,di,x,c,h=>by
  have h:_∈(if k==.free then lZ cells r ((n,(cells.lookup n).getD 0)::di)else lZ cells r di):=h
  split at h
  ·rename_i hk;refine jR (zc cells r _ x c h) (λh=>?_) λz=>c8 z λh e=>?_
   ·refine jR (aM.mp h) (λh=>?_) λh=>?_
    ·cases h
     exact .inr ⟨by exact J (aC.mp hk) bf,rfl⟩
    ·exact .inl h
   ·exact .inr ⟨ba _ h,e⟩
  ·refine jR (zc cells r _ x c h) (λh=>?_) λz=>c8 z λh e=>?_
   ·exact .inl h
   ·exact .inr ⟨ba _ h,e⟩
theorem ze(cells:List (Str×aL)):∀(names:List (Str×ix)) (di:List (Str×aL)) (p:Str×aL),p∈di->p∈lZ cells names di
 |[],di,p,h=>h
 |(n,k)::r,di,p,h=>by
  refine J Gm ?_
  split
  ·exact ze cells r _ p (ba _ h)
  ·exact ze cells r _ p h
theorem zd(cells:List (Str×aL)):∀(names:List (Str×ix)) (di:List (Str×aL)) (x:Str),(x,gc)∈names->∃c,(x,c)∈lZ cells names di
 |(n,k)::r,di,x,h=>by
  refine J Gm (jR (aM.mp h) (λh=>?_) λh=>?_)
  ·cases h
   exact J (bz (by rfl)) ⟨_,ze cells r _ _ bf⟩
  ·split
   ·exact zd cells r _ x h
   ·exact zd cells r _ x h
theorem mr:∀(names:List (Str×ix)) (m:Nat) (di Ak:List (Str×aL)),iX m names (di++Ak)=iX m names di++Ak
 |[],_,_,_=>rfl
 |(n,k)::r,m,di,Ak=>by
  unfold iX
  split
  ·exact rF (mr r ..) rfl
  ·exact mr r _ _ _
theorem pD:∀(names:List (Str×ix)) (m:Nat) (di:List (Str×aL)) (x:Str) (c:aL),(x,c)∈iX m names di->(x,c)∈di∨(x,jo)∈names
 |[],_,_,_,_,h=>.inl h
 |(n,k)::r,m,di,x,c,h=>by
  unfold iX at h
  split at h
  ·rename_i hk;refine jR (pD r _ _ x c h) (λh=>?_) λh=>?_
   ·refine jR (aM.mp h) (λh=>?_) λh=>?_
    ·cases h;exact .inr (J (aC.mp hk) bf)
    ·exact .inl h
   ·exact .inr (ba _ h)
  ·refine jR (pD r _ _ x c h) (λh=>?_) λh=>?_
   ·exact .inl h
   ·exact .inr (ba _ h)
theorem pE:∀(names:List (Str×ix)) (m:Nat) (di:List (Str×aL)) (p:Str×aL),p∈di->p∈iX m names di
 |[],_,_,_,h=>h
 |(n,k)::r,m,di,p,h=>by
  unfold iX
  split
  ·exact pE r _ _ p (ba _ h)
  ·exact pE r _ _ p h
theorem jp:∀(names:List (Str×ix)) (m:Nat) (di:List (Str×aL)) (x:Str),(x,jo)∈names->∃c,(x,c)∈iX m names di
 |(n,k)::r,m,di,x,h=>by
  unfold iX;refine jR (aM.mp h) (λh=>?_) λh=>?_
  ·cases h
   exact J (bz (by rfl)) ⟨_,pE r _ _ _ bf⟩
  ·split
   ·exact jp r _ _ x h
   ·exact jp r _ _ x h
theorem fc:∀{l:List (Str×α)} {x:Str} {c:α},(x,c)∈l->∃c',l.lookup x=Z c'
 |(y,d)::r,x,c,h=>by
  refine J gV ?_
  cases hb:x==y with
  |true=>exact⟨_,rfl⟩
  |false=>
   refine jR (aM.mp h) (λh=>?_) λh=>?_
   ·cases h;simp at hb
   ·exact fc h
def rq(scope:bj)(h:bq)(env:nJ):nJ:=compEnvC scope (iX (h.objs.size+1) scope.names (lZ env.cells scope.names [])) h.objs.size env
noncomputable def zi(scope:bj)(h:bq):bq:=pushCells (h.push {cls:=.type "dict",data:=.dict #[]}) scope.names
theorem PB{E:az->aK->Prop}{Q:nJ->aK->Prop}
 (hQ:Q {scope:=scope,locals:=s.heap.objs.size,globals:=env.globals,cells:=iX (s.heap.objs.size+1) scope.names cl,qual:=env.qual,func:=ae,code:=env.code,frame:=env.frame,builtins:=env.builtins} {s with heap:=zi scope s.heap}):
 aJ G.M A (GS scope env.globals cl [] env.qual ae .none (Z env)) Q E s:=by
 simp only[GS,Option.isSome_some,if_true];refine ai (wpAny_alloc ?_);refine ai (wpAny_layCells _ (λname kind cells=>by cases Z5:kind==jo<;>simp[Z5]) _ _ _ _ ?_);exact J (show({s with heap:=s.heap.push {cls:=.type "dict",data:=.dict #[]}}:aK).heap.objs.size=s.heap.objs.size+1 from pf ..) (ay hQ)
theorem lJ(h:kR scope sc=af):scope.kind=.function∧(∀q∈scope.names,scope.names.lookup q.1=Z q.2)∧(∀q∈scope.names,q.2=.free->nU sc q.1=af):=by
 unfold kR at h;simp only[bG,a9,aC,zR,cN,beq_eq_false_iff_ne]at h;exact⟨h.2.1.1,h.2.1.2,λq hq hf=>(h.2.2 q hq).resolve_left (by simp[hf])⟩
theorem nS(h:nU sc x=af):sc.names.lookup x=Z .cell∨sc.names.lookup x=Z .free:=by
 unfold nU at h;simpa using h
theorem tv{h:bq}:(rq scope h env).kindOf x=(scope.names.lookup x).map λk=>if(k==.free&&env.scope.kind==.function&&env.scope.names.lookup x==Z .cell)then .cell else k:=ux _ _ _
structure W8(env:nJ)(scope:bj)(h:bq):Prop where
 old:∀x c,(rq scope h env).cells.lookup x=Z c->((x,jo)∈scope.names∧h.objs.size+1<=c∧(zi scope h).IsCell c ae)∨((x,gc)∈scope.names∧env.cells.lookup x=Z c)
 has:∀x,(x,jo)∈scope.names∨(x,gc)∈scope.names->∃c,(rq scope h env).cells.lookup x=Z c
 apart:∀x y c,(rq scope h env).cells.lookup x=Z c->(rq scope h env).cells.lookup y=Z c->h.objs.size+1<=c->x=y
theorem Gs{h:bq}(Ek:dQ G env)(ok:kR scope env.scope=af)(jJ:∀x c,env.cells.lookup x=Z c->c<h.objs.size):W8 env scope h:=by
 refine eP (lJ ok) λk1 k2 k3=>?_;have hz:(h.push {cls:=.type "dict",data:=.dict #[]}).objs.size=h.objs.size+1:=pf ..;have Zi:=cellsFrom_ok scope.names (h.push {cls:=.type "dict",data:=.dict #[]}) (h.objs.size+1) [] ⟨λ_ _ hm=>(nomatch hm),abQ⟩ (J hz (aV _));rw[hz]at Zi;have ea:(rq scope h env).cells=iX (h.objs.size+1) scope.names []++lZ env.cells scope.names []:=mr scope.names _ [] _;have fr:∀q∈scope.names,q.2=.free->∃c,env.cells.lookup q.1=Z c:=λq hq hf=>Ek.cl q.1 (nS (k3 q hq hf))
 have cg:∀x c,(x,c)∈lZ env.cells scope.names []->(x,gc)∈scope.names∧env.cells.lookup x=Z c:=λx c hm=>by
  refine jR (zc _ _ _ _ _ hm) (λhm=>?_) λz=>c8 z λhm e=>?_
  ·cases hm
  ·refine bQ (fr _ hm rfl) λc' nQ=>?_;have nQ:env.cells.lookup x=Z c':=nQ;rw[nQ]at e;exact⟨hm,by exact J nQ (J e rfl)⟩
 have old:∀x c,(rq scope h env).cells.lookup x=Z c->((x,c)∈iX (h.objs.size+1) scope.names [])∨((x,gc)∈scope.names∧env.cells.lookup x=Z c):=λx c hc=>by
  have hm:=mem_of_lookup hc;rw[ea]at hm;exact(ez.mp hm).imp id (cg x c)
 refine⟨λx c hc=>(old x c hc).imp (λhm=>⟨(pD _ _ _ _ _ hm).resolve_left (by simp),(Zi.empty x c hm).2,(Zi.empty x c hm).1⟩) id,λx hx=>?_,λx y c hx hy hc=>?_⟩
 ·refine J ea (jR hx (λhx=>?_) λhx=>?_)
  ·exact bQ (jp scope.names (h.objs.size+1) [] x hx) λc hm=>fc (j6 _ hm)
  ·exact bQ (zd env.cells scope.names [] x hx) λc hm=>fc (jG _ hm)
 ·refine jR (old x c hx) (λhx=>?_) λz=>c8 z λ_ hx=>?_
  ·refine jR (old y c hy) (λhy=>?_) λz=>c8 z λ_ hy=>?_
   ·exact name_of_addr Zi.apart hx hy
   ·exact absurd (jJ _ _ hy) (dH.mpr (gA hc))
  ·exact absurd (jJ _ _ hx) (dH.mpr (gA hc))
theorem zh{h:bq}:∀b o,h.get? b=Z o->(zi scope h).get? b=Z o:=λb o e=>acD _ _ b o (eG _ e)
theorem FG(ok:kR scope sc=af)(hm:je (K4 scope sc)=af):je sc=af:=by
 have h1:je scope=af->je sc=af:=λh=>by
  unfold kR at ok;simp only[bG,zR,cN]at ok;exact ok.1.resolve_left (by refine J h ?_;simp)
 apply h1;unfold je at hm⊢;have e:(K4 scope sc).names.lookup ("table":Str)=_:=ux sc scope.names ("table":Str);rw[e]at hm
 cases hl:scope.names.lookup ("table":Str)with
 |none=>rw[hl]at hm;simp at hm
 |some k=>
  rw[hl]at hm
  cases k<;>first|rfl|(simp at hm)
theorem Q3{h:bq}(Ek:dQ G env)(ok:kR scope env.scope=af)(W:G.Wd h)(jJ:∀x c,env.cells.lookup x=Z c->c<h.objs.size):dQ G (rq scope h env):=by
 have C:=Gs Ek ok jJ;refine eP (lJ ok) λk1 k2 k3=>⟨k1,W.sz,λx c hc=>?_,λx hx=>?_,Ek.glob,Ek.bui,λx y c hx hy=>?_,λhm=>?_⟩
 ·refine jR (C.old x c hc) (λz=>eP z λ_ h1 _=>?_) λz=>c8 z λ_ h1=>?_
  ·exact aj W.sz (gA h1)
  ·exact Ek.co x c h1
 ·rw[tv]at hx;apply C.has
  cases e:scope.names.lookup x with
  |none=>rw[e]at hx;simp at hx
  |some k=>
   rw[e]at hx;simp only[gw,lg]at hx;have hm:=mem_of_lookup e
   split at hx
   ·rename_i hc;simp only[bG,aC]at hc;rw[hc.1.1]at hm;exact .inr hm
   ·rcases hx with rfl|rfl
    ·exact .inl hm
    ·exact .inr hm
 ·refine jR (C.old x c hx) (λz=>eP z λ_ h1 _=>?_) λz=>c8 z λ_ h1=>?_
  ·exact C.apart x y c hx hy h1
  ·refine jR (C.old y c hy) (λz=>eP z λ_ h2 _=>?_) λz=>c8 z λ_ h2=>?_
   ·exact C.apart x y c hx hy h2
   ·exact Ek.apart x y c h1 h2
 ·refine Ek.ZH ((FG ok hm))
theorem Q2{h:bq}(Ek:dQ G env)(ok:kR scope env.scope=af)(W:G.Wd h)(S:SR G env O a ρ h):SR G (rq scope h env) O a (Oq scope env.scope ρ) (zi scope h):=by
 have jJ:∀x c,env.cells.lookup x=Z c->c<h.objs.size:=λx c hc=>by refine bQ (S.cells x c hc) λv v1=>?_;exact bh v1 λo e _=>aZ e
 have C:=Gs Ek ok jJ;refine eP (lJ ok) λk1 k2 k3=>?_
 have hO:∀c,h.objs.size<=c->¬O c:=λc hc hO=>by
  exact bh (S.al c hO) λo e _=>absurd (aZ e) (dH.mpr hc)
 refine bh S.ns λm hn f=>?_;have K:=zh (scope:=scope) (h:=h);refine⟨⟨λ_=>ae,(Heap.Ns.new h (.type "dict")).keeps (acD _ _),λp hp=>?_⟩,λx c hc=>?_,λb hb=>?_,λb hb=>?_,hO _ (aV _),λx c hc=>?_⟩
 ·skip
  refine c8 (cZ.mp hp) λhp hq=>?_;simp only[bG,aC,cN,beq_eq_false_iff_ne]at hq;refine c8 hq λz1 q3=>c8 z1 λq1 q2=>?_;obtain⟨nd,okp⟩:=f p hp;have q2':=nS q2
  have lk:∀v,n0 env h m p.1 v->n0 (rq scope h env) (zi scope h) (λ_=>ae) p.1 v:=λv l=>by
   rcases l with⟨l,_⟩|⟨l1,l2,c,l3,l4⟩
   ·have l:env.scope.names.lookup p.1=Z .local:=l;rw[l]at q2';rcases q2' with z|z<;>cases z
   ·refine .inr ⟨?_,l2,c,?_,l4.keeps K⟩
    ·refine J tv (J q1 ?_);simp only[gw,lg]
     split
     ·exact .inl rfl
     ·exact .inr rfl
    ·refine bQ (C.has p.1 (.inr (mem_of_lookup q1))) λc' nQ=>?_
     rcases C.old p.1 c' nQ with⟨h1,_⟩|⟨_,h1⟩
     ·have:=k2 _ h1;rw[q1]at this;cases this
     ·rw[h1]at l3;cases l3;exact nQ
  refine⟨nd,?_⟩;obtain⟨x,b⟩:=p
  induction b using Internal.jS.casesOn with
  |val d=>refine bh okp λv l r=>?_;exact⟨v,lk v l,r.mono (λb o e _ _=>K b o e) λ_ _ e=>e⟩
  |own ds=>refine dn okp λl vs l1 l2 v7 l4=>?_;refine bQ v7 λc l3=>?_;exact⟨l,vs,lk _ l1,l2,⟨c,K _ _ l3⟩,l4.mono (λb o e _ _=>K b o e) λ_ _ e=>e⟩
  |fn K' T f' n'=>
   refine gM okp λv l t F=>⟨v,lk v l,F.next t (λb o _ e=>K b o e) F.nO λb hb=>?_⟩;refine bh (F.al b hb) λo e _=>?_;have D1:=aZ e;refine⟨λhq=>du D1 hq,λy hk hy=>?_⟩
   rcases C.old y b hy with⟨_,h1,_⟩|⟨hfm,h1⟩
   ·exact absurd D1 (dH.mpr (gA h1))
   ·refine(F.nF b hb).2 y ?_ h1;have hm:=‹(y,gc)∈scope.names›;rw[tv,k2 _ hm]at hk;simp only[gw,lg]at hk
    split at hk
    ·rename_i hc;simp only[bG,aC]at hc;exact hc.2
    ·cases hk
 ·rcases C.old x c hc with⟨_,_,h1⟩|⟨_,h1⟩
  ·exact⟨_,h1⟩
  ·exact bQ (S.cells x c h1) λv hv=>⟨v,hv.keeps K⟩
 ·exact bh (S.al b hb) λo e nc=>⟨o,K b o e,nc⟩
 ·exact c8 (S.ow b hb) λh1 z1=>bQ z1 λvs v9=>bQ v9 λc e=>⟨h1,vs,c,K _ _ e⟩
 ·rcases C.old x c hc with⟨_,h1,_⟩|⟨_,h1⟩
  ·exact hO c (gA h1)
  ·exact S.nc x c h1
theorem Q4{h:bq}(Ek:dQ G env)(ok:kR scope env.scope=af)(jJ:∀x c,env.cells.lookup x=Z c->c<h.objs.size){b:aL}(hb:Fr scope (rq scope h env) b):h.objs.size<=b:=by
 rcases hb with rfl|⟨y,hy,hc⟩
 ·exact aV _
 ·refine eP (lJ ok) λk1 k2 k3=>?_
  rcases(Gs Ek ok jJ).old y b hc with⟨_,h1,_⟩|⟨h1,_⟩
  ·exact gA h1
  ·have:=k2 _ h1;refine c8 (ic hy) λz _=>?_;rw[this]at z
   rcases z with z|z<;>cases z
theorem Np{h:bq}:∀x,g0 scope x=af->(rq scope h env).kindOf x=Z .local∨(rq scope h env).kindOf x=Z .cell:=λx hx=>by
 refine c8 (ic hx) λz _=>J tv ?_;refine jR z (λz=>?_) λz=>?_<;>rw[z]
 ·exact .inl rfl
 ·exact .inr rfl
def oF(G:Gd)(n:Nat)(sc:bj)(env:nJ)(iw:aG)(gens:List cM)(scope:bj)(pos:eL)(depth:Nat)(ρ:aE)(xs:List D)(sW:aG->Bool)(lm:D->List D):Prop:=
 ∀(A:dZ) (O:aL->Prop) (a:Option aL) (di ac:aL) (fp wr:List aL) (Src:bq->Prop) (St:Nat->bq->Prop) (mR:List D) (s:aK) (R:Result->aK->Prop),g9 A n->dQ G env->(∀x,g0 sc x=af->env.kindOf x=Z .local∨env.kindOf x=Z .cell)->
  Lv G sc env ρ O a di ac fp wr xs sW Src St mR s->mR.length+(xs.flatMap lm).length<=16777216->
  (∀s',G.Kq (λb=>Fr sc env b∨b=di∨b∈wr) s s'->(∀O₁:aL->Prop,(∀b,O₁ b->O b∧b∉wr)->SR G env O₁ a ρ s'.heap)->(∃vs,s'.heap.PlainList di vs∧bb s'.heap (Ow O a) vs.toList (mR++xs.flatMap lm))->R (.ok .next) s')->
  jN G.M A (.compStart (.ListComp iw gens scope pos) depth (.ref ac) (.ref di) env) R s
theorem oF.last(hg:gens[depth]?=Z ⟨bR,iter,rz,0⟩)(hn:gens[depth+1]?=ae)(ht:sW bR=af)(Ov:∀p∈ρ,p.1∉tn k bR)
 (step:∀d∈xs,∃ρ',nV sc k bR d ρ=Z ρ'∧((mS G n env ρ' rz ag∧lm d=[])∨(mS G n env ρ' rz af∧∃y,Ev G n env ρ' iw y∧lm d=[y]))):oF G n sc env iw gens scope pos depth ρ xs sW lm:=
 λA O a di ac fp wr Src St mR s R Rm Ek jm L hz hR=>FI hg hn lm Rm Ek jm L ht Ov hz step hR
theorem oF.more{vf oZ:aG}{Mf:List aG}(hg:gens[depth]?=Z ⟨bR,iter,rz,0⟩)(hn:gens[depth+1]?=Z ⟨vf,oZ,Mf,0⟩)(ht:sW bR=af)(Ov:∀p∈ρ,p.1∉tn k bR)
 (hs:∀x,gJ oZ env x=pure x)
 (step:∀d∈xs,∃ρ',nV sc k bR d ρ=Z ρ'∧((mS G n env ρ' rz ag∧lm d=[])∨(mS G n env ρ' rz af∧∃ys Ud K2,tz G n env ρ' oZ ys Ud af∧oF G n sc env iw gens scope pos (depth+1) ρ' ys Ud K2∧lm d=ys.flatMap K2))):oF G n sc env iw gens scope pos depth ρ xs sW lm:=by
 intro A O a di ac fp wr Src St mR s R Rm Ek jm L hz hR
 have N1:jN G.M A (.compLoop (.ListComp iw gens scope pos) depth (.ref ac) (.ref di) env) R s:=by
  refine ro hg hn _ (A0 (Inn:=λQ s=>aJ G.M A (eval oZ env) (λx s5=>aJ G.M A (gJ oZ env x) (λx s6=>aJ G.M A (sP x) (λit2 s7=>
   jN G.M A (.compStart (.ListComp iw gens scope pos) (depth+1) it2 (.ref di) env) (λr s8=>(∃f,r=.ok f)∧Q s8) s7) cW s6) cW s5) cW s) (λP Q s h x=>?_) lm Rm Ek jm L.wk ht L.wO L.wlo L.hO L.lo L.fa L.fr Ov hz (λd hd=>?_) hR) _
   ⟨0,dW _,rfl,⟨(Gd.Kx.refl L.wd).kq,L.sr,L.st,L.src,by simpa using L.ls⟩⟩
  ·exact ar x (λ_ _ y=>ar y (λ_ _ y=>ar y (λ_ _ y=>codeAny_mono y λr s8 z=>⟨z.1,h s8 z.2⟩) λ_ _ y=>y) λ_ _ y=>y) λ_ _ y=>y
  ·refine bh (step d hd) λρ' h1 cs=>⟨ρ',h1,cs.imp (λx=>x) λ⟨x,ys,Ud,K2,hi,hr,e⟩=>⟨x,λs vs ds W S hl r hz=>?_⟩⟩;rw[e]at hz⊢;refine ar (hi A s O a Rm Ek W S) (λx s1 h1=>CH (hs x) (ar h1 (λit s2 h2=>?_) λ_ _ y=>y)) λ_ _ y=>y;refine c8 h2 λkx v1=>ni v1 λI2 fp2 TQ aix St2 hb jE g1 g2 g3 g4 g5 g6 g7=>?_;subst jE
   have fresh:∀b∈TQ,s.heap.get? b=ae:=λb hb=>by
    cases e:s.heap.get? b with
    |none=>rfl|some o=>have:=g2 b (J e rfl);rw[(g3 b hb).1]at this;exact ff this
   have XZ:∀b,Ow (λb=>O b∨b∈TQ) a b->Ow O a b∨hb.get? b=ae:=λb h=>by
    rcases h with(h|h)|h
    ·exact .inl (.inl h)
    ·exact .inr (g3 b h).1
    ·exact .inl (.inr h)
   refine c8 (g7 (Ow (λb=>O b∨b∈TQ) a) (λb h=>h.elim (λh=>.inl (.inl h)) .inr) (λb h=>.inl (.inr h)) XZ) λwk O4=>?_;have S2:=S.kx W kx;have fO:∀b,O b->b∉TQ:=λb h h2=>by refine bh (S.al b h) λ_ this _=>?_;rw[fresh b h2]at this;exact bK this
   have ft:∀b∈TQ,∃o,s2.heap.get? b=Z o∧NC o:=wk.live 0 _ g6;refine hr A (λb=>O b∨b∈TQ) a di I2 fp2 TQ (aix _) St2 ds s2 _ Rm Ek jm ⟨wk,λb h=>.inr h,λb h=>(g3 b h).2,.inl L.hO,L.lo,λh=>g5 rfl di h (.inl L.hO),λb h=>(g4 b h).DG Ek S2,kx.wd,?_,g6,O4,vs,gL W kx.ke hl,?_⟩ hz ?_
   ·exact S.wide W kx (λb h=>h.imp id (fresh b)) λb h=>h.elim (λh=>S2.al b h) (ft b)
   ·exact r.mono (λb o e ⟨_,_,hd⟩ _=>kx.ke b o e (W.md e hd)) λb D1 hn ho=>by
     rcases ho with(ho|ho)|ho
     ·exact hn (.inl ho)
     ·rw[fresh b ho]at D1;exact ff D1
     ·exact hn (.inr ho)
   ·intro s' kq sr' ⟨ma,vZ,r'⟩;refine⟨⟨_,rfl⟩,(kx.kq.trans kq).mono λb h hs=>?_,sr' O λb h=>⟨.inl h,fO b h⟩,ma,vZ,r'.mono (λ_ _ e _ _=>e) λb _ h=>?_⟩
    ·refine x6 h (λh=>?_) (λh=>?_) λh=>?_
     ·exact .inl h
     ·exact .inr h
     ·rw[fresh b h]at hs;exact ff hs
    ·exact λz=>h (z.elim (λz=>.inl (.inl z)) .inr)
 exact mP hg N1 (L.wk.self A 0 s _ _ Rm.handled L.st N1)
theorem zb{p:eL}{st:Bool}{use:Option (az->EL Unit)}
 (Rm:g9 A n) (Ek:dQ G env) (W:G.Wd s.heap) (S:SR G env O a ρ s.heap) (ok:kR scope env.scope=af) (hs:∀x,gJ iter env x=pure x) (hi:tz G n env ρ iter xs sW st) (hz:(xs.flatMap lm).length<=16777216)
 (hg:∀h:bq,oF G n scope (rq scope h env) iw (⟨bR,iter,rz,0⟩::fG) scope pos 0 (Oq scope env.scope ρ) xs sW lm)
 (hQ:∀di C s' vs,G.Kx s s'->s.heap.get? C=ae->s.heap.get? di=ae->G.H.objs.size<=C->G.H.objs.size<=di->(∃m,s'.heap.Ns C m)->s'.heap.PlainList di vs->bb s'.heap (λb=>Ow O a b∨b=di) vs.toList (xs.flatMap lm)->compPost G.M A cW use Q (.ref di) C (.ok .next) s'):
 aJ G.M A (comprehension (.ListComp iw (⟨bR,iter,rz,0⟩::fG) scope pos) scope env p (newList []) ag (eval iter env) use) Q cW s:=by
 refine eP (lJ ok) λk1 k2 k3=>?_;have fr:∀q∈scope.names,q.2=.free->∃c,env.cells.lookup q.1=Z c:=λq hq hf=>Ek.cl q.1 (nS (k3 q hq hf));refine wpAny_comprehension_free rfl hs (ug fr) k1 (λx hx hl=>by exact J (k2 x hx) (J hl rfl)) ?_;refine ar (hi A s O a Rm Ek W S) (λx s1 h1=>ar h1 (λit s2 h2=>?_) λ_ _ y=>y) λ_ _ y=>y;refine c8 h2 λkx v3=>ni v3 λac fp wr Src St hb sE g1 g2 g3 g4 g5 g6 g7=>?_;subst sE;refine dN (PB ?_);have W2:=kx.wd;have S2:=S.kx W kx;generalize hH3:s2.heap.push {cls:=.type "list",dict:=ae,data:=.seq ([]:List az).toArray}=H3;have ZJ:∀b o,s2.heap.get? b=Z o->H3.get? b=Z o:=λb o e=>hH3▸bL _ b o e;have zH3:H3.objs.size=s2.heap.objs.size+1:=by exact rF hH3 (J (pf ..) rfl)
 have z9:H3.PlainList s2.heap.objs.size #[]:=⟨_,hH3▸bc _ rfl⟩;have W3:G.Wd H3:=W2.keeps ZJ
 have below:∀b,(s.heap.get? b).isSome->b<s2.heap.objs.size:=λb h=>by
  exact bQ (aW.mp (kx.ex b h)) λo e=>aZ e
 have DF:∀b,s2.heap.objs.size<=b->s.heap.get? b=ae:=λb hb=>by
  cases e:s.heap.get? b with
  |none=>rfl|some o=>exact absurd (below b (J e rfl)) (dH.mpr hb)
 have VQ:∀b,s2.heap.objs.size<=b->hb.get? b=ae:=λb D1=>by
  cases e:hb.get? b with
  |none=>rfl
  |some o=>
   exact bQ (aW.mp (g1 b (J e rfl))) λo' e'=>absurd (aZ e') (dH.mpr D1)
 have fresh:∀b∈wr,s.heap.get? b=ae:=λb D1=>by
  cases e:s.heap.get? b with
  |none=>rfl|some o=>have:=g2 b (J e rfl);rw[(g3 b D1).1]at this;exact ff this
 have alL:∀O':aL->Prop,Wk G O' ac fp wr xs sW (Src O') St->∀b∈wr,b<s2.heap.objs.size:=λO' wk b h=>by
  exact bh (g4 b (wk.sub b h)) λo e _=>aZ e
 generalize XZ:(λb=>O b∨b=s2.heap.objs.size∨b∈wr)=O2;have e2:∀b,O2 b↔(O b∨b=s2.heap.objs.size∨b∈wr):=λb=>by rw[←XZ]
 refine c8 (g7 (Ow O2 a) (λb h=>h.elim (λh=>.inl ((e2 b).mpr (.inl h))) .inr) (λb h=>.inl ((e2 b).mpr (.inr (.inr h)))) (λb h=>by
  rcases h with h|h
  ·refine x6 ((e2 b).mp h) (λh=>?_) (λh=>?_) λh=>?_
   ·exact .inl (.inl h)
   ·exact .inr (VQ b (J h (aV _)))
   ·exact .inr (g3 b h).1
  ·exact .inl (.inr h))) λwk O4=>?_
 have Yb:Al H3 O2:=λb h=>by
  rcases(e2 b).mp h with h|rfl|h
  ·exact bh (S2.al b h) λo e nc=>⟨o,ZJ b o e,nc⟩
  ·exact bQ z9 λc e=>⟨_,e,.seq rfl⟩
  ·exact bh (wk.live 0 _ g6 b h) λo e nc=>⟨o,ZJ b o e,nc⟩
 have S3:SR G env O2 a ρ H3:=by
  refine SR.wide (s':={s2 with heap:=H3}) S W (kx.trans (Gd.Kx.of (tk:=s2.toks) W2 ZJ)) (λb h=>?_) Yb
  rcases(e2 b).mp h with h|rfl|h
  ·exact .inl h
  ·exact .inr (DF _ (aV _))
  ·exact .inr (fresh b h)
 have jJ:∀x c,env.cells.lookup x=Z c->c<H3.objs.size:=λx c hc=>by refine bQ (S3.cells x c hc) λv v9=>?_;exact bh v9 λo e _=>aZ e
 have aow:∀x c,env.cells.lookup x=Z c->c<s2.heap.objs.size:=λx c hc=>by refine bQ (S2.cells x c hc) λv v11=>?_;exact bh v11 λo e _=>aZ e
 have k4:=zh (scope:=scope) (h:=H3);have VL:∀b,Fr scope (rq scope H3 env) b->H3.objs.size<=b:=λb h=>Q4 Ek ok jJ h;have kA:∀b o,s2.heap.get? b=Z o->(zi scope H3).get? b=Z o:=λb o e=>k4 b o (ZJ b o e);refine hg H3 A O2 a s2.heap.objs.size ac fp wr (Src _) St [] {s2 with heap:=zi scope H3,toks:=s2.toks} _ Rm (Q3 Ek ok W3 jJ) Np ⟨wk,λb h=>(e2 b).mpr (.inr (.inr h)),λb h=>(g3 b h).2,(e2 _).mpr (.inr (.inl rfl)),W2.sz,λh=>?_,λb h hf=>?_,W3.keeps k4,Q2 Ek ok W3 S3,?_,?_,#[],?_,bb.nil⟩ (by simpa using hz) ?_
 ·exact bh (g4 _ h) λo e _=>eA _ (aZ e)
 ·exact bh (g4 _ h) λo e _=>absurd (aZ e) (dH.mpr (aj (by exact J zH3 (km _)) (VL b hf)))
 ·exact wk.frame 0 _ _ g6 λb _ o e=>kA b o e
 ·exact wk.src _ _ O4 λb o e _ _=>kA b o e
 ·exact bQ z9 λc e=>⟨c,k4 _ _ e⟩
 ·intro s' kq sr' ⟨vs,hl,r⟩;rw[oh]at r
  have hkx:G.Kx s s':=((kx.trans (Gd.Kx.of (tk:=s2.toks) W2 kA)).kq.trans kq).kx λb h=>by
   refine x6 h (λh=>?_) (λh=>?_) λh=>?_
   ·exact DF b (aj (by exact J zH3 (km _)) (VL b h))
   ·exact J h (DF _ (aV _))
   ·exact fresh b h
  refine bh ((sr' (λb=>False) λb h=>h.elim).ns) λm hn _=>hQ _ H3.objs.size s' vs hkx (DF _ (J zH3 (km _))) (DF _ (aV _)) W3.sz W2.sz ⟨m,hn⟩ hl (r.mono (λ_ _ e _ _=>e) λb _ h ho=>h ?_)
  rcases ho with(ho|ho)|ho
  ·exact .inl ((e2 b).mpr (.inl ho))
  ·exact .inr ho
  ·exact .inl ((e2 b).mpr (.inr (.inl ho)))
theorem Gd.Kx.same(x:G.Kx s s'){C:aL}(hC:s.heap.get? C=ae)(Oy:G.H.objs.size<=C)(sb:d7 C s'.heap h')(Z1:∀o,s'.heap.get? C=Z o->NC o):G.Kx s {s' with heap:=h'}:=by
 refine bV x λh1 t1 qe k1 w1=>?_;subst qe;exact⟨h',t1,rfl,λb o e ht=>by exact J (sb.2 b λh=>by rw[h,hC]at e;exact bK e) (k1 b o e ht),w1.same Oy sb Z1⟩
theorem yv{h:bq}{C b:aL}{m:Str->Option az}(hn:h.Ns C m){o:Aw}(e:h.get? b=Z o){vs:Array az}(hd:o.data=.seq vs k):b≠C:=λhb=>by
 refine jz hn λo' es ep e' CE _=>?_;rw[hb,e']at e;cases e;rw[CE]at hd;cases hd
theorem Ev.comp{st:Bool}(ok:kR scope env.scope=af)(hs:∀x,gJ iter env x=pure x)(hi:tz G n env ρ iter xs sW st)(hz:(xs.flatMap lm).length<=16777216)
 (hg:∀h:bq,oF G n scope (rq scope h env) iw (⟨bR,iter,rz,0⟩::fG) scope pos 0 (Oq scope env.scope ρ) xs sW lm):
 Ev G n env ρ (.ListComp iw (⟨bR,iter,rz,0⟩::fG) scope pos) (.list (xs.flatMap lm)):=λA s O a Rm Ek W S=>by
 refine J (eval_ListComp ..) (zb (use:=ae) Rm Ek W S ok hs hi hz hg λdi C s' vs kx hC z9 lz loA hn hl r=>bQ hn λm hn=>⟨m,hn,λh' sb=>⟨kx.same hC lz sb (NC.ns hn),?_⟩⟩);have ks:∀b o,s'.heap.get? b=Z o->(∃vs n,o.data=.seq vs n)->h'.get? b=Z o:=λb o e ⟨_,_,hd⟩=>by exact J (sb.2 b (yv hn e hd)) e
 refine⟨di,vs,rfl,λh=>?_,?_,r.mono (λb o e hd _=>ks b o e hd) λb _ h h'=>h (.inl h')⟩
 ·refine bh (S.oM di h) λ_ this _=>?_;rw[z9]at this;exact bK this
 ·exact bQ hl λc e=>⟨c,ks _ _ e ⟨_,_,rfl⟩⟩
theorem Ev.cStr{i:Str}:Ev G n env ρ (.Constant (.str i) k pos) (.str i):=λA s O a R Ek W S=>
 wpAny_Constant_str ⟨Gd.Kx.tok W,jy⟩
noncomputable def L9:aG->Bool
 |.Name .. |.Constant .. =>af
 |_=>ag
theorem wc.Px(h:wc G n env ρ es ds):(gv pos (dq es env)).all (!·.1)=af:=by
 have:=h.noStar (pos:=pos);rw[xy]at this;rw[a9];intro x hx;simpa using this x hx
theorem BP{o:aG}{name:Str}(h:wc G n env ρ es ds)(ho:L9 o=af)(hl:(ju.endLine==pos.line)=af)(hn:es.length<30):eval (.Call (.Attribute o name ju) es [] pos) env=(do
 let ov←iD o env
 rO ju.atName
 let(f,first)←jq [ov] (tQ ov name (do return (←importBound o env).getD af))
 nk pos f first (gv pos (dq es env)) []):=by
 have hf:methodCallForm (es.length+([]:List Tv).length) (gv pos (dq es env)) (backToKw pos (keywordEach [] env))=af:=by
  unfold methodCallForm;refine J h.Px ?_;show(af&&af&&ah (es.length+0+0<30))=af;exact J (aq (by omega)) rfl
 have hb:attributeBase o name env (eval o env)=eval o env:=by
  induction o using bC<;>first|rfl|(exfalso;exact dP ho)
 show(do
  let ov←attributeBase o name env (eval o env)
  rO ju.atName
  methodCall o name ju pos env ov (es.length+([]:List Tv).length) (gv pos (dq es env)) (backToKw pos (keywordEach [] env)))=_
 refine J hb ?_;unfold methodCall;refine J hf ?_;unfold calleeOf methodCallPos;refine J (bz (show(!af||ju.endLine==pos.line)=af from hl)) ?_
 rfl
theorem Ev.Zp{o:aG}{name:Str}(h1:rf G n env ρ o d1)(h:wc G n env ρ es ds)(ho:L9 o=af)(hl:(ju.endLine==pos.line)=af)(hn:es.length<30)
 (hm:∀(A:dZ) (s:aK) (O:aL->Prop) (v:az) (pl:EL Bool) (Q:az×List az->aK->Prop),G.Wd s.heap->gu s.heap O v d1->Q (.builtin id,[v]) s->aJ G.M A (tQ v name pl) Q cW s)
 (A6:∀(s:aK) (O:aL->Prop) (v:az) (vs:List az),G.Wd s.heap->Al s.heap O->gu s.heap O v d1->iz s.heap O vs ds->Op G n O s (dE (.builtin id) (v::vs)) d):
 Ev G n env ρ (.Call (.Attribute o name ju) es [] pos) d:=Ev.afj h1 h hm A6 _ (BP h ho hl hn)
structure EA(G:Gd)(n:Nat)(name:Str)(d1:D)(ds:List D)(d:D):Prop where
 ex:∃id:String,(∀(A:dZ) (s:aK) (O:aL->Prop) (v:az) (pl:EL Bool) (Q:az×List az->aK->Prop),G.Wd s.heap->gu s.heap O v d1->Q (.builtin id,[v]) s->aJ G.M A (tQ v name pl) Q cW s)∧
  (∀(s:aK) (O:aL->Prop) (v:az) (vs:List az),G.Wd s.heap->Al s.heap O->gu s.heap O v d1->iz s.heap O vs ds->Op G n O s (dE (.builtin id) (v::vs)) d)
theorem wC{name:Str}(GL:Slot "str" name id)(Vx:typeOf (.builtin id)=pure (.type "method_descriptor")):∀(A:dZ) (s:aK) (O:aL->Prop) (v:az) (pl:EL Bool) (Q:az×List az->aK->Prop),G.Wd s.heap->gu s.heap O v (.str x)->Q (.builtin id,[v]) s->aJ G.M A (tQ v name pl) Q cW s:=λA s O v pl Q W r h=>by
 refine bQ r.str λt jE=>?_;subst jE;exact Ap (jg _ _ _) F.plainAttrs_str GL Vx (λa e=>by cases e) h
theorem Qf{name:Str}{x:List D}(GL:Slot "list" name id)(Vx:typeOf (.builtin id)=pure (.type "method_descriptor")):∀(A:dZ) (s:aK) (O:aL->Prop) (v:az) (pl:EL Bool) (Q:az×List az->aK->Prop),G.Wd s.heap->gu s.heap O v (.list x)->Q (.builtin id,[v]) s->aJ G.M A (tQ v name pl) Q cW s:=λA s O v pl Q W r h=>by
 refine bV r.list λl vs qe v4 _=>?_;subst qe;exact bQ v4 λk e=>Ap (T:="list") ⟨_,e,rfl⟩ F.plainAttrs_list GL Vx (λa e'=>by cases e';exact⟨_,e,rfl⟩) h
theorem EA.startswith:EA G n "startswith" (.str x) [.str y] (.bool (mx x y)):=⟨_,wC F.slot_str_startswith F.type_str_startswith,λs O v vs W al r1 r A R=>by
 refine bQ r1.str λt vJ=>?_;subst vJ;refine bh r.one λv2 y0 r2=>?_;subst y0;refine bQ r2.str λu Ac=>?_;subst Ac;exact Xp F.slot_str_startswith (jg _ _ _) F.entry_str_startswith (F.args_str_startswith_2 _ _) (gives_str_startswith x y t u) ⟨Gd.Kx.refl W,eB⟩⟩
theorem EA.endswith:EA G n "endswith" (.str x) [.str y] (.bool (oS x y)):=⟨_,wC F.slot_str_endswith F.type_str_endswith,λs O v vs W al r1 r A R=>by
 refine bQ r1.str λt M4=>?_;subst M4;refine bh r.one λv2 Gh r2=>?_;subst Gh;refine bQ r2.str λu M3=>?_;subst M3;exact Xp F.slot_str_endswith (jg _ _ _) F.entry_str_endswith (F.args_str_endswith_2 _ _) (gives_str_endswith x y t u) ⟨Gd.Kx.refl W,eB⟩⟩
noncomputable def kF(x y:Str)(i j:Int):Int:=match dz x y (gI x.length i) (min (gI x.length j) x.length) 1 with|k::_=>(k:Int)|[]=>-1
theorem D2(x y:Str)(i j:Int)(t u v w:Xr):Gives («str.find» ⟨[.str x t,.str y u,.int i v,.int j w],[]⟩) (.int (kF x y i j)):=by
 show Gives (match dz x y (gI x.length i) (min (gI x.length j) x.length) 1 with|k::_=>retInt k|[]=>(do rule "str.find.not-found";retInt (-1))) _;unfold kF
 cases dz x y (gI x.length i) (min (gI x.length j) x.length) 1 with
 |nil=>exact .rule (.of_eq rfl)|cons k r=>exact .of_eq rfl
theorem EA.find{i j:Int}:EA G n "find" (.str x) [.str y,.int i,.int j] (.int (kF x y i j)):=⟨_,wC F.slot_str_find F.type_str_find,λs O v vs W al r1 r A R=>by
 refine bQ r1.str λt Ej=>?_;subst Ej;refine g8 r.three λv2 v3 v4 JG z1=>eP z1 λr2 r3 r4=>?_;subst JG;refine bQ r2.str λu M2=>?_;subst M2;refine bQ r3.int λw1 Wp=>?_;subst Wp;refine bQ r4.int λw2 Gg=>?_;subst Gg;exact Xp F.slot_str_find (jg _ _ _) F.entry_str_find (F.args_str_find_4 _ _ _ _) (D2 x y i j t u w1 w2) ⟨Gd.Kx.tok W,dJ⟩⟩
theorem EA.bits{i:Int}:EA G n "bit_length" (.int i) [] (.int (ak i)):=⟨_,λA s O v pl Q W r h=>by
 refine bQ r.int λt M1=>?_;subst M1
 exact getMethod_int_bit_length h,λs O v vs W al r1 r A R=>by
 refine bQ r1.int λt JF=>?_;subst JF
 induction vs using aA with
 |nil=>exact call_int_bit_length ⟨Gd.Kx.tok W,dJ⟩|cons _ _=>exact r.elim⟩
theorem AK{h:bq}:∀{xs:List Str} {vs:List az},bb h O vs (xs.map .str)->∃l:List (Str×Xr),vs=strValues l∧l.map (·.1)=xs
 |[],vs,r=>by exact J (cV r) ⟨[],rfl,rfl⟩
 |x::xs,vs,r=>by
  refine bV r.inv λv ma JE r1 r2=>?_;subst JE;refine bQ r1 λt JD=>?_;subst JD;refine bh (AK r2) λl JC e=>?_;subst JC;exact⟨(x,t)::l,rfl,by exact J aR (J e rfl)⟩
theorem EA.join{xs:List Str}(hz:EZ (xs.toArray.foldl (·+·.length+x.length) 0)=ag)(Vu:(CJ x xs).length<=16777216):EA G n "join" (.str x) [.list (xs.map .str)] (.str (CJ x xs)):=⟨_,wC F.slot_str_join F.type_str_join,λs O v vs W al r1 r A R=>by
 refine bQ r1.str λt QG=>?_;subst QG;refine bh r.one λv2 JB r2=>?_;subst JB;obtain⟨l,ws,rfl,hl,r⟩:=r2.list;obtain⟨ps,e,hp⟩:=AK r;have e':ws=(strValues ps).toArray:=by exact rF e rfl
 subst e';subst hp;refine gR F.slot_str_join (jg _ _ _) F.entry_str_join (F.args_str_join_2 _ _) (meets_str_join_list x t l ps hz) ⟨hl.isList,?_⟩;clear r2 e r
 rcases ps with _|⟨p,_|⟨q,ps⟩⟩
 ·exact⟨by exact J cC Vu,Gd.Kx.tok W,jy⟩
 ·have hp:CJ x [p.1]=p.1:=by simp[CJ]
  show _∧jT _ _ _ (.str (CJ x [p.1]));exact J hp ⟨Gd.Kx.tok W,jy⟩
 ·exact⟨by exact J cC Vu,Gd.Kx.tok W,jy⟩⟩
noncomputable def j9(x y:Str):List Str:=
 if(ah (x.length<y.length)||ah (strKind x<strKind y))=af then[x]
 else if(dz x y 0 x.length (x.length+1)).isEmpty=af then[x]else fy x (dz x y 0 x.length (x.length+1)) y.length
theorem pj{h:bq}:∀(xs:List Str) (k:Nat),bb h O (strsFrom k xs) (xs.map .str)
 |[],_=>bb.nil
 |x::xs,k=>bb.cons jy (pj xs (k+1))
theorem EA.split(hy:(y.length==0)=ag)(hx:x.length<=16777216)(hz:(fy x (dz x y 0 x.length (x.length+1)) y.length).length<=16777216):EA G n "split" (.str x) [.str y] (.list ((j9 x y).map .str)):=⟨_,wC F.slot_str_split F.type_str_split,λs O v vs W al r1 r A R=>by
 refine bQ r1.str λt jE=>?_;subst jE;refine bh r.one λv2 sE r2=>?_;subst sE;refine bQ r2.str λu qe=>?_;subst qe;unfold j9;have one:∀t,jT (s.heap.push {cls:=.type "list",data:=.seq [Value.str x t].toArray}) O (.ref s.heap.objs.size) (.list ([x].map .str)):=λt=>jI al (bb.cons jy bb.nil)
 by_cases h1:(ah (x.length<y.length)||ah (strKind x<strKind y))=af
 ·exact J (bz h1) (gR F.slot_str_split (jg _ _ _) F.entry_str_split (F.args_str_split_2 _ _) (EK x y t u h1) ⟨Gd.Kx.of (tk:=s.toks) W (bL _),one t⟩)
 ·refine J (bF h1) ?_
  by_cases h2:(dz x y 0 x.length (x.length+1)).isEmpty=af
  ·exact J (bz h2) (gR F.slot_str_split (jg _ _ _) F.entry_str_split (F.args_str_split_2 _ _) (Im x y t u (by simpa using h1) hy h2) ⟨Gd.Kx.of (tk:=s.toks) W (bL _),one t⟩)
  ·refine J (bF h2) ?_
   exact gR F.slot_str_split (jg _ _ _) F.entry_str_split (F.args_str_split_2 _ _) (Tp x y t u (by simpa using h1) hy (by simpa using h2) (J cC hx) (J cC hz))
    ⟨Gd.Kx.of W (bL _),jI al (pj _ _)⟩⟩
theorem qC{h:bq}:∀{xs:List Int} {vs:List az},bb h O vs (xs.map .int)->Ys vs xs
 |[],vs,r=>by exact J (cV r) .nil
 |x::xs,vs,r=>by
  refine bV r.inv λv ma wQ r1 r2=>?_;subst wQ;refine bQ r1 λt vJ=>?_;subst vJ;exact .cons x t (qC r2)
theorem EA.index{xs:List Int}{k:Int}(hk:k∈xs)(hl:nG (.list (xs.map .int))=af):EA G n "index" (.list (xs.map .int)) [.int k] (.int (xs.idxOf k:Nat)):=⟨_,Qf F.slot_list_index F.type_list_index,λs O v vs W al r1 r A R=>by
 refine bV r1.list λl ws y0 h q=>?_;subst y0;refine bh r.one λv2 Ac r2=>?_;subst Ac;refine bQ r2.int λu M4=>?_;subst M4;exact index_list_ints (vs:=ws.toList) (by simpa using h.isList) (qC q) hl hk ⟨Gd.Kx.tok W,dJ⟩⟩
theorem t9:∀{xs:List Int} {vs:List az},Ys vs xs->∃ps:List (Int×Xr),vs=ps.map (λp=>.int p.1 p.2)∧ps.map (·.1)=xs
 |_,_,.nil=>⟨[],rfl,rfl⟩
 |_,_,.cons n t r=>by
  exact bh (t9 r) λps e1 e2=>⟨(n,t)::ps,by exact J aR (rF e1 rfl),by exact J aR (J e2 rfl)⟩
theorem Bq.sum{xs:List Int}:Bq G n (.builtin "sum") [] [.list (xs.map .int)] (.int xs.sum):=λs O vs W al r A R=>by
 refine bh r.one λv Gh r1=>?_;subst Gh;refine bV r1.list λl ws M3 h q=>?_;subst M3;refine bh (t9 (qC q)) λps e1 e2=>?_
 have e:ws=intItems ps.toArray:=by
  unfold intItems;apply Oe.mp;refine J e1 ?_;simp
 subst e;refine sum_intListG R.handled h.isList λh' tk t' hk=>J (preSum_eq ..) ?_;refine J (cE (by simp)) ?_;refine⟨Gd.Kx.of W hk,?_⟩;refine rF e2 ?_;simpa using dJ
noncomputable def Dk(ds:List D)(lo hi st:Option Int):List D:=(qZ (iZ lo hi st ds.length).1 (iZ lo hi st ds.length).2.1 (iZ lo hi st ds.length).2.2).filterMap (ds[·]?)
theorem bb.pick{h:bq}{vs:Array az}(r:bb h O vs.toList ds):∀(is:List Nat),bb h O (is.filterMap (vs[·]?)) (is.filterMap (ds[·]?))
 |[]=>bb.nil
 |i::is=>by
  have el:=r.length;rw[aX]at el;refine J kT (J kT ?_)
  cases e:ds[i]? with
  |some d=>
   refine bh (bb.at r e) λv hv rv=>J hv ?_;exact bb.cons rv (r.pick is)
  |none=>
   have:vs[i]?=ae:=by
    rw[Array.getElem?_eq_none_iff];refine J el ?_;exact kM.mp e
   exact J this (r.pick is)
theorem Ev.Uq{v:aG}{lo hi st:Option aG}{l u k:Option Int}{p:eL}(h1:rf G n env ρ v (.list ds))(hl:qU G n env ρ lo l)(hu:qU G n env ρ hi u)(hk:qU G n env ρ st k)(h0:k≠Z 0)(hz:ds.length<=16777216):Ev G n env ρ (.Subscript v (.Slice lo hi st p) pos) (.list (Dk ds l u k)):=λA s O a R Ek W S=>
 q5 (ar (h1 A s O a R Ek W S) (λv1 s1 x1=>ar (lH hl hu hk A s1 O a R Ek x1.1.wd (S.kx W x1.1)) (λv2 s2 x2=>by
  refine c8 x2 λy2 z1=>fj z1 λsl pl pu pk z2=>dD z2 λEj hs JG M2 Wp=>?_;subst Ej;subst JG;subst M2;subst Wp;refine bV ((x1.2.ke x1.1.wd y2.ke).list) λb items Gg hb q=>?_;subst Gg;have e1:=q.length;rw[aX]at e1;refine mi hb.isList.typeIs Ao.lookup (JY hb.isList hs (n8 pl) (n8 pu) (n8 pk) h0 ?_ (J e1 (J cC hz)));refine⟨(x1.1.trans y2).trans (Gd.Kx.of y2.wd (bL _)),jI (S.kx W (x1.1.trans y2)).oM ?_⟩;unfold slicePick Dk;exact J e1 (q.pick _)) λ_ _ x=>x) λ_ _ x=>x)
noncomputable def xG(x:Str)(lo hi st:Option Int):Str:=⟨((mf lo hi (st.getD 1) x.length).filterMap (x.cps[·]?)).toArray⟩
theorem Ev.Uo{v:aG}{lo hi st:Option aG}{l u k:Option Int}{p:eL}(h1:rf G n env ρ v (.str x))(hl:qU G n env ρ lo l)(hu:qU G n env ρ hi u)(hk:qU G n env ρ st k)(h0:(k.getD 1==0)=ag)(hz:(xG x l u k).length<=16777216)
 (hid:(k.getD 1==1&&(mf l u (k.getD 1) x.length).length==x.length)=af->xG x l u k=x):Ev G n env ρ (.Subscript v (.Slice lo hi st p) pos) (.str (xG x l u k)):=λA s O a R Ek W S=>
 q5 (ar (h1 A s O a R Ek W S) (λv1 s1 x1=>ar (lH hl hu hk A s1 O a R Ek x1.1.wd (S.kx W x1.1)) (λv2 s2 x2=>by
  refine c8 x2 λy2 z1=>fj z1 λsl pl pu pk z2=>dD z2 λM1 hs JF JE JD=>?_;subst M1;subst JF;subst JE;subst JD;refine bQ x1.2.str λt JC=>?_;subst JC;refine mi (jg _ _ _) F.slot_str_getitem.lookup (wpAny_getItem_str_slice hs h0 ?_);unfold sliceMade slicePicked
  split
  ·rename_i hc;have:=hid hc;show _∧jT _ _ _ (.str (xG x _ _ _));exact J this ⟨x1.1.trans y2,jy⟩
  ·exact⟨by exact J cC hz,(x1.1.trans y2).trans (Gd.Kx.tok y2.wd),jy⟩) λ_ _ x=>x) λ_ _ x=>x)
theorem qm.inS:qm G n .In (.str y) (.str x) (iB x y):=λs O v1 v2 W al r1 r2 A R=>by
 refine bQ r1.str λt QG=>?_;subst QG;refine bQ r2.str λu JB=>?_;subst JB;exact SB.contains ⟨Gd.Kx.refl W,eB⟩
theorem qm.UN:qm G n .NotIn (.str y) (.str x) (!iB x y):=λs O v1 v2 W al r1 r2 A R=>by
 refine bQ r1.str λt M0=>?_;subst M0;refine bQ r2.str λu Gf=>?_;subst Gf;exact SB.notContains ⟨Gd.Kx.refl W,eB⟩
theorem qm.neS{a b:Str}:qm G n .NotEq (.str a) (.str b) (a.cps.toList !=b.cps.toList):=λs O v1 v2 W al r1 r2 A R=>by
 refine bQ r1.str λt MZ=>?_;subst MZ;refine bQ r2.str λu QF=>?_;subst QF
 with_reducible refine P.ne_str ?_
 exact⟨Gd.Kx.refl W,eB⟩
noncomputable def Hv:D->Bool
 |.none=>af
 |_=>ag
theorem qm.isN:qm G n .Is d .none (Hv d):=λs O v1 v2 W al r1 r2 A R=>by
 have e2:=r2.none;subst e2
 induction d using ao with
 |none=>
  have e1:=r1.none;subst e1;exact wpAny_is_self rfl ⟨Gd.Kx.refl W,eB⟩
 |bool b=>have:=r1.bool;subst this;exact uK (by intro x;cases x) ⟨Gd.Kx.refl W,eB⟩
 |int i=>refine bQ r1.int λt QE=>?_;subst QE;exact uK (by intro x;cases x) ⟨Gd.Kx.refl W,eB⟩
 |str x=>refine bQ r1.str λt MY=>?_;subst MY;exact uK (by intro x;cases x) ⟨Gd.Kx.refl W,eB⟩
 |list xs=>refine mL r1.list λl vs Wo _=>?_;subst Wo;exact uK (by intro x;cases x) ⟨Gd.Kx.refl W,eB⟩
 |tuple xs=>refine mL r1.tuple λl vs e70 _=>?_;subst e70;exact uK (by intro x;cases x) ⟨Gd.Kx.refl W,eB⟩
 |dict xs=>rcases r1 with r1|⟨_,_,_,_,e,_⟩<;>first|exact oW r1|cases e
theorem JU(a n:Nat)(ha:a<=n):ny ae (Z (a:Int)) 1 (n:Int)=((0:Int),(a:Int)):=by
 unfold ny;have h1:¬((1:Int)<0):=by lia
 have h2:¬((a:Int)<0):=by exact jX a
 simp only[h1,h2,if_false]
 congr 1
 lia
theorem IW(a:Nat):jD (0:Int) (a:Int) 1=a:=by
 unfold jD;have h1:(1:Int)>0:=by exact Int.one_pos
 simp only[h1,if_true,xN]
 split<;>lia
theorem xF{E:az->aK->Prop}{sl:aL}{a:Nat}{u:Xr}{Q:Int×Int×Nat->aK->Prop}(hs:s.heap.IsSliceOf sl .none (.int a u) .none)(ha:a<=n)(h:Q ((0:Int),1,a) s):
 aJ G.M A (abS (.ref sl) (pure (n:Int))) Q E s:=by
 refine gM (id hs) λos VE Qb XW=>ai (ai (fC VE XW (x:=.none) rfl (ai (fC VE XW (x:=.int a u) rfl (ai (fC VE XW (x:=.none) rfl (ay ?_)))))));refine ai (slicePart_none ?_);show aJ _ _ (if((1:Int)==0)=af then _ else _) _ _ s;refine J (bF (by decide)) ?_;refine ai (slicePart_none (ai (slicePart_int (ai (ay ?_)))));show aJ _ _ (match ny ae (Z (a:Int)) 1 (n:Int)with|(lo,hi)=>pure (lo,(1:Int),jD lo hi 1)) _ _ s;refine J (JU a n ha) ?_;show aJ _ _ (pure ((0:Int),(1:Int),jD (0:Int) (a:Int) 1)) _ _ s;exact J (IW a) (ay h)
theorem Pc(xs:Array az)(a:Nat)(ha:a<=xs.size):((av a).filterMap λ(k:Nat)=>xs[((0:Int)+(k:Int)*1).toNat]?).toArray=(xs.toList.take a).toArray:=by
 have e:(λ(k:Nat)=>xs[((0:Int)+(k:Int)*1).toNat]?)=λk=>xs[0+k]?:=by
  funext k
  have:((0:Int)+(k:Int)*1).toNat=0+k:=by lia
  exact J this rfl
 refine J e ?_;have:=pick_run xs 0 a;rw[KC]at this;have e2:((λx=>xs[x]?)∘λx=>0+x)=λk=>xs[0+k]?:=rfl;rw[e2]at this;exact J this (J j7 rfl)
theorem wD{E:az->aK->Prop}{t sl:aL}{a:Nat}{u:Xr}(ht:IsTup s.heap t items)(hs:s.heap.IsSliceOf sl .none (.int a u) .none)(ha:a<items.size)
 (h:Q (.ref s.heap.objs.size) {s with heap:=s.heap.push {cls:=.type "tuple",data:=.seq (items.toList.take a).toArray}})
 (hsz:items.size<=l9):aJ G.M A (Yo (.ref t) (.ref sl)) Q E s:=by
 have HN:sizeOk (.seq (items.toList.take a).toArray):=by
  show(items.toList.take a).toArray.size<=l9;refine J gy (J gW (J aX ?_))
  lia
 refine gM (id hs) λos VE Qb XW=>?_;have hTs:s.TypeIs (.ref sl) "slice":=⟨os,VE,Qb⟩;unfold Yo
 try with_reducible refine bg ?_
 first|refine ai (ay ?_)|skip
 refine ai (Yi ht.typeIs (by decide) ?_)
 refine ai (gH (name:=aQ "__getitem__") ht.typeIs qY
  (lB qY ht.typeIs entry_tuple_getitem ?_ (args_tuple_getitem _ _)))
 show aJ _ _ (abR (.ref t)>>=_) _ _ s;refine ai (tupleItemsOf_ ht ?_);refine ai (N3 hTs ?_);refine J (bz (by decide)) ?_;refine ai (xF hs (cm ha) ?_)
 have hno:¬(((0:Int)==0&&(1:Int)==1&&a==items.size)=af):=by
  have:(a==items.size)=ag:=by rw[beq_eq_false_iff_ne];exact du ha
  refine J this ?_;simp
 show aJ _ _ (if((0:Int)==0&&(1:Int)==1&&a==items.size)=af then _ else _) _ _ s;refine J (bF hno) (J (Pc items a (cm ha)) ?_)
 first
  |exact ai (m:=jQ _) (dN (ay ⟨_,rfl,ay h⟩) HN)
  |exact ai (m:=jQ _) (dN (ai (ay (ay ⟨_,rfl,ay h⟩))) HN)
  |exact ai (ai (m:=jQ _) (dN (ay (ay ⟨_,rfl,ay h⟩)) HN))
  |exact ai (ai (m:=jQ _) (dN (ay ⟨_,rfl,ay h⟩) HN))
theorem Ev.Un{v hi:aG}{p:eL}(h1:rf G n env ρ v (.tuple ds))(hu:rf G n env ρ hi (.int k))(hk:k<ds.length)(hz:ds.length<=16777216):Ev G n env ρ (.Subscript v (.Slice ae (Z hi) ae p) pos) (.tuple (ds.take k)):=λA s O a R Ek W S=>
 q5 (ar (h1 A s O a R Ek W S) (λv1 s1 x1=>ar (lH .none (.some hu) .none A s1 O a R Ek x1.1.wd (S.kx W x1.1)) (λv2 s2 x2=>by
  refine c8 x2 λy2 z1=>fj z1 λsl pl pu pk z2=>dD z2 λvJ hs e1 e2 e3=>?_;subst vJ;refine bV ((x1.2.ke x1.1.wd y2.ke).tuple) λb items y0 hb q=>?_;subst y0;have el:=q.length;rw[aX]at el
  induction pl using aB with
  |some _=>cases e1
  |none=>
   induction pk using aB with
   |some _=>cases e3
   |none=>
    induction pu using aB with
    |none=>exact bK e2
    |some pu=>
     obtain⟨i,u⟩:=pu;have e2:i=(k:Int):=by simpa using e2
     subst e2;refine mi hb.typeIs qY.lookup (wD hb hs (Nat.lt_of_lt_of_eq hk (_root_.id (tD el))) ?_ (J el (J cC hz)));exact⟨(x1.1.trans y2).trans (Gd.Kx.of y2.wd (bL _)),qD (S.kx W (x1.1.trans y2)).oM (q.take k)⟩) λ_ _ x=>x) λ_ _ x=>x)
def wZ(G:Gd)(f:az):Prop:=∀h,G.Wd h->∃k,(k=CY∨k=zQ∨k=wh)∧Looks G.M h (RF f) k
theorem pa.WM{f:az}(h:pa f):wZ G f:=λH _=>h.keeps G.M H trivial
def Cm(G:Gd)(n:Nat)(x:Str)(ds:List D)(d:D):Prop:=∃f,(x==("__debug__":Str))=ag∧(G.mg x=Z f∨(G.mg x=ae∧G.mb x=Z f))∧wZ G f∧Bq G n f [] ds d
theorem Ev.dB{p:eL}(K:l8 G)(hx:env.kindOf x=Z .globalImplicit)(hf:Cm G n x ds d)(h:wc G n env ρ es ds):Ev G n env ρ (.Call (.Name x p) es [] pos) d:=λA s O a R Ek W S=>by
 refine iP hf λf nd hv ck A6=>?_;show aJ G.M A (do nk pos (←iD (.Name x p) env) [] (gv pos (dq es env)) []) _ _ s;refine ai (iO K Ek W ⟨hx,nd,hv⟩ ?_);refine gd (P:=λH=>G.Wd H) (J h.noStar rfl) (λH hH=>ck H hH) (ar (h.eval A s O a R Ek W S) (λx s1 x1=>⟨x1.1.wd,?_⟩) λ_ _ x=>x);exact J x1.2.2 (ar (A6 s1 _ x.pos x1.1.wd (S.kx W x1.1).oM x1.2.1 A R) (λv s2 x2=>⟨x1.1.trans x2.1,x2.2⟩) λ_ _ x=>x)
def eJ(G:Gd)(n:Nat)(x:Str)(ds:List D)(d:D):Prop:=∃f,(x==("__debug__":Str))=ag∧(G.mg x=Z f∨(G.mg x=ae∧G.mb x=Z f))∧wZ G f∧
 ∀(s:aK) (O:aL->Prop) (vs:List az),G.Wd s.heap->Al s.heap O->bb s.heap O vs ds->Op G n O s (dE f vs) d
theorem wb.toA(h:wb G n env ρ es ds):wc G n env ρ es ds:=by
 induction h with
 |nil=>exact .nil|cons h1 _ h3 ih=>exact .cons h1.w ih h3
theorem wb.Bg{f:az}(h:wb G n env ρ es ds):∀(A:dZ) (s:aK) (O:aL->Prop) (a:Option aL),g9 A n->dQ G env->G.Wd s.heap->SR G env O a ρ s.heap->
 aJ G.M A (evalArgs f af (gv pos (dq es env)) []) (λx s'=>G.Kx s s'∧bb s'.heap (Ow O a) x.pos ds∧x.kw=[]) cW s:=by
 intro A s O a R Ek W S;have r:=h.run (pos:=pos) A s O a R Ek W S
 cases h with
 |nil=>exact evalArgs_nil3 ⟨Gd.Kx.refl W,bb.nil,rfl⟩
 |cons h1 h2 hs=>
  rw[eO hs]at r⊢;exact GV (ar r (λvs s' x=>⟨x.1,x.2,rfl⟩) λ_ _ x=>x)
theorem Ev.WO{p:eL}(K:l8 G)(hx:env.kindOf x=Z .globalImplicit)(hf:eJ G n x ds d)(h:wb G n env ρ es ds):Ev G n env ρ (.Call (.Name x p) es [] pos) d:=λA s O a R Ek W S=>by
 refine iP hf λf nd hv ck A6=>?_;have hA:=h.toA;show aJ G.M A (do nk pos (←iD (.Name x p) env) [] (gv pos (dq es env)) []) _ _ s;refine ai (iO K Ek W ⟨hx,nd,hv⟩ ?_);refine gd (P:=λH=>G.Wd H) (J hA.noStar rfl) (λH hH=>ck H hH) (ar (h.Bg A s O a R Ek W S) (λx s1 x1=>⟨x1.1.wd,?_⟩) λ_ _ x=>x);exact J x1.2.2 (ar (A6 s1 _ x.pos x1.1.wd (S.kx W x1.1).oM x1.2.1 A R) (λv s2 x2=>⟨x1.1.trans x2.1,x2.2⟩) λ_ _ x=>x)
theorem Ev.WN{p:eL}{f:D->Option D}{r:D}(hm:(x,jS.fn K T f k)∈ρ)(hk:k<=n)(xm:fD e=ag)(h:Ev G n env ρ e d)(hf:f d=Z r):Ev G n env ρ (.Call (.Name x p) [e] [] pos) r:=λA s O a R Ek W S=>by
 have hL:wb G n env ρ [e] [d]:=.cons h .nil xm;have hA:=hL.toA;refine bh S.ns λm hn fs=>?_;obtain⟨nd,v,l,t,F⟩:=fs _ hm;have Tn:∀s1:aK,G.Kx s s1->T s1.heap v:=λs1 kx=>F.st _ _ _ t λb o hb e=>kx.ke b o e (F.nT b hb);show aJ G.M A (do nk pos (←iD (.Name x p) env) [] (gv pos (dq [e] env)) []) _ _ s;refine ai (jf (fA Ek hn l ?_) nd);refine gd (P:=λH=>G.Wd H∧T H v) (J hA.noStar rfl) (λH hH=>F.kp H v hH.1 hH.2) (ar (hL.Bg A s O a R Ek W S) (λy s1 x1=>⟨⟨x1.1.wd,Tn s1 x1.1⟩,?_⟩) λ_ _ x=>x);refine J x1.2.2 (bV x1.2.1.inv λu ma ev ru r0=>?_);rw[cV r0]at ev;show aJ G.M A (dE v ([]++y.pos)) _ _ s1;refine J ev ?_;have Rk:=R.le hk;exact ar (F.sem A s1 _ v u d r Rk.depth Rk.units Rk.handled Rk.guards x1.1.wd (S.kx W x1.1).oM (Tn s1 x1.1) ru hf) (λw s2 x2=>⟨x1.1.trans x2.1,x2.2⟩) λ_ _ x=>x
theorem Tr.wJ{p cp:eL}{c:Nat}{f:D->Option D}(hm:(x,jS.fn K T f k)∈ρ):Tr G n env ρ (.Compare (.Name x p) [.Is] [.Constant .none c cp] pos) ag:=λA s O a R Ek W S=>by
 refine bh S.ns λm hn fs=>?_;obtain⟨nd,v,l,t,F⟩:=fs _ hm;refine OF (jf (fA Ek hn l ?_) nd) rfl;show aJ G.M A (pure j0) _ _ s;refine ay (uK (F.ne _ _ t) (rM ⟨Gd.Kx.refl W,rfl⟩))
section
variable{d:α}
noncomputable def Le(e:jS)(k:D->Option α):Option α:=match e with
 |.val x=>k x
 |_=>ae
@[elab_as_elim] theorem ZP{e:jS}{k:D->Option α}{motive:jS->Prop}(h:Le e k=Z d)(m:∀x,k x=Z d->motive (.val x)):motive e:=by
 induction e using Internal.jS.casesOn with
 |val x=>exact m x h|_=>exact bK h
noncomputable def Y8(e:jS)(k:D->Option α)(k':List D->Option α):Option α:=match e with
 |.val x=>k x
 |.own x=>k' x
 |_=>ae
@[elab_as_elim] theorem iVO{e:jS}{k:D->Option α}{k':List D->Option α}{motive:jS->Prop}(h:Y8 e k k'=Z d)(m:∀x,k x=Z d->motive (.val x))(m':∀x,k' x=Z d->motive (.own x)):motive e:=by
 induction e using Internal.jS.casesOn with
 |val x=>exact m x h|own x=>exact m' x h|_=>exact bK h
noncomputable def DC(e:jS)(k:List D->Option α):Option α:=match e with
 |.own x=>k x
 |_=>ae
@[elab_as_elim] theorem PX{e:jS}{k:List D->Option α}{motive:jS->Prop}(h:DC e k=Z d)(m:∀x,k x=Z d->motive (.own x)):motive e:=by
 induction e using Internal.jS.casesOn with
 |own x=>exact m x h|_=>exact bK h
noncomputable def Zd(e:jS)(k:(D->Option D)->Nat->Option α):Option α:=match e with
 |.fn _ _ f n=>k f n
 |_=>ae
@[elab_as_elim] theorem iFn{e:jS}{k:(D->Option D)->Nat->Option α}{motive:jS->Prop}(h:Zd e k=Z d)(m:∀K T f n,k f n=Z d->motive (.fn K T f n)):motive e:=by
 induction e using Internal.jS.casesOn with
 |fn K T f n=>exact m K T f n h|_=>exact bK h
end
structure Cx where
 kn:Nat
 F:Str->List D->Option D
 FS:Str->List D->Option D
 V:Str->Option D
 T:Str->Option (List (Str×Int))
 H:(bj->aE->aG->Option D)->bj->aE->aG->Option D
variable{C:Cx}
noncomputable abbrev fB:Nat:=16777216
noncomputable def sa(a b:Int):Bool:=!(ah (ak a>uX)&&ah (ak b>uX)&&lF (ak a+ak b))
def wW:gD->D->D->Option D
 |.Add,.int a,.int b=>Z (.int (a+b))
 |.Add,.str x,.str y=>bif ah (x.length+y.length<=fB)then Z (.str (x++y))else ae
 |.Add,.list x,.list y=>bif ah (x.length+y.length<=fB)then Z (.list (x++y))else ae
 |.Sub,.int a,.int b=>Z (.int (a-b))
 |.Mult,.int a,.int b=>bif sa a b then Z (.int (a*b))else ae
 |.Mult,.list x,.int k=>bif !x.isEmpty&&ah (x.length*k.toNat<=fB)&&ah (-(2^63)<=k)&&ah (k<2^63)then Z (.list (cz k.toNat x).flatten)else ae
 |.Mult,.str x,.int k=>bif ah (-(2^63:Int)<=k)&&ah (k<2^63)&&ah (x.length*k.toNat<=fB)then Z (.str (Txt.mul x k))else ae
 |.FloorDiv,.int a,.int b=>bif b !=0&&!bT a b then Z (.int (a.fdiv b))else ae
 |.Mod,.int a,.int b=>bif b !=0 then Z (.int (a.fmod b))else ae
 |.BitAnd,.int a,.int b=>Z (.int (dS a b))
 |.BitOr,.int a,.int b=>Z (.int (eQ a b))
 |.BitXor,.int a,.int b=>Z (.int (bD a b))
 |.RShift,.int a,.int b=>bif ah (0<=b)then Z (.int (a.fdiv (2^b.toNat)))else ae
 |.LShift,.int a,.int b=>bif ah (0<=b)&&ah ((ak a:Int)+b<=2^27)then Z (.int (a*2^b.toNat))else ae
 |.Pow,.int a,.int b=>bif ah (0<=b)&&ah ((ak a:Int)*b<=2^27)then Z (.int (a^b.toNat))else ae
 |_,_,_=>ae
noncomputable def YH:E0->D->Option D
 |.USub,.int a=>Z (.int (-a))
 |.Invert,.int a=>Z (.int (aS a))
 |_,_=>ae
noncomputable def JA(d1 d2:D):Option Bool:=bif d1.canLay0&&d2.canLay0&&ah (d1.depth<=90)then Z (mJ d1 d2)else ae
noncomputable def Ik(d:D)(xs:List D):Option Bool:=bif d.canLay0&&ik xs&&ah (d.depth<=80)then Z (xs.any λy=>mJ y d)else ae
def sI:yd->D->D->Option Bool
 |.Eq,.int a,.int b=>Z (a==b)
 |.Eq,.str a,.str b=>Z (a==b)
 |.Eq,d1,d2=>JA d1 d2
 |.NotEq,.int a,.int b=>Z (a !=b)
 |.NotEq,.str a,.str b=>Z (a.cps.toList !=b.cps.toList)
 |.NotEq,d1,d2=>(JA d1 d2).map (!·)
 |.Lt,.int a,.int b=>Z (ah (a<b))
 |.LtE,.int a,.int b=>Z (ah (a<=b))
 |.Gt,.int a,.int b=>Z (ah (b<a))
 |.GtE,.int a,.int b=>Z (ah (b<=a))
 |.In,.str y,.str x=>Z (iB x y)
 |.NotIn,.str y,.str x=>Z (!iB x y)
 |.In,d,.list xs=>Ik d xs
 |.NotIn,d,.list xs=>(Ik d xs).map (!·)
 |.Is,d,.none=>Z (Hv d)
 |_,_,_=>ae
def Dd:D->Option Bool
 |.bool b=>Z b
 |.int a=>Z (a !=0)
 |.str x=>bif ah (x.length<=fB)then Z ((x.length:Int) !=0)else ae
 |.list xs=>bif ah (xs.length<=fB)then Z (!xs.isEmpty)else ae
 |_=>ae
noncomputable def w5:List D->Option (List Str)
 |[]=>Z []
 |.str x::r=>(w5 r).map (x::·)
 |_=>ae
noncomputable def hU:List D->Option (List Int)
 |[]=>Z []
 |.int x::r=>(hU r).map (x::·)
 |_=>ae
def Lu(name:Str)(d:D)(ds:List D):Option D:=
 match d,ds with
 |.str x,[.str y]=>
  bif name==("startswith":Str)then Z (.bool (mx x y))else
  bif name==("endswith":Str)then Z (.bool (oS x y))else
  bif name==("split":Str)&&!(y.length==0)&&ah (x.length<=fB)&&ah ((fy x (dz x y 0 x.length (x.length+1)) y.length).length<=fB)then Z (.list ((j9 x y).map .str))else ae
 |.str x,[.str y,.int i,.int j]=>bif name==("find":Str)then Z (.int (kF x y i j))else ae
 |.str x,[.list l]=>(w5 l).bind λxs=>bif name==("join":Str)&&!EZ (xs.toArray.foldl (·+·.length+x.length) 0)&&ah ((CJ x xs).length<=fB)then Z (.str (CJ x xs))else ae
 |.int i,[]=>bif name==("bit_length":Str)then Z (.int (ak i))else ae
 |.list l,[.int k]=>(hU l).bind λxs=>bif name==("index":Str)&&xs.contains k&&nG (.list (xs.map .int))then Z (.int (xs.idxOf k:Nat))else ae
 |_,_=>ae
def qk(name:Str)(ds:List D):Option D:=
 match ds with
 |[.list l]=>
  bif name==("len":Str)&&ah (l.length<=fB)then Z (.int l.length)else
  bif name==("sum":Str)then(hU l).map λxs=>.int xs.sum else
  bif name==("str":Str)&&(bJ l).showable&&!(bJ l).hasDict&&ah ((bJ l).depth<=60)&&ah ((bJ l).shown.length<=fB)then Z (.str (bJ l).shown)else ae
 |[.str x]=>bif name==("len":Str)&&ah (x.length<=fB)then Z (.int x.length)else ae
 |[.int a]=>bif name==("abs":Str)then Z (.int (if a<0 then-a else a))else ae
 |[.int a,.int b]=>
  bif name==("max":Str)then Z (.int (if b>a then b else a))else
  bif name==("min":Str)then Z (.int (if b<a then b else a))else
  bif name==("divmod":Str)&&b !=0&&!bT a b then Z (.tuple [.int (a.fdiv b),.int (a.fmod b)])else ae
 |_=>ae
noncomputable def oR(sc:bj)(x:Str):Bool:=sc.names.lookup x==Z .globalImplicit
def nmD(C:Cx)(sc:bj)(ρ:aE)(x:Str):Option D:=match ρ.lookup x with
 |some (.val d)=>Z d
 |some (.own ds)=>Z (.list ds)
 |some (.fn ..)=>ae
 |none=>bif oR sc x then C.V x else ae
noncomputable def qa(ρ:aE):aG->Bool
 |.Name x _=>(match ρ.lookup x with|some (.own _)=>af|_=>ag)
 |_=>ag
section
variable(C:Cx)(E:bj->aE->aG->Option D)
def ue(sc:bj)(ρ:aE)(e:aG):Option D:=bif qa ρ e then ae else E sc ρ e
noncomputable def fW(sc:bj)(ρ:aE):List aG->Option (List D)
 |[]=>Z []
 |e::es=>bif fD e then ae else(E sc ρ e).bind λd=>(fW sc ρ es).map (d::·)
noncomputable def Qu(f:aG->Option Bool):sV->List aG->Option Bool
 |.And,[]=>Z af
 |.Or,[]=>Z ag
 |.And,x::r=>(f x).bind λb=>bif b then Qu f .And r else Z ag
 |.Or,x::r=>(f x).bind λb=>bif b then Z af else Qu f .Or r
noncomputable def wJ(ρ:aE)(l:aG)(op:yd)(r:aG):Bool:=match l,op,r with
 |.Name x _,.Is,.Constant .none _ _=>(match ρ.lookup x with|some (.fn ..)=>af|_=>ag)
 |_,_,_=>ag
noncomputable def B6(sc:bj)(ρ:aE):Nat->aG->Option Bool
 |0,_=>ae
 |k+1,e=>match e with
  |.UnaryOp .Not x _=>(B6 sc ρ k x).map (!·)
  |.BoolOp op vs _=>Qu (B6 sc ρ k) op vs
  |.Compare l [op] [r] _=>bif wJ ρ l op r then Z ag else bif j3 op r then ae else(E sc ρ l).bind λd1=>(E sc ρ r).bind λd2=>sI op d1 d2
  |e=>bif ta e then(E sc ρ e).bind Dd else ae
noncomputable def evB(sc:bj)(ρ:aE):sV->List aG->Option D
 |_,[]=>ae
 |_,[x]=>ue E sc ρ x
 |.And,x::y::r=>(ue E sc ρ x).bind λd=>(Dd d).bind λb=>bif b then evB sc ρ .And (y::r)else Z d
 |.Or,x::y::r=>(ue E sc ρ x).bind λd=>(Dd d).bind λb=>bif b then Z d else evB sc ρ .Or (y::r)
noncomputable def evP(sc:bj)(ρ:aE):Option aG->Option (Option Int)
 |none=>Z ae
 |some e=>match E sc ρ e with
  |some (.int k)=>Z (Z k)
  |_=>ae
def xE(d i:D):Option D:=match d,i with
 |.list ds,.int k=>bif ah (ds.length<=fB)then zO ds k else ae
 |.tuple ds,.int k=>bif ah (0<=k)&&ah (ds.length<=fB)then ds[k.toNat]? else ae
 |_,_=>ae
def rm(d:D)(l u k:Option Int):Option D:=match d with
 |.list ds=>bif ah (ds.length<=fB)&&!(k==Z 0)then Z (.list (match k with|none=>rk ds l u|some _=>Dk ds l u k))else ae
 |.str x=>bif !(k.getD 1==0)&&ah ((xG x l u k).length<=fB)&&(!(k.getD 1==1&&(mf l u (k.getD 1) x.length).length==x.length)||xG x l u k==x)then Z (.str (xG x l u k))else ae
 |.tuple ds=>match l,u,k with
  |none,Z (.ofNat a),none=>bif ah (a<ds.length)&&ah (ds.length<=fB)then Z (.tuple (ds.take a))else ae
  |_,_,_=>ae
 |_=>ae
def De(sc:bj)(ρ:aE):aG->Option (List (Str×Int))
 |.Name x _=>(match ρ.lookup x with
  |none=>bif oR sc x then C.T x else ae
  |some _=>ae)
 |_=>ae
def yn(a b c:Int):Option (List D×Bool×Bool):=bif ei a b c&&ah (0<=cc a b c)then Z (fh a b c,ag,af)else ae
def Lc(sc:bj)(ρ:aE)(e:aG):Option (List D×Bool×Bool):=match E sc ρ e with
 |some (.list ds)=>Z (ds,ag,!qa ρ e)
 |some (.tuple ds)=>Z (ds,ag,af)
 |_=>ae
def OA(sc:bj)(ρ:aE)(e:aG):Option (List D×Bool×Bool):=
 match e with
 |.Call (.Name f fp) es [] cp=>
  bif f==("range":Str)&&oR sc f then(match fW E sc ρ es with
   |some [.int b]=>yn 0 b 1
   |some [.int a,.int b]=>yn a b 1
   |some [.int a,.int b,.int c]=>bif c !=0&&!bT (b-a) c then yn a b c else ae
   |_=>ae)
  else bif f==("reversed":Str)&&oR sc f then(match fW E sc ρ es with
   |some [.list ds]=>Z (ds.reverse,ag,ag)
   |_=>ae)
  else bif f==("enumerate":Str)&&oR sc f then(match fW E sc ρ es with
   |some [.list ds]=>Z (qd ds,af,ag)
   |some [.tuple ds]=>Z (qd ds,af,ag)
   |_=>ae)
  else bif f==("zip":Str)&&oR sc f then(match fW E sc ρ es with
   |some [.list xs,.list ys]=>Z (oj xs ys,af,ag)
   |_=>ae)
  else Lc E sc ρ (.Call (.Name f fp) es [] cp)
 |.Name x p=>(match De C sc ρ (.Name x p)with
  |some th=>Z (th.map λp=>.str p.1,ag,ag)
  |none=>Lc E sc ρ (.Name x p))
 |e=>Lc E sc ρ e
noncomputable def vG(f:aG->Option Bool):List aG->Option Bool
 |[]=>Z af
 |c::cs=>(f c).bind λb=>bif b then vG f cs else Z ag
noncomputable def r7:aG->Bool
 |.Set .. =>ag
 |_=>af
noncomputable def oQ(f:α->Option β):List α->Option (List β)
 |[]=>Z []
 |x::r=>(f x).bind λy=>(oQ f r).map (y::·)
theorem Lz{f:α->Option β}{x:α}{r:List α}:oQ f (x::r)=(f x).bind λy=>(oQ f r).map (y::·):=rfl
def NZ:List cM->Bool
 |[]=>af
 |g::_=>r7 g.iter&&g.is_async==0
noncomputable def Jz(scope sc:bj)(iw:aG):Nat->aE->List D->Bool->cM->List cM->Option (List D)
 |0,_,_,_,_,_=>ae
 |k+1,ρ,xs,xY,g,fG=>
  bif NZ fG&&g.is_async==0&&(!xY||lM g.target)&&ρ.all (λp=>!(tn 3 g.target).contains p.1)then
   (oQ (λd=>(nV scope 3 g.target d ρ).bind λρ'=>(vG (B6 E sc ρ' 9) g.ifs).bind λok=>bif ok then(match fG with
    |[]=>(ue E sc ρ' iw).map λy=>[y]
    |g2::Du=>(OA C E sc ρ' g2.iter).bind λq=>bif q.2.2 then Jz scope sc iw k ρ' q.1 q.2.1 g2 Du else ae)
    else Z []) xs).map eF
  else ae
def evC(scope sc:bj)(ρ:aE)(iw:aG)(gens:List cM):Option (List D):=match gens with
 |[]=>ae
 |g::fG=>bif kR scope sc&&r7 g.iter then(OA C E sc ρ g.iter).bind λq=>(Jz C E scope (K4 scope sc) iw 3 (Oq scope sc ρ) q.1 q.2.1 g fG).bind λds=>bif ah (ds.length<=fB)then Z ds else ae else ae
def Ul(sc:bj)(ρ:aE)(v i:aG):Option D:=match De C sc ρ v with
 |some th=>(match E sc ρ i with
  |some (.str k)=>(th.lookup k).map .int
  |_=>ae)
 |none=>(E sc ρ v).bind λd=>(E sc ρ i).bind λk=>xE d k
def B7(sc:bj)(ρ:aE)(e:aG):Option D:=match e with
 |.Constant (.int i) _ _=>Z (.int i)
 |.Constant (.bool b) _ _=>Z (.bool b)
 |.Constant (.str x) _ _=>Z (.str x)
 |.Constant .none _ _=>Z .none
 |.Name x _=>nmD C sc ρ x
 |.BinOp l op r _=>(E sc ρ l).bind λd1=>(E sc ρ r).bind λd2=>wW op d1 d2
 |.UnaryOp op x _=>(E sc ρ x).bind λd=>YH op d
 |.BoolOp op vs _=>evB E sc ρ op vs
 |.IfExp t b o _=>(B6 E sc ρ 9 t).bind λc=>bif c then ue E sc ρ b else ue E sc ρ o
 |.Compare l [op] [r] _=>bif j3 op r then ae else(E sc ρ l).bind λd1=>(E sc ρ r).bind λd2=>(sI op d1 d2).map .bool
 |.List es _=>(fW (ue E) sc ρ es).bind λds=>bif ah (ds.length<=fB)then Z (.list ds)else ae
 |.Tuple es _ _=>(fW (ue E) sc ρ es).bind λds=>bif ah (ds.length<=fB)then Z (.tuple ds)else ae
 |.Subscript v i _=>(match i with
  |.Slice lo hi st _=>(evP E sc ρ lo).bind λl=>(evP E sc ρ hi).bind λu=>(evP E sc ρ st).bind λk=>(E sc ρ v).bind λd=>rm d l u k
  |i=>Ul C E sc ρ v i)
 |.Call (.Name f fp) es [] cp=>(match C.H E sc ρ (.Call (.Name f fp) es [] cp)with
  |some d=>Z d
  |none=>match ρ.lookup f,es with
  |some (.fn K T g k),[e]=>bif ah (k<=C.kn)&&!fD e then(ue E sc ρ e).bind g else ae
  |_,_=>bif oR sc f then(match(fW (ue E) sc ρ es).bind λds=>C.FS f ds with
  |some d=>Z d
  |none=>(fW E sc ρ es).bind λds=>C.F f ds)else ae)
 |.Call (.Attribute o m ju) es [] pos=>bif L9 o&&ju.endLine==pos.line&&ah (es.length<30)then(E sc ρ o).bind λd=>(fW E sc ρ es).bind λds=>Lu m d ds else ae
 |.ListComp iw gens scope _=>(evC C E scope sc ρ iw gens).map .list
 |e=>C.H E sc ρ e
end
noncomputable def ev(C:Cx):Nat->bj->aE->aG->Option D
 |0=>λ_ _ _=>ae
 |k+1=>B7 C (ev C k)
theorem cT{x d:α}(h:(bif c then Z x else ae)=Z d):c=af∧x=d:=by
 induction c using ax
 ·exact bK h
 ·exact qS h ⟨rfl,rfl⟩
theorem ig{x:Option α}{d:α}(h:(bif c then x else ae)=Z d):c=af∧x=Z d:=by
 induction c using ax
 ·exact bK h
 ·exact⟨rfl,h⟩
theorem JT{a b:Bool}(h:(a&&b)=af):a=af∧b=af:=by
 induction a using ax
 ·exact ff h
 ·exact⟨rfl,h⟩
theorem tG{a:Bool}(h:(!a)=af):a=ag:=by
 induction a using ax
 ·rfl
 ·exact ff h
theorem afc{l:List α}(h:(!l.isEmpty)=af):l≠[]:=by
 induction l using aA
 ·exact ff h
 ·exact List.cons_ne_nil _ _
theorem mulOk_of{k:Int}(h1:-(2^63:Int)<=k)(h2:k<2^63)(h3:x.length*k.toNat<=fB):MulOk x k:=by
 refine⟨by exact J (bi (ky.mpr h1)) (J (bi (show ¬k≥2^63 from Int.not_le.mpr h2)) rfl),λh _=>?_,λh _=>?_⟩
 ·have hk:0<k:=Int.lt_of_lt_of_le (by decide) (ky.mp h)
  have e:((x.length*k.toNat:Nat):Int)=x.length*k:=by
   exact J (tC ..) (J (cw (mD hk)) rfl)
  have:(x.length:Int)<=(2^63-1)/k:=by
   rw[Int.le_ediv_iff_mul_le hk];refine rF e ?_;have:((x.length*k.toNat:Nat):Int)<=16777216:=da.mpr h3;exact kQ this (by decide)
  exact ky.mpr this
 ·unfold EZ
  first
   |(exact J decide_eq_false_iff_not (J cC (dH.mpr h3)))
   |(simp[cC];exact h3)
   |(simp[l9];exact h3)
theorem oe{op:gD}(h:wW op d1 d2=Z d):uh G n op d1 d2 d:=by
 induction op using oO with
 |Add=>induction d1 using ao with
  |int a=>induction d2 using ao with
   |int b=>refine qS h ?_;exact .add
   |_=>exact bK h
  |str a=>induction d2 using ao with
   |str b=>replace h:=cT h;refine uV h λh=>?_;exact .W4 (aw h)
   |_=>exact bK h
  |list a=>induction d2 using ao with
   |list b=>replace h:=cT h;refine uV h λh=>?_;exact .Rl (aw h)
   |_=>exact bK h
  |_=>exact bK h
 |Mult=>induction d1 using ao with
  |int a=>induction d2 using ao with
   |int b=>
    replace h:=cT h;refine uV h λh=>?_;refine .mul λhh=>?_;unfold sa at h;rw[hh]at h;exact ff h
   |_=>exact bK h
  |str a=>induction d2 using ao with
   |int b=>
    replace h:=cT h;refine uV h λh=>?_;exact iW h λh h3=>iW h λh1 h2=>.UW (mulOk_of (aw h1) (aw h2) (aw h3))
   |_=>exact bK h
  |list a=>induction d2 using ao with
   |int b=>
    replace h:=cT h;refine uV h λh=>?_;exact iW h λh h4=>iW h λh h3=>iW h λh1 h2=>.PC (afc h1) (aw h2) ⟨aw h3,aw h4⟩
   |_=>exact bK h
  |_=>exact bK h
 |Sub=>induction d1 using ao with
  |int a=>induction d2 using ao with
   |int b=>refine qS h ?_;exact .sub
   |_=>exact bK h
  |_=>exact bK h
 |FloorDiv=>induction d1 using ao with
  |int a=>induction d2 using ao with
   |int b=>replace h:=cT h;refine uV h λh=>?_;refine iW h λh1 h2=>?_;exact .fdiv (bne_iff_ne.mp h1) (tG h2)
   |_=>exact bK h
  |_=>exact bK h
 |Mod=>induction d1 using ao with
  |int a=>induction d2 using ao with
   |int b=>replace h:=cT h;refine uV h λh=>?_;exact .mod (bne_iff_ne.mp h)
   |_=>exact bK h
  |_=>exact bK h
 |BitAnd=>induction d1 using ao with
  |int a=>induction d2 using ao with
   |int b=>refine qS h ?_;exact .and
   |_=>exact bK h
  |_=>exact bK h
 |BitOr=>induction d1 using ao with
  |int a=>induction d2 using ao with
   |int b=>refine qS h ?_;exact .or
   |_=>exact bK h
  |_=>exact bK h
 |BitXor=>induction d1 using ao with
  |int a=>induction d2 using ao with
   |int b=>refine qS h ?_;exact .xor
   |_=>exact bK h
  |_=>exact bK h
 |RShift=>induction d1 using ao with
  |int a=>induction d2 using ao with
   |int b=>replace h:=cT h;refine uV h λh=>?_;exact .shr (aw h)
   |_=>exact bK h
  |_=>exact bK h
 |LShift=>induction d1 using ao with
  |int a=>induction d2 using ao with
   |int b=>replace h:=cT h;refine uV h λh=>?_;refine iW h λh1 h2=>?_;exact .shl (aw h1) (aw h2)
   |_=>exact bK h
  |_=>exact bK h
 |Pow=>induction d1 using ao with
  |int a=>induction d2 using ao with
   |int b=>replace h:=cT h;refine uV h λh=>?_;refine iW h λh1 h2=>?_;exact .pow (aw h1) (aw h2)
   |_=>exact bK h
  |_=>exact bK h
 |_=>exact bK h
theorem IE{op:E0}(h:YH op d1=Z d):Yc G n op d1 d:=by
 induction op using pI with
 |USub=>induction d1 using ao with
  |int a=>refine qS h ?_;exact .neg
  |_=>exact bK h
 |Invert=>induction d1 using ao with
  |int a=>refine qS h ?_;exact .inv
  |_=>exact bK h
 |_=>exact bK h
theorem vH{b:Bool}(h:JA d1 d2=Z b):qm G n .Eq d1 d2 b∧qm G n .NotEq d1 d2 (!b):=by
 replace h:=cT h;refine uV h λh=>?_;exact iW h λh h3=>iW h λh1 h2=>⟨.eq h1 h2 (aw h3),.ne h1 h2 (aw h3)⟩
theorem DT{b:Bool}(h:Ik d xs=Z b):qm G n .In d (.list xs) b∧qm G n .NotIn d (.list xs) (!b):=by
 replace h:=cT h;refine uV h λh=>?_;exact iW h λh h3=>iW h λh1 h2=>⟨.FO h1 h2 (aw h3),.UO h1 h2 (aw h3)⟩
theorem yy{b:Bool}(h:(JA d1 d2).map (!·)=Z b):qm G n .NotEq d1 d2 b:=by
 replace h:=dM.mp h;obtain⟨b',h,rfl⟩:=h;exact(vH h).2
theorem I7{b:Bool}(h:(Ik d xs).map (!·)=Z b):qm G n .NotIn d (.list xs) b:=by
 replace h:=dM.mp h;obtain⟨b',h,rfl⟩:=h;exact(DT h).2
theorem qh{b:Bool}(h:sI op d1 d2=Z b):qm G n op d1 d2 b:=by
 induction op using Bu with
 |Eq=>induction d1 using ao with
  |int a=>induction d2 using ao with
   |int b=>refine qS h ?_;exact .eqI
   |_=>exact(vH h).1
  |str a=>induction d2 using ao with
   |str b=>refine qS h ?_;exact .eqS
   |_=>exact(vH h).1
  |_=>exact(vH h).1
 |NotEq=>induction d1 using ao with
  |int a=>induction d2 using ao with
   |int b=>refine qS h ?_;exact .neI
   |_=>exact yy h
  |str a=>induction d2 using ao with
   |str b=>refine qS h ?_;exact .neS
   |_=>exact yy h
  |_=>exact yy h
 |Lt=>induction d1 using ao with
  |int a=>induction d2 using ao with
   |int b=>refine qS h ?_;exact .lt
   |_=>exact bK h
  |_=>exact bK h
 |LtE=>induction d1 using ao with
  |int a=>induction d2 using ao with
   |int b=>refine qS h ?_;exact .le
   |_=>exact bK h
  |_=>exact bK h
 |Gt=>induction d1 using ao with
  |int a=>induction d2 using ao with
   |int b=>refine qS h ?_;exact .gt
   |_=>exact bK h
  |_=>exact bK h
 |GtE=>induction d1 using ao with
  |int a=>induction d2 using ao with
   |int b=>refine qS h ?_;exact .ge
   |_=>exact bK h
  |_=>exact bK h
 |In=>induction d2 using ao with
  |str x=>induction d1 using ao with
   |str y=>refine qS h ?_;exact .inS
   |_=>exact bK h
  |list x=>induction d1 using ao<;>exact(DT h).1
  |_=>induction d1 using ao<;>exact bK h
 |NotIn=>induction d2 using ao with
  |str x=>induction d1 using ao with
   |str y=>refine qS h ?_;exact .UN
   |_=>exact bK h
  |list x=>induction d1 using ao<;>exact I7 h
  |_=>induction d1 using ao<;>exact bK h
 |Is=>induction d2 using ao with
  |none=>refine qS h ?_;exact .isN
  |_=>exact bK h
 |_=>exact bK h
theorem pS{b:Bool}(h:Dd d=Z b):Ie G n d b:=by
 induction d using ao with
 |bool a=>refine qS h ?_;exact .bool
 |int a=>refine qS h ?_;exact .int
 |str a=>replace h:=cT h;refine uV h λh=>?_;exact .str (aw h)
 |list a=>replace h:=cT h;refine uV h λh=>?_;exact .list (aw h)
 |_=>exact bK h
theorem xj:∀{l:List D} {xs:List Str},w5 l=Z xs->l=xs.map .str
 |[],xs,h=>by refine qS h ?_;rfl
 |d::r,xs,h=>by
  induction d using ao with
  |str x=>
   replace h:=dM.mp h;obtain⟨ys,h,rfl⟩:=h;exact J (xj h) rfl
  |_=>exact bK h
theorem o4:∀{l:List D} {xs:List Int},hU l=Z xs->l=xs.map .int
 |[],xs,h=>by refine qS h ?_;rfl
 |d::r,xs,h=>by
  induction d using ao with
  |int x=>
   replace h:=dM.mp h;obtain⟨ys,h,rfl⟩:=h;exact J (o4 h) rfl
  |_=>exact bK h
theorem FE{name:Str}{x y d:_}(h:Lu name (.str x) [.str y]=Z d):EA G n name (.str x) [.str y] d:=by
 unfold Lu at h
 cases e1:name==("startswith":Str)with
 |true=>rw[e1]at h;refine qS h ?_;exact J (aC.mp e1) .startswith
 |false=>
  rw[e1]at h
  cases e2:name==("endswith":Str)with
  |true=>rw[e2]at h;refine qS h ?_;exact J (aC.mp e2) .endswith
  |false=>
   rw[e2]at h;replace h:=cT h;refine uV h λh=>?_;exact iW h λh h4=>iW h λh h3=>iW h λh1 h2=>J (aC.mp h1) (.split (tG h2) (aw h3) (aw h4))
theorem I8{name:Str}(h:Lu name d1 ds=Z d):EA G n name d1 ds d:=by
 induction d1 using ao with
 |str x=>induction ds using aA with
  |nil=>exact bK h
  |cons a r=>induction a using ao with
   |str y=>induction r using aA with
    |nil=>exact FE h
    |cons b r=>induction b using ao with
     |int i=>induction r using aA with
      |nil=>exact bK h
      |cons c r=>induction c using ao with
       |int j=>induction r using aA with
        |nil=>
         replace h:=cT h;refine uV h λh=>?_;exact J (aC.mp h) .find
        |_=>exact bK h
       |_=>exact bK h
     |_=>exact bK h
   |list l=>induction r using aA with
    |nil=>
     replace h:=d8.mp h;refine bh h λxs hx h=>?_;replace h:=cT h;refine uV h λh=>?_;exact iW h λh h3=>iW h λh1 h2=>J (aC.mp h1) (J (xj hx) (.join (tG h2) (aw h3)))
    |_=>exact bK h
   |_=>exact bK h
 |int i=>induction ds using aA with
  |nil=>
   replace h:=cT h;refine uV h λh=>?_;exact J (aC.mp h) .bits
  |_=>exact bK h
 |list l=>induction ds using aA with
  |nil=>exact bK h
  |cons a r=>induction a using ao with
   |int k=>induction r using aA with
    |nil=>
     replace h:=d8.mp h;refine bh h λxs hx h=>?_;replace h:=cT h;refine uV h λh=>?_;exact iW h λh h3=>iW h λh1 h2=>J (aC.mp h1) (J (o4 hx) (.index (eW.mp h2) h3))
    |_=>exact bK h
   |_=>exact bK h
 |_=>exact bK h
noncomputable def Gx(name:Str):az:=bif name==("str":Str)then .type "str"else bif name==("len":Str)then .builtin "len"else bif name==("sum":Str)then .builtin "sum"else bif name==("abs":Str)then .builtin "abs"else bif name==("max":Str)then .builtin "max"else bif name==("min":Str)then .builtin "min"else .builtin "divmod"
theorem Gw(name:Str):pa (Gx name):=by
 unfold Gx
 repeat' (first|exact .type _|exact .builtin _|(cases name==(_:Str)<;>dsimp only[cond]))
theorem Gz{name:Str}{l:List D}(h:qk name [.list l]=Z d):Bq G n (Gx name) [] [.list l] d:=by
 unfold qk at h;dsimp only at h
 cases e1:name==("len":Str)&&ah (l.length<=fB)with
 |true=>
  rw[e1]at h;refine qS h ?_;refine iW e1 λe1 e=>qF (aC.mp e1) ?_;exact .afS (aw e)
 |false=>
  rw[e1]at h
  cases e2:name==("sum":Str)with
  |true=>
   rw[e2]at h;replace h:=dM.mp h;refine bh h λxs hx Gf=>?_;subst Gf;exact J (aC.mp e2) (J (o4 hx) .sum)
  |false=>
   rw[e2]at h;replace h:=cT h;refine uV h λh=>?_;refine iW h λh h4=>iW h λh h3=>iW h λh h2=>iW h λh h1=>qF (aC.mp h) ?_;exact .str rfl h1 (tG h2) (aw h3) (aw h4)
theorem Gy{name:Str}{a b:Int}(h:qk name [.int a,.int b]=Z d):Bq G n (Gx name) [] [.int a,.int b] d:=by
 unfold qk at h
 cases e1:name==("max":Str)with
 |true=>rw[e1]at h;refine qS h ?_;exact J (aC.mp e1) .max
 |false=>
  rw[e1]at h
  cases e2:name==("min":Str)with
  |true=>rw[e2]at h;refine qS h ?_;exact J (aC.mp e2) .min
  |false=>
   rw[e2]at h;replace h:=cT h;refine uV h λh=>?_;refine iW h λh h2=>iW h λh h1=>qF (aC.mp h) ?_;exact .divmod (bne_iff_ne.mp h1) (tG h2)
theorem JM{name:Str}(h:qk name ds=Z d):Bq G n (Gx name) [] ds d:=by
 induction ds using aA with
 |nil=>exact bK h|cons x r=>induction x using ao with
 |list l=>induction r using aA with
  |nil=>
   exact Gz h
  |_=>exact bK h
 |str l=>induction r using aA with
  |nil=>
   replace h:=cT h;refine uV h λh=>?_;refine iW h λh h1=>qF (aC.mp h) ?_;exact .afR (aw h1)
  |_=>exact bK h
 |int a=>induction r using aA with
  |nil=>
   replace h:=cT h;refine uV h λh=>?_;exact J (aC.mp h) .abs
  |cons y r=>induction y using ao with
  |int b=>induction r using aA with
   |nil=>exact Gy h|_=>exact bK h
  |_=>exact bK h
 |_=>exact bK h
section
def ve(xY:Bool)(t:aG):Bool:=!xY||lM t
structure Ig(G:Gd)(n:Nat)(a:aL)(th:List (Str×Int)):Prop where
 it:∀(s s1:aK) (O:aL->Prop) (A:dZ),g9 A n->G.Kx s s1->Al s1.heap O->aJ G.M A (sP (.ref a)) (λit s2=>G.Kx s s2∧W7 G s O (th.map λp=>.str p.1) (ve ag) ag it s2) cW s1
 get:∀(s:aK) (O:aL->Prop) (v2:az) (k:Str) (i:Int) (dh slice:aG),G.Wd s.heap->Al s.heap O->gu s.heap O v2 (.str k)->th.lookup k=Z i->Op G n O s (x7 dh slice (.ref a) v2) (.int i)
def EX(G:Gd)(x:Str)(f:az):Prop:=(x==("__debug__":Str))=ag∧(G.mg x=Z f∨(G.mg x=ae∧G.mb x=Z f))
def mT(G:Gd)(n:Nat)(E:bj->aE->aG->Option D):Prop:=∀(env:nJ) (ρ:aE) (e:aG) (d:D),E env.scope ρ e=Z d->rf G n env ρ e d∧(qa ρ e=ag->Ev G n env ρ e d)
structure mw(G:Gd)(n:Nat)(C:Cx):Prop where
 kn:C.kn<=n
 F:∀x ds d,C.F x ds=Z d->Cm G n x ds d
 FS:∀x ds d,C.FS x ds=Z d->eJ G n x ds d
 V:∀x d,C.V x=Z d->∃v,EX G x v∧∀h O,jT h O v d
 T:∀x th,C.T x=Z th->∃a,EX G x (.ref a)∧Ig G n a th
 H:∀E,mT G n E->∀(env:nJ) (ρ:aE) (e:aG) (d:D),C.H E env.scope ρ e=Z d->Ev G n env ρ e d
 range:EX G "range" (.type "range")
 reversed:EX G "reversed" (.type "reversed")
 enumerate:EX G "enumerate" (.type "enumerate")
 zip:EX G "zip" (.type "zip")
variable{E:bj->aE->aG->Option D}
theorem pB{f:az}(h:EX G x f)(hk:oR env.scope x=af):GI G env x f:=⟨by unfold oR at hk;exact aC.mp hk,h.1,h.2⟩
theorem b7(hE:mT G n E)(h:ue E env.scope ρ e=Z d):Ev G n env ρ e d:=by
 unfold ue at h;exact Q8 h λh1 h2=>(hE env ρ e d h2).2 h1
theorem ej(hE:mT G n E):∀{es:List aG} {ds:List D},fW E env.scope ρ es=Z ds->wc G n env ρ es ds
 |[],ds,h=>by refine qS h ?_;exact .nil
 |e::es,ds,h=>by
  exact Q8 h λh1 h2=>bE h2 λd h3 h4=>mE h4 λds' h5=>.cons (hE env ρ e d h3).1 (ej hE h5) h1
theorem gG(hE:mT G n E):∀{es:List aG} {ds:List D},fW (ue E) env.scope ρ es=Z ds->wb G n env ρ es ds
 |[],ds,h=>by refine qS h ?_;exact .nil
 |e::es,ds,h=>by
  exact Q8 h λh1 h2=>bE h2 λd h3 h4=>mE h4 λds' h5=>.cons (b7 hE h3) (gG hE h5) h1
theorem uF{f:aG->Option Bool}(hf:∀x b,f x=Z b->Tr G n env ρ x b):∀{op:sV} {vs:List aG} {b:Bool},Qu f op vs=Z b->OD G n env ρ op vs b
 |.And,[],b,h=>by refine qS h ?_;exact .abn
 |.Or,[],b,h=>by refine qS h ?_;exact .or0
 |.And,x::r,b,h=>by
  refine bE h λc h1 h2=>?_
  induction c using ax with
  |true=>exact .Cj (hf x _ h1) (uF hf h2)|false=>refine qS h2 ?_;exact .NO (hf x _ h1)
 |.Or,x::r,b,h=>by
  refine bE h λc h1 h2=>?_
  induction c using ax with
  |false=>exact .Y7 (hf x _ h1) (uF hf h2)|true=>refine qS h2 ?_;exact .Hq (hf x _ h1)
theorem Ql{o:Option jS}(h:(match o with|some (.fn ..)=>af|_=>ag)=af):∃K T g k,o=Z (.fn K T g k):=by
 induction o using aB with
 |none=>exact ff h
 |some b=>induction b using Internal.jS.casesOn with
  |fn K T g k=>exact⟨K,T,g,k,rfl⟩
  |_=>exact ff h
theorem B1{l:aG}(h:wJ ρ l op r=af):Tr G n env ρ (.Compare l [op] [r] pos) ag:=by
 induction l using bC with
 |Name x p=>induction op using Bu with
  |Is=>induction r using bC with
   |Constant c k q=>induction c using Bt with
    |none=>refine fj (Ql h) λK T g k hl=>?_;exact .wJ (mem_of_lookup hl)
    |_=>exact ff h
   |_=>exact ff h
  |_=>exact ff h
 |_=>exact ff h
theorem Gj(hE:mT G n E){l:aG}{b:Bool}(h:(bif wJ ρ l op r then Z ag else bif j3 op r then ae else(E env.scope ρ l).bind λd1=>(E env.scope ρ r).bind λd2=>sI op d1 d2)=Z b):Tr G n env ρ (.Compare l [op] [r] pos) b:=by
 cases hf:wJ ρ l op r with
 |true=>rw[hf]at h;refine qS h ?_;exact B1 hf
 |false=>
  rw[hf]at h;exact Q8 h λh1 h2=>bE h2 λd1 h3 h4=>bE h4 λd2 h5 h6=>.cmp (hE env ρ _ _ h3).1 (hE env ρ _ _ h5).1 (qh h6) h1
theorem n5(hE:mT G n E){b:Bool}(h:(bif ta e then(E env.scope ρ e).bind Dd else ae)=Z b):Tr G n env ρ e b:=by
 exact vN h λh1 h2=>bE h2 λd h3 h4=>.plain (hE env ρ _ _ h3).1 (pS h4) h1
theorem fe(hE:mT G n E):∀(k:Nat) {e:aG} {b:Bool},B6 E env.scope ρ k e=Z b->Tr G n env ρ e b
 |0,e,b,h=>bK h
 |k+1,e,b,h=>by
  induction e using bC with
  |UnaryOp op x p=>induction op using pI with
   |Not=>
    exact mE h λc h1=>.not (fe hE k h1)
   |_=>exact n5 hE h
  |BoolOp op vs p=>exact .bool (uF (λx b h=>fe hE k h) h)
  |Compare l Yg rs p=>induction Yg using aA with
   |nil=>exact n5 hE h
   |cons op os=>induction os using aA with
    |cons=>exact n5 hE h
    |nil=>induction rs using aA with
     |nil=>exact n5 hE h
     |cons r rr=>induction rr using aA with
      |cons=>exact n5 hE h|nil=>exact Gj hE h
  |_=>exact n5 hE h
theorem wN(hE:mT G n E):∀{op:sV} {vs:List aG} {d:D},evB E env.scope ρ op vs=Z d->Ru G n env ρ op vs d
 |op,[],d,h=>by induction op using zP<;>exact bK h
 |op,[x],d,h=>by
  have h:ue E env.scope ρ x=Z d:=by induction op using zP<;>exact h
  exact .last (b7 hE h)
 |.And,x::y::r,d,h=>by
  refine bE h λd1 h1 h2=>bE h2 λc h3 h4=>?_
  induction c using ax with
  |true=>exact .Cj (b7 hE h1) (pS h3) (wN hE h4)|false=>refine qS h4 ?_;exact .NO (b7 hE h1) (pS h3)
 |.Or,x::y::r,d,h=>by
  refine bE h λd1 h1 h2=>bE h2 λc h3 h4=>?_
  induction c using ax with
  |false=>exact .Y7 (b7 hE h1) (pS h3) (wN hE h4)|true=>refine qS h4 ?_;exact .Hq (b7 hE h1) (pS h3)
theorem wL(hE:mT G n E){e:Option aG}{k:Option Int}(h:evP E env.scope ρ e=Z k):qU G n env ρ e k:=by
 induction e using aB with
 |none=>refine qS h ?_;exact .none
 |some e=>
  unfold evP at h;dsimp only at h;generalize ho:E env.scope ρ e=o at h
  induction o using aB with
  |none=>exact bK h
  |some d=>induction d using ao with
   |int i=>refine qS h ?_;exact .some (hE env ρ _ _ ho).1
   |_=>exact bK h
theorem IK(hE:mT G n E){v i:aG}{k r:D}(h1:E env.scope ρ v=Z d)(h2:E env.scope ρ i=Z k)(h:xE d k=Z r):Ev G n env ρ (.Subscript v i pos) r:=by
 induction d using ao with
 |list ds=>induction k using ao with
  |int k=>
   exact vN h λh3 h4=>.L7 (hE env ρ _ _ h1).1 (hE env ρ _ _ h2).1 h4 (aw h3)
  |_=>exact bK h
 |tuple ds=>induction k using ao with
  |int k=>
   exact vN h λh3 h4=>iW h3 λh3 h5=>.L6 (hE env ρ _ _ h1).1 (hE env ρ _ _ h2).1 (aw h3) h4 (aw h5)
  |_=>exact bK h
 |_=>exact bK h
theorem IM(hE:mT G n E){v:aG}{lo hi st:Option aG}{l u k:Option Int}{p:eL}{r:D}(h0:E env.scope ρ v=Z d)(h1:qU G n env ρ lo l)(h2:qU G n env ρ hi u)(h3:qU G n env ρ st k)(h:rm d l u k=Z r):Ev G n env ρ (.Subscript v (.Slice lo hi st p) pos) r:=by
 have h0:=(hE env ρ _ _ h0).1
 induction d using ao with
 |list ds=>
  replace h:=cT h;refine uV h λh=>iW h λh4 h5=>?_
  cases h3 with
  |none=>exact .Up h0 h1 h2 (aw h4)|some h3=>exact .Uq h0 h1 h2 (.some h3) (beq_eq_false_iff_ne.mp (tG h5)) (aw h4)
 |str x=>
  replace h:=cT h;refine uV h λh=>iW h λh h6=>iW h λh4 h5=>.Uo h0 h1 h2 h3 (tG h4) (aw h5) λhc=>?_;rw[hc]at h6;exact aC.mp h6
 |tuple ds=>
  induction l using aB with
  |some=>exact bK h
  |none=>induction u using aB with
   |none=>exact bK h
   |some u=>induction u using uS with
    |negSucc=>exact bK h
    |ofNat a=>induction k using aB with
     |some=>exact bK h
     |none=>
      replace h:=cT h;refine uV h λh=>iW h λh h'=>?_
      cases h1;cases h3
      cases h2 with
      |some h2=>exact .Un h0 h2 (aw h) (aw h')
 |_=>exact bK h
theorem mK(hE:mT G n E){st:Bool}(h:Lc E env.scope ρ e=Z (xs,xY,st)):tz G n env ρ e xs (ve xY) st:=by
 unfold Lc at h;generalize ho:E env.scope ρ e=o at h
 induction o using aB with
 |none=>exact bK h
 |some d=>induction d using ao with
  |list ds=>
   cases h
   refine c8 (hE env ρ _ _ ho) λw ss=>?_
   cases ho:qa ρ e with
   |true=>exact .list w|false=>exact .listS (ss ho)
  |tuple ds=>cases h;exact .tuple (hE env ρ _ _ ho).1
  |_=>exact bK h
theorem AG(hC:mw G n C){th:List (Str×Int)}(h:De C env.scope ρ e=Z th):∃x p a,e=.Name x p∧GI G env x (.ref a)∧Ig G n a th:=by
 induction e using bC with
 |Name x p=>
  unfold De at h;dsimp only at h;generalize ρ.lookup x=o at h
  induction o using aB with
  |some=>exact bK h
  |none=>
   exact vN h λh1 h2=>bh (hC.T x th h2) λa h3 h4=>⟨x,p,a,rfl,pB h3 h1,h4⟩
 |_=>exact bK h
theorem Fk{a b c:Int}{q:List D×Bool×Bool}(h:yn a b c=Z q):q=(fh a b c,ag,af)∧ei a b c=af∧0<=cc a b c:=by
 replace h:=cT h;exact uV h λh=>iW h λh h'=>⟨rfl,h,aw h'⟩
theorem F8(K:l8 G)(hC:mw G n C)(hE:mT G n E){fp cp:eL}{o:Option (List D)}{q:List D×Bool×Bool}(g:GI G env "range" (.type "range"))(h:(match o with
 |some [.int b]=>yn 0 b 1
 |some [.int a,.int b]=>yn a b 1
 |some [.int a,.int b,.int c]=>bif c !=0&&!bT (b-a) c then yn a b c else ae
 |_=>ae)=Z q) (hb:fW E env.scope ρ es=o):tz G n env ρ (.Call (.Name "range" fp) es [] cp) q.1 (ve q.2.1) q.2.2:=by
 induction o using aB with
 |none=>exact bK h
 |some l=>induction l using aA with
  |nil=>exact bK h
  |cons a r=>induction a using ao with
   |int a=>induction r using aA with
    |nil=>
     exact Lg (Fk h) λh1 h2=>.UB K g (ej hE hb) h1 h2
    |cons b r=>induction b using ao with
     |int b=>induction r using aA with
      |nil=>
       exact Lg (Fk h) λh1 h2=>.UA K g (ej hE hb) h1 h2
      |cons c r=>induction c using ao with
       |int c=>induction r using aA with
        |nil=>
         exact vN h λh0 h=>iW h0 λh3 h4=>Lg (Fk h) λh1 h2=>.Uz K g (ej hE hb) (bne_iff_ne.mp h3) (tG h4) h1 h2
        |_=>exact bK h
       |_=>exact bK h
     |_=>exact bK h
   |_=>exact bK h
theorem F9(K:l8 G)(hC:mw G n C)(hE:mT G n E){f:Str}{p:eL}{q:List D×Bool×Bool}(h:OA C E env.scope ρ (.Call (.Name f p) es [] pos)=Z q):tz G n env ρ (.Call (.Name f p) es [] pos) q.1 (ve q.2.1) q.2.2:=by
 unfold OA at h;dsimp only at h
 cases e1:f==("range":Str)&&oR env.scope f with
 |true=>
  rw[e1]at h;refine iW e1 λe0 e1=>?_
  cases aC.mp e0
  exact F8 (o:=fW E env.scope ρ es) K hC hE (pB hC.range e1) h rfl
 |false=>
 rw[e1]at h
 cases e2:f==("reversed":Str)&&oR env.scope f with
 |true=>
  rw[e2]at h;refine iW e2 λe0 e2=>?_
  cases aC.mp e0
  generalize hb:fW E env.scope ρ es=o at h
  induction o using aB with
  |none=>exact bK h
  |some l=>induction l using aA with
   |nil=>exact bK h
   |cons a r=>induction a using ao with
    |list ds=>induction r using aA with
     |nil=>cases h;exact .rev K (pB hC.reversed e2) (ej hE hb)
     |_=>exact bK h
    |_=>exact bK h
 |false=>
 rw[e2]at h
 cases e3:f==("enumerate":Str)&&oR env.scope f with
 |true=>
  rw[e3]at h;refine iW e3 λe0 e3=>?_
  cases aC.mp e0
  generalize hb:fW E env.scope ρ es=o at h
  induction o using aB with
  |none=>exact bK h
  |some l=>induction l using aA with
   |nil=>exact bK h
   |cons a r=>induction a using ao with
    |list ds=>induction r using aA with
     |nil=>cases h;exact .qd K (pB hC.enumerate e3) (ej hE hb)
     |_=>exact bK h
    |tuple ds=>induction r using aA with
     |nil=>cases h;exact .aax K (pB hC.enumerate e3) (ej hE hb)
     |_=>exact bK h
    |_=>exact bK h
 |false=>
 rw[e3]at h
 cases e4:f==("zip":Str)&&oR env.scope f with
 |true=>
  rw[e4]at h;refine iW e4 λe0 e4=>?_
  cases aC.mp e0
  generalize hb:fW E env.scope ρ es=o at h
  induction o using aB with
  |none=>exact bK h
  |some l=>induction l using aA with
   |nil=>exact bK h
   |cons a r=>induction a using ao with
    |list xs=>induction r using aA with
     |nil=>exact bK h
     |cons b r=>induction b using ao with
      |list ys=>induction r using aA with
       |nil=>cases h;exact .zip K (pB hC.zip e4) (ej hE hb)
       |_=>exact bK h
      |_=>exact bK h
    |_=>exact bK h
 |false=>
  rw[e4]at h;exact mK hE h
theorem lj(K:l8 G)(hC:mw G n C)(hE:mT G n E){st:Bool}(h:OA C E env.scope ρ e=Z (xs,xY,st)):tz G n env ρ e xs (ve xY) st:=by
 induction e using bC with
 |Call f es U8 pos=>induction f using bC with
  |Name f p=>induction U8 using aA with
   |nil=>exact F9 K hC hE h|cons=>exact mK hE h
  |_=>exact mK hE h
 |Name x p=>
  unfold OA at h;dsimp only at h
  cases ht:De C env.scope ρ (.Name x p)with
  |none=>rw[ht]at h;exact mK hE h
  |some th=>
   rw[ht]at h
   cases h
   refine g8 (AG hC ht) λx' p' a e z1=>c8 z1 λg ok=>?_
   cases e
   intro A s O a' R Ek W S;exact iO K Ek W g (ok.it s s _ A R (Gd.Kx.refl W) S.oM)
 |_=>exact mK hE h
theorem ud{f:aG->Option Bool}(hf:∀x b,f x=Z b->Tr G n env ρ x b):∀{cs:List aG} {b:Bool},vG f cs=Z b->mS G n env ρ cs b
 |[],b,h=>by refine qS h ?_;exact .nil
 |c::cs,b,h=>by
  refine bE h λd h1 h2=>?_
  induction d using ax with
  |true=>exact .S8 (hf c _ h1) (ud hf h2)|false=>refine qS h2 ?_;exact .S9 (hf c _ h1)
theorem su(h:r7 e=af)(x:az):gJ e env x=pure x:=by
 induction e using bC<;>first|rfl|(exfalso;exact dP h)
theorem AY{f:α->Option β}:∀{xs:List α} {ys:List β},oQ f xs=Z ys->(∀x∈xs,∃y,f x=Z y)∧∀g:α->β,(∀x∈xs,f x=Z (g x))->ys=xs.map g
 |[],ys,h=>by refine qS h ?_;exact⟨λx hx=>(by cases hx),λ_ _=>rfl⟩
 |x::r,ys,h=>by
  refine bE h λy h1 h2=>mE h2 λys' h3=>c8 (AY h3) λi1 i2=>⟨λz hz=>?_,λg hg=>?_⟩
  ·rcases aM.mp hz with rfl|hz
   ·exact⟨y,h1⟩
   ·exact i1 z hz
  ·refine J (i2 g λz hz=>hg z (ba _ hz)) (J aR ?_);have:=hg x bf;rw[h1]at this;refine qS this ?_;rfl
end
section
variable{E:bj->aE->aG->Option D}
abbrev lvQ(C:Cx)(E:bj->aE->aG->Option D)(scope sc:bj)(iw:aG)(k:Nat)(ρ':aE)(fG:List cM):Option (List D):=match fG with
 |[]=>(ue E sc ρ' iw).map λy=>[y]
 |g2::Du=>(OA C E sc ρ' g2.iter).bind λq=>bif q.2.2 then Jz C E scope sc iw k ρ' q.1 q.2.1 g2 Du else ae
def ZC(C:Cx)(E:bj->aE->aG->Option D)(scope sc:bj)(iw:aG)(k:Nat)(ρ:aE)(g:cM)(fG:List cM)(d:D):Option (List D):=
 (nV scope 3 g.target d ρ).bind λρ'=>(vG (B6 E sc ρ' 9) g.ifs).bind λok=>bif ok then lvQ C E scope sc iw k ρ' fG else Z []
theorem Hy(hE:mT G n E){Ah:nJ}{g:cM}{y:List D}(h:ZC C E scope Ah.scope iw k ρ g fG d=Z y):
 ∃ρ',nV scope 3 g.target d ρ=Z ρ'∧((mS G n Ah ρ' g.ifs ag∧y=[])∨(mS G n Ah ρ' g.ifs af∧lvQ C E scope Ah.scope iw k ρ' fG=Z y)):=by
 refine bE h λρ' h1 h=>bE h λok h3 h=>?_;have T:=ud (λx b h=>fe (env:=Ah) hE 9 h) h3;refine⟨ρ',h1,?_⟩
 induction ok using ax with
 |false=>refine qS h ?_;exact .inl ⟨T,rfl⟩
 |true=>exact .inr ⟨T,h⟩
theorem LD{g:cM}(h:Jz C E scope sc iw (k+1) ρ xs xY g fG=Z ds):
 (NZ fG=af∧(!xY||lM g.target)=af∧∀p∈ρ,p.1∉tn 3 g.target)∧g=⟨g.target,g.iter,g.ifs,0⟩∧xs.flatMap (λd=>(ZC C E scope sc iw k ρ g fG d).getD [])=ds∧∀d∈xs,∃y,ZC C E scope sc iw k ρ g fG d=Z y:=by
 refine c8 (ig (x:=(oQ (ZC C E scope sc iw k ρ g fG) xs).map eF) h) λh0 h=>mE h λakf hm=>iW h0 λh0 h4=>iW h0 λh0 h3=>iW h0 λh1 h2=>c8 (AY hm) λm1 m2=>⟨⟨h1,h3,λp hp hc=>?_⟩,?_,?_,m1⟩
 ·have:=tG (a9.mp h4 p hp);rw[eW.mpr hc]at this
  cases this
 ·obtain⟨t,i,fs,as⟩:=g;refine qF (show as=0 from aC.mp h2) ?_
  rfl
 ·refine J (m2 (λd=>(ZC C E scope sc iw k ρ g fG d).getD []) λx hx=>by refine bQ (m1 x hx) λy hy=>?_;refine J hy ?_;rfl) ?_;refine J List.flatMap_def rfl
theorem LF{g:cM}(h:Jz C E scope sc iw k ρ xs xY g fG=Z ds):g=⟨g.target,g.iter,g.ifs,0⟩:=by
 induction k using nZ with
 |zero=>exact bK h|succ k=>exact(LD h).2.1
theorem LC(K:l8 G)(hC:mw G n C)(hE:mT G n E){scope':bj}:∀(k:Nat) (ρ:aE) (xs:List D) (xY:Bool) (g:cM) (fG:List cM) (depth:Nat) (ds:List D),
 Jz C E scope sc iw k ρ xs xY g fG=Z ds->(∀i,gens[depth+i]?=(g::fG)[i]?)->
 ∃lm:D->List D,xs.flatMap lm=ds∧∀Ah:nJ,Ah.scope=sc->oF G n scope Ah iw gens scope' pos depth ρ xs (ve xY) lm:=by
 intro k
 induction k with
 |zero=>intro ρ xs xY g fG depth ds h;exact bK h
 |succ k ih=>
  intro ρ xs xY g fG depth ds h HM;refine c8 (LD h) λz1 z2=>eP z1 λhro ht Ov=>eP z2 λha hz m1=>⟨_,hz,λAh jm=>?_⟩;subst jm;have hg:gens[depth]?=Z ⟨g.target,g.iter,g.ifs,0⟩:=(HM 0).trans (aD Z ha)
  induction fG using aA with
  |nil=>
   refine oF.last (k:=3) hg (HM 1) ht Ov λd hd=>bQ (m1 d hd) λy hy=>bh (Hy hE hy) λρ' h1 h2=>J hy ?_;refine⟨ρ',h1,h2.imp id λ⟨h3,h4⟩=>⟨h3,?_⟩⟩;exact mE h4 λz h5=>⟨z,b7 hE h5,rfl⟩
  |cons g2 Du=>
   refine iW hro λhs ha2=>?_;have hg2:gens[depth+1]?=Z ⟨g2.target,g2.iter,g2.ifs,0⟩:=(HM 1).trans (aD Z (show g2=_ by obtain⟨t,i,fs,as⟩:=g2;refine qF (show as=0 from aC.mp ha2) ?_;rfl));refine oF.more (k:=3) hg hg2 ht Ov (su hs) λd hd=>bQ (m1 d hd) λy hy=>bh (Hy hE hy) λρ' h1 h2=>J hy ?_;refine⟨ρ',h1,h2.imp id λ⟨h3,h4⟩=>⟨h3,?_⟩⟩;refine bh (d8.mp h4) λv7 h5 h6=>?_;obtain⟨ys,vc,st⟩:=v7;refine vN h6 λxm h6=>?_
   cases show st=af from xm
   exact bh (ih ρ' ys vc g2 Du (depth+1) y h6 (λi=>by exact J (dA ..) (J (bM 1 ..) (HM (i+1))))) λK2 r1 r2=>⟨ys,ve vc,K2,lj K hC hE h5,r2 Ah rfl,r1.symm⟩
structure Cp(G:Gd)(n:Nat)(env:nJ)(ρ:aE)(iw:aG)(gens:List cM)(scope:bj)(pos:eL)(ds:List D):Prop where
 ex:∃(bR iter:aG) (rz:List aG) (fG:List cM) (xs:List D) (sW:aG->Bool) (st:Bool) (lm:D->List D),gens=⟨bR,iter,rz,0⟩::fG∧kR scope env.scope=af∧(∀x,gJ iter env x=pure x)∧tz G n env ρ iter xs sW st∧
  ds=xs.flatMap lm∧ds.length<=16777216∧∀h:bq,oF G n scope (rq scope h env) iw (⟨bR,iter,rz,0⟩::fG) scope pos 0 (Oq scope env.scope ρ) xs sW lm
theorem wM(K:l8 G)(hC:mw G n C)(hE:mT G n E)(h:evC C E scope env.scope ρ iw gens=Z ds):Cp G n env ρ iw gens scope pos ds:=by
 induction gens using aA with
 |nil=>exact bK h
 |cons g fG=>
  refine vN h λh0 h=>bh (d8.mp h) λv9 h1 h2=>?_;obtain⟨xs,xY,st⟩:=v9;refine bE h2 λds' h3 h4=>Nu h4 λh5=>?_;have ha:=LF h3;refine bh (LC K hC hE (gens:=g::fG) (scope':=scope) (pos:=pos) 3 _ xs xY g fG 0 ds' h3 (λi=>by exact J (dF ..) rfl)) λlm r1 r2=>⟨g.target,g.iter,g.ifs,fG,xs,ve xY,st,lm,aD (·::fG) ha,(JT h0).1,su (JT h0).2,lj K hC hE h1,r1.symm,aw h5,λhp=>?_⟩;have:=r2 (rq scope hp env) rfl;rw[ha]at this;exact this
theorem Ev.wv(h:Ev G n env ρ e d):rf G n env ρ e d∧(qa ρ e=ag->Ev G n env ρ e d):=⟨h.w,λ_=>h⟩
theorem Ln(K:l8 G)(hC:mw G n C){q:eL}(h:nmD C env.scope ρ x=Z d):rf G n env ρ (.Name x q) d∧(qa ρ (.Name x q)=ag->Ev G n env ρ (.Name x q) d):=by
 unfold nmD at h;generalize hl:ρ.lookup x=o at h
 induction o using aB with
 |none=>
  exact vN h λh1 h2=>bh (hC.V x d h2) λv g r=>Ev.wv λA s O a R Ek W S=>iO K Ek W (pB g h1) ⟨Gd.Kx.refl W,r _ _⟩
 |some b=>induction b using Internal.jS.casesOn with
  |val d'=>refine qS h ?_;exact Ev.wv (.name (mem_of_lookup hl))
  |own ds=>
   refine qS h ⟨.own (mem_of_lookup hl),λhi=>?_⟩;unfold qa at hi;dsimp only at hi;rw[hl]at hi
   cases hi
  |fn=>exact bK h
theorem Ff(K:l8 G)(hC:mw G n C)(hE:mT G n E){v i:aG}(h:Ul C E env.scope ρ v i=Z d):Ev G n env ρ (.Subscript v i pos) d:=by
 unfold Ul at h;generalize ht:De C env.scope ρ v=o at h
 induction o using aB with
 |none=>
  exact bE h λd1 h1 h2=>bE h2 λd2 h3 h4=>IK hE h1 h3 h4
 |some th=>
  dsimp only at h;generalize hk:E env.scope ρ i=o at h
  induction o using aB with
  |none=>exact bK h
  |some k=>induction k using ao with
   |str k=>
    refine mE h λi hi=>g8 (AG hC ht) λx p a M2 z1=>c8 z1 λg ok=>?_;subst M2;intro A s O a' R Ek W S;refine q5 (iO K Ek W g ?_);exact ar ((hE env ρ _ _ hk).1 A s O a' R Ek W S) (λv2 s2 x2=>ar (ok.get s2 _ v2 k i _ _ x2.1.wd (S.kx W x2.1).oM x2.2 hi A R) (λv s3 x3=>⟨x2.1.trans x3.1,x3.2⟩) λ_ _ x=>x) λ_ _ x=>x
   |_=>exact bK h
theorem o7(K:l8 G)(hC:mw G n C)(hE:mT G n E){f:Str}{fp:eL}(h:(bif oR env.scope f then(match(fW (ue E) env.scope ρ es).bind λds=>C.FS f ds with
 |some d=>Z d
 |none=>(fW E env.scope ρ es).bind λds=>C.F f ds)else ae)=Z d):Ev G n env ρ (.Call (.Name f fp) es [] pos) d:=by
 refine vN h λh0 h=>?_;have h0:=aC.mp h0;generalize hm:(fW (ue E) env.scope ρ es).bind (λds=>C.FS f ds)=o at h
 induction o using aB with
 |none=>
  exact bE h λds h1 h2=>.dB K h0 (hC.F _ _ _ h2) (ej hE h1)
 |some d'=>
  refine qS h (bE hm λds h1 h2=>?_);exact .WO K h0 (hC.FS _ _ _ h2) (gG hE h1)
theorem Gu(K:l8 G)(hC:mw G n C)(hE:mT G n E){f:Str}{fp:eL}(h:B7 C E env.scope ρ (.Call (.Name f fp) es [] pos)=Z d):Ev G n env ρ (.Call (.Name f fp) es [] pos) d:=by
 unfold B7 at h;dsimp only at h;generalize hh:C.H E env.scope ρ (.Call (.Name f fp) es [] pos)=o at h
 induction o using aB with
 |some d'=>cases h;exact hC.H E hE env ρ _ d hh
 |none=>
  dsimp only at h;generalize hl:ρ.lookup f=o at h
  induction o using aB with
  |none=>exact o7 K hC hE h
  |some b=>induction b using Internal.jS.casesOn with
   |fn K' T g k=>induction es using aA with
    |nil=>exact o7 K hC hE h
    |cons e r=>induction r using aA with
     |nil=>
      exact vN h λh0 h=>bE h λd' h1 h2=>iW h0 λh3 h4=>.WN (mem_of_lookup hl) (aj (aw h3) hC.kn) (tG h4) (b7 hE h1) h2
     |cons=>exact o7 K hC hE h
   |_=>exact o7 K hC hE h
theorem Gk(hE:mT G n E){l:aG}(h:(bif j3 op r then ae else(E env.scope ρ l).bind λd1=>(E env.scope ρ r).bind λd2=>(sI op d1 d2).map .bool)=Z d):Ev G n env ρ (.Compare l [op] [r] pos) d:=by
 exact Q8 h λh0 h=>bE h λd1 h1 h2=>bE h2 λd2 h3 h4=>mE h4 λb h5=>.cmp (hE env ρ _ _ h1).1 (hE env ρ _ _ h3).1 (qh h5) h0
theorem GK(K:l8 G)(hC:mw G n C)(hE:mT G n E):mT G n (B7 C E):=λenv ρ e d h=>by
 have H:∀{e},C.H E env.scope ρ e=Z d->rf G n env ρ e d∧(qa ρ e=ag->Ev G n env ρ e d):=λh=>Ev.wv (hC.H E hE env ρ _ d h)
 induction e using bC with
 |Constant c k p=>induction c using Bt with
  |int=>refine qS h ?_;exact Ev.wv .cInt
  |bool=>refine qS h ?_;exact Ev.wv .cBool
  |str=>refine qS h ?_;exact Ev.wv .cStr
  |none=>refine qS h ?_;exact Ev.wv .aba
  |_=>exact H h
 |Name x p=>exact Ln K hC h
 |BinOp l op r p=>
  exact bE h λd1 h1 h2=>bE h2 λd2 h3 h4=>Ev.wv (.bin (hE env ρ _ _ h1).1 (hE env ρ _ _ h3).1 (oe h4))
 |UnaryOp op x p=>
  exact bE h λd1 h1 h2=>Ev.wv (.una (hE env ρ _ _ h1).1 (IE h2))
 |BoolOp op vs p=>exact Ev.wv (.Gv (wN hE h))
 |IfExp t b o p=>
  refine bE h λc h1 h2=>?_
  induction c using ax with
  |true=>exact Ev.wv (.Mg (fe hE 9 h1) (b7 hE h2))|false=>exact Ev.wv (.Mh (fe hE 9 h1) (b7 hE h2))
 |Compare l Yg rs p=>induction Yg using aA with
  |nil=>exact H h
  |cons op os=>induction os using aA with
   |cons=>exact H h
   |nil=>induction rs using aA with
    |nil=>exact H h
    |cons r rr=>induction rr using aA with
     |cons=>exact H h|nil=>exact Ev.wv (Gk hE h)
 |List es p=>
  exact bE h λds h1 h2=>Nu h2 λh3=>Ev.wv (.list (gG hE h1) (aw h3))
 |Tuple es c p=>
  exact bE h λds h1 h2=>Nu h2 λh3=>Ev.wv (.tuple (gG hE h1) (aw h3))
 |Subscript v i p=>induction i using bC with
  |Slice lo hi st q=>
   exact bE h λl h1 h=>bE h λu h2 h=>bE h λk h3 h=>bE h λd0 h4 h=>Ev.wv (IM hE h4 (wL hE h1) (wL hE h2) (wL hE h3) h)
  |_=>exact Ev.wv (Ff K hC hE h)
 |Call f es U8 p=>induction f using bC with
  |Name f fp=>induction U8 using aA with
   |nil=>exact Ev.wv (Gu K hC hE h)|cons=>exact H h
  |Attribute o m ju=>induction U8 using aA with
   |nil=>
    exact vN h λh0 h=>iW h0 λh0 h5=>iW h0 λh6 h7=>bE h λd1 h1 h2=>bE h2 λds h3 h4=>bh ((I8 h4:EA G n _ _ _ _).ex) λid m1 m2=>Ev.wv (.Zp (hE env ρ _ _ h1).1 (ej hE h3) h6 h7 (aw h5) m1 m2)
   |cons=>exact H h
  |_=>exact H h
 |ListComp iw gens scope pos=>
  refine mE h λds h1=>fj ((wM (pos:=pos) K hC hE h1).ex) λbR iter rz fG z1=>fj z1 λxs sW st lm z2=>dD z2 λJE e1 e2 e3 z3=>eP z3 λJD e5 e6=>?_;subst JE;subst JD;exact Ev.wv (.comp e1 e2 e3 e5 e6)
 |_=>exact H h
theorem lP(K:l8 G)(hC:mw G n C):∀k,mT G n (ev C k)
 |0=>λenv ρ e d h=>by exact bK h
 |k+1=>GK K hC (lP K hC k)
end
section
variable{ch:Bool}
inductive gO|next (ρ:aE)|ret (d:D)
variable{out:gO}
structure Cq(G:Gd)(sc:bj)(env:nJ)(a:Option aL)(B:aL->Prop)(s:aK):Prop where
 fr:∀b,Fr sc env b->B b
 ow:∀b,a=Z b->B b
 new:∀b,s.heap.get? b=ae->G.H.objs.size<=b->B b
 lo:∀b,B b->G.H.objs.size<=b
def zv(G:Gd)(env:nJ)(O B:aL->Prop)(s:aK)(ch:Bool)(a:Option aL):gO->Flow->aK->Prop
 |.next ρ',f,s'=>G.Kq B s s'∧f=.next∧∃a',SR G env O a' ρ' s'.heap∧(∀b,a'=Z b->B b)∧(ch=ag->a'=a)
 |.ret d,f,s'=>G.Kq B s s'∧∃v,f=.ret v∧jT s'.heap O v d
def ql(sc:bj)(env:nJ):Prop:=∀x,g0 sc x=af->env.kindOf x=Z .local∨env.kindOf x=Z .cell
def gj(G:Gd)(n:Nat)(sc:bj)(env:nJ)(ch:Bool)(ρ:aE)(st:bX)(out:gO):Prop:=
 ∀(A:dZ) (s:aK) (O:aL->Prop) (a:Option aL) (B:aL->Prop),g9 A n->dQ G env->ql sc env->G.Wd s.heap->SR G env O a ρ s.heap->Cq G sc env a B s->
  aJ G.M A (exec st env) (λf s'=>zv G env O B s ch a out f s') cW s
def mv(G:Gd)(n:Nat)(sc:bj)(env:nJ)(ch:Bool)(ρ:aE)(ss:List bX)(out:gO):Prop:=
 ∀(A:dZ) (s:aK) (O:aL->Prop) (a:Option aL) (B:aL->Prop),g9 A n->dQ G env->ql sc env->G.Wd s.heap->SR G env O a ρ s.heap->Cq G sc env a B s->
  aJ G.M A (GU ss env) (λf s'=>zv G env O B s ch a out f s') cW s
theorem Cq.step{a':Option aL}(b:Cq G sc env a B s)(k:G.Kq B s s')(ha:∀c,a'=Z c->B c):Cq G sc env a' B s' where
 fr:=b.fr
 ow:=ha
 new:=λc hc hl=>by
  cases e:s.heap.get? c with
  |none=>exact b.new c e hl
  |some o=>
   by_cases hB:B c
   ·exact hB
   ·by_cases ht:G.Tb c
    ·have:=k.wd.Fd ht;rw[hc]at this;exact ff this
    ·rw[k.kp c o e hB ht]at hc;exact R0 hc
 lo:=b.lo
theorem zv.trans{a1:Option aL}{f:Flow}(k:G.Kq B s s1)(p:zv G env O B s1 ch a1 out f s')(h:ch=ag->a1=a):zv G env O B s ch a out f s':=by
 induction out using Internal.gO.casesOn with
 |next ρ'=>
  exact lK p λp1 p2 a' p3 p4 p5=>⟨k.trans p1,p2,a',p3,p4,λhc=>(p5 hc).trans (h hc)⟩
 |ret d=>exact⟨k.trans p.1,p.2⟩
theorem mv.nil:mv G n sc env ch ρ [] (.next ρ):=λA s O a B R Ek hs W S b=>EJ ⟨(Gd.Kx.refl W).kq,rfl,a,S,b.ow,λ_=>rfl⟩
theorem mv.cons(h1:gj G n sc env ch ρ st (.next ρ'))(h2:mv G n sc env ch ρ' ss out):mv G n sc env ch ρ (st::ss) out:=λA s O a B R Ek hs W S b=>
 ij (ar (h1 A s O a B R Ek hs W S b) (λf s1 p=>by
  refine lK p λk jE a' S' ha hc=>?_;subst jE;exact ar (h2 A s1 O a' B R Ek hs k.wd S' (b.step k ha)) (λf s2 q=>q.trans k hc) λ_ _ x=>x) λ_ _ x=>x)
theorem mv.ret(h1:gj G n sc env ch ρ st (.ret d)):mv G n sc env ch ρ (st::ss) (.ret d):=λA s O a B R Ek hs W S b=>
 ij (ar (h1 A s O a B R Ek hs W S b) (λf s1 p=>by
  refine xk p λk v sE r=>?_;subst sE;exact⟨k,v,rfl,r⟩) λ_ _ x=>x)
theorem jT.less{h:bq}{v:az}(r:jT h O v d)(hO:∀b,O' b->O b):jT h O' v d:=r.mono (λ_ _ e _ _=>e) λb _ hn ho=>hn (hO b ho)
theorem bb.less{h:bq}{v:List az}{d:List D}(r:bb h O v d)(hO:∀b,O' b->O b):bb h O' v d:=r.mono (λ_ _ e _ _=>e) λb _ hn ho=>hn (hO b ho)
theorem gj.ret(h:Ev G n env ρ e d):gj G n sc env ch ρ (.Return (Z e) pos) (.ret d):=λA s O a B R Ek hs W S b=>by
 exact J (abJ ..) (ai (bU (ai (ar (h A s O a R Ek W S) (λv s1 x=>ay ⟨x.1.kq,v,rfl,x.2.less λ_ h=>.inl h⟩) λ_ _ x=>x))))
theorem gj.Fm{p:eL}(hm:(x,jS.own ds)∈ρ):gj G n sc env ch ρ (.Return (Z (.Name x p)) pos) (.ret (.list ds)):=λA s O a B R Ek hs W S b=>by
 refine J (abJ ..) (ai (bU (ai ?_)));refine bh S.ns λm hn f=>?_;obtain⟨nd,l,vs,lk,ha,hl,r⟩:=f _ hm;refine jf (fA Ek hn lk (ay ⟨(Gd.Kx.refl W).kq,_,rfl,?_⟩)) nd;exact⟨l,vs,rfl,(S.ow l ha).1,hl,r.less λ_ h=>.inl h⟩
theorem gj.Pa:gj G n sc env ch ρ (.Return ae pos) (.ret .none):=λA s O a B R Ek hs W S b=>by
 exact J (abK ..) (ai (bU (ay ⟨(Gd.Kx.refl W).kq,_,rfl,rfl⟩)))
theorem gj.Vp{t:aG}{b o:List bX}(ht:Tr G n env ρ t c)(h:mv G n sc env ch ρ (bif c then b else o) out):gj G n sc env ch ρ (.If t b o pos) out:=λA s O a B R Ek hs W S bk=>by
 refine J (arm_exec_If ..) (ai (bU (ai (ar (ht A s O a R Ek W S) (λv s1 x=>?_) λ_ _ x=>x))));refine c8 x λk Gh=>?_;subst Gh;have:=ar (h A s1 O a B R Ek hs k.wd (S.kx W k) (bk.step k.kq bk.ow)) (λf s2 q=>q.trans k.kq λ_=>rfl) λ_ _ x=>x
 induction v using ax<;>exact this
noncomputable def qH:aG->Bool
 |.ListComp .. |.SetComp .. |.DictComp .. =>ag
 |_=>af
theorem pT{t:aG}{Xe:Nat}(h:qH dh=af):tK dh (Z t) Xe env=pure ag:=by
 induction dh using bC<;>first|rfl|(exfalso;exact dP h)
theorem lO{Q:Flow->aK->Prop}(Vy:tK dh (Z (.Name x px)) pos.line env=pure ag)(h:aJ G.M A (eval dh env) (λv s1=>aJ G.M A (fY (.Name x px) env v) (λ_=>Q .next) cW s1) cW s):
 aJ G.M A (exec (.Assign [.Name x px] dh pos) env) Q cW s:=by
 refine J (exec_Assign ..) (ai (bU ?_));show aJ _ _ (tK dh (Z (.Name x px)) pos.line env>>=_) _ _ _;refine J Vy (ai (ay ?_));refine J (bF (by decide)) ?_;refine ai (ar h (λv s1 h1=>?_) λ_ _ x=>x);refine ai (ay ?_);show aJ G.M A (do assignAll v [fY (.Name x px) env];pure .next) Q cW s1;exact ai (ar h1 (λ_ _ x=>ay x) λ_ _ x=>x)
theorem gj.assign(hx:g0 sc x=af)(hc:qH dh=af)(h:Ev G n env ρ dh d):gj G n sc env ch ρ (.Assign [.Name x px] dh pos) (.next (vU ρ x (.val d))):=λA s O a B R Ek hs W S b=>by
 refine lO (pT hc) (ar (h A s O a R Ek W S) (λv s1 x1=>?_) λ_ _ x=>x);refine eZ (lh (sc:=sc) Ek x1.1.wd (S.kx W x1.1) hx (hs x hx) x1.2 λs2 kp S2=>?_);exact⟨x1.1.kq.trans (kp.kq.mono λc hc _=>b.fr c hc),rfl,a,S2,b.ow,λ_=>rfl⟩
theorem SR.skip{h:bq}{C:aL}{m:Str->Option az}(S:SR G env O a ρ h)(hC:h.Ns C m)(n9:C≠env.locals)(hO:¬O C)(sb:d7 C h h'):SR G env O a ρ h':=by
 refine jz hC λoC esC epC eC dC _=>?_
 have kd:∀b o,h.get? b=Z o->(¬∃es ep,o.data=.dict es ep)->h'.get? b=Z o:=λb o e hd=>by
  exact J (sb.2 b λhb=>by subst hb;rw[eC]at e;cases e;exact hd ⟨_,_,dC⟩) e
 have ks:∀b o,h.get? b=Z o->(∃vs n,o.data=.seq vs n)->h'.get? b=Z o:=λb o e ⟨_,_,hd⟩=>kd b o e λ⟨_,_,z⟩=>by rw[hd]at z;cases z
 refine bh S.ns λm hn f=>⟨⟨m,hn.sameBut sb (RI n9),λp hp=>?_⟩,λx c hc=>?_,λb hb=>?_,λb hb=>?_,S.nl,S.nc⟩
 ·obtain⟨nd,ok⟩:=f p hp
  have lk:∀v,n0 env h m p.1 v->n0 env h' m p.1 v:=λv l=>by
   rcases l with l|⟨l1,l2,c,l3,o,l4,l5⟩
   ·exact .inl l
   ·exact .inr ⟨l1,l2,c,l3,o,kd _ _ l4 (λ⟨_,_,z⟩=>by rw[l5]at z;cases z),l5⟩
  refine⟨nd,?_⟩;obtain⟨x,b⟩:=p
  induction b using Internal.jS.casesOn with
  |val d=>refine bh ok λv l r=>?_;exact⟨v,lk v l,r.mono (λb o e hs _=>ks b o e hs) λ_ _ e=>e⟩
  |own ds=>refine dn ok λl vs l1 l2 OR l4=>?_;refine bQ OR λk l3=>?_;exact⟨l,vs,lk _ l1,l2,⟨k,ks _ _ l3 ⟨_,_,rfl⟩⟩,l4.mono (λb o e hs _=>ks b o e hs) λ_ _ e=>e⟩
  |fn K T f' n'=>refine gM ok λv l t F=>?_;exact⟨v,lk v l,F.next t (λb o hb e=>by refine bh (F.al b hb) λo' e' hd=>?_;rw[e]at e';cases e';exact kd b o e (λ⟨_,_,z⟩=>hd _ _ z)) F.nO F.nF⟩
 ·exact bQ (S.cells x c hc) λv v18=>bh v18 λo e hd=>⟨v,o,kd _ _ e (λ⟨_,_,z⟩=>by rw[hd]at z;cases z),hd⟩
 ·exact J (sb.2 b λe=>hO (e▸hb)) (S.al b hb)
 ·exact c8 (S.ow b hb) λz z1=>bQ z1 λvs v20=>bQ v20 λk e=>⟨z,vs,k,ks _ _ e ⟨_,_,rfl⟩⟩
noncomputable def fq(ρ:aE):aE:=ρ.map λp=>(p.1,match p.2 with|.own ds=>.val (.list ds)|.val d=>.val d|.fn K T f k=>.fn K T f k)
theorem SR.fq{h:bq}(S:SR G env O a ρ h):SR G env O ae (Internal.fq ρ) h:=by
 refine bh S.ns λm hn f=>⟨⟨m,hn,λp hp=>?_⟩,S.cells,S.al,(λb hb=>by exact bK hb),S.nl,S.nc⟩;refine bh (cG.mp hp) λq hq JB=>?_;subst JB;obtain⟨nd,ok⟩:=f q hq;refine⟨nd,?_⟩;have less:∀b,Ow O ae b->Ow O a b:=λb h=>h.elim .inl λh=>by exact bK h
 obtain⟨x,b⟩:=q
 induction b using Internal.jS.casesOn with
 |val d=>refine bh ok λv l r=>?_;exact⟨v,l,r.less less⟩
 |own ds=>
  refine dn ok λl vs l1 l2 l3 l4=>⟨_,l1,?_⟩;exact⟨l,vs,rfl,(λh=>h.elim (S.ow l l2).1 (λh=>by exact bK h)),l3,l4.less less⟩
 |fn K T f' n'=>refine gM ok λv l t F=>?_;exact⟨v,l,F.next t (λ_ _ _ e=>e) (λb hb h=>F.nO b hb (less b h)) F.nF⟩
theorem SR.RV{h:bq}{l:aL}{vs:Array az}(S:SR G env (λb=>O b∨b=l) ae ρ h)(hl:h.PlainList l vs)(hO:¬O l)(r:bb h (λb=>O b∨b=l) vs.toList ds)(nd:(x==("__debug__":Str))=ag)
 (lk:∀m,h.Ns env.locals m->n0 env h m x (.ref l)):SR G env O (Z l) ((x,.own ds)::ρ) h:=by
 refine bh S.ns λm hn f=>?_;have less:∀b,Ow O (Z l) b->Ow (λb=>O b∨b=l) ae b:=λb h=>h.elim (λh=>.inl (.inl h)) λh=>by refine qS h ?_;exact .inl (.inr rfl)
 refine⟨⟨m,hn,λp hp=>?_⟩,S.cells,λb hb=>S.al b (.inl hb),λb hb=>by refine qS hb ?_;exact⟨hO,vs,hl⟩,λh=>S.nl (.inl h),λy c hc h=>S.nc y c hc (.inl h)⟩
 rcases aM.mp hp with rfl|hp
 ·exact⟨nd,l,vs,lk m hn,rfl,hl,r.less λb h=>h.elim .inl λh=>by refine qS h ?_;exact .inr rfl⟩
 ·obtain⟨UR,ok⟩:=f p hp;refine⟨UR,?_⟩;obtain⟨y,b⟩:=p
  induction b using Internal.jS.casesOn with
  |val d=>refine bh ok λv l r=>?_;exact⟨v,l,r.less less⟩
  |own ds=>refine dn ok λl vs l1 l2 l3 l4=>?_;exact bK l2
  |fn K T f' n'=>refine gM ok λv l t F=>?_;exact⟨v,l,F.next t (λ_ _ _ e=>e) (λb hb h=>F.nO b hb (less b h)) F.nF⟩
end
variable{out:gO}
section
variable{ch:Bool}
theorem I6{h:bq}{a:aL}{m m':Str->Option az}(x:h.Ns a m)(y:h.Ns a m'):m=m':=by
 refine ou x λo es ep e hd _ r=>ou y λo' es' ep' e' CE _ r'=>?_;rw[e]at e';cases e';rw[hd]at CE;cases CE
 funext name
 exact rF (r name) (rF (r' name) rfl)
theorem lG{v:az}{Q:Unit->aK->Prop}{E:az->aK->Prop}(Ek:dQ G env)(W:G.Wd s.heap)(S:SR G env O a ρ s.heap)
 (xm:g0 sc x=af) (hx:env.kindOf x=Z .local∨env.kindOf x=Z .cell)
 (hQ:∀s',G.Kp (Fr sc env) s s'->SR G env O a (ρ.filter λp=>!(p.1==x)) s'.heap->(∀m,s'.heap.Ns env.locals m->n0 env s'.heap m x v)->Q () s'):aJ G.M A (abG env x v) Q E s:=by
 refine eP (ic xm) λ_ hc nd=>bh S.ns λm hn f=>?_
 have key:∀(b0:aL) (h':bq) (tk:Nat) (m':Str->Option az),Fr sc env b0->(b0=env.locals∨∃y,env.kindOf y=Z .cell∧env.cells.lookup y=Z b0)->d7 b0 s.heap h'->h'.Ns env.locals m'->(∀y,y≠x->m' y=m y)->(∀y c v,y≠x->env.cells.lookup y=Z c->s.heap.IsCell c v->h'.IsCell c v)->
  (∀y c,env.cells.lookup y=Z c->∃v,h'.IsCell c v)->n0 env h' m' x v->Q () {s with heap:=h',toks:=tk}:=by
  intro b0 h' tk m' hb Qd sb z8 hm pP Kd lk;have W':=W.same (hb.lo Ek) sb λo e=>S.aal hb e
  have kb:∀b o,s.heap.get? b=Z o->(∃vs k,o.data=.seq vs k)->h'.get? b=Z o:=λb o e hs=>by
   exact J (sb.2 b λxo=>by subst xo;refine jY hs λvs k hs=>?_;exact S.iL hb e hs) e
  have ex:∀b,(s.heap.get? b).isSome->(h'.get? b).isSome:=λb hbs=>by
   by_cases xo:b=b0
   ·subst xo
    rcases hb with rfl|⟨y,_,hy⟩
    ·exact g8 z8 λo _ _ e _=>J e rfl
    ·exact bQ (Kd y b hy) λ_ v7=>bh v7 λo e _=>J e rfl
   ·exact J (sb.2 b xo) hbs
  refine hQ _ ⟨h',tk,rfl,λb o e hf _=>by exact J (sb.2 b λxo=>hf (xo▸hb)) e,ex,W'⟩ ?_ λm'' agq=>I6 z8 agq▸lk;refine⟨⟨m',z8,λp hp=>?_⟩,Kd,λb hO=>(let⟨o,e,nc⟩:=S.al b hO;⟨o,by exact J (sb.2 b λxo=>S.frO (xo▸hb) (.inl hO)) e,nc⟩),λb D1=>?_,S.nl,S.nc⟩
  ··refine c8 (cZ.mp hp) λhp n9=>?_;have n9:p.1≠x:=by simpa using n9
    obtain⟨UR,ok⟩:=f p hp
    have lk:∀v,n0 env s.heap m p.1 v->n0 env h' m' p.1 v:=λv l=>by
     rcases l with⟨l,l'⟩|⟨l1,l2,c,l3,l4⟩
     ·exact .inl ⟨l,by exact J (hm _ n9) l'⟩
     ·exact .inr ⟨l1,l2,c,l3,pP _ _ _ n9 l3 l4⟩
    refine⟨UR,?_⟩;obtain⟨y,b⟩:=p
    induction b using Internal.jS.casesOn with
    |val d=>refine bh ok λv l r=>?_;exact⟨v,lk v l,r.mono (λb o e hs _=>kb b o e hs) λ_ _ e=>e⟩
    |own ds=>refine dn ok λl vs l1 l2 v13 l4=>?_;refine bQ v13 λk l3=>?_;exact⟨l,vs,lk _ l1,l2,⟨k,kb _ _ l3 ⟨_,_,rfl⟩⟩,l4.mono (λb o e hs _=>kb b o e hs) λ_ _ e=>e⟩
    |fn K T f' n'=>refine gM ok λv l t F=>?_;exact⟨v,lk v l,F.next t (λb o hK e=>by exact J (sb.2 b λxo=>by subst xo;refine jR Qd (λh=>?_) λz=>bh z λy hy h=>?_<;>first|exact(F.nF b hK).1 h|exact(F.nF b hK).2 y hy h) e) F.nO F.nF⟩
  ·exact c8 (S.ow b D1) λz z1=>bQ z1 λvs v15=>bQ v15 λk y=>⟨z,vs,k,kb _ _ y ⟨_,_,rfl⟩⟩
 have uv:∀y c,env.cells.lookup y=Z c->c≠env.locals:=λy c nQ he=>by
  refine bQ (S.cells y c nQ) λv v17=>bh v17 λo e hd=>jz hn λo' es ep e' CE _=>?_;rw[he,e']at e;cases e;rw[hd]at CE;cases CE
 refine jR hx (λhx=>?_) λhx=>?_
 ·refine OE hx hn (λh' z8 sb=>key env.locals h' _ _ (.inl rfl) (.inl rfl) sb z8 (λy hy=>bF hy) (λy c v hy nQ hv=>hv.sameBut sb (uv y c nQ)) (λy c nQ=>?_) (.inl ⟨hx,bz rfl⟩)) (J Ek.kind rfl);exact bQ (S.cells y c nQ) λv hv=>⟨v,hv.sameBut sb (uv y c nQ)⟩
 ·refine bQ (Ek.cl x (.inl hx)) λc nQ=>bQ (S.cells x c nQ) λv₀ hv₀=>?_
  have ap:∀y c',y≠x->env.cells.lookup y=Z c'->c'≠c:=λy c' hy h1 h2=>by
   subst h2;exact hy (Ek.apart _ _ _ h1 nQ)
  refine Rz Ek.kind hx nQ hv₀ λh' ZV sb=>key c h' _ m (.inr ⟨x,xm,nQ⟩) (.inr ⟨x,hx,nQ⟩) sb (hn.sameBut sb (uv x c nQ).symm) (λ_ _=>rfl) (λy c' v hy h1 hv=>hv.sameBut sb (ap y c' hy h1)) (λy c' h1=>?_) (.inr ⟨.inl hx,hc,c,nQ,ZV⟩)
  by_cases hy:y=x
  ·subst hy;rw[nQ]at h1;exact qS h1 ⟨_,ZV⟩
  ·exact bQ (S.cells y c' h1) λv hv=>⟨v,hv.sameBut sb (ap y c' hy h1)⟩
theorem pU{l:aL}{vs:Array az}{Q:Unit->aK->Prop}(Ek:dQ G env)(hx:g0 sc x=af)(hs:ql sc env)(W:G.Wd s.heap)(S:SR G env O a ρ s.heap)(k:G.Kx s s1)(hn:s.heap.get? l=ae)
 (hl:s1.heap.PlainList l vs) (r:bb s1.heap (λb=>Ow O a b∨b=l) vs.toList ds) (hQ:∀s2,G.Kp (Fr sc env) s1 s2->SR G env O (Z l) ((x,.own ds)::(fq ρ).filter λp=>!(p.1==x)) s2.heap->Q () s2):
 aJ G.M A (abG env x (.ref l)) Q cW s1:=by
 refine bQ hl λc el=>?_;have nO:¬Ow O a l:=λh=>by refine bh (S.oM l h) λ_ this _=>?_;rw[hn]at this;exact bK this
 have S1:SR G env (λb=>O b∨b=l) ae (fq ρ) s1.heap:=S.fq.wide W k (λb h=>h.elim .inl λh=>.inr (h▸hn)) λb h=>by
  rcases h with h|rfl
  ·exact(S.kx W k).al b h
  ·exact⟨_,el,.seq rfl⟩
 refine lG (sc:=sc) Ek k.wd S1 hx (hs x hx) λs2 kp S2 lk=>hQ s2 kp ?_;have QD:s2.heap.PlainList l vs:=⟨c,kp.kp _ _ el (λh=>S1.iL h el rfl) (k.wd.md el rfl)⟩;refine S2.RV QD (λh=>nO (.inl h)) ?_ (ic hx).2.2 lk;have:bb s1.heap (λb=>O b∨b=l) vs.toList ds:=r.less λb h=>h.elim (λh=>.inl (.inl h)) .inr;exact this.kp k.wd kp.kp λb o vs k hb e hd=>(S1.iL hb e hd).elim
theorem DA(R:g9 A n)(Ek:dQ G env)(W:G.Wd s.heap)(S:SR G env O a ρ s.heap)(h:wb G n env ρ es ds)(hz:ds.length<=16777216):
 aJ G.M A (eval (.List es pos) env) (λv s1=>G.Kx s s1∧∃l vs,v=.ref l∧s.heap.get? l=ae∧G.H.objs.size<=l∧s1.heap.PlainList l vs∧bb s1.heap (λb=>Ow O a b∨b=l) vs.toList ds) cW s:=
 Bv (ar (h.run A s O a R Ek W S) (λvs s1 x1=>by
  refine dN ⟨x1.1.trans (Gd.Kx.of x1.1.wd (bL _)),s1.heap.objs.size,vs.toArray,rfl,?_,x1.1.wd.sz,⟨_,bc _ rfl⟩,?_⟩ (by show vs.toArray.size<=l9;exact J gy (J x1.2.length (J cC hz)))
  ·cases e:s.heap.get? s1.heap.objs.size with
   |none=>rfl|some o=>have:=x1.1.ex _ (J e rfl);rw[cU (aV _)]at this;exact ff this
  ·have:bb s1.heap (Ow O a) vs.toArray.toList ds:=by simpa using x1.2
   exact this.wide (bL _) λb h=>h.elim .inl λh=>.inr (J h (cU (aV _)))) λ_ _ x=>x)
theorem gj.Pj{p:eL}(hx:g0 sc x=af)(h:wb G n env ρ es ds)(hz:ds.length<=16777216):gj G n sc env af ρ (.Assign [.Name x px] (.List es p) pos) (.next ((x,.own ds)::(fq ρ).filter λp=>!(p.1==x))):=λA s O a B R Ek hs W S b=>by
 refine lO (pT rfl) (ar (DA R Ek W S h hz) (λv s1 x1=>?_) λ_ _ x=>x);refine c8 x1 λk z1=>dn z1 λl vs M0 hn lo z2=>c8 z2 λhl r=>?_;subst M0;refine eZ (pU Ek hx hs W S k hn hl r λs2 kp S2=>?_);exact⟨k.kq.trans (kp.kq.mono λc hc _=>b.fr c hc),rfl,Z l,S2,(λc hc=>by refine qS hc ?_;exact b.new l hn lo),λh=>by cases h⟩
theorem vE{p:eL}{Q:Flow->aK->Prop}(hc:Cp G n env ρ iw gens scope p ds)(R:g9 A n)(Ek:dQ G env)(W:G.Wd s.heap)(S:SR G env O a ρ s.heap)
 (hQ:∀l s1 vs,G.Kx s s1->s.heap.get? l=ae->G.H.objs.size<=l->s1.heap.PlainList l vs->bb s1.heap (λb=>Ow O a b∨b=l) vs.toList ds->
  ∀C m,s.heap.get? C=ae->G.H.objs.size<=C->s1.heap.Ns C m->C≠l->
  aJ G.M A (fY (.Name x px) env (.ref l)) (λ_ s2=>∃m,s2.heap.Ns C m∧∀h',d7 C s2.heap h'->Q .next {s2 with heap:=h'}) cW s1)
 (hQ2:∀l s1 vs,G.Kx s s1->s.heap.get? l=ae->G.H.objs.size<=l->s1.heap.PlainList l vs->bb s1.heap (λb=>Ow O a b∨b=l) vs.toList ds->aJ G.M A (fY (.Name x px) env (.ref l)) (λ_ s2=>Q .next s2) cW s1):
 aJ G.M A (exec (.Assign [.Name x px] (.ListComp iw gens scope p) pos) env) Q cW s:=by
 refine fj hc.ex λbR iter rz fG z1=>fj z1 λxs sW st lm z2=>dD z2 λGf ok e2 e3 z3=>eP z3 λMZ e5 e6=>?_;subst Gf;subst MZ
 have two:tK (.ListComp iw (⟨bR,iter,rz,0⟩::fG) scope p) (Z (.Name x px)) pos.line env=pure af∨tK (.ListComp iw (⟨bR,iter,rz,0⟩::fG) scope p) (Z (.Name x px)) pos.line env=pure ag:=by
  obtain⟨b,hb⟩:∃b:Bool,tK (.ListComp iw (⟨bR,iter,rz,0⟩::fG) scope p) (Z (.Name x px)) pos.line env=pure b:=⟨_,rfl⟩
  induction b using ax
  ·exact .inr hb
  ·exact .inl hb
 refine jR two (λVy=>?_) λVy=>?_
 ·refine J (exec_Assign_Name_used _ _ _ _ Vy) (ai (bU (ai ?_)));show aJ _ A (do let _←comprehension (.ListComp iw (⟨bR,iter,rz,0⟩::fG) scope p) scope env _ (newList []) ag (eval iter env) (Z (fY (.Name x px) env))) _ _ s;refine ai (ar (zb (use:=Z (fY (.Name x px) env)) (Q:=λ_ s'=>Q .next s') R Ek W S ok e2 e3 e5 e6 λdi C s' vs kx hC z9 lz loA hn hl r=>?_) (λ_ s' hq=>ay (ay hq)) λ_ _ e=>e);refine bQ hn λm hn=>?_
  have n9:C≠di:=λh=>by
   refine jz hn λo es ep eC dC _=>bQ hl λk el=>?_;rw[h,el]at eC;cases eC;cases dC
  exact hQ di s' vs kx z9 loA hl r C m hC lz hn n9
 ·refine lO Vy (J (eval_ListComp ..) ?_);refine zb (use:=ae) (Q:=λv s1=>aJ G.M A (fY (.Name x px) env v) (λ_=>Q .next) cW s1) R Ek W S ok e2 e3 e5 e6 λdi C s' vs kx hC z9 lz loA hn hl r=>bQ hn λm hn=>⟨m,hn,λh' sb=>?_⟩;have ks:∀b o,s'.heap.get? b=Z o->(∃vs n,o.data=.seq vs n)->h'.get? b=Z o:=λb o e ⟨_,_,hd⟩=>by exact J (sb.2 b (yv hn e hd)) e
  exact bQ hl λc el=>hQ2 di _ vs (kx.same hC lz sb (NC.ns hn)) z9 loA ⟨c,ks _ _ el ⟨_,_,rfl⟩⟩ (r.mono (λb o e hs _=>ks b o e hs) λ_ _ e=>e)
theorem vi{h:bq}{l:aL}{vs:Array az}(hO:¬O l)(hl:h.PlainList l vs)(r:bb h (λb=>O b∨b=l) vs.toList ds):jT h O (.ref l) (.list ds):=by
 exact⟨l,vs,rfl,hO,hl,r.less λ_ h=>.inl h⟩
theorem gj.comp{p:eL}(hx:g0 sc x=af)(hc:Cp G n env ρ iw gens scope p ds):gj G n sc env ch ρ (.Assign [.Name x px] (.ListComp iw gens scope p) pos) (.next (vU ρ x (.val (.list ds)))):=λA s O a B R Ek hs W S b=>by
 have nO:∀l,s.heap.get? l=ae->¬Ow O a l:=λl hn h=>by refine bh (S.oM l h) λ_ this _=>?_;rw[hn]at this;exact bK this
 refine vE hc R Ek W S (λl s1 vs k hn lo hl r C m hC lz DX n9=>?_) λl s1 vs k hn lo hl r=>?_
 ·refine eZ (lh (sc:=sc) Ek k.wd (S.kx W k) hx (hs x hx) (vi (nO l hn) hl r) λs2 kp S2=>?_);have S1:=S.kx W k
  have cF:¬Fr sc env C:=λh=>by
   have:(s.heap.get? C).isSome:=by
    rcases h with rfl|⟨y,_,hy⟩
    ·exact bh S.ns λm v32 _=>g8 v32 λo _ _ e _=>J e rfl
    ·exact bQ (S.cells y C hy) λv v34=>bh v34 λo e _=>J e rfl
   rw[hC]at this;exact ff this
  have FR:s2.heap.Ns C m:=by
   refine jz DX λo es ep e hd rr=>⟨o,es,ep,kp.kp _ _ e cF λht=>?_,hd,rr⟩;refine c8 (k.wd.tbNone ht e) λ_ z1=>bQ z1 λvs z=>?_;rw[hd]at z;cases z
  refine⟨m,FR,λh' sb=>⟨?_,rfl,a,S2.skip FR (λh=>cF (.inl h)) (λh=>nO C hC (.inl h)) sb,b.ow,λ_=>rfl⟩⟩;have W2:=kp.wd;exact(k.kq.trans (kp.kq.mono λc hc _=>b.fr c hc)).trans ⟨h',s2.toks,rfl,λc o e hB _=>by exact J (sb.2 c λh=>hB (h▸b.new C hC lz)) e,W2.same lz sb (NC.ns FR)⟩
 ·refine eZ (lh (sc:=sc) Ek k.wd (S.kx W k) hx (hs x hx) (vi (nO l hn) hl r) λs2 kp S2=>?_);exact⟨k.kq.trans (kp.kq.mono λc hc _=>b.fr c hc),rfl,a,S2,b.ow,λ_=>rfl⟩
theorem gj.Pk{p:eL}(hx:g0 sc x=af)(hc:Cp G n env ρ iw gens scope p ds):gj G n sc env af ρ (.Assign [.Name x px] (.ListComp iw gens scope p) pos) (.next ((x,.own ds)::(fq ρ).filter λp=>!(p.1==x))):=λA s O a B R Ek hs W S b=>by
 have nO:∀l,s.heap.get? l=ae->¬Ow O a l:=λl hn h=>by refine bh (S.oM l h) λ_ this _=>?_;rw[hn]at this;exact bK this
 refine vE hc R Ek W S (λl s1 vs k hn lo hl r C m hC lz DX n9=>?_) λl s1 vs k hn lo hl r=>?_
 ·refine eZ (pU Ek hx hs W S k hn hl r λs2 kp S2=>?_)
  have cF:¬Fr sc env C:=λh=>by
   have:(s.heap.get? C).isSome:=by
    rcases h with rfl|⟨y,_,hy⟩
    ·exact bh S.ns λm v38 _=>g8 v38 λo _ _ e _=>J e rfl
    ·exact bQ (S.cells y C hy) λv v40=>bh v40 λo e _=>J e rfl
   rw[hC]at this;exact ff this
  have FR:s2.heap.Ns C m:=by
   refine jz DX λo es ep e hd rr=>⟨o,es,ep,kp.kp _ _ e cF λht=>?_,hd,rr⟩;refine c8 (k.wd.tbNone ht e) λ_ z1=>bQ z1 λvs z=>?_;rw[hd]at z;cases z
  refine⟨m,FR,λh' sb=>⟨?_,rfl,Z l,S2.skip FR (λh=>cF (.inl h)) (λh=>nO C hC (.inl h)) sb,(λc hc=>by refine qS hc ?_;exact b.new l hn lo),λh=>by cases h⟩⟩;have W2:=kp.wd;exact(k.kq.trans (kp.kq.mono λc hc _=>b.fr c hc)).trans ⟨h',s2.toks,rfl,λc o e hB _=>by exact J (sb.2 c λh=>hB (h▸b.new C hC lz)) e,W2.same lz sb (NC.ns FR)⟩
 ·refine eZ (pU Ek hx hs W S k hn hl r λs2 kp S2=>?_);exact⟨k.kq.trans (kp.kq.mono λc hc _=>b.fr c hc),rfl,Z l,S2,(λc hc=>by refine qS hc ?_;exact b.new l hn lo),λh=>by cases h⟩
end
section
variable{ch:Bool}
def Inp(G:Gd)(n:Nat)(op:gD)(d1 d2 d:D):Prop:=
 ∀(s:aK) (O:aL->Prop) (v1 v2:az),G.Wd s.heap->Al s.heap O->gu s.heap O v1 d1->gu s.heap O v2 d2->Op G n O s (inplaceOp op v1 v2) d
def qK:gD->D->D->Option D
 |.Add,.int a,.int b=>Z (.int (a+b))
 |.Sub,.int a,.int b=>Z (.int (a-b))
 |.BitOr,.int a,.int b=>Z (.int (eQ a b))
 |.RShift,.int a,.int b=>bif ah (0<=b)then Z (.int (a.fdiv (2^b.toNat)))else ae
 |.LShift,.int a,.int b=>bif ah (0<=b)&&ah ((ak a:Int)+b<=2^27)then Z (.int (a*2^b.toNat))else ae
 |.Add,.str x,.str y=>bif ah (x.length+y.length<=fB)then Z (.str (x++y))else ae
 |_,_,_=>ae
theorem Jj{op:gD}(h:qK op d1 d2=Z d):Inp G n op d1 d2 d:=by
 induction op using oO with
 |Add=>induction d1 using ao with
  |int a=>induction d2 using ao with
   |int b=>
    refine qS h ?_;intro s O v1 v2 W al r1 r2 A R;refine bQ r1.int λt jE=>?_;subst jE;refine bQ r2.int λu sE=>?_;subst sE
    with_reducible refine P.iadd_int ?_
    exact⟨Gd.Kx.tok W,dJ⟩
   |_=>exact bK h
  |str a=>induction d2 using ao with
   |str b=>
    replace h:=cT h;refine uV h λh=>?_;intro s O v1 v2 W al r1 r2 A R;refine bQ r1.str λt wQ=>?_;subst wQ;refine bQ r2.str λu vJ=>?_;subst vJ;exact SB.iadd (λt' tk=>⟨Gd.Kx.tok W,jy⟩) (J cC (aw h))
   |_=>exact bK h
  |_=>exact bK h
 |Sub=>induction d1 using ao with
  |int a=>induction d2 using ao with
   |int b=>
    refine qS h ?_;intro s O v1 v2 W al r1 r2 A R;refine bQ r1.int λt y0=>?_;subst y0;refine bQ r2.int λu Ac=>?_;subst Ac
    with_reducible refine P.isub_int ?_
    exact⟨Gd.Kx.tok W,dJ⟩
   |_=>exact bK h
  |_=>exact bK h
 |BitOr=>induction d1 using ao with
  |int a=>induction d2 using ao with
   |int b=>
    refine qS h ?_;intro s O v1 v2 W al r1 r2 A R;refine bQ r1.int λt M4=>?_;subst M4;refine bQ r2.int λu Gh=>?_;subst Gh
    with_reducible refine ior_int ?_
    exact⟨Gd.Kx.tok W,dJ⟩
   |_=>exact bK h
  |_=>exact bK h
 |RShift=>induction d1 using ao with
  |int a=>induction d2 using ao with
   |int b=>
    replace h:=cT h;refine uV h λh=>?_;intro s O v1 v2 W al r1 r2 A R;refine bQ r1.int λt Ej=>?_;subst Ej;refine bQ r2.int λu JG=>?_;subst JG
    with_reducible refine irshift_int (aw h) ?_
    exact⟨Gd.Kx.tok W,dJ⟩
   |_=>exact bK h
  |_=>exact bK h
 |LShift=>induction d1 using ao with
  |int a=>induction d2 using ao with
   |int b=>
    replace h:=cT h;refine uV h λh=>?_;refine iW h λh1 h2=>?_;intro s O v1 v2 W al r1 r2 A R;refine bQ r1.int λt Wp=>?_;subst Wp;refine bQ r2.int λu Gg=>?_;subst Gg
    with_reducible refine ilshift_int (aw h1) (aw h2) ?_
    exact⟨Gd.Kx.tok W,dJ⟩
   |_=>exact bK h
  |_=>exact bK h
 |_=>exact bK h
theorem tX{vs:List az}{m:EL az}(h:aJ G.M A m Q cW s):aJ G.M A (operate vs m) Q cW s:=by
 exact ai (bg (ar h (λv s1 h1=>ai (JX (ay h1))) λ_ _ x=>x))
theorem gj.aug{op:gD}(hx:g0 sc x=af)(hm:(x,jS.val d1)∈ρ)(h:rf G n env ρ dh d2)(hi:Inp G n op d1 d2 d):gj G n sc env ch ρ (.AugAssign (.Name x px) op dh pos) (.next (vU ρ x (.val d))):=λA s O a B R Ek hs W S b=>by
 refine J (Xq ..) (bh S.ns λm hn f=>?_);obtain⟨nd,v,l,r⟩:=f _ hm;refine ai (bU (ai (fA Ek hn l (ai (bg (ar (h A s O a R Ek W S) (λv2 s1 x1=>?_) λ_ _ x=>x))))));refine ai (bU (ai (tX (ar (hi s1 _ v v2 x1.1.wd (S.kx W x1.1).oM (.inl (r.ke W x1.1.ke)) x1.2 A R) (λv3 s2 x2=>?_) λ_ _ x=>x))));have k:=x1.1.trans x2.1;refine ai (bU (ai (w7 (lh (sc:=sc) Ek k.wd (S.kx W k) hx (hs x hx) x2.2 λs3 kp S3=>?_))));exact ay ⟨k.kq.trans (kp.kq.mono λc hc _=>b.fr c hc),rfl,a,S3,b.ow,λ_=>rfl⟩
theorem gj.WZ{t:aG}(ht:Tr G n env ρ t af):gj G n sc env ch ρ (.Assert t ae pos) (.next ρ):=λA s O a B R Ek hs W S b=>by
 refine wpAny_Assert_holds (ar (ht A s O a R Ek W S) (λv s1 x=>?_) λ_ _ x=>x);exact⟨x.2,x.1.kq,rfl,a,S.kx W x.1,b.ow,λ_=>rfl⟩
end
section
variable{ch:Bool}
noncomputable def L8:jS->Bool
 |.val _=>af
 |.own _=>ag
 |.fn .. =>af
def pR(ρ:aE)(x:Str)(ds:List D):aE:=(x,.own ds)::ρ.filter λp=>L8 p.2&&!(p.1==x)
theorem xQ{h:bq}{l:aL}{vs:Array az}(S:SR G env O a ρ h)(hm:(x,jS.own xs)∈ρ)(ha:a=Z l)(sb:d7 l h h')(hl:h'.PlainList l vs)(r:bb h' (Ow O a) vs.toList ds):SR G env O a (pR ρ x ds) h':=by
 refine bh S.ns λm hn f=>c8 (S.ow l ha) λnO z1=>bQ z1 λvs0 v1=>bQ v1 λk0 el=>?_
 have kk:∀b o,h.get? b=Z o->(¬∃vs n,o.data=.seq vs n)->h'.get? b=Z o:=λb o e hd=>by
  exact J (sb.2 b λhb=>by subst hb;rw[el]at e;cases e;exact hd ⟨_,_,rfl⟩) e
 have z8:h'.Ns env.locals m:=by
  exact jz hn λo es ep e hd rr=>⟨o,es,ep,kk _ _ e (λ⟨_,_,z⟩=>by rw[hd]at z;cases z),hd,rr⟩
 have lk:∀y v,n0 env h m y v->n0 env h' m y v:=λy v lo=>by
  rcases lo with lo|⟨l1,l2,c,l3,o,l4,l5⟩
  ·exact .inl lo
  ·exact .inr ⟨l1,l2,c,l3,o,kk _ _ l4 (λ⟨_,_,z⟩=>by rw[l5]at z;cases z),l5⟩
 refine⟨⟨m,z8,λp hp=>?_⟩,λy c hc=>?_,λb hb=>?_,λb hb=>?_,S.nl,S.nc⟩
 ·rcases aM.mp hp with rfl|hp
  ·obtain⟨nd,l',ma,l1,l2,l3,l4⟩:=f _ hm;rw[ha]at l2;cases l2;exact⟨nd,l,vs,lk _ _ l1,ha,hl,r⟩
  ·refine c8 (cZ.mp hp) λhp hq=>?_;obtain⟨nd,ok⟩:=f p hp;refine⟨nd,?_⟩;obtain⟨y,b⟩:=p
   induction b using Internal.jS.casesOn with
   |val d=>
    exact bh ok λv l1 l2=>⟨v,lk _ _ l1,l2.mono (λb o e hs hb=>by exact J (sb.2 b λQc=>hb (.inr (Qc▸ha))) e) λ_ _ e=>e⟩
   |own ds=>exact ff hq|fn K T f' n'=>refine gM ok λv l1 t F=>?_;exact⟨v,lk _ _ l1,F.next t (λb o hb e=>by exact J (sb.2 b λQc=>F.nO b hb (.inr (Qc▸ha))) e) F.nO F.nF⟩
 ·exact bQ (S.cells y c hc) λv v11=>bh v11 λo e hd=>⟨v,o,kk _ _ e (λ⟨_,_,z⟩=>by rw[hd]at z;cases z),hd⟩
 ·exact J (sb.2 b λe=>nO (e▸hb)) (S.al b hb)
 ·rw[ha]at hb;refine qS hb ?_;exact⟨nO,vs,hl⟩
theorem La{p:eL}{name:Str}(R:g9 A n)(Ek:dQ G env)(W:G.Wd s.heap)(S:SR G env O a ρ s.heap)(hm:(x,jS.own xs)∈ρ)(h:wb G n env ρ es ds)
 (GL:Slot "list" name id) (Vx:typeOf (.builtin id)=pure (.type "method_descriptor")) (hl:(ju.endLine==pos.line)=af) (hn:es.length<30)
 (aac:∀s1 l items vs,G.Kx s s1->a=Z l->s1.heap.PlainList l items->bb s1.heap (Ow O a) items.toList xs->bb s1.heap (Ow O a) vs ds->aJ G.M A (dE (.builtin id) (.ref l::vs)) Q cW s1):
 aJ G.M A (eval (.Call (.Attribute (.Name x p) name ju) es [] pos) env) Q cW s:=by
 have hA:=h.toA;refine bh S.ns λm DX f=>?_;obtain⟨nd,l,items,lk,ha,⟨k,el⟩,r⟩:=f _ hm;refine RM (jf (fA Ek DX lk ?_) nd) (BP hA rfl hl hn);refine Ap (T:="list") ⟨_,el,rfl⟩ F.plainAttrs_list GL Vx (λa e'=>by cases e';exact⟨_,el,rfl⟩) ?_;refine gd (P:=λ_=>True) (J hA.noStar rfl) (λH=>(pa.builtin id).keeps _ H) (ar (h.Bg A s O a R Ek W S) (λy s1 x1=>⟨trivial,?_⟩) λ_ _ x=>x);exact J x1.2.2 (aac s1 l items y.pos x1.1 ha (gL W x1.1.ke ⟨k,el⟩) (r.ke W x1.1.ke) x1.2.1)
theorem gj.ownCall{p:eL}{name:Str}(hm:(x,jS.own xs)∈ρ)(h:wb G n env ρ es ds)(GL:Slot "list" name id)(Vx:typeOf (.builtin id)=pure (.type "method_descriptor"))(hl:(ju.endLine==mq.line)=af)(hn:es.length<30)
 (A6:∀(A:dZ) (s:aK) (O:aL->Prop) (l:aL) (items:Array az) (vs:List az) (Q:az->aK->Prop),g9 A n->s.heap.PlainList l items->bb s.heap O items.toList xs->bb s.heap O vs ds->
  (∀h' tk jc,d7 l s.heap h'->h'.PlainList l jc->(∀(h'':bq),(∀b o,b≠l->s.heap.get? b=Z o->h''.get? b=Z o)->O l->bb h'' O jc.toList ys)->Q .none {s with heap:=h',toks:=tk})->aJ G.M A (dE (.builtin id) (.ref l::vs)) Q cW s):
 gj G n sc env ch ρ (.Expr (.Call (.Attribute (.Name x p) name ju) es [] mq) pos) (.next (pR ρ x ys)):=λA s O a B R Ek hs W S b=>by
 refine GO (La R Ek W S hm h GL Vx hl hn λs1 l items vs k ha xV r ra=>?_) (by unfold RG;exact J Ek.kind rfl) rfl;refine A6 A s1 (Ow O a) l items vs _ R xV r ra λh' tk jc sb B0 hr=>?_;have lo:=b.lo l (b.ow l ha);have S1:=S.kx W k;have W':=k.wd.same lo sb (NC.plain xV);refine⟨k.kq.trans ⟨h',tk,rfl,λc o e hB _=>by exact J (sb.2 c λhc=>hB (hc▸b.ow l ha)) e,W'⟩,rfl,a,?_,b.ow,λ_=>rfl⟩;exact xQ S1 hm ha sb B0 (hr h' (λc o hc e=>by exact J (sb.2 c hc) e) (.inr ha))
theorem bb.but{h h'':bq}{l:aL}{vs:List az}(r:bb h O vs ds)(k:∀b o,b≠l->h.get? b=Z o->h''.get? b=Z o)(hO:O l):bb h'' O vs ds:=
 r.mono (λb o e _ hb=>k b o (λh=>hb (h▸hO)) e) λ_ _ e=>e
theorem gj.append{p:eL}(hm:(x,jS.own xs)∈ρ)(h:Ev G n env ρ e d)(xm:fD e=ag)(hl:(ju.endLine==mq.line)=af)(hz:xs.length<=16777216):
 gj G n sc env ch ρ (.Expr (.Call (.Attribute (.Name x p) "append" ju) [e] [] mq) pos) (.next (pR ρ x (xs++[d]))):=
 .ownCall hm (.cons h .nil xm) F.slot_list_append F.type_list_append hl (by simp) λA s O l items vs Q R xV r ra hQ=>by
  refine bV ra.inv λv ma Gg r1 r2=>?_;subst Gg;refine J (cV r2) ?_;have el:=r.length;rw[aX]at el;exact Km (hsz:=J el (J cC hz)) xV λh' vZ sb=>hQ h' s.toks _ sb vZ λh'' k hO=>J xc ((r.but k hO).append (bb.cons (r1.mono (λb o e _ hb=>k b o (λh=>hb (h▸hO)) e) λ_ _ e=>e) bb.nil))
theorem gj.reverse{p:eL}(hm:(x,jS.own xs)∈ρ)(hl:(ju.endLine==mq.line)=af)(hz:xs.length<=16777216):
 gj G n sc env ch ρ (.Expr (.Call (.Attribute (.Name x p) "reverse" ju) [] [] mq) pos) (.next (pR ρ x xs.reverse)):=
 .ownCall hm .nil F.slot_list_reverse F.type_list_reverse hl (by simp) λA s O l items vs Q R xV r ra hQ=>by
  refine J (cV ra) ?_;have el:=r.length;rw[aX]at el;refine bQ xV λc e=>gR F.slot_list_reverse ⟨_,e,rfl⟩ F.entry_list_reverse (F.args_list_reverse_1 _) (AutoSeq1.list_reverse_list_0 l items c (J el (J cC hz))) ⟨e,hQ _ s.toks items.reverse (gg ..) ⟨_,pJ (n:=c) e _⟩ λh'' k hO=>?_⟩;exact J Array.toList_reverse ((r.but k hO).reverse)
theorem gj.del{p OY:eL}{i:aG}{k:Int}(hm:(x,jS.own xs)∈ρ)(h:Ev G n env ρ i (.int k))(hi:r7 i=af)(Jq:dY k=af)(hj:tM k xs.length=Z j)(hz:xs.length<=16777216):
 gj G n sc env ch ρ (.Delete [.Subscript (.Name x p) i OY] pos) (.next (pR ρ x (xs.eraseIdx j))):=λA s O a B R Ek hs W S b=>by
 refine wpAny_Delete (wpAny_deleteEach_cons ?_);refine bh S.ns λm DX f=>?_;obtain⟨nd,l,items,lk,ha,xV,r⟩:=f _ hm
 show aJ G.M A (do
  let ov←eval (.Name x p) env
  let iv←jq [ov] (eval i env)
  rO OY
  jq [ov,iv] (delItem ov iv)
  release [ov,iv] []) _ _ s
 refine ai (jf (fA Ek DX lk ?_) nd);refine ai (bg (ar (h A s O a R Ek W S) (λv s1 x1=>?_) λ_ _ x=>x));refine c8 x1 λkx rv=>bQ rv λt JC=>?_;subst JC;have rL:=gL W kx.ke xV;have r1:=r.ke W kx.ke;have el:=r1.length;rw[aX]at el;refine ai (bU (ai (bg (wpAny_delItem_plain rL Jq (J el hj) (λh' vZ sb=>?_) (J el (J cC hz))))));refine JX (wpAny_deleteEach_nil ?_);have lo:=b.lo l (b.ow l ha);have S1:=S.kx W kx;have W':=kx.wd.same lo sb (NC.plain rL);refine⟨kx.kq.trans ⟨h',s1.toks,rfl,λc o e hB _=>by exact J (sb.2 c λhc=>hB (hc▸b.ow l ha)) e,W'⟩,rfl,a,xQ S1 hm ha sb vZ ?_,b.ow,λ_=>rfl⟩
 have e1:(items.eraseIdxIfInBounds j).toList=items.toList.eraseIdx j:=by
  exact J Array.toList_eraseIdxIfInBounds rfl
 refine J e1 ?_;have rr:=r1.but (h'':=h') (λc o hc e=>by exact J (sb.2 c hc) e) (.inr ha);have t:=(rr.take j).append (rr.drop (j+1));exact J (xM ..) (J (xM ..) t)
end
section
variable{ch:Bool}
theorem zv.own{a1:Option aL}{f:Flow}(p:zv G env O B s ch a1 out f s')(h:ch=ag->a1=a):zv G env O B s ch a out f s':=by
 induction out using Internal.gO.casesOn with
 |next ρ'=>
  exact lK p λp1 p2 a' p3 p4 p5=>⟨p1,p2,a',p3,p4,λhc=>(p5 hc).trans (h hc)⟩
 |ret d=>exact p
inductive GF (G:Gd) (n:Nat) (sc:bj) (env:nJ) (ch:Bool) (pG:aG) (body:List bX):aE->gO->Prop
 |stop {ρ:aE}:Tr G n env ρ pG ag->GF G n sc env ch pG body ρ (.next ρ)
 |turn {ρ ρ':aE} {out:gO}:Tr G n env ρ pG af->mv G n sc env ch ρ body (.next ρ')->GF G n sc env ch pG body ρ' out->GF G n sc env ch pG body ρ out
 |ret {ρ:aE} {d:D}:Tr G n env ρ pG af->mv G n sc env ch ρ body (.ret d)->GF G n sc env ch pG body ρ (.ret d)
theorem IC{pG:aG}(Rm:g9 A n)(Ek:dQ G env)(hs:ql sc env)(h:GF G n sc env ch pG body ρ out):
 ∀(s₀ s:aK) (a:Option aL),G.Kq B s₀ s->SR G env O a ρ s.heap->Cq G sc env a B s->(∀f s',zv G env O B s₀ ch a out f s'->R (.ok f) s')->jN G.M A (.whileLoop pG body [] env) R s:=by
 induction h with
 |@stop ρ ht=>
  intro s₀ s a k S b hR;refine pH ?_;show aJ _ A ((abF pG body [] env).onRaise (λx=>do tN x env;me x)) _ _ s;refine rN (ai (ar (ht A s O a Rm Ek k.wd S) (λv s1 x=>?_) λ_ _ x=>x.elim));exact Se x λk1=>ai (EJ (ay (hR .next s1 ⟨k.trans k1.kq,rfl,a,S.kx k.wd k1,b.ow,λ_=>rfl⟩)))
 |@turn ρ ρ' out ht hb _ ih=>
  intro s₀ s a k S b hR;refine pH ?_;show aJ _ A ((abF pG body [] env).onRaise (λx=>do tN x env;me x)) _ _ s;refine rN (ai (ar (ht A s O a Rm Ek k.wd S) (λv s1 x=>?_) λ_ _ x=>x.elim));refine Se x λk1=>ai (ar (hb A s1 O a B Rm Ek hs k1.wd (S.kx k.wd k1) (b.step k1.kq b.ow)) (λf s2 p=>?_) λ_ _ x=>x.elim);refine lK p λk2 jE a' S' ha hc=>?_;subst jE;exact ay ⟨rfl,ih s₀ s2 a' ((k.trans k1.kq).trans k2) S' (b.step (k1.kq.trans k2) ha) λf s' p=>hR f s' (p.own hc)⟩
 |@ret ρ d ht hb=>
  intro s₀ s a k S b hR;refine pH ?_;show aJ _ A ((abF pG body [] env).onRaise (λx=>do tN x env;me x)) _ _ s;refine rN (ai (ar (ht A s O a Rm Ek k.wd S) (λv s1 x=>?_) λ_ _ x=>x.elim));refine Se x λk1=>ai (ar (hb A s1 O a B Rm Ek hs k1.wd (S.kx k.wd k1) (b.step k1.kq b.ow)) (λf s2 p=>?_) λ_ _ x=>x.elim);refine xk p λk2 v sE r=>?_;subst sE;exact ay (hR (.ret v) s2 ⟨(k.trans k1.kq).trans k2,v,rfl,r⟩)
theorem gj.TS{pG:aG}(h:GF G n sc env ch pG body ρ out):gj G n sc env ch ρ (.While pG body [] pos) out:=λA s O a B R Ek hs W S b=>
 wpAny_While (IC R Ek hs h s s a (Gd.Kx.refl W).kq S b λf s' p=>p)
inductive zy (step:aE->D->gO->Prop):aE->List D->gO->Prop
 |nil {ρ:aE}:zy step ρ [] (.next ρ)
 |cons {ρ ρ':aE} {x:D} {xs:List D} {out:gO}:step ρ x (.next ρ')->zy step ρ' xs out->zy step ρ (x::xs) out
 |ret {ρ:aE} {x:D} {xs:List D} {d:D}:step ρ x (.ret d)->zy step ρ (x::xs) (.ret d)
theorem sq(h:aJ G.M A (nj it) (λr s1=>match r with
 |none=>R (.ok .next) s1
 |some v=>aJ G.M A (gQ bR it v) (λ_ s2=>aJ G.M A (fY bR env v) (λ_ s3=>aJ G.M A (GU body env) (λf s4=>match f with
  |.next|.cont=>jN G.M A (.forLoop bR it body [] env) R s4
  |.brk=>R (.ok .next) s4
  |.ret v=>R (.ok (.ret v)) s4) cW s3) cW s2) cW s1) cW s):jN G.M A (.forLoop bR it body [] env) R s:=by
 refine pH ?_;show aJ _ A ((forTurn bR it body [] env).onRaise (λx=>do tN x env;me x)) _ _ s;refine rN (ai (bU (ai (wpAny_onRaise (ar h (λr s1 h1=>?_) λ_ _ x=>x.elim)))))
 induction r using aB with
 |none=>exact ay ⟨rfl,codeAny_block (EJ h1)⟩
 |some v=>
  refine ai (ar h1 (λ_ s2 h2=>ai (ar h2 (λ_ s3 h3=>ai (ar h3 (λf s4 h4=>?_) λ_ _ x=>x.elim)) λ_ _ x=>x.elim)) λ_ _ x=>x.elim)
  cases f with
  |next=>exact ay ⟨rfl,h4⟩|cont=>exact ay ⟨rfl,h4⟩|brk=>exact ay h4|ret v=>exact ay h4
theorem Qk{ac:aL}{Of:aL->Prop}{s₀:aK}
 (Rm:g9 A n) (Ek:dQ G env) (hs:ql sc env) (hOf:∀b,Of b↔(O b∨b∈wr)) (Wl:Wk G (Ow Of a) ac fp wr ys sW Src St) (ht:sW bR=af) (Mi:∀b∈wr,G.H.objs.size<=b) (hwB:∀b∈wr,B b) (VL:∀b∈fp,¬Fr sc env b) (hOw:∀b,O b->b∉wr) (Z8:∀b∈fp,a≠Z b)
 (h:zy (λρ x out=>∃ρ1,nV sc k bR x ρ=Z ρ1∧mv G n sc env ag ρ1 body out) ρ xs out):
 ∀(i:Nat),ys.drop i=xs->i<=ys.length->∀(s:aK),G.Kq B s₀ s->SR G env Of a ρ s.heap->Cq G sc env a B s->St i s.heap->Src s.heap->(∀b∈fp,(s.heap.get? b).isSome)->
  (∀f s',zv G env O B s₀ ag a out f s'->R (.ok f) s')->jN G.M A (.forLoop bR (.ref ac) body [] env) R s:=by
 have VU:∀b,O b->Of b:=λb h=>(hOf b).mpr (.inl h);have Ou:∀b∈wr,Of b:=λb h=>(hOf b).mpr (.inr h)
 have draw:∀(ρ:aE) (i:Nat) (x:D) (ρ1:aE) (s:aK) (F:Flow->aK->Prop),ys[i]?=Z x->nV sc k bR x ρ=Z ρ1->G.Kq B s₀ s->SR G env Of a ρ s.heap->Cq G sc env a B s->St i s.heap->Src s.heap->(∀b∈fp,(s.heap.get? b).isSome)->
  (∀s3,G.Kq B s₀ s3->SR G env Of a ρ1 s3.heap->Cq G sc env a B s3->St (i+1) s3.heap->Src s3.heap->(∀b∈fp,(s3.heap.get? b).isSome)->aJ G.M A (GU body env) F cW s3)->
  aJ G.M A (nj (.ref ac)) (λr s1=>match r with
  |none=>R (.ok .next) s1
  |some v=>aJ G.M A (gQ bR (.ref ac) v) (λ_ s2=>aJ G.M A (fY bR env v) (λ_ s3=>aJ G.M A (GU body env) F cW s3) cW s2) cW s1) cW s:=by
  intro ρ i x ρ1 s F hx hb kq S bk st sr al hF;have W:=kq.wd;refine Wl.nx A i s x _ _ bR Rm.handled S.oM sr st hx ht λv h1 tk k1 hgo=>hgo _ _ λh2 k2 Oi r2=>?_;have HD:∀b o,b∉wr->s.heap.get? b=Z o->h2.get? b=Z o:=λb o hb e=>k2 b o hb (k1 b o hb e);have W2:G.Wd h2:=W.but Mi HD λb hb=>NC.live (Wl.live _ _ st b hb)
  have al2:∀b∈fp,(h2.get? b).isSome:=λb hb=>by
   by_cases hw:b∈wr
   ·exact NC.some (Wl.live _ _ Oi b hw)
   ·exact bQ (aW.mp (al b hb)) λo e=>J (HD b o hw e) rfl
  have oM:Al h2 Of:=λb hb=>by
   by_cases hw:b∈wr
   ·exact Wl.live _ _ Oi b hw
   ·exact bh (S.al b hb) λo e nc=>⟨o,HD b o hw e,nc⟩
  have S2:SR G env Of a ρ h2:=S.mono W (λb o e hb _=>HD b o (λhw=>hb (Ou b hw)) e) oM;have O4:Src h2:=Wl.src _ _ sr λb o e _ hb=>HD b o (λhw=>hb (.inl (Ou b hw))) e;have XO:G.Kq B s {s with heap:=h2,toks:=tk}:=⟨h2,tk,rfl,λb o e hx _=>HD b o (λhw=>hx (hwB b hw)) e,W2⟩;have XN:=kq.trans XO;refine kZ hs k bR x ρ ρ1 hb A _ Of a v _ _ Rm.handled Ek W2 S2 r2 λs3 kp S3=>hF s3 (XN.trans (kp.kq.mono λc hc _=>bk.fr c hc)) S3 (bk.step (XO.trans (kp.kq.mono λc hc _=>bk.fr c hc)) bk.ow) ?_ ?_ λb hb=>kp.ex b (al2 b hb)
  ·exact Wl.frame _ _ _ Oi λb hb o e=>kp.kp b o e (VL b hb) (Wl.nt b hb)
  ·exact Wl.src _ _ O4 λb o e hs hb=>kp.kp b o e (λz=>by refine jY hs λvs c hs=>?_;exact S2.iL z e hs) (λt=>by refine jY hs λvs c hs=>?_;exact W2.md e hs t)
 have Ta:∀(ρ1:aE) (o1:gO) (s3:aK),mv G n sc env ag ρ1 body o1->G.Kq B s₀ s3->SR G env Of a ρ1 s3.heap->Cq G sc env a B s3->(∀b∈fp,(s3.heap.get? b).isSome)->
  aJ G.M A (GU body env) (λf s4=>G.Kq B s3 s4∧(∀b∈fp,∀o,s3.heap.get? b=Z o->s4.heap.get? b=Z o)∧(∀h,Bp (Ow Of a) h->h s3.heap->h s4.heap)∧match o1 with
   |.next ρ'=>f=.next∧SR G env Of a ρ' s4.heap
   |.ret d=>∃v,f=.ret v∧jT s4.heap Of v d) cW s3:=by
  intro ρ1 o1 s3 hb kq S bk al
  have bk':Cq G sc env a (λb=>Fr sc env b∨a=Z b∨(s3.heap.get? b=ae∧G.H.objs.size<=b)) s3:=⟨λb h=>.inl h,λb h=>.inr (.inl h),λb h1 h2=>.inr (.inr ⟨h1,h2⟩),λb h=>by
   refine x6 h (λh=>?_) (λh=>?_) λh=>?_
   ·exact h.lo Ek
   ·exact bk.lo b (bk.ow b h)
   ·exact h.2⟩
  refine ar (hb A s3 Of a _ Rm Ek hs kq.wd S bk') (λf s4 p=>?_) λ_ _ x=>x
  have kk:∀{X:aL->Prop},G.Kq (λb=>Fr sc env b∨a=Z b∨(s3.heap.get? b=ae∧G.H.objs.size<=b)) s3 s4->G.Kq B s3 s4∧(∀b∈fp,∀o,s3.heap.get? b=Z o->s4.heap.get? b=Z o)∧(∀h,Bp (Ow Of a) h->h s3.heap->h s4.heap):=λk=>by
   refine⟨k.mono λb h _=>?_,λb hb o e=>k.kp b o e (λz=>?_) (Wl.nt b hb),λh hs hh=>hs _ _ hh λb o e hd hO=>k.kp b o e (λz=>?_) λt=>by refine jY hd λvs c hd=>?_;exact kq.wd.md e hd t⟩
   ·refine x6 h (λh=>?_) (λh=>?_) λh=>?_
    ·exact bk.fr b h
    ·exact bk.ow b h
    ·exact bk.new b h.1 h.2
   ·refine x6 z (λz=>?_) (λz=>?_) λz=>?_
    ·exact VL b hb z
    ·exact Z8 b hb z
    ·rw[z.1]at e;exact bK e
   ·refine x6 z (λz=>?_) (λz=>?_) λz=>?_
    ·exact jY hd λvs c hd=>S.iL z e hd
    ·exact hO (.inr z)
    ·rw[z.1]at e;exact bK e
  induction o1 using Internal.gO.casesOn with
  |next ρ'=>
   refine lK p λk qe a' S' ha hc=>?_;subst qe;rw[hc rfl]at S';exact eP (kk (X:=B) k) λk1 k2 k3=>⟨k1,k2,k3,rfl,S'⟩
  |ret d=>
   refine xk p λk v wQ r=>?_;subst wQ;exact eP (kk (X:=B) k) λk1 k2 k3=>⟨k1,k2,k3,v,rfl,r⟩
 induction h with
 |@nil ρ=>
  intro i hi EY s kq S bk st sr al hR
  have hil:i=ys.length:=by
   have:=aD qr hi;rw[cJ,iy]at this;exact aZi EY this
  subst hil;refine sq (Wl.done A s _ _ Rm.handled st λh' tk k1=>hR .next _ ⟨?_,rfl,a,?_,bk.ow,λ_=>rfl⟩)
  ·exact kq.trans ⟨h',tk,rfl,λb o e hx _=>k1 b o (λhw=>hx (hwB b hw)) e,kq.wd.but Mi k1 λb hb=>NC.live (Wl.live _ _ st b hb)⟩
  ·exact S.Lw kq.wd VU (λb o e hb _=>k1 b o (λhw=>hb (Ou b hw)) e) λb hb=>bh (S.al b (VU b hb)) λo e nc=>⟨o,k1 b o (hOw b hb) e,nc⟩
 |@cons ρ ρ' x xs out Mj _ ih=>
  intro i hi EY s kq S bk st sr al hR;refine bh Mj λρ1 hb Mu=>?_
  have hx:ys[i]?=Z x:=by
   have:(ys.drop i)[0]?=Z x:=by exact J hi rfl
   rw[pd]at this;simpa using this
  have jJ:i<ys.length:=(cK.mp hx).1;refine sq (draw ρ i x ρ1 s _ hx hb kq S bk st sr al λs3 k3 S3 bk3 RZ sr3 Yb=>ar (Ta ρ1 _ s3 Mu k3 S3 bk3 Yb) (λf s4 p=>?_) λ_ _ x=>x);refine Pr p λk4 fk YR S4=>?_
  exact ih (i+1) (rF List.tail_drop (J hi rfl)) jJ s4 (k3.trans k4) S4 (bk3.step k4 bk3.ow) (Wl.frame _ _ _ RZ fk) (YR _ Wl.src sr3) (λb hb=>by
   exact bQ (aW.mp (Yb b hb)) λo e=>J (fk b hb o e) rfl) hR
 |@ret ρ x xs d Mj=>
  intro i hi EY s kq S bk st sr al hR;refine bh Mj λρ1 hb Mu=>?_
  have hx:ys[i]?=Z x:=by
   have:(ys.drop i)[0]?=Z x:=by exact J hi rfl
   rw[pd]at this;simpa using this
  refine sq (draw ρ i x ρ1 s _ hx hb kq S bk st sr al λs3 k3 S3 bk3 RZ sr3 Yb=>ar (Ta ρ1 _ s3 Mu k3 S3 bk3 Yb) (λf s4 p=>?_) λ_ _ x=>x);refine mM p λk4 fk YR z1=>bh z1 λv Gg r=>?_;subst Gg;exact hR (.ret v) s4 ⟨k3.trans k4,v,rfl,r.less VU⟩
theorem gj.ag2(hi:tz G n env ρ iter xs sW af)(ht:sW bR=af)(DX:r7 iter=af)
 (h:zy (λρ x out=>∃ρ1,nV sc k bR x ρ=Z ρ1∧mv G n sc env ag ρ1 body out) ρ xs out):gj G n sc env ag ρ (.For bR iter body [] pos) out:=λA s O a B R Ek hs W S b=>by
 refine wpAny_For (ar (hi A s O a R Ek W S) (λx s1 h1=>ar h1 (λit s2 h2=>?_) λ_ _ y=>y) λ_ _ y=>y) (su DX);refine c8 h2 λkx OR=>ni OR λac fp wr Src St hb vJ g1 g2 g3 g4 g5 g6 g7=>?_;subst vJ
 have fresh:∀b∈wr,s.heap.get? b=ae:=λb hb=>by
  cases e:s.heap.get? b with
  |none=>rfl|some o=>have:=g2 b (J e rfl);rw[(g3 b hb).1]at this;exact ff this
 refine c8 (g7 (Ow (λb=>O b∨b∈wr) a) (λb h=>h.elim (λh=>.inl (.inl h)) .inr) (λb h=>.inl (.inr h)) (λb h=>by
  rcases h with(h|h)|h
  ·exact .inl (.inl h)
  ·exact .inr (g3 b h).1
  ·exact .inl (.inr h))) λwk O4=>?_
 have S2:=S.kx W kx;have ft:∀b∈fp,(s2.heap.get? b).isSome:=λb h=>by refine bh (g4 b h) λo e _=>?_;exact J e rfl
 have bk2:Cq G sc env a B s2:=b.step kx.kq b.ow;have SO:SR G env (λb=>O b∨b∈wr) a ρ s2.heap:=S.wide W kx (λb h=>h.imp id (fresh b)) λb h=>h.elim (λh=>S2.al b h) (wk.live 0 _ g6 b)
 exact Qk (s₀:=s) R Ek hs (λb=>Iff.rfl) wk ht (λb h=>(g3 b h).2) (λc h=>b.new c (fresh c h) (g3 c h).2) (λb h=>(g4 b h).DG Ek S2) (λb h h2=>by refine bh (S.al b h) λ_ this _=>?_;rw[fresh b h2]at this;exact bK this)
  (λb h ha=>g5 rfl b h (.inr ha)) h 0 rfl (dW _) s2 kx.kq SO bk2 g6 O4 ft λf s' p=>p
end
section
variable{ch:Bool}
theorem gj.fq(h:gj G n sc env ch (Internal.fq ρ) st out):gj G n sc env af ρ st out:=λA s O a B R Ek hs W S b=>by
 have b':Cq G sc env ae B s:=⟨b.fr,(λc hc=>by exact bK hc),b.new,b.lo⟩;refine ar (h A s O ae B R Ek hs W S.fq b') (λf s' p=>?_) λ_ _ x=>x
 induction out using Internal.gO.casesOn with
 |next ρ'=>
  exact lK p λp1 p2 a' p3 p4 p5=>⟨p1,p2,a',p3,p4,λh=>by cases h⟩
 |ret d=>exact p
theorem gj.any(h:gj G n sc env ch ρ st out):gj G n sc env af ρ st out:=λA s O a B R Ek hs W S b=>by
 refine ar (h A s O a B R Ek hs W S b) (λf s' p=>?_) λ_ _ x=>x
 induction out using Internal.gO.casesOn with
 |next ρ'=>
  exact lK p λp1 p2 a' p3 p4 p5=>⟨p1,p2,a',p3,p4,λh=>by cases h⟩
 |ret d=>exact p
noncomputable def pureOf:EL α->Option α
 |.pure a=>Z a
 |_=>ae
theorem Dx{m:EL α}{a:α}(h:pureOf m=Z a):m=pure a:=by
 induction m using PySem.Sem.casesOn<;>first|(refine qT h ?_;rfl)|cases h
noncomputable def envOf(sc:bj):nJ:={scope:=sc,locals:=0,globals:=0,cells:=[]}
def yh(sc:bj)(t dh:aG):Option (Option (List Str)):=pureOf (JZ [t] dh (envOf sc))
theorem Cs{t:aG}{r:Option (List Str)}(h:yh env.scope t dh=Z r):JZ [t] dh env=pure r:=(Dx h:JZ [t] dh (envOf env.scope)=pure r)
noncomputable def KR(sc:bj):List Str->List D->aE->Option aE
 |[],[],ρ=>Z ρ
 |x::xs,d::ds,ρ=>bif g0 sc x then KR sc xs ds (vU ρ x (.val d))else ae
 |_,_,_=>ae
theorem Hd(Ek:dQ G env)(hs:ql sc env):∀(xs:List Str) (ds:List D) (ρ ρ':aE),KR sc xs ds ρ=Z ρ'->∀(s:aK) (vs:List az) (Q:Unit->aK->Prop),G.Wd s.heap->SR G env O a ρ s.heap->bb s.heap (Ow O a) vs ds->
 (∀s',G.Kp (Fr sc env) s s'->SR G env O a ρ' s'.heap->Q () s')->aJ G.M A (jh (xs.map λn=>bindName env n) vs) Q cW s
 |[],[],ρ,ρ',h,s,vs,Q,W,S,r,hQ=>by cases h;exact ay (hQ s (Gd.Kp.refl W) S)
 |[],_::_,_,_,h,_,_,_,_,_,_,_=>by exact bK h
 |_::_,[],_,_,h,_,_,_,_,_,_,_=>by exact bK h
 |x::xs,d::ds,ρ,ρ',h,s,vs,Q,W,S,r,hQ=>by
  refine vN h λhx h=>bV r.inv λv ma vJ ra rb=>?_;subst vJ;show aJ G.M A (do jq ma (bindName env x v);jh (xs.map λn=>bindName env n) ma) Q cW s;refine ai (bg (w7 (lh (sc:=sc) Ek W S hx (hs x hx) ra λs1 kp S1=>?_)));exact Hd Ek hs xs ds _ ρ' h s1 ma Q kp.wd S1 (rb.kp W kp.kp (od (sc:=sc) S)) λs2 LZ S2=>hQ s2 (kp.trans LZ) S2
theorem Fe{t:aG}{Xe:Nat}(h:qH dh=af):swapsWithSole [t] dh Xe env=pure ag:=pT h
theorem gj.tuple(hc:qH dh=af)(hw:yh env.scope (.Tuple ts tk tp) dh=Z ae)(h:Ev G n env ρ dh d)(hb:nV sc k (.Tuple ts tk tp) d ρ=Z ρ'):gj G n sc env ch ρ (.Assign [.Tuple ts tk tp] dh pos) (.next ρ'):=λA s O a B R Ek hs W S b=>by
 refine Od (ar (h A s O a R Ek W S) (λv s1 x1=>?_) λ_ _ x=>x) (Fe hc) (Cs hw);exact kZ hs k _ d ρ ρ' hb A s1 O a v _ _ R.handled Ek x1.1.wd (S.kx W x1.1) x1.2 λs2 kp S2=>⟨x1.1.kq.trans (kp.kq.mono λc hc _=>b.fr c hc),rfl,a,S2,b.ow,λ_=>rfl⟩
theorem gj.swap{names:List Str}(hc:qH dh=af)(hw:yh env.scope (.Tuple ts tk tp) dh=Z (Z names))(h:Ev G n env ρ dh (.tuple ds))(hl:names.length=ds.length)(hb:KR sc names.reverse ds.reverse ρ=Z ρ'):gj G n sc env ch ρ (.Assign [.Tuple ts tk tp] dh pos) (.next ρ'):=λA s O a B R Ek hs W S b=>by
 refine Assign_Tuple_swapped (names:=names) (ar (h A s O a R Ek W S) (λv s1 x1=>?_) λ_ _ x=>x) (Fe hc) (Cs hw);have x2:=x1.2;refine dn x2 λl vs y0 hO ht r=>?_;subst y0;have el:=r.length;rw[aX]at el;have hn:names.length=vs.size:=by exact J hl (J el rfl)
 refine J hn (wpAny_unpackItems_tuple R.handled ht λh' ext=>?_);have k0:∀b o,s1.heap.get? b=Z o->h'.get? b=Z o:=λb o e=>ext b o (du (aZ e)) e;have kx:G.Kx s {s1 with heap:=h'}:=x1.1.trans (Gd.Kx.of (tk:=s1.toks) x1.1.wd k0);have rr:bb h' (Ow O a) vs.toList ds:=r.mono (λb o e _ _=>k0 b o e) λ_ _ e=>e;exact Hd Ek hs _ _ ρ ρ' hb _ _ _ kx.wd (S.kx W kx) rr.reverse λs2 kp S2=>⟨kx.kq.trans (kp.kq.mono λc hc _=>b.fr c hc),rfl,a,S2,b.ow,λ_=>rfl⟩
theorem BY{l b:aL}{xs ys:Array az}(hl:s.heap.PlainList l xs)(hb:s.heap.PlainList b ys)(hz:xs.size+ys.size<=16777216)
 (hQ:∀h',d7 l s.heap h'->h'.PlainList l (xs++ys)->Q (.ref l) {s with heap:=h'}):aJ G.M A (inplaceOp .Add (.ref l) (.ref b)) Q cW s:=by
 refine bQ hl λn1 e1=>bQ hb λn2 e2=>?_;have ha:s.TypeIs (.ref l) "list":=⟨_,e1,rfl⟩;have hbT:s.TypeIs (.ref b) "list":=⟨_,e2,rfl⟩;refine bg ?_;have hs:Ko (Z (.builtin "list.__iadd__"))=af:=by first|rfl|kernel_rfl|decide+kernel
 have hfi:fillsInplaceSlot (.type "list") "add" (Operator.Add==.Add)=pure ag:=by
  show(GP (.type "list") (dunderI "add")>>=λfi=>pure (fi.isSome&&!Ko fi))=pure ag;refine J F.slot_list_iadd.lookup ?_;show(pure (af&&!Ko (Z (.builtin "list.__iadd__"))):EL Bool)=pure ag;exact J hs rfl
 have hsi:seqSlot? (.type "list") (dunderI "add")=pure (Z (.builtin "list.__iadd__")):=by
  unfold seqSlot?;refine J F.slot_list_iadd.lookup ?_;show(if(!Ko (Z (.builtin "list.__iadd__")))=af then pure ae else _)=_;exact J hs rfl
 refine ai (N3 ha (ai (CH hfi ?_)));show aJ _ A (if ag=af then _ else _) Q cW s;refine J (bF dP) (ai (wpAny_binaryOp1_none (nm:="add") ha hbT noFill_list_add ?_));refine ai (CH hsi ?_);refine ai (zB ?_);refine(gR F.slot_list_iadd ha F.entry_list_iadd (F.args_list_iadd_2 _ _) (AutoSeq1.list___iadd___list_list_0 l xs n1 b ys n2 ?_ (J cC (GX hz)) (J cC (fK hz))) ⟨e1,e2,hQ _ (gg ..) ⟨_,pJ (n:=n1) e1 _⟩⟩);simp only[oi,bG,not_and,Bool.not_eq_true];intro _;simp[l9];exact aj (by assumption) (by decide)
end
section
variable{ch:Bool}
theorem SR.W5{h:bq}{l:aL}{vs:Array az}(S:SR G env O (Z l) ρ h)(hl:h.PlainList l vs)(r:bb h (Ow O (Z l)) vs.toList ds)(nd:(x==("__debug__":Str))=ag)
 (lk:∀m,h.Ns env.locals m->n0 env h m x (.ref l)):SR G env O (Z l) ((x,.own ds)::ρ) h:=by
 refine bh S.ns λm hn f=>⟨⟨m,hn,λp hp=>?_⟩,S.cells,S.al,S.ow,S.nl,S.nc⟩
 rcases aM.mp hp with rfl|hp
 ·exact⟨nd,l,vs,lk m hn,rfl,hl,r⟩
 ·exact f p hp
theorem gj.WX(hx:g0 sc x=af)(hm:(x,jS.own xs)∈ρ)(h:Ev G n env ρ dh (.list ys))(hz:xs.length+ys.length<=16777216):gj G n sc env ch ρ (.AugAssign (.Name x px) .Add dh pos) (.next (pR ρ x (xs++ys))):=λA s O a B R Ek hs W S b=>by
 refine J (Xq ..) ?_;obtain⟨m,hn,f⟩:=S.ns;obtain⟨nd,l,items,lk,ha,xV,r⟩:=f _ hm;subst ha;refine ai (bU (ai (fA Ek hn lk (ai (bg (ar (h A s O _ R Ek W S) (λv2 s1 x1=>?_) λ_ _ x=>x))))));obtain⟨kx,r2⟩:=x1;obtain⟨bl,Vb,rfl,XZ,o6,r2⟩:=r2;have rL:=gL W kx.ke xV;have r1:=r.ke W kx.ke;have e1:=r1.length;rw[aX]at e1;have e2:=r2.length;rw[aX]at e2;have S1:=S.kx W kx;have lo:=b.lo l (b.ow l rfl);refine ai (bU (ai (tX (BY rL o6 (by lia) λh' sb vZ=>?_))));have W':=kx.wd.same lo sb (NC.plain rL);have kk:∀b o,b≠l->s1.heap.get? b=Z o->h'.get? b=Z o:=λc o hc e=>by exact J (sb.2 c hc) e
 have rr:bb h' (Ow O (Z l)) (items++Vb).toList (xs++ys):=by
  exact J uT ((r1.but kk (.inr rfl)).append (r2.but kk (.inr rfl)))
 have S':=xQ S1 hm rfl sb vZ rr;refine ai (bU (ai (w7 (lG (sc:=sc) (s:={s1 with heap:=h'}) Ek W' S' hx (hs x hx) λs3 kp S3 lk3=>?_))))
 have hl3:s3.heap.PlainList l (items++Vb):=by
  obtain⟨c,e⟩:=vZ;exact⟨c,kp.kp _ _ e (λz=>S'.iL z e rfl) (W'.md e rfl)⟩
 have rr3:bb s3.heap (Ow O (Z l)) (items++Vb).toList (xs++ys):=rr.kp W' kp.kp (od (sc:=sc) S');refine ay ⟨(kx.kq.trans ⟨h',s1.toks,rfl,λc o e hB _=>kk c o (λhc=>hB (hc▸b.ow l rfl)) e,W'⟩).trans (kp.kq.mono λc hc _=>b.fr c hc),rfl,Z l,?_,b.ow,λ_=>rfl⟩;refine(S3.W5 hl3 rr3 nd lk3).sub λp hp=>?_
 rcases aM.mp hp with rfl|hp
 ·exact bf ..
 ·refine ba _ (cZ.mpr ⟨ba _ hp,?_⟩);have:=(cZ.mp hp).2;simp only[bG]at this;exact this.2
theorem Ey(hA:A.handled=ae)(Ek:dQ G env)(hs:ql sc env):∀(es:List aG) (ds:List D) (ρ ρ':aE),nE (nV sc k) es ds ρ=Z ρ'->∀(s:aK) (vs:List az),G.Wd s.heap->SR G env O a ρ s.heap->bb s.heap (Ow O a) vs ds->
 ∀(Q:Unit->aK->Prop),(∀s',G.Kp (Fr sc env) s s'->SR G env O a ρ' s'.heap->Q () s')->aJ G.M A (jh (es.map λe=>fY e env) vs) Q cW s:=by
 intro es
 induction es with
 |nil=>intro ds ρ ρ' h s vs W S r Q hQ;induction ds using aA with
  |nil=>cases h;exact ay (hQ s (Gd.Kp.refl W) S)
  |cons _ _=>exact bK h
 |cons e es PW=>intro ds ρ ρ' h s vs W S r Q hQ;induction ds using aA with
  |nil=>exact bK h
  |cons d ds=>
   refine bE h λρ1 h1 h2=>bV r.inv λv ma y0 ra rb=>?_;subst y0;show aJ G.M A (do jq ma (fY e env v);jh (es.map λe=>fY e env) ma) Q cW s;refine ai (bg (kZ hs k e d ρ ρ1 h1 A s O a v _ _ hA Ek W S ra λs1 kp S1=>?_));exact PW ds ρ1 ρ' h2 s1 ma kp.wd S1 (rb.kp W kp.kp (od S)) Q λs2 LZ S2=>hQ s2 (kp.trans LZ) S2
theorem Ex{l:aL}{q7:List aG}{v2:List az}{Bj:List D}{ρ2:aE}{Q:Unit->aK->Prop}(hA:A.handled=ae)(Ek:dQ G env)(hs:ql sc env)(hx:g0 sc x=af)(nO:¬O l):
 ∀(xC:List aG) (wR:List D) (ρ ρ1:aE),nE (nV sc k) xC wR ρ=Z ρ1->nE (nV sc k) q7 Bj ((x,.own xs)::ρ1.filter λp=>!(p.1==x))=Z ρ2->∀(s:aK) (v1:List az),G.Wd s.heap->SR G env (λb=>O b∨b=l) ae ρ s.heap->s.heap.PlainList l items->bb s.heap (λb=>O b∨b=l) items.toList xs->
 bb s.heap (λb=>O b∨b=l) v1 wR->bb s.heap (λb=>O b∨b=l) v2 Bj->(∀s',G.Kp (Fr sc env) s s'->SR G env O (Z l) ρ2 s'.heap->Q () s')->
 aJ G.M A (jh ((xC++ .Name x px::q7).map λe=>fY e env) (v1++ .ref l::v2)) Q cW s:=by
 have up:∀{h v d},jT h (λb=>O b∨b=l) v d->jT h (Ow (λb=>O b∨b=l) ae) v d:=λr=>r.less λb h=>h.elim (λh=>h) λh=>by exact bK h
 have ups:∀{h v d},bb h (λb=>O b∨b=l) v d->bb h (Ow (λb=>O b∨b=l) ae) v d:=λr=>r.less λb h=>h.elim (λh=>h) λh=>by exact bK h
 intro xC
 induction xC with
 |nil=>
  intro wR ρ ρ1 h1 h2 s v1 W S hl rx r1 r2 hQ
  induction wR using aA with
  |cons _ _=>exact bK h1
  |nil=>
   cases h1
   refine J (cV r1) ?_;show aJ G.M A (do jq v2 (fY (.Name x px) env (.ref l));jh (q7.map λe=>fY e env) v2) Q cW s;refine ai (bg (eZ (lG (sc:=sc) Ek W S hx (hs x hx) λs1 kp S1 lk=>?_)));have keep:∀b o vs k,Fr sc env b->s.heap.get? b=Z o->o.data=.seq vs k->(λb=>O b∨b=l) b:=λb o vs k hb e hd=>(S.iL hb e hd).elim
   have rL:s1.heap.PlainList l items:=by
    obtain⟨c,e⟩:=hl;exact⟨c,kp.kp _ _ e (λz=>S.iL z e rfl) (W.md e rfl)⟩
   have S1':=S1.RV rL nO (rx.kp W kp.kp keep) (ic hx).2.2 lk;refine Ey hA Ek hs q7 Bj _ ρ2 h2 s1 v2 kp.wd S1' ((r2.kp W kp.kp keep).less λb h=>h.elim .inl λh=>by cases h;exact .inr rfl) Q λs2 LZ S2=>hQ s2 (kp.trans LZ) S2
 |cons e es ih=>
  intro wR ρ ρ1 h1 h2 s v1 W S hl rx r1 r2 hQ
  induction wR using aA with
  |nil=>exact bK h1
  |cons d ds=>
   refine bE h1 λρ' g1 g2=>bV r1.inv λv ma Gh ra rb=>?_;subst Gh;show aJ G.M A (do jq (ma++ .ref l::v2) (fY e env v);jh ((es++ .Name x px::q7).map λe=>fY e env) (ma++ .ref l::v2)) Q cW s;have keep:∀b o vs k,Fr sc env b->s.heap.get? b=Z o->o.data=.seq vs k->(λb=>O b∨b=l) b:=λb o vs k hb e hd=>(S.iL hb e hd).elim;refine ai (bg (kZ hs k e d ρ ρ' g1 A s _ ae v _ _ hA Ek W S (up ra) λs1 kp S1=>?_))
   have rL:s1.heap.PlainList l items:=by
    obtain⟨c,e⟩:=hl;exact⟨c,kp.kp _ _ e (λz=>S.iL z e rfl) (W.md e rfl)⟩
   exact ih ds ρ' ρ1 g2 h2 s1 ma kp.wd S1 rL (rx.kp W kp.kp keep) (rb.kp W kp.kp keep) (r2.kp W kp.kp keep) λs2 LZ S2=>hQ s2 (kp.trans LZ) S2
theorem qo{Q:List az->aK->Prop}(hs:fD e=ag)(h:aJ G.M A (eval e env) (λv s1=>aJ G.M A (rQ (gv pos (dq es env))) (λvs s2=>Q (v::vs) s2) cW s1) cW s):
 aJ G.M A (rQ (gv pos (dq (e::es) env))) Q cW s:=by
 refine J (eO hs) ?_
 show aJ G.M A (do
  let v←eval e env
  let EH←(pure [v]:EL (List az))
  return EH++(←jq EH (rQ (gv pos (dq es env))))) _ _ s
 refine ai (ar h (λv1 s1 x1=>ai (ay (ai (bg (ar x1 (λvs s2 x2=>ay x2) λ_ _ x=>x))))) λ_ _ x=>x)
theorem Ph{yf:List aG}{p:eL}{Bj:List D}(R:g9 A n)(Ek:dQ G env)(hx:wb G n env ρ es xs)(hz:xs.length<=16777216)(h2:wb G n env (Internal.fq ρ) yf Bj):
 ∀(ye:List aG) (wR:List D),wb G n env ρ ye wR->∀(s:aK),G.Wd s.heap->SR G env O a ρ s.heap->
 aJ G.M A (rQ (gv pos (dq (ye++ .List es p::yf) env))) (λvs s'=>G.Kx s s'∧∃v1 l v2 items,vs=v1++ .ref l::v2∧s.heap.get? l=ae∧G.H.objs.size<=l∧s'.heap.PlainList l items∧bb s'.heap (λb=>O b∨b=l) items.toList xs∧bb s'.heap (λb=>O b∨b=l) v1 wR∧bb s'.heap (λb=>O b∨b=l) v2 Bj) cW s:=by
 intro ye
 induction ye with
 |nil=>
  intro wR h1 s W S
  cases h1
  refine qo rfl (ar (DA R Ek W S hx hz) (λv s1 x1=>?_) λ_ _ x=>x);refine c8 x1 λk z1=>dn z1 λl items JG hn lo z2=>c8 z2 λhl r=>?_;subst JG
  have S1:SR G env (λb=>O b∨b=l) ae (Internal.fq ρ) s1.heap:=S.fq.wide W k (λb h=>h.elim .inl λh=>.inr (h▸hn)) λb h=>by
   rcases h with h|rfl
   ·exact(S.kx W k).al b h
   ·obtain⟨c,e⟩:=hl;exact⟨_,e,.seq rfl⟩
  refine ar (h2.run A s1 _ ae R Ek k.wd S1) (λvs s2 x2=>⟨k.trans x2.1,[],l,vs,items,rfl,hn,lo,gL k.wd x2.1.ke hl,?_,bb.nil,x2.2.less λb h=>.inl h⟩) λ_ _ x=>x;exact(r.ke k.wd x2.1.ke).less λb h=>h.elim (λh=>.inl (.inl h)) .inr
 |cons e ye ih=>
  intro wR h1 s W S
  cases h1 with
  |@cons _ _ d ds ha hb xm=>
   refine qo xm (ar (ha A s O a R Ek W S) (λv s1 x1=>?_) λ_ _ x=>x);refine ar (ih ds hb s1 x1.1.wd (S.kx W x1.1)) (λvs s2 x2=>?_) λ_ _ x=>x;refine c8 x2 λk z1=>fj z1 λv1 l v2 items z2=>dD z2 λGg hn lo hl z3=>eP z3 λr r1 r2=>?_;subst Gg;refine⟨x1.1.trans k,v::v1,l,v2,items,rfl,?_,lo,hl,r,bb.cons ?_ r1,r2⟩
   ·cases e:s.heap.get? l with
    |none=>rfl|some o=>have:=x1.1.ex l (J e rfl);rw[hn]at this;exact ff this
   ·refine x1.2.mono (λb o e ⟨_,_,hd⟩ _=>k.ke b o e (x1.1.wd.md e hd)) λb hb z8 ho=>?_
    rcases ho with ho|rfl
    ·exact z8 (.inl ho)
    ·rw[hn]at hb;exact ff hb
theorem yw:∀(es:List aG) (ds:List D) (ρ ρ':aE),nE (nV sc k) es ds ρ=Z ρ'->es.length=ds.length∧∀e∈es,∀fG,fX (e::fG) env=(ag,fY e env)::fX fG env:=by
 intro es
 induction es with
 |nil=>intro ds ρ ρ' h;induction ds using aA with
  |nil=>exact⟨rfl,λe he=>by cases he⟩
  |cons _ _=>exact bK h
 |cons e es PW=>intro ds ρ ρ' h;induction ds using aA with
  |nil=>exact bK h
  |cons d ds=>
   refine bE h λρ1 h1 h2=>c8 (PW ds ρ1 ρ' h2) λi1 i2=>⟨by simp[i1],λe' he fG=>?_⟩
   rcases aM.mp he with rfl|he
   ·induction e' using bC<;>first|rfl|(exfalso;induction k using nZ<;>exact bK h1)
   ·exact i2 e' he fG
theorem yZ:∀(es:List aG),(∀e∈es,∀fG,fX (e::fG) env=(ag,fY e env)::fX fG env)->(fX es env).length=es.length∧(fX es env).findIdx? (·.1)=ae∧(fX es env).map (·.2)=es.map λe=>fY e env
 |[],_=>⟨rfl,rfl,rfl⟩
 |e::es,h=>by
  refine eP (yZ es λe' he=>h e' (ba _ he)) λi1 i2 i3=>J (h e bf ..) ?_;refine⟨by simp[i1],?_,by simp[i3]⟩;exact J Kz (J i2 rfl)
theorem gj.T8{xC q7 ye yf:List aG}{vk:Nat}{vp p:eL}{wR Bj:List D}{ρ1 ρ2:aE}(hx:g0 sc x=af)(hw:yh env.scope (.Tuple (xC++ .Name x px::q7) tk tp) (.Tuple (ye++ .List es p::yf) vk vp)=Z ae)
 (h1:wb G n env ρ ye wR) (he:wb G n env ρ es xs) (hz:xs.length<=16777216) (Vu:wR.length+Bj.length+1<=16777216) (h2:wb G n env (Internal.fq ρ) yf Bj) (b1:nE (nV sc k) xC wR (Internal.fq ρ)=Z ρ1) (b2:nE (nV sc k) q7 Bj ((x,.own xs)::ρ1.filter λp=>!(p.1==x))=Z ρ2):
 gj G n sc env af ρ (.Assign [.Tuple (xC++ .Name x px::q7) tk tp] (.Tuple (ye++ .List es p::yf) vk vp) pos) (.next ρ2):=λA s O a B R Ek hs W S b=>by
 refine Od (Av (ar (Ph (O:=O) (a:=a) R Ek he hz h2 ye wR h1 s W S) (λvs s1 x1=>?_) λ_ _ x=>x)) (Fe rfl) (Cs hw);refine c8 x1 λkx z1=>fj z1 λv1 l v2 items z2=>dD z2 λM1 hn lo hl z3=>eP z3 λr r1 r2=>?_;subst M1;have e1:=r1.length;have e2:=r2.length;refine c8 (yw (env:=env) xC wR _ _ b1) λn1 s1'=>c8 (yw (env:=env) q7 Bj _ _ b2) λn2 s2'=>?_
 have ns:∀e∈xC++ .Name x px::q7,∀fG,fX (e::fG) env=(ag,EM e env)::fX fG env:=λe he fG=>by
  refine jR (ez.mp he) (λh=>?_) λh=>?_
  ·exact s1' e h fG
  ·rcases aM.mp h with rfl|h
   ·rfl
   ·exact s2' e h fG
 refine eP (yZ _ ns) λm1 m2 m3=>dN ?_ (by show(v1++ .ref l::v2).toArray.size<=l9;exact J gy (J aP (J bA (J e1 (J e2 (J cC (fH Vu)))))));have kt:=kx.trans (Gd.Kx.of (tk:=s1.toks) kx.wd (bL (h:=s1.heap) {cls:=.type "tuple",data:=.seq (v1++ .ref l::v2).toArray}));refine Xi (items:=(v1++ .ref l::v2).toArray) R.handled ⟨_,bc _ rfl,rfl,_,rfl⟩ (by refine J m1 (J gy ?_);simp[n1,n2,e1,e2]) m2 λh' ext=>?_;refine J m3 ?_;have k0:∀b o,(s1.heap.push {cls:=.type "tuple",data:=.seq (v1++ .ref l::v2).toArray}).get? b=Z o->h'.get? b=Z o:=λb o e=>ext b o (du (aZ e)) e;have k1:∀b o,s1.heap.get? b=Z o->h'.get? b=Z o:=λb o e=>k0 b o (bL _ b o e);have kz:G.Kx s {s1 with heap:=h'}:=kx.trans (Gd.Kx.of (tk:=s1.toks) kx.wd k1);have up:∀{v d},bb s1.heap (λb=>O b∨b=l) v d->bb h' (λb=>O b∨b=l) v d:=λr=>r.mono (λb o e _ _=>k1 b o e) λ_ _ e=>e;have nO:¬O l:=λh=>by refine bh (S.al l h) λ_ this _=>?_;rw[hn]at this;exact bK this
 have vZ:h'.PlainList l items:=by obtain⟨c,e⟩:=hl;exact⟨c,k1 _ _ e⟩
 have S1:SR G env (λb=>O b∨b=l) ae (Internal.fq ρ) h':=SR.wide (s':={s1 with heap:=h'}) S.fq W kz (λb h=>h.elim .inl λh=>.inr (h▸hn)) λb h=>by
  rcases h with h|rfl
  ·exact(S.kx W kz).al b h
  ·obtain⟨c,e⟩:=vZ;exact⟨_,e,.seq rfl⟩
 exact Ex R.handled Ek hs hx nO xC wR _ ρ1 b1 b2 {s1 with heap:=h'} v1 kz.wd S1 vZ (up r) (up r1) (up r2) λs2 kp S2=>⟨kz.kq.trans (kp.kq.mono λc hc _=>b.fr c hc),rfl,Z l,S2,(λc hc=>by refine qS hc ?_;exact b.new l hn lo),λh=>by cases h⟩
end
section
variable{ch:Bool}
theorem Di{t u:Xr}(hy:(y.length==0)=ag)(hx:x.length<=16777216)(hz:(fy x (dz x y 0 x.length (x.length+1)) y.length).length<=16777216)
 (hQ:∀(vs:List az) tk,(∀h O,bb h O vs ((j9 x y).map .str))->Q (.ref s.heap.objs.size) {s with heap:=s.heap.push {cls:=.type "list",data:=.seq vs.toArray},toks:=tk}):
 aJ G.M A (dE (.builtin "str.split") [.str x t,.str y u]) Q cW s:=by
 unfold j9 at hQ
 by_cases h1:(ah (x.length<y.length)||ah (strKind x<strKind y))=af
 ·rw[bz h1]at hQ;exact gR F.slot_str_split (jg _ _ _) F.entry_str_split (F.args_str_split_2 _ _) (EK x y t u h1) (hQ [.str x t] s.toks λh O=>bb.cons jy bb.nil)
 ·rw[bF h1]at hQ
  by_cases h2:(dz x y 0 x.length (x.length+1)).isEmpty=af
  ·rw[bz h2]at hQ;exact gR F.slot_str_split (jg _ _ _) F.entry_str_split (F.args_str_split_2 _ _) (Im x y t u (by simpa using h1) hy h2) (hQ [.str x t] s.toks λh O=>bb.cons jy bb.nil)
  ·rw[bF h2]at hQ
   exact gR F.slot_str_split (jg _ _ _) F.entry_str_split (F.args_str_split_2 _ _) (Tp x y t u (by simpa using h1) hy (by simpa using h2) (J cC hx) (J cC hz))
    (hQ _ _ λh O=>pj _ _)
theorem gj.Lb{z:Str}{o:aG}(hz0:g0 sc z=af)(h1:rf G n env ρ o (.str x))(h2:rf G n env ρ e (.str y))(xm:fD e=ag)(ho:L9 o=af)(hl:(ju.endLine==mq.line)=af)
 (hy:(y.length==0)=ag) (hx:x.length<=16777216) (hz:(fy x (dz x y 0 x.length (x.length+1)) y.length).length<=16777216):
 gj G n sc env af ρ (.Assign [.Name z px] (.Call (.Attribute o "split" ju) [e] [] mq) pos) (.next ((z,.own ((j9 x y).map .str))::(Internal.fq ρ).filter λp=>!(p.1==z))):=λA s O a B R Ek hs W S b=>by
 have hA:wc G n env ρ [e] [.str y]:=.cons h2 .nil xm;refine lO (pT rfl) (RM (ar (h1 A s O a R Ek W S) (λv1 s1 x1=>wC F.slot_str_split F.type_str_split A s1 _ v1 _ _ x1.1.wd x1.2 ?_) λ_ _ x=>x) (BP hA ho hl (by simp)));refine gd (P:=λ_=>True) (J hA.noStar rfl) (λH=>(pa.builtin _).keeps _ H) (ar (hA.eval A s1 O a R Ek x1.1.wd (S.kx W x1.1)) (λw s2 x2=>⟨trivial,?_⟩) λ_ _ x=>x);refine J x2.2.2 (bh x2.2.1.one λv2 e2 r2=>bQ r2.str λu jE=>?_);subst jE;refine bQ x1.2.str λt sE=>?_;subst sE;show aJ G.M A (dE (.builtin "str.split") ([.str x t]++w.pos)) _ _ s2;refine J e2 ?_;have k2:=x1.1.trans x2.1;refine Di hy hx hz λvs tk hr=>?_;have kz:G.Kx s {s2 with heap:=s2.heap.push {cls:=.type "list",data:=.seq vs.toArray},toks:=tk}:=k2.trans (Gd.Kx.of k2.wd (bL _))
 have hn:s.heap.get? s2.heap.objs.size=ae:=by
  cases e:s.heap.get? s2.heap.objs.size with
  |none=>rfl|some o=>have:=k2.ex _ (J e rfl);rw[cU (aV _)]at this;exact ff this
 refine eZ (pU (vs:=vs.toArray) Ek hz0 hs W S kz hn ⟨_,bc _ rfl⟩ (by simpa using hr _ _) λs3 kp S3=>?_);exact⟨kz.kq.trans (kp.kq.mono λc hc _=>b.fr c hc),rfl,Z _,S3,(λc hc=>by refine qS hc ?_;exact b.new _ hn k2.wd.sz),λh=>by cases h⟩
end
section
variable{ch:Bool}
variable{E:bj->aE->aG->Option D}
theorem tz.ae3{p:eL}(K:l8 G)(g:GI G env x (.type "reversed"))(xm:fD e=ag)(h:Ev G n env ρ e (.list ds)):
 tz G n env ρ (.Call (.Name x p) [e] [] pos) ds.reverse (λ_=>af) af:=λA s O a R Ek W S=>by
 have hL:wb G n env ρ [e] [.list ds]:=.cons h .nil xm;have hA:=hL.toA;show aJ G.M A (do nk pos (←iD (.Name x p) env) [] (gv pos (dq [e] env)) []) _ _ s;refine ai (iO K Ek W g ?_);refine gd (P:=λ_=>True) (J hA.noStar rfl) (λH=>(pa.type "reversed").keeps _ H) (ar (hL.Bg A s O a R Ek W S) (λy s1 x1=>⟨trivial,?_⟩) λ_ _ x=>x);refine J x1.2.2 (bV x1.2.1.inv λv ma ev rv r0=>?_);rw[cV r0]at ev;refine dn rv λl items jE hO hl r=>?_;subst jE;show aJ G.M A (dE (.type "reversed") ([]++y.pos)) _ _ s1;refine J ev ?_;have kx:=x1.1;refine Xo hl.isList ?_;have jJ:l≠s1.heap.objs.size:=by refine bQ hl λk e=>?_;exact du (aZ e)
 have el:=r.length;rw[aX]at el;have hI:(s1.heap.push (revObj l ((items.size:Int)-1))).IsRevIter s1.heap.objs.size l ((items.size:Int)-1):=⟨_,bc _ rfl,rfl,rfl⟩;refine RA hI ?_
 refine⟨kx.trans (Gd.Kx.of kx.wd (bL _)),s1.heap.objs.size,[s1.heap.objs.size,l],[s1.heap.objs.size],λO' h=>bb h O' items.toList ds,λi h=>i<=items.size∧h.IsRevIter s1.heap.objs.size l ((items.size:Int)-1-(i:Int))∧h.IsList l items,s1.heap,rfl,s9 _ _,kx.ex,
  λb hb=>?_,λb hb=>?_,λ_ b hb=>?_,⟨dW _,?_,?_⟩,λO' h1 h2 h3=>⟨Wk.pW (λA hA=>Ts hA _ l jJ items) (by simpa using el) ?_ qB h2 ?_ ?_ ?_,r.wide (bL _) h3⟩⟩
 ·exact J (aF.mp hb) ⟨fR s1.heap,kx.wd.sz⟩
 ·rcases aM.mp hb with rfl|hb
  ·exact⟨_,bc _ rfl,.inr (.inl ⟨_,rfl⟩)⟩
  ·refine J (aF.mp hb) (bQ hl λk e=>?_);exact⟨_,bL _ _ _ e,.inl ⟨_,_,rfl⟩⟩
 ·rcases aM.mp hb with rfl|hb
  ·exact oa (S.kx W kx).oM
  ·exact J (aF.mp hb) hO
 ·exact J (show(items.size:Int)-1-((0:Nat):Int)=(items.size:Int)-1 by lia) hI
 ·exact bQ hl λk e=>⟨_,bL _ _ _ e,rfl,_,rfl⟩
 ·intro b hb
  rcases aM.mp hb with rfl|hb
  ·exact kx.wd.pY (fR s1.heap)
  ·refine J (aF.mp hb) (bQ hl λk e=>?_);exact kx.wd.md e rfl
 ·rintro i h ⟨_,⟨o,e,hc,_⟩,_⟩ b hb;exact J (aF.mp hb) ⟨o,e,.cls hc⟩
 ·rintro i h ⟨_,⟨o,e,hc,_⟩,_⟩;exact⟨o,_,e,hc,by decide⟩
 ·intro i v h d hp hr hd;have hi:i<ds.length:=by have:=(cK.mp hd).1;simpa using this
  rw[mU hi]at hd;refine bh (bb.at hr hd) λv' e1 e2=>?_;rw[el]at hp;rw[hp]at e1;exact qT e1 e2
def aav(C:Cx)(E:bj->aE->aG->Option D)(sc:bj)(ρ:aE)(e:aG):Option (List D×Bool×Bool):=match e with
 |.Call (.Name f fp) [x] [] cp=>bif f==("reversed":Str)&&oR sc f&&!fD x then(match ue E sc ρ x with
  |some (.list ds)=>Z (ds.reverse,ag,af)
  |_=>ae)else OA C E sc ρ (.Call (.Name f fp) [x] [] cp)
 |e=>OA C E sc ρ e
theorem Ga(K:l8 G)(hC:mw G n C)(hE:mT G n E){st:Bool}(h:aav C E env.scope ρ e=Z (xs,xY,st)):tz G n env ρ e xs (ve xY) st:=by
 induction e using bC with
 |Call f es U8 cp=>induction f using bC with
  |Name f fp=>induction es using aA with
   |nil=>exact lj K hC hE h
   |cons x r=>induction r using aA with
    |cons=>exact lj K hC hE h
    |nil=>induction U8 using aA with
     |cons=>exact lj K hC hE h
     |nil=>
      have h:(bif f==("reversed":Str)&&oR env.scope f&&!fD x then(match ue E env.scope ρ x with
       |some (.list ds)=>Z (ds.reverse,ag,af)
       |_=>ae)else OA C E env.scope ρ (.Call (.Name f fp) [x] [] cp))=Z (xs,xY,st):=h
      cases e1:f==("reversed":Str)&&oR env.scope f&&!fD x with
      |true=>
       rw[e1]at h;refine iW e1 λe1 e2=>iW e1 λe0 e1=>?_
       cases aC.mp e0
       have h:(match ue E env.scope ρ x with
        |some (.list ds)=>Z (ds.reverse,ag,af)
        |_=>ae)=Z (xs,xY,st):=h
       generalize hb:ue E env.scope ρ x=o at h
       induction o using aB with
       |none=>exact bK h
       |some d=>induction d using ao with
        |list ds=>cases h;exact .ae3 K (pB hC.reversed e1) (tG e2) (b7 hE hb)
        |_=>exact bK h
      |false=>
       rw[e1]at h;exact lj K hC hE h
  |_=>exact lj K hC hE h
 |_=>exact lj K hC hE h
end
section
variable{ch:Bool}
noncomputable def kD(ow:List Str):List aG->List aG->Option (List aG×Str×eL×List aG×List aG×List aG×eL×List aG)
 |.Name x px::ts,.List es p::vs=>bif ow.contains x then Z ([],x,px,ts,[],es,p,vs)else(kD ow ts vs).map λq=>(.Name x px::q.1,q.2.1,q.2.2.1,q.2.2.2.1,.List es p::q.2.2.2.2.1,q.2.2.2.2.2.1,q.2.2.2.2.2.2.1,q.2.2.2.2.2.2.2)
 |t::ts,v::vs=>(kD ow ts vs).map λq=>(t::q.1,q.2.1,q.2.2.1,q.2.2.2.1,v::q.2.2.2.2.1,q.2.2.2.2.2.1,q.2.2.2.2.2.2.1,q.2.2.2.2.2.2.2)
 |_,_=>ae
abbrev W6:=List aG×Str×eL×List aG×List aG×List aG×eL×List aG
def vQ(ow:List Str)(ts vs:List aG)(q:W6):Prop:=ts=q.1++ .Name q.2.1 q.2.2.1::q.2.2.2.1∧vs=q.2.2.2.2.1++ .List q.2.2.2.2.2.1 q.2.2.2.2.2.2.1::q.2.2.2.2.2.2.2∧ow.isEmpty=ag
noncomputable abbrev soC(t v:aG)(q:W6):W6:=(t::q.1,q.2.1,q.2.2.1,q.2.2.2.1,v::q.2.2.2.2.1,q.2.2.2.2.2.1,q.2.2.2.2.2.2.1,q.2.2.2.2.2.2.2)
theorem BI{vs:List aG}(ih:∀{q},kD ow ts vs=Z q->vQ ow ts vs q){t v:aG}{q:W6}(h:(kD ow ts vs).map (soC t v)=Z q):vQ ow (t::ts) (v::vs) q:=by
 exact mE h λq' h'=>⟨aD (t::·) (ih h').1,aD (v::·) (ih h').2.1,(ih h').2.2⟩
theorem O5{vs:List aG}(ih:∀{q},kD ow ts vs=Z q->vQ ow ts vs q){p:eL}{q:W6}(h:(bif ow.contains x then Z ([],x,px,ts,[],es,p,vs)else(kD ow ts vs).map (soC (.Name x px) (.List es p)))=Z q):vQ ow (.Name x px::ts) (.List es p::vs) q:=by
 cases hb:ow.contains x with
 |true=>rw[hb]at h;refine qS h ?_;exact⟨rfl,rfl,by induction ow using aA<;>first|rfl|cases hb⟩
 |false=>rw[hb]at h;exact BI ih h
theorem zS:∀{ts vs:List aG} {q:W6},kD ow ts vs=Z q->vQ ow ts vs q:=by
 intro ts
 induction ts with
 |nil=>intro vs q h;exact bK h
 |cons t ts ih=>
  intro vs q h
  induction vs using aA with
  |nil=>induction t using bC<;>exact bK h
  |cons v vs=>induction t using bC with
   |Name x px=>induction v using bC with
    |List es p=>exact O5 ih h|_=>exact BI ih h
   |_=>exact BI ih h
noncomputable def gY(f:aE->D->Option gO):List D->aE->Option gO
 |[],ρ=>Z (.next ρ)
 |x::xs,ρ=>match f ρ x with
  |some (.next ρ')=>gY f xs ρ'
  |some (.ret d)=>Z (.ret d)
  |none=>ae
theorem iT{f:aE->D->Option gO}{x:D}:gY f (x::xs) ρ=(match f ρ x with
 |some (.next ρ')=>gY f xs ρ'
 |some (.ret d)=>Z (.ret d)
 |none=>ae):=rfl
noncomputable def Og(t:aE->Option Bool)(f:aE->Option gO):Nat->aE->Option gO
 |0,_=>ae
 |k+1,ρ=>match t ρ with
  |some true=>(match f ρ with
   |some (.next ρ')=>Og t f k ρ'
   |some (.ret d)=>Z (.ret d)
   |none=>ae)
  |some false=>Z (.next ρ)
  |none=>ae
theorem AE{t:aE->Option Bool}{f:aE->Option gO}:Og t f (k+1) ρ=(match t ρ with
 |some true=>(match f ρ with
  |some (.next ρ')=>Og t f k ρ'
  |some (.ret d)=>Z (.ret d)
  |none=>ae)
 |some false=>Z (.next ρ)
 |none=>ae):=rfl
noncomputable def IL(ρ ρ':aE):aE:=ρ'.filter (λp=>!(ρ.any λq=>q.1==p.1))++ρ.filterMap λp=>(ρ'.lookup p.1).map λb=>(p.1,b)
def fb(ρ:aE):gO->gO
 |.next ρ'=>.next (IL ρ ρ')
 |.ret d=>.ret d
def UI(ρ:aE)(x:Str)(ds:List D):aE:=(x,.own ds)::(fq ρ).filter λp=>!(p.1==x)
section
variable(C:Cx)(E:bj->aE->aG->Option D)(Hk:bj->aE->bX->Option gO)(X:List Str->bj->aE->List bX->Option gO)(ag0:Nat)
def SP(sc:bj)(ρ:aE)(e:aG):Option gO:=Y5 (nh e λx _=>(ρ.lookup x).bind λb=>DC b λds=>Z (.ret (.list ds))) ((ue E sc ρ e).map .ret)
def Ee(ow:List Str)(sc:bj)(ρ:aE)(x:Str)(dh:aG):Option gO:=
 bif g0 sc x then(bif ow.contains x then Sa dh
  (λes _=>(fW (ue E) sc ρ es).bind λds=>bif ah (ds.length<=fB)then Z (.next (UI ρ x ds))else ae)
  (λiw gens scope _=>(evC C E scope sc ρ iw gens).map λds=>.next (UI ρ x ds))
  (λf as ks mq=>Fw f λo m ju=>ER as λe=>Ol ks ((E sc ρ o).bind λd1=>Gi d1 λt=>(E sc ρ e).bind λd2=>Gi d2 λy=>bif m==("split":Str)&&L9 o&&!fD e&&ju.endLine==mq.line&&!(y.length==0)&&ah (t.length<=fB)&&ah ((fy t (dz t y 0 t.length (t.length+1)) y.length).length<=fB)then Z (.next (UI ρ x ((j9 t y).map .str)))else ae))
  else bif qH dh then(ue E sc ρ dh).map λd=>.next (vU ρ x (.val d))else Fv dh λiw gens scope _=>(evC C E scope sc ρ iw gens).map λds=>.next (vU ρ x (.val (.list ds))))
 else ae
def F6(sc:bj)(ρ:aE)(ts:List aG)(tk:Nat)(tp:eL)(dh:aG):Option gO:=
 bif qH dh then(yh sc (.Tuple ts tk tp) dh).bind λr=>(ue E sc ρ dh).bind λd=>(match r with
  |none=>(nV sc 3 (.Tuple ts tk tp) d ρ).map .next
  |some names=>(match d with
   |.tuple ds=>bif names.length==ds.length then(KR sc names.reverse ds.reverse ρ).map .next else ae
   |_=>ae))else ae
def Wg(sc:bj)(ρ:aE)(ts:List aG)(tk:Nat)(tp:eL)(vk:Nat)(vp:eL)(vs:List aG)(q:W6):Option gO:=bif g0 sc q.2.1&&(match yh sc (.Tuple ts tk tp) (.Tuple vs vk vp)with|some none=>af|_=>ag)then
 (fW (ue E) sc ρ q.2.2.2.2.1).bind λwR=>(fW (ue E) sc ρ q.2.2.2.2.2.1).bind λxs=>(fW (ue E) sc (fq ρ) q.2.2.2.2.2.2.2).bind λBj=>
  bif ah (xs.length<=fB)&&ah (wR.length+Bj.length+1<=fB)then(nE (nV sc 3) q.1 wR (fq ρ)).bind λρ1=>(nE (nV sc 3) q.2.2.2.1 Bj ((q.2.1,.own xs)::ρ1.filter λp=>!(p.1==q.2.1))).map .next else ae
 else ae
def MS(ow:List Str)(sc:bj)(ρ:aE)(ts:List aG)(tk:Nat)(tp:eL)(dh:aG):Option gO:=match(Hr dh λvs vk vp=>(kD ow ts vs).map λq=>(vk,vp,vs,q))with
 |some z=>Wg E sc ρ ts tk tp z.1 z.2.1 z.2.2.1 z.2.2.2
 |none=>F6 E sc ρ ts tk tp dh
def SS(sc:bj)(ρ:aE)(x:Str)(op:gD)(dh:aG):Option gO:=
 bif g0 sc x then(ρ.lookup x).bind λb=>Y8 b (λd1=>(E sc ρ dh).bind λd2=>(qK op d1 d2).map λd=>.next (vU ρ x (.val d)))
  λxs=>Sd op ((ue E sc ρ dh).bind λd=>o9 d λys=>bif ah (xs.length+ys.length<=fB)then Z (.next (pR ρ x (xs++ys)))else ae)else ae
def yV(sc:bj)(ρ:aE)(bR iter:aG)(body:List bX):Option gO:=
 bif r7 iter then(aav C E sc ρ iter).bind λq=>bif q.2.2&&(!q.2.1||lM bR)then gY (λρ x=>(nV sc 3 bR x ρ).bind λρ1=>(X [] sc ρ1 body).map (fb ρ)) q.1 ρ else ae else ae
def MT(ρ:aE)(sc:bj)(x m:Str)(ju mq:eL)(zA:List aG):Option gO:=(ρ.lookup x).bind λb=>DC b λxs=>Zf zA
 (bif m==("reverse":Str)&&ju.endLine==mq.line&&ah (xs.length<=fB)then Z (.next (pR ρ x xs.reverse))else ae)
 λe=>bif m==("append":Str)&&!fD e&&ju.endLine==mq.line&&ah (xs.length<=fB)then(ue E sc ρ e).map λd=>.next (pR ρ x (xs++[d]))else ae
def SQ(sc:bj)(ρ:aE)(x:Str)(i:aG):Option gO:=(ρ.lookup x).bind λb=>DC b λxs=>(ue E sc ρ i).bind λd=>sH d λk=>
 (tM k xs.length).bind λj=>bif r7 i&&dY k&&ah (xs.length<=fB)then Z (.next (pR ρ x (xs.eraseIdx j)))else ae
def uE(ow:List Str)(sc:bj)(ρ:aE)(st:bX):Option gO:=
 match Hk sc ρ st with
 |some o=>bif ow.isEmpty then ae else Z o
 |none=>Y9 st (λv _=>v.elim (Z (.ret .none)) (SP E sc ρ))
  (λt b o _=>(B6 E sc ρ 9 t).bind λc=>X ow sc ρ (bif c then b else o))
  (λts dh _=>ER ts λt=>Zb t (λx _=>Ee C E ow sc ρ x dh) λts tk tp=>MS E ow sc ρ ts tk tp dh)
  (λt op dh _=>nh t λx _=>SS E sc ρ x op dh)
  (λbR iter body o _=>Ol o (bif qa ρ iter then(bif ow.isEmpty then ae else yV C E X sc (fq ρ) bR iter body)else yV C E X sc ρ bR iter body))
  (λpG body o _=>Ol o (Og (λρ=>B6 E sc ρ 9 pG) (λρ=>(X ow sc ρ body).map (fb ρ)) ag0 ρ))
  (λe _=>wt e λf zA ks mq=>Fw f λo m ju=>nh o λx _=>Ol ks (MT E ρ sc x m ju mq zA))
  (λt m _=>Za m ((B6 E sc ρ 9 t).bind λc=>bif c then Z (.next ρ)else ae))
  (λts _=>ER ts λt=>R8 t λv i _=>nh v λx _=>SQ E sc ρ x i)
noncomputable def kX(S:List Str->bj->aE->bX->Option gO)(ow:List Str)(sc:bj):aE->List bX->Option gO
 |ρ,[]=>Z (.next ρ)
 |ρ,st::ss=>match S ow sc ρ st with
  |some (.next ρ')=>kX S ow sc ρ' ss
  |some (.ret d)=>Z (.ret d)
  |none=>ae
end
theorem qc{S:List Str->bj->aE->bX->Option gO}:kX S ow sc ρ (st::ss)=(match S ow sc ρ st with
 |some (.next ρ')=>kX S ow sc ρ' ss
 |some (.ret d)=>Z (.ret d)
 |none=>ae):=rfl
noncomputable def ex(C:Cx)(Hk:bj->aE->bX->Option gO)(ke kw:Nat):Nat->List Str->bj->aE->List bX->Option gO
 |0=>λ_ _ _ _=>ae
 |k+1=>λow sc=>kX (uE C (ev C ke) Hk (ex C Hk ke kw k) kw) ow sc
end
section
variable{ch:Bool}
variable{E:bj->aE->aG->Option D}{Hk:bj->aE->bX->Option gO}{X:List Str->bj->aE->List bX->Option gO}
def Rn(G:Gd)(n:Nat)(X:List Str->bj->aE->List bX->Option gO):Prop:=∀(ow:List Str) (env:nJ) (ρ:aE) (ss:List bX) (out:gO),X ow env.scope ρ ss=Z out->mv G n env.scope env (!ow.isEmpty) ρ ss out
def Rt(G:Gd)(n:Nat)(Hk:bj->aE->bX->Option gO):Prop:=∀(env:nJ) (ρ:aE) (st:bX) (out:gO),Hk env.scope ρ st=Z out->gj G n env.scope env af ρ st out
theorem gj.lift(h:gj G n sc env ag ρ st out):gj G n sc env ch ρ st out:=by
 induction ch using ax
 ·exact h
 ·exact h.any
theorem yz(h:ow.contains x=af):(!ow.isEmpty)=af:=by induction ow using aA<;>first|rfl|exact ff h
theorem KU:∀p∈IL ρ ρ',p∈ρ':=λp hp=>by
 unfold IL at hp;refine jR (ez.mp hp) (λhp=>?_) λhp=>?_
 ·exact(cZ.mp hp).1
 ·exact bh (Ku.mp hp) λq _ h=>mE h λb h1=>mem_of_lookup h1
theorem mv.IL{ρ₀:aE}(h:mv G n sc env ch ρ ss out):mv G n sc env ch ρ ss (fb ρ₀ out):=λA s O a B R Ek hs W S b=>
 ar (h A s O a B R Ek hs W S b) (λf s' p=>by
  induction out using Internal.gO.casesOn with
  |ret d=>exact p
  |next ρ'=>
   exact lK p λkq hf a' S' ha hc=>⟨kq,hf,a',⟨let⟨m,hn,fs⟩:=S'.ns;⟨m,hn,λp hp=>fs p (KU p hp)⟩,S'.cells,S'.al,S'.ow,S'.nl,S'.nc⟩,ha,hc⟩) λ_ _ x=>x
theorem yR{f:aE->D->Option gO}{step:aE->D->gO->Prop}(hf:∀ρ x o,f ρ x=Z o->step ρ x o):∀{xs:List D} {ρ:aE} {out:gO},gY f xs ρ=Z out->zy step ρ xs out
 |[],ρ,out,h=>by refine qS h ?_;exact .nil
 |x::xs,ρ,out,h=>by
  replace h:=iT.symm.trans h;generalize h1:f ρ x=o at h
  induction o using aB with
  |none=>exact bK h
  |some o=>induction o using Internal.gO.casesOn with
   |next ρ'=>exact .cons (hf _ _ _ h1) (yR hf h)|ret d=>refine qS h ?_;exact .ret (hf _ _ _ h1)
theorem AD{t:aE->Option Bool}{f:aE->Option gO}{pG:aG}(ht:∀ρ b,t ρ=Z b->Tr G n env ρ pG b)(hf:∀ρ o,f ρ=Z o->mv G n sc env ch ρ body o):∀{k:Nat} {ρ:aE} {out:gO},Og t f k ρ=Z out->GF G n sc env ch pG body ρ out
 |0,ρ,out,h=>by exact bK h
 |k+1,ρ,out,h=>by
  replace h:=AE.symm.trans h;generalize h1:t ρ=o at h
  induction o using aB with
  |none=>exact bK h
  |some c=>induction c using ax with
   |false=>refine qS h ?_;exact .stop (ht _ _ h1)
   |true=>
    dsimp only at h;generalize h2:f ρ=o at h
    induction o using aB with
    |none=>exact bK h
    |some o=>induction o using Internal.gO.casesOn with
     |next ρ'=>exact .turn (ht _ _ h1) (hf _ _ h2) (AD ht hf h)|ret d=>refine qS h ?_;exact .ret (ht _ _ h1) (hf _ _ h2)
theorem Eb(hE:mT G n E)(h:SP E env.scope ρ e=Z out):gj G n sc env ch ρ (.Return (Z e) pos) out:=by
 refine iOr h (λh=>sm h λx p h=>?_) λh=>?_
 ·exact mE h λd h1=>.ret (b7 hE h1)
 ·refine bE h λb hl h=>?_;revert hl;refine PX h λds h hl=>qS h ?_;exact .Fm (mem_of_lookup hl)
theorem yW(K:l8 G)(hC:mw G n C)(hE:mT G n E)(h:Ee C E ow env.scope ρ x dh=Z out):gj G n env.scope env (!ow.isEmpty) ρ (.Assign [.Name x px] dh pos) out:=by
 refine vN h λhx h=>ifE h (λhb h=>?_) λ_ h=>?_
 ·refine J (yz hb) (af5 h (λes p h=>?_) (λiw gens scope p h=>?_) λf as ks mq h=>Sv h λo m ju h=>i1 h λe h=>i0 h λh=>?_)
  ·exact bE h λds h1 h=>Nu h λh2=>.Pj hx (gG hE h1) (aw h2)
  ·exact mE h λds h1=>.Pk hx (wM K hC hE h1)
  ·refine bE h λd1 h1 h=>?_;revert h1;refine Jf h λt h h1=>bE h λd2 h2 h=>?_;revert h2;refine Jf h λy h h2=>Nu h λh0=>iW h0 λh0 a7=>iW h0 λh0 a6=>iW h0 λh0 a5=>iW h0 λh0 a4=>iW h0 λh0 a3=>iW h0 λa1 a2=>J (aC.mp a1) ?_;exact .Lb hx (hE env ρ _ _ h1).1 (hE env ρ _ _ h2).1 (tG a3) a2 a4 (tG a5) (aw a6) (aw a7)
 ·refine ifE h (λh0 h=>?_) λ_ h=>Su h λiw gens scope p h=>?_
  ·exact mE h λd h1=>.assign hx h0 (b7 hE h1)
  ·exact mE h λds h1=>.comp hx (wM K hC hE h1)
theorem B3(hE:mT G n E)(h:F6 E env.scope ρ ts tk tp dh=Z out):gj G n env.scope env ch ρ (.Assign [.Tuple ts tk tp] dh pos) out:=by
 unfold F6 at h;refine vN h λh0 h=>bE h λr h1 h=>bE h λd h2 h=>?_
 induction r using aB with
 |none=>
  exact mE h λρ' h3=>.tuple h0 h1 (b7 hE h2) h3
 |some names=>induction d using ao with
  |tuple ds=>
   exact vN h λh3 h=>mE h λρ' h4=>.swap h0 h1 (b7 hE h2) (aC.mp h3) h4
  |_=>exact bK h
theorem swN{o:Option (Option (List Str))}(h:(match o with|some none=>af|_=>ag)=af):o=Z ae:=by
 induction o using aB with
 |none=>exact ff h
 |some o=>induction o using aB with
  |none=>rfl|some=>exact ff h
theorem Ea(hE:mT G n E)(h:MS E ow env.scope ρ ts tk tp dh=Z out):gj G n env.scope env (!ow.isEmpty) ρ (.Assign [.Tuple ts tk tp] dh pos) out:=by
 unfold MS at h;generalize hq:(Hr dh λvs vk vp=>(kD ow ts vs).map λq=>(vk,vp,vs,q))=o at h
 induction o using aB with
 |none=>exact B3 hE h
 |some z=>
  revert h;refine ZQ hq λvs vk vp hq=>mE hq λq hq h=>?_;obtain⟨xC,x,px,q7,ye,es,p,yf⟩:=q;refine eP (zS hq) λe1 e2 e3=>?_;subst e1 e2;refine J e3 (vN h λh0 h=>bE h λwR h1 h=>bE h λxs h2 h=>bE h λBj h3 h=>vN h λhz h=>bE h λρ1 h4 h=>mE h λρ2 h5=>?_);exact .T8 (JT h0).1 (swN (JT h0).2) (gG hE h1) (gG hE h2) (aw (JT hz).1) (aw (JT hz).2) (gG hE h3) h4 h5
theorem Ed(hE:mT G n E){op:gD}(h:SS E env.scope ρ x op dh=Z out):gj G n env.scope env ch ρ (.AugAssign (.Name x px) op dh pos) out:=by
 refine vN h λhx h=>bE h λb hl h=>?_;revert hl;refine iVO h (λd1 h hl=>?_) λxs h hl=>af7 h λh=>?_
 ·exact bE h λd2 h1 h=>mE h λd h2=>.aug hx (mem_of_lookup hl) (hE env ρ _ _ h1).1 (Jj h2)
 ·refine bE h λd hv h=>?_;revert hv;exact sf h λys h hv=>Nu h λhz=>.WX hx (mem_of_lookup hl) (b7 hE hv) (aw hz)
theorem sD(K:l8 G)(hC:mw G n C)(hE:mT G n E)(hX:Rn G n X)(h:yV C E X env.scope ρ bR iter body=Z out):gj G n env.scope env ag ρ (.For bR iter body [] pos) out:=by
 unfold yV at h;refine vN h λh0 h=>bh (d8.mp h) λOR h1 h=>?_;obtain⟨xs,xY,st⟩:=OR;refine vN h λh2 h=>?_;simp only[bG]at h2;refine c8 h2 λh2 h3=>?_;have h2:st=af:=h2;subst h2;refine .ag2 (k:=3) (Ga K hC hE h1) h3 h0 (yR (λρ x o ho=>?_) h);exact bE ho λρ1 g1 g2=>mE g2 λo' g3=>⟨ρ1,g1,(hX [] env ρ1 body o' g3).IL⟩
theorem B5(hE:mT G n E){m:Str}{p:eL}{zA:List aG}(h:MT E ρ env.scope x m ju mq zA=Z out):gj G n env.scope env ch ρ (.Expr (.Call (.Attribute (.Name x p) m ju) zA [] mq) pos) out:=by
 refine bE h λb hl h=>?_;revert hl;refine PX h λxs h hl=>i01 h (λh=>?_) λe h=>?_
 ·refine Nu h λh0=>iW h0 λh0 a4=>iW h0 λa1 a3=>J (aC.mp a1) ?_;exact .reverse (mem_of_lookup hl) a3 (aw a4)
 ·refine vN h λh0 h=>mE h λd h1=>iW h0 λh0 a4=>iW h0 λh0 a3=>iW h0 λa1 a2=>J (aC.mp a1) ?_;exact .append (mem_of_lookup hl) (b7 hE h1) (tG a2) a3 (aw a4)
theorem Ec(hE:mT G n E){p OY:eL}{i:aG}(h:SQ E env.scope ρ x i=Z out):gj G n env.scope env ch ρ (.Delete [.Subscript (.Name x p) i OY] pos) out:=by
 refine bE h λb hl h=>?_;revert hl;refine PX h λxs h hl=>bE h λd hk h=>?_;revert hk;exact uz h λk h hk=>bE h λj h1 h=>Nu h λh0=>iW h0 λh0 a3=>iW h0 λa1 a2=>.del (mem_of_lookup hl) (b7 hE hk) a1 a2 h1 (aw a3)
theorem B4(K:l8 G)(hC:mw G n C)(hE:mT G n E)(hX:Rn G n X)(h:(bif qa ρ iter then(bif ow.isEmpty then ae else yV C E X env.scope (fq ρ) bR iter body)else yV C E X env.scope ρ bR iter body)=Z out):gj G n env.scope env (!ow.isEmpty) ρ (.For bR iter body [] pos) out:=by
 cases hi:qa ρ iter with
 |true=>
  rw[hi]at h;refine Q8 h λh1 h2=>J h1 ?_;exact(sD K hC hE hX h2).fq
 |false=>rw[hi]at h;exact(sD K hC hE hX h).lift
theorem vF(K:l8 G)(hC:mw G n C)(hE:mT G n E)(hH:Rt G n Hk)(hX:Rn G n X){kw:Nat}(h:uE C E Hk X kw ow env.scope ρ st=Z out):gj G n env.scope env (!ow.isEmpty) ρ st out:=by
 unfold uE at h;generalize ho:Hk env.scope ρ st=o at h
 induction o using aB with
 |some o=>
  refine Q8 h λh1 h2=>qS h2 ?_;exact J h1 (hH env ρ st _ ho)
 |none=>
  refine iSt h (λv p h=>?_) (λt b o p h=>bE h λc h1 h2=>.Vp (fe hE 9 h1) (hX ow env ρ _ out h2))
   (λts v p h=>i1 h λt h=>iNT h (λx q h=>yW K hC hE h) λts tk tp h=>Ea hE h)
   (λt op v p h=>sm h λx q h=>Ed hE h)
   (λt i b o p h=>i0 h λh=>B4 K hC hE hX h)
   (λt b o p h=>i0 h λh=>.TS (AD (λρ b hb=>fe hE 9 hb) (λρ o ho=>mE ho λo' g3=>(hX ow env ρ _ o' g3).IL) h))
   (λe p h=>DV h λf zA U8 mq h=>Sv h λo m ju h=>sm h λx q h=>i0 h λh=>B5 hE h)
   (λt m p h=>iNo h λh=>bE h λc h1 h2=>Nu h2 λh3=>.WZ (h3▸fe hE 9 h1))
   λts p h=>i1 h λt h=>af3 h λv i q h=>sm h λx px h=>Ec hE h
  induction v using aB with
  |some e=>exact Eb hE h|none=>refine qS h ?_;exact .Pa
theorem nR{S:List Str->bj->aE->bX->Option gO}(hS:∀(ρ:aE) (st:bX) (out:gO),S ow env.scope ρ st=Z out->gj G n env.scope env (!ow.isEmpty) ρ st out):∀{ss:List bX} {ρ:aE} {out:gO},kX S ow env.scope ρ ss=Z out->mv G n env.scope env (!ow.isEmpty) ρ ss out
 |[],ρ,out,h=>by refine qS h ?_;exact .nil
 |st::ss,ρ,out,h=>by
  replace h:=qc.symm.trans h;generalize h1:S ow env.scope ρ st=o at h
  induction o using aB with
  |none=>exact bK h
  |some o=>induction o using Internal.gO.casesOn with
   |next ρ'=>exact .cons (hS _ _ _ h1) (nR hS h)|ret d=>refine qS h ?_;exact .ret (hS _ _ _ h1)
theorem sC(K:l8 G)(hC:mw G n C)(hH:Rt G n Hk){ke kw:Nat}:∀k,Rn G n (ex C Hk ke kw k)
 |0=>λow env ρ ss out h=>by exact bK h
 |k+1=>λow env ρ ss out h=>nR (λρ st out hs=>vF K hC (lP K hC ke) hH (sC K hC hH k) hs) h
end
section
variable{ch:Bool}
theorem zo{k:Str->Option ix}:∀(bs:List (Str×az)) (m:Str->Option az) (x:Str),x∉bs.map (·.1)->bindL k bs m x=m x
 |[],m,x,_=>rfl
 |(y,v)::r,m,x,h=>by
  have h1:x≠y:=λe=>h (by simp[e]);have h2:x∉r.map (·.1):=λe=>h (by simp at e⊢;exact .inr e);unfold bindL;refine J (zo r _ x h2) ?_
  split
  ·exact bF h1
  ·rfl
theorem zq{k:Str->Option ix}:∀(bs:List (Str×az)) (m:Str->Option az) (x:Str),x∉bs.map (·.1)->bindC k bs m x=m x
 |[],m,x,_=>rfl
 |(y,v)::r,m,x,h=>by
  have h1:x≠y:=λe=>h (by simp[e]);have h2:x∉r.map (·.1):=λe=>h (by simp at e⊢;exact .inr e);unfold bindC;refine J (zq r _ x h2) ?_
  split
  ·rfl
  ·exact bF h1
theorem Bn{k:Str->Option ix}:∀(bs:List (Str×az)) (m:Str->Option az) (x:Str) (v:az),(bs.map (·.1)).Nodup->(x,v)∈bs->k x=Z .local->bindL k bs m x=Z v
 |(y,w)::r,m,x,v,hn,h,hk=>by
  rw[aR,sS]at hn;unfold bindL;refine jR (aM.mp h) (λh=>?_) λh=>?_
  ·cases h
   exact J (zo r _ _ hn.1) (J (bz hk) (bz rfl))
  ·exact Bn r _ x v hn.2 h hk
theorem Bo{k:Str->Option ix}:∀(bs:List (Str×az)) (m:Str->Option az) (x:Str) (v:az),(bs.map (·.1)).Nodup->(x,v)∈bs->k x≠Z .local->bindC k bs m x=Z v
 |(y,w)::r,m,x,v,hn,h,hk=>by
  rw[aR,sS]at hn;unfold bindC;refine jR (aM.mp h) (λh=>?_) λh=>?_
  ·cases h
   exact J (zq r _ _ hn.1) (J (bF hk) (bz rfl))
  ·exact Bo r _ x v hn.2 h hk
noncomputable def oq:List Str->List D->aE
 |x::xs,d::ds=>(x,.val d)::oq xs ds
 |_,_=>[]
theorem Ho{h:bq}:∀{xs:List Str} {ds:List D} {vs:List az} {p:Str×jS},bb h O vs ds->p∈oq xs ds->∃v d,p.2=.val d∧(p.1,v)∈xs.zip vs∧jT h O v d
 |[],ds,vs,p,r,hp=>by induction ds using aA<;>cases hp
 |x::xs,[],vs,p,r,hp=>by cases hp
 |x::xs,d::ds,vs,p,r,hp=>by
  refine bV r.inv λv ma jE r1 r2=>?_;subst jE
  rcases aM.mp hp with rfl|hp
  ·exact⟨v,d,rfl,bf ..,r1⟩
  ·exact bV (Ho r2 hp) λv' d' e1 e2 e3=>⟨v',d',e1,ba _ e2,e3⟩
structure FnAt(G:Gd)(x name:Str)(params:fE)(body:List bX)(scope:bj):Prop where
 nd:(x==("__debug__":Str))=ag
 ex:∃fa o pm cd doc,G.mg x=Z (.ref fa)∧G.H.get? fa=Z o∧¬G.Tb fa∧o.data=.func (xb name params body scope pm cd doc)∧∃c oc vs t,cd=.ref c∧G.H.get? c=Z oc∧¬G.Tb c∧oc.data=.fields vs∧vs[1]?=Z (.str name t)
def vz(scope:bj)(xs:List Str):Bool:=scope.kind==.function&&!scope.isCoroutine&&!scope.isGenerator&&scope.names.all (λq=>scope.names.lookup q.1==Z q.2)&&scope.names.all (λq=>!(q.2==.free))&&xs.all (g0 scope)&&decide xs.Nodup
def tm(scope:bj)(xs:List Str):Bool:=!je scope&&vz scope xs
end
section
variable{ch:Bool}
def NT(G:Gd)(s:aK)(O:aL->Prop)(a:Option aL)(v:az):jS->Prop
 |.val d=>jT s.heap (Ow O a) v d
 |.own ds=>∃l vs,v=.ref l∧a=Z l∧s.heap.PlainList l vs∧bb s.heap (Ow O a) vs.toList ds
 |.fn K T f k=>T s.heap v∧∃env,sO G env O a s.heap K T f k
theorem yT{fa:aL}{o:Aw}{zA:Args}{binds:List (Str×az)}{xs:List Str}(K:l8 G)(W:G.Wd s.heap)(al:Al s.heap O)(ha:∀b,a=Z b->¬O b∧(∃vs,s.heap.PlainList b vs)∧G.H.objs.size<=b)(Rm:g9 A (n+1))
 (ho:s.heap.get? fa=Z o) (ub:o.data=.func fd) (hfb:fd.body=.stmts body) (hgl:fd.globals=bO) (hbu:fd.builtins=dK) (agL:fd.closure=[]) (DZ:s.heap.CodeRec fd.code fd.qualname) (ok:vz fd.scope xs=af) (hlw:je fd.scope=af->fd.code=.ref G.lc.1∧fd.qualname++".<locals>."=G.lq)
 (D0:∀Q:List (Str×az)->aK->Prop,Q binds s->aJ G.M A.in1 (As fd zA) Q cW s) (hn:binds.map (·.1)=xs) (hρ:∀p∈ρ,∃v,(p.1,v)∈binds∧NT G s O a v p.2)
 (hb:∀env:nJ,env.scope=fd.scope->env.code=fd.code->env.qual=fd.qualname++".<locals>."->mv G n env.scope env ch ρ body out)
 (hR:∀(env:nJ) f s',zv G env O (λb=>(s.heap.get? b=ae∧G.H.objs.size<=b)∨a=Z b) s ch a out f s'->R (.ok (.ret (match f with|.ret v=>v|_=>.none))) s'):
 jN G.M A (.call (.ref fa) zA) R s:=by
 have Zi:=ok;unfold vz at ok;simp only[bG,a9,aC,cN,beq_eq_false_iff_ne,decide_eq_true_eq]at ok;refine c8 ok λz1 k7=>c8 z1 λz2 k6=>c8 z2 λz3 k5=>c8 z3 λz4 k4=>c8 z4 λz5 k3=>c8 z5 λk1 k2=>?_;have VM:=Rm.depth;refine vV (aT (aj (bw ..) Rm.depth) (by decide)) ho ub k2 k3 hfb DZ (ar (D0 _ ?_) (λ_ _ x=>x) λ_ _ x=>x.elim);refine J agL (wpAny_newFunctionEnv_cells k1 (λy hy=>?_) λenv he s₁ X=>?_)
 ·have hm:y.1∈xs:=hn▸u0 hy;refine c8 (ic (k6 _ hm)) λz _=>z.imp id λz=>⟨z,?_⟩;refine bQ (jp fd.scope.names (s.heap.objs.size+1) [] y.1 (mem_of_lookup z)) λc' nQ=>bQ (fc nQ) λc'' e=>J e ?_;rfl
 ·refine mL X.done λh₁ tk jE hk=>?_;subst jE;have iq:env.cells=iX (s.heap.objs.size+1) fd.scope.names []:=by exact J he rfl
  have pA:env.scope=fd.scope:=by exact J he rfl
  have yL:env.locals=s.heap.objs.size:=by exact J he rfl
  have keep:=X.toInCall.keep
  have above:∀x c,env.cells.lookup x=Z c->s.heap.objs.size<c:=λx c hc=>by
   have:=X.above x c (mem_of_lookup hc);rw[yL]at this;exact this
  have Ek:dQ G env:=by
   refine⟨pA▸k1,yL▸W.sz,λx c hc=>aj W.sz (cm (above x c hc)),λx hx=>?_,by exact J he hgl,by exact J he hbu,λx y c hx hy=>name_of_addr X.apart (mem_of_lookup hx) (mem_of_lookup hy),λhm=>?_⟩
   case refine_2=>exact(have h:=hlw (pA▸hm);⟨by exact J he h.1,by exact J he h.2⟩)
   have kk:env.kindOf x=fd.scope.names.lookup x:=by exact rF pA rfl
   rw[kk]at hx;refine jR hx (λhx=>?_) λhx=>?_
   ·exact bQ (jp fd.scope.names (s.heap.objs.size+1) [] x (mem_of_lookup hx)) λc hc=>J iq (fc hc)
   ·exact absurd rfl (k5 _ (mem_of_lookup hx))
  have hs:ql env.scope env:=λx hx=>(ic hx).1;have kx:G.Kx s {s with heap:=h₁,toks:=tk}:=Gd.Kx.of W keep
  have nO:∀b,s.heap.objs.size<=b->¬O b:=λb hb hO=>by
   exact bh (al b hO) λo e _=>absurd (aZ e) (dH.mpr hb)
  have S:SR G env O a ρ h₁:=by
   refine⟨⟨_,X.toInCall.ns,λp hp=>?_⟩,λx c hc=>⟨_,X.cell x c hc⟩,λb hb=>(Al.kx kx al) b hb,λb hb=>?_,by exact J yL (nO _ (aV _)),λx c hc=>nO _ (cm (above x c hc))⟩
   ·refine bh (hρ p hp) λv e2 pk=>?_;have hm:p.1∈xs:=hn▸u0 e2;refine eP (ic (k6 _ hm)) λz z2 z3=>?_;have kk:env.kindOf p.1=fd.scope.names.lookup p.1:=by exact rF pA rfl
    have lk:n0 env h₁ (bindL env.kindOf binds λ_=>ae) p.1 v:=by
     refine jR z (λz=>?_) λz=>?_
     ·exact .inl ⟨kk.trans z,Bn _ _ _ _ (hn▸k7) e2 (kk.trans z)⟩
     ·refine bQ (jp fd.scope.names (s.heap.objs.size+1) [] p.1 (mem_of_lookup z)) λc' nQ=>bQ (fc nQ) λc'' e=>?_;have e':env.cells.lookup p.1=Z c'':=by exact J iq e
      refine .inr ⟨.inl (kk.trans z),z2,c'',e',?_⟩;have:=X.cell _ _ e';rw[Bo _ _ _ _ (hn▸k7) e2 (by refine J kk (J z ?_);intro h;cases h)]at this;exact this
    refine⟨z3,?_⟩;obtain⟨x,bd⟩:=p
    induction bd using Internal.jS.casesOn with
    |val d=>exact⟨v,lk,pk.mono (λb o e _ _=>keep b o e) λ_ _ e=>e⟩
    |own ds=>
     refine AS pk λl vs qe h2 c h3 h4=>?_;subst qe;exact⟨l,vs,lk,h2,⟨c,keep _ _ h3⟩,h4.mono (λb o e _ _=>keep b o e) λ_ _ e=>e⟩
    |fn K' T f k=>
     refine Zk pk λh1 mn F=>⟨v,lk,F.next h1 (λb o _ e=>keep b o e) F.nO λb hb=>?_⟩;refine bh (F.al b hb) λo' e' _=>?_;have jJ:=aZ e';exact⟨λhq=>du jJ (hq.trans yL),λy _ hy=>eA _ (iG jJ (above y b hy))⟩
   ·exact c8 (ha b hb) λh1 z1=>c8 z1 λz2 _=>bQ z2 λvs v8=>bQ v8 λc h2=>⟨h1,vs,c,keep _ _ h2⟩
  have R':g9 (A.deeper env) n:=⟨by show A.depth+1+n<=990;rw[dA,bM 1];exact Rm.depth,aR3 Rm.units,Rm.handled,Rm.guards⟩
  have bk:Cq G env.scope env a (λb=>(s.heap.get? b=ae∧G.H.objs.size<=b)∨a=Z b) {s with heap:=h₁,toks:=tk}:=by
   refine⟨λb hb=>.inl ?_,λb hb=>.inr hb,λb hb hl=>.inl ⟨?_,hl⟩,λb hb=>hb.elim (λh=>h.2) λh=>(ha b h).2.2⟩
   ·rcases hb with rfl|⟨y,_,hy⟩
    ·exact J yL ⟨cU (aV _),W.sz⟩
    ·have:=above y b hy;exact⟨cU (cm this),aj W.sz (cm this)⟩
   ·cases e:s.heap.get? b with
    |none=>rfl|some o=>have:=keep b o e;have hb:h₁.get? b=ae:=hb;rw[this]at hb;exact R0 hb
  refine⟨?_,N5 ?_⟩
  ·exact bh K.nolimit λmc VG yK=>⟨mc,kx.wd.ns VG K.st,yK⟩
  ·exact ar (hb env pA (J he rfl) (J he rfl) (A.deeper env) _ O a _ R' Ek hs kx.wd S bk) (λf s' p=>hR env f s' (p.trans kx.kq λ_=>rfl)) λ_ _ x=>x.elim
end
section
variable{ch:Bool}
structure oH(G:Gd):Prop where
 ap:∀q∈G.tabs,∀q'∈G.tabs,q.1≠q'.2∧(q.2=q'.2->q=q')
 bui:∃bm o,G.mg "__builtins__"=Z (.ref bm)∧bm≠dK∧¬G.Tb bm∧G.H.get? bm=Z o∧o.cls=.type "module"∧o.dict=Z dK∧o.data=.plain
 lc:G.lc∈G.tabs
 lq:G.tq G.lc.2=G.lq++"<lambda>"
def qR(h:bq)(c:aL)(q:Str):Prop:=∃o vs t,h.get? c=Z o∧o.cls=.type "code"∧o.data=.fields vs∧vs[1]?=Z (.str q t)
theorem qR.rec{h:bq}{c:aL}{q:Str}(x:qR h c q):h.CodeRec (.ref c) q:=by
 exact ou x λo vs t e1 e2 e3 e4=>⟨c,o,vs,t,rfl,e1,e3,e4⟩
theorem Gd.Wd.table(L:oH G)(K:l8 G){h:bq}(W:G.Wd h)(hq:q∈G.tabs){ps:Array az}(ht:h.TableAt q.1 q.2 ps)(htr:Kr ps.toList)(hen:GJ h (G.tq q.2) ps)(hnf:tS pos ps.toList=ae)(hx:IB q.2 h h')
 (hic:h'.IsCode q.1 q.2 (ps++#[ki pos.line,ki pos.col,.ref c'])) (ht':h'.TableAt q.1 q.2 (ps++#[ki pos.line,ki pos.col,.ref c'])) (hc:qR h' c' (G.tq q.2)):G.Wd h':=by
 have tb:G.Tb q.2:=⟨q,hq,rfl⟩
 have nc:∀b o,h.get? b=Z o->¬NC o->h'.get? b=Z o:=λb o e nc=>hx b o (λhb=>by
  rw[hb]at e;exact c8 (W.tbNone tb e) λz _=>nc (.inl (by refine J z ?_;simp))) e
 refine bQ (W.base q hq) λps0 b0=>⟨W.lt,W.last,W.old.step_table b0 ht ht' hx (λhs=>K.st (hs▸tb)),λb o e nt=>hx b o (λhb=>nt (hb▸tb)) (W.keep b o e nt),W.base,λq' VB=>?_⟩
 by_cases e:q'.2=q.2
 ·have e':=(L.ap q' VB q hq).2 e;subst e';refine⟨_,hic,ht',λXa cv ecv=>?_⟩;have hl:(ps++#[ki pos.line,ki pos.col,oN c']).toList=ps.toList++[ki pos.line,ki pos.col,.ref c']:=by simp
  rw[hl]at ecv
  have key:∀l:List az,Kr l->tS Xa (l++[ki pos.line,ki pos.col,.ref c'])=Z cv->tS Xa l=Z cv∨cv=.ref c':=by
   intro l hl
   fun_induction Kr l with
   |case1=>
    intro h;simp only[oh,ki,tS]at h
    split at h
    ·exact qS h (.inr rfl)
    ·exact bK h
   |case2 a t b u x fG ih=>
    intro h;simp only[yb,tS]at h⊢
    split at h
    ·rename_i hc;exact J (bz hc) (.inl h)
    ·rename_i hc;exact J (bF hc) (ih hl h)
   |case3 l h1 h2=>exact hl.elim
  rcases key _ htr ecv with h1|rfl
  ·exact hen.keeps nc Xa cv h1
  ·exact DE hc λo vs t r=>⟨c',o,vs,t,rfl,r⟩
 ·refine gM (W.tab q' VB) λnM a b en=>?_;have h1:q'.1≠q.2:=(L.ap q' VB q hq).1;exact⟨nM,a.extBut hx h1 e,b.extBut hx h1 e,en.keeps nc⟩
theorem E9(K:l8 G)(L:oH G){E:az->aK->Prop}(W:G.Wd s.heap)(hq:q∈G.tabs)(A9:env.code=.ref q.1){fl:Nat}{name:Str}{body:G0}(ua:qual=G.tq q.2)
 (hQ:∀c' s',G.Kx s s'->qR s'.heap c' qual->Q (.ref c') s'):aJ G.M A (functionCode env pos fl name qual params scope body) Q E s:=by
 refine gM (W.tab q hq) λps a b en=>?_;have htr:Kr ps.toList:=by refine fj a λ_ _ _ _ z=>fj z λ_ _ _ _ z=>jY z λ_ _ z=>dD z λ_ _ _ _ z=>dD z λ_ _ _ _ z=>eP z λ_ z _=>?_;exact z
 cases e:tS pos ps.toList with
 |none=>
  refine wpAny_functionCodeX A9 a b e λc' h' tk hx SG jJ hic agk age ⟨P',_,_,aey⟩=>?_
  have hc:qR h' c' qual:=by
   refine I4 aey λo vs e1 e2 e3 _ _=>I3 agk λc2 o2 vs2 t e4 e5 e6 e7=>?_
   cases e4
   rw[e1]at e5;cases e5;rw[e3]at e6;cases e6;exact⟨o,vs,t,e1,e2,e3,e7⟩
  refine hQ c' _ ⟨h',tk,rfl,λb o e nt=>hx b o (λhb=>nt (hb▸⟨q,hq,rfl⟩)) e,?_⟩ hc;exact W.table L K hq b htr en e hx hic age (ua▸hc)
 |some cv=>
  refine fj (en pos cv e) λc' o vs t z1=>dD z1 λEj e1 e2 e3 e4=>?_;subst Ej;exact wpAny_functionCode_hit A9 a e (hQ c' s (Gd.Kx.refl W) ⟨o,vs,t,e1,e2,e3,ua▸e4⟩)
noncomputable def Lm:G0->Bool
 |.stmts b=>(docOf b).isNone
 |.expr _=>af
noncomputable abbrev HS(name qual:Str)(params:fE)(body:G0)(scope:bj)(ah6:List (Str×aL))(pm:az)(c':aL)(ctv:az):Aw:=
 {cls:=.type "function",data:=.func {name,qualname:=qual,params,body,scope,globals:=bO,closure:=ah6,defaults:=.none,kwdefaults:=.none,doc:=.none,pyModule:=pm,annotations:=ae,code:=.ref c',closureTuple:=ctv,builtins:=dK}}
theorem u9(K:l8 G)(L:oH G){E:az->aK->Prop}(W:G.Wd s.heap)(Ek:dQ G env)(hq:q∈G.tabs)(A9:env.code=.ref q.1){fl:Nat}{name:Str}{body:G0}(ua:qual=G.tq q.2)
 (hd:Lm body=af) (pP:∀p∈scope.names,p.2=.free->∃c,env.cells.lookup p.1=Z c)
 (hQ:∀f c' pm ctv s',G.Kx s s'->s.heap.get? f=ae->s'.heap.get? f=Z (HS name qual params body scope (lZ env.cells scope.names []) pm c' ctv)->qR s'.heap c' qual->Q (.ref f) s'):
 aJ G.M A (makeFunction name qual params body scope env [] [] [] pos fl) Q E s:=by
 refine J (makeFunction_eq ..) ?_;simp only[List.zip_nil_right,KA,List.isEmpty_nil,if_true,pure_bind];refine dn L.bui λbm ob g1 g2 g3 z1=>mM z1 λg4 g5 g6 g7=>?_;unfold makeTail;refine J (ug pP) (J Ek.glob ?_);refine ai (ay ?_)
 have An:∀(Wv:EL az),Wv=pure .none->∀(ctv:az) (s0:aK),G.Kx s s0->aJ G.M A (do
  let code←functionCode env pos fl name qual params scope body
  let bu←builtinsFor bO env.builtins
  let pm←nsGet bO "__name__"
  let doc←Wv
  newObj (.type "function") (.func {name:=name,qualname:=qual,params:=params,body:=body,scope:=scope,globals:=bO,closure:=lZ env.cells scope.names [],closureTuple:=ctv,code:=code,builtins:=bu,defaults:=.none,kwdefaults:=.none,annotations:=ae,pyModule:=pm.getD .none,doc:=doc})) Q E s0:=by
  intro Wv Qa ctv s0 kx;refine ai (E9 K L kx.wd hq A9 ua λc' s1 k1 hc=>?_);have k2:=kx.trans k1;have hg:=k2.wd.ns K.g K.gt;refine ai (wpAny_builtinsFor hg g1 g2 (k2.wd.keep _ _ g4 g3) g5 g6 g7 ?_);refine ai (wpAny_nsGet hg ?_)
  have fin:aJ G.M A (newObj (.type "function") (.func {name:=name,qualname:=qual,params:=params,body:=body,scope:=scope,globals:=bO,closure:=lZ env.cells scope.names [],closureTuple:=ctv,code:=.ref c',builtins:=dK,defaults:=.none,kwdefaults:=.none,annotations:=ae,pyModule:=(G.mg "__name__").getD .none,doc:=.none})) Q E s1:=by
   refine dN ?_ (by size_fits);refine hQ _ c' _ ctv _ (k2.trans (Gd.Kx.of (tk:=s1.toks) k2.wd (bL _))) ?_ (bc _ rfl) ?_
   ·cases e:s.heap.get? s1.heap.objs.size with
    |none=>rfl
    |some o=>
     exact bQ (aW.mp (k2.ex _ (J e rfl))) λo' e'=>absurd (aZ e') (eA _)
   ·exact g8 hc λo vs t e1 r=>⟨o,vs,t,bL _ _ _ e1,r⟩
  exact J Qa (ai (ay fin))
 cases body with
 |expr b=>
  cases hc:(lZ env.cells scope.names []).isEmpty with
  |true=>
   exact J (bz rfl) (ai (ay (An (pure .none) rfl .none s (Gd.Kx.refl W))))
  |false=>
   exact J (bF (by simp)) (ai (Xh (An (pure .none) rfl _ _ (Gd.Kx.of (tk:=s.toks) W (bL _)))))
 |stmts b=>
  have hdn:docOf b=ae:=by unfold Lm at hd;simpa using hd
  have Qa:(match docOf b with|some s=>mkText s|none=>(pure .none:EL az))=pure .none:=by exact J hdn rfl
  cases hc:(lZ env.cells scope.names []).isEmpty with
  |true=>
   exact J (bz rfl) (ai (ay (An (match docOf b with|some s=>mkText s|none=>(pure .none:EL az)) Qa .none s (Gd.Kx.refl W))))
  |false=>
   exact J (bF (by simp)) (ai (Xh (An (match docOf b with|some s=>mkText s|none=>(pure .none:EL az)) Qa _ _ (Gd.Kx.of (tk:=s.toks) W (bL _)))))
end
section
variable{ch:Bool}
theorem vu:∀(l:List (Str×β)) (x:Str) (v:β),(l.map (·.1)).Nodup->(x,v)∈l->l.lookup x=Z v
 |(y,w)::r,x,v,hn,h=>by
  rw[aR,sS]at hn;refine jR (aM.mp h) (λh=>?_) λh=>?_
  ·cases h;simp[gV]
  ·have:x≠y:=λe=>hn.1 (rF e (u0 (f:=(·.1)) h));refine J gV ?_;have hb:(x==y)=ag:=by simpa using this
   exact J hb (vu r x v hn.2 h)
theorem Gc{E:az->aK->Prop}{binds:List (Str×az)}{f:aL}{code:az}{Q:nJ->aK->Prop}(W:G.Wd s.heap)(al:Al s.heap O)(ha:∀b,a=Z b->¬O b∧∃vs,s.heap.PlainList b vs)
 (hk:scope.kind=.function) (Z1:∀x∈scope.names,x.2≠ .cell) (hl:∀x∈binds,scope.names.lookup x.1=Z .local) (hnd:(binds.map (·.1)).Nodup)
 (Z7:∀x,scope.names.lookup x=Z .free->∃c,cl.lookup x=Z c)
 (pP:∀x c,cl.lookup x=Z c->(∃v,s.heap.IsCell c v)∧¬O c∧G.H.objs.size<=c)
 (FU:∀x y c,cl.lookup x=Z c->cl.lookup y=Z c->x=y)
 (P6:je scope=ag)
 (hρ:∀p∈ρ,(p.1==("__debug__":Str))=ag∧∃v,((p.1,v)∈binds∨(scope.names.lookup p.1=Z .free∧p.1≠"__classdict__"∧∃c,cl.lookup p.1=Z c∧s.heap.IsCell c (Z v)))∧NT G s O a v p.2)
 (hQ:∀(env:nJ) s',env=newEnv scope s.heap.objs.size bO cl qual (Z f) code ae dK->env.scope=scope->env.locals=s.heap.objs.size->env.cells=cl->G.Kx s s'->(∀b o,s.heap.get? b=Z o->s'.heap.get? b=Z o)->dQ G env->SR G env O a ρ s'.heap->Q env s'):
 aJ G.M A (GS scope bO cl binds qual (Z f) code ae dK) Q E s:=by
 refine wpAny_newFunctionEnv Z1 hl (λh' DX sb=>?_) hk;have keep:∀b o,s.heap.get? b=Z o->h'.get? b=Z o:=λb o e=>sb.extBut b o (du (aZ e)) (eG _ e);have kx:G.Kx s {s with heap:=h',toks:=s.toks+binds.length}:=Gd.Kx.of W keep
 have nO:∀b,s.heap.objs.size<=b->¬O b:=λb hb hO=>by
  exact bh (al b hO) λo e _=>absurd (aZ e) (dH.mpr hb)
 generalize he:newEnv scope s.heap.objs.size bO cl qual (Z f) code ae dK=env;have pA:env.scope=scope:=by exact rF he rfl
 have yL:env.locals=s.heap.objs.size:=by exact rF he rfl
 have iq:env.cells=cl:=by exact rF he rfl
 have kk:∀x,env.kindOf x=scope.names.lookup x:=λx=>by exact rF pA rfl
 have Ek:dQ G env:=by
  refine⟨pA▸hk,yL▸W.sz,λx c hc=>(pP x c (iq▸hc)).2.2,λx hx=>?_,by exact rF he rfl,by exact rF he rfl,λx y c hx hy=>FU x y c (iq▸hx) (iq▸hy),λhm=>?_⟩
  ·rw[kk]at hx;refine jR hx (λhx=>?_) λhx=>?_
   ·exact absurd rfl (Z1 _ (mem_of_lookup hx))
   ·exact J iq (Z7 x hx)
  ·rw[pA,P6]at hm;exact ff hm
 refine hQ env _ he.symm pA yL iq kx keep Ek ⟨⟨_,yL▸DX,λp hp=>?_⟩,λx c hc=>?_,λb hb=>(Al.kx kx al) b hb,λb hb=>?_,by exact J yL (nO _ (aV _)),λx c hc=>(pP x c (iq▸hc)).2.1⟩
 ·refine c8 (hρ p hp) λnd z1=>bh z1 λv hv pk=>?_
  have lk:n0 env h' (λx=>binds.reverse.lookup x) p.1 v:=by
   rcases hv with hv|⟨h1,h2,c,h3,h4⟩
   ·refine .inl ⟨(kk _).trans (hl _ hv),?_⟩;refine vu _ _ _ ?_ (fx.mpr hv);exact J mW (List.pairwise_reverse.mpr (hnd.imp λh=>h.symm))
   ·exact .inr ⟨.inr ((kk _).trans h1),h2,c,iq▸h3,h4.keeps keep⟩
  refine⟨nd,?_⟩;obtain⟨x,bd⟩:=p
  induction bd using Internal.jS.casesOn with
  |val d=>exact⟨v,lk,pk.mono (λb o e _ _=>keep b o e) λ_ _ e=>e⟩
  |own ds=>
   refine AS pk λl vs qe h2 c h3 h4=>?_;subst qe;exact⟨l,vs,lk,h2,⟨c,keep _ _ h3⟩,h4.mono (λb o e _ _=>keep b o e) λ_ _ e=>e⟩
  |fn K' T f k=>
   refine Zk pk λh1 mn F=>⟨v,lk,F.next h1 (λb o _ e=>keep b o e) F.nO λb hb=>?_⟩;refine bh (F.al b hb) λo' e' _=>?_;have jJ:=aZ e';refine⟨λhq=>du jJ (hq.trans yL),λy hy=>?_⟩;rw[kk]at hy;exact absurd rfl (Z1 _ (mem_of_lookup hy))
 ·exact bQ ((pP x c (iq▸hc)).1) λv hv=>⟨v,hv.keeps keep⟩
 ·exact c8 (ha b hb) λh1 z1=>bQ z1 λvs v7=>bQ v7 λc h2=>⟨h1,vs,c,keep _ _ h2⟩
end
section
variable{ch:Bool}
noncomputable def n7:fE->Bool
 |⟨[],[⟨x,ae,_⟩],ae,[],[],ae,[]⟩=>x==("row":Str)
 |_=>ag
noncomputable def se(s:bj):Bool:=s.kind==.function&&ah (s.names=[(("row":Str),NameKind.local),(("images":Str),gc)])&&!s.isGenerator&&!s.isCoroutine
theorem AL{h:bq}:∀{is:List Int} {vs:List az},bb h O vs (is.map .int)->bb h' O' vs (is.map .int)
 |[],vs,r=>by exact J (cV r) bb.nil
 |i::is,vs,r=>by
  refine bV r.inv λv ma jE a b=>?_;subst jE;refine bb.cons ?_ (AL b);exact a
noncomputable def LX(E1:bj->aE->aG->Option D)(zY:bj)(body:aG)(is:List D)(d:D):Option D:=match E1 zY [("row",.val d),("images",.val (.list is))] body with
 |some (.int i)=>Z (.int i)
 |_=>ae
theorem DL{pr:fE}(h:n7 pr=af):∃p,pr=⟨[],[⟨"row",ae,p⟩],ae,[],[],ae,[]⟩:=by
 induction pr using we with
 |mk adV adU adT adS adR adQ adP=>
  induction adV using aA with
  |nil=>
   induction adU using aA with
   |cons adO adN=>
    induction adO using jr with
    |mk x adM p=>
     induction adM using aB with
     |none=>
      induction adN using aA with
      |nil=>
       induction adT using aB with
       |none=>
        induction adS using aA with
        |nil=>
         induction adR using aA with
         |nil=>
          induction adQ using aB with
          |none=>
           induction adP using aA with
           |nil=>
            exact qF (aC.mp h) ⟨p,rfl⟩
           |_=>exact ff h
          |_=>exact ff h
         |_=>exact ff h
        |_=>exact ff h
       |_=>exact ff h
      |_=>exact ff h
     |_=>exact ff h
   |_=>exact ff h
  |_=>exact ff h
theorem LW{name:Str}{body:G0}{cd:az}{u:az}(hp:n7 params=af):
 As {name,qualname:=qual,params,body:=body,scope,globals:=bO,closure:=cl,defaults:=.none,kwdefaults:=.none,doc:=.none,pyModule:=pm,annotations:=ae,code:=cd,closureTuple:=ctv,builtins:=dK} ⟨[u],[]⟩=pure [(("row":Str),u)]:=by
 refine bQ (DL hp) λp sE=>?_;subst sE
 rfl
theorem LV(K:l8 G)(L:oH G){n1:Nat}{E1:bj->aE->aG->Option D}(hE:mT G n1 E1){body:aG}{zY:bj}{is:List Int}(Ek:dQ G env)(W:G.Wd s.heap)(S:SR G env O a ρ s.heap)
 (P6:je env.scope=af) (hp:n7 params=af) (hs:se zY=af) (Kd:nU env.scope "images"=af) (hm:(("images":Str),jS.val (.list ds))∈ρ) (hi:hU ds=Z is):
 aJ G.M A (eval (.Lambda params body zY pos) env) (λv s'=>G.Kx s s'∧∃Kf Tf,Tf s'.heap v∧∃mn,sO G mn O a s'.heap Kf Tf (LX E1 zY body ds) (n1+1)) cW s:=by
 refine c8 (Ek.ZH P6) λDZ hq=>?_;have XW:=o4 hi;subst XW;unfold se at hs;simp only[bG,aC,decide_eq_true_eq,cN]at hs;refine c8 hs λz1 s4=>c8 z1 λz2 s3=>c8 z2 λs1 s2=>bh S.ns λm DX fs=>?_;obtain⟨nd,v0,lk,rv⟩:=fs _ hm;have rv:jT s.heap (Ow O a) v0 (.list (is.map .int)):=rv;refine dn rv λl vs vJ hlO VC rvs=>?_;subst vJ
 have aab:∃c,env.cells.lookup ("images":Str)=Z c∧s.heap.IsCell c (Z (.ref l)):=by
  rcases lk with⟨z,_⟩|⟨_,_,c,z1,z2⟩
  ·have z:env.scope.names.lookup ("images":Str)=Z .local:=z
   rcases nS Kd with y|y<;>rw[z]at y<;>cases y
  ·exact⟨c,z1,z2⟩
 refine bh aab λc hc VO=>?_
 have pP:lZ env.cells zY.names []=[(("images":Str),c)]:=by
  refine J s2 ?_;show[(("images":Str),(env.cells.lookup ("images":Str)).getD 0)]=_;exact J hc rfl
 refine kla_eval ?_ ?_
 ·refine bQ (DL hp) λp y0=>?_;subst y0
  rfl
 ·refine u9 K L W Ek L.lc DZ (J hq (J L.lq rfl)) rfl (λp hp hf=>?_) λf c' pm ctv s' kx hf Kc ET=>?_
  ·rw[s2]at hp
   rcases aM.mp hp with rfl|hp
   ·cases hf
   ·exact J (aF.mp hp) ⟨c,hc⟩
  ·rw[pP]at Kc;have W1:=kx.wd;have S1:=S.kx W kx;have aaa:=Cd W kx.ke VO;have Z0:=gL W kx.ke VC
   refine⟨kx,λb=>b=f∨b=c'∨b=c∨b=l,λh v=>v=.ref f∧h.get? f=Z (HS "<lambda>" (env.qual++"<lambda>") params (.expr body) zY [(("images":Str),c)] pm c' ctv)∧qR h c' (env.qual++"<lambda>")∧h.IsCell c (Z (.ref l))∧h.PlainList l vs,⟨rfl,Kc,ET,aaa,Z0⟩,
    {env with locals:=s'.heap.objs.size,cells:=[]},?_⟩
   have nOf:∀b,s.heap.get? b=ae->¬Ow O a b:=λb hb hO=>by refine bh (S.oM b hO) λo e _=>?_;rw[hb]at e;cases e
   refine ou (id ET) λoc vsc tc g1 g2 g3 g4=>bQ (id Z0) λkc Z5=>bh (id aaa) λocc g5 g6=>⟨?_,?_,?_,?_,?_,?_,?_,?_⟩
   ·rintro h h' v ⟨rfl,t1,⟨o,w,t,t2,t3⟩,⟨o5,t5,t6⟩,k7,t7⟩ kk
    exact⟨rfl,kk _ _ (.inl rfl) t1,⟨o,w,t,kk _ _ (.inr (.inl rfl)) t2,t3⟩,⟨o5,kk _ _ (.inr (.inr (.inl rfl))) t5,t6⟩,k7,kk _ _ (.inr (.inr (.inr rfl))) t7⟩
   ·rintro b (rfl|rfl|rfl|rfl)
    ·exact⟨_,Kc,λ_ _ e=>by cases e⟩
    ·exact⟨_,g1,λ_ _ e=>by rw[g3]at e;cases e⟩
    ·exact⟨_,g5,λ_ _ e=>by rw[g6]at e;cases e⟩
    ·exact⟨_,Z5,λ_ _ e=>by cases e⟩
   ·rintro b (rfl|rfl|rfl|rfl)
    ·exact nOf _ hf
    ·intro hO;refine bh (S1.oM _ hO) λo e nc=>?_;rw[g1]at e;cases e
     rcases nc with nc|nc
     ·exact nc g2
     ·exact nc _ g3
    ·rintro(hO|hO)
     ·exact S.nc _ _ hc hO
     ·refine c8 (S1.ow _ hO) λ_ z1=>bQ z1 λma v13=>bQ v13 λk' e=>?_;rw[g5]at e;cases e;cases g6
    ·exact hlO
   ·rintro b hb
    refine⟨?_,λy _ e=>by cases e⟩
    have:(s'.heap.get? b).isSome:=by
     rcases hb with rfl|rfl|rfl|rfl
     ·exact J Kc rfl
     ·exact J g1 rfl
     ·exact J g5 rfl
     ·exact J Z5 rfl
    exact bQ (aW.mp this) λo e=>du (aZ e)
   ·rintro b hb ht
    rcases hb with rfl|rfl|rfl|rfl
    ·refine c8 (W1.tbNone ht Kc) λz _=>?_;cases z
    ·refine c8 (W1.tbNone ht g1) λz _=>?_;rw[g2]at z;cases z
    ·refine c8 (W1.tbNone ht g5) λ_ z1=>bQ z1 λ_ z=>?_;rw[g6]at z;cases z
    ·refine c8 (W1.tbNone ht Z5) λ_ z1=>bQ z1 λ_ z=>?_;cases z
   ·rintro A2 s2' O' v u d r q1 q2 q3 q4 W2 al2 ⟨rfl,t1,t2,t3,t4⟩ ru hr
    have VA:∃i,r=.int i∧E1 zY [("row",.val d),("images",.val (.list (is.map .int)))] body=Z (.int i):=by
     unfold LX at hr;generalize E1 zY [("row",.val d),("images",.val (.list (is.map .int)))] body=q at hr⊢
     induction q using aB with
     |none=>exact bK hr
     |some y=>induction y using ao with
      |int i=>exact⟨i,(j4 hr).symm,rfl⟩
      |_=>exact bK hr
    refine bh VA λi Gg hev=>?_;subst Gg;refine bh K.nolimit λmc VG yK=>uJ ?_;refine kla_callFunE (by unfold GR;lia) t1 rfl s4 s3 rfl t2.rec ?_;refine J (LW hp) (ay ?_);have XZ:Al s2'.heap (λb=>O' b∧b≠l∧b≠c):=λb hb=>al2 b hb.1;have Oy:G.H.objs.size<=c:=Ek.co _ _ hc;refine Gc (ρ:=[("row",.val d),("images",.val (.list (is.map .int)))]) (O:=λb=>O' b∧b≠l∧b≠c) (a:=ae) W2 XZ (λb hb=>by cases hb) s1 (λx hx=>?_) (λx hx=>?_) ?_ (λx hx=>?_) (λx c2 hx=>?_) (λx y c2 hx hy=>?_) ?_ (λp wB=>?_) λrn Ux he jm hlc Qb LY keep Ek2 S2=>?_
    ·rw[s2]at hx
     rcases aM.mp hx with rfl|hx
     ·intro e;cases e
     ·refine J (aF.mp hx) ?_;intro e;cases e
    ·exact J (aF.mp hx) (J s2 rfl)
    ·exact sS.mpr ⟨by simp,TB⟩
    ·rw[s2]at hx;have hx:x="images":=(lk2 hx).resolve_left λe=>nomatch e.2
     exact J hx ⟨c,rfl⟩
    ·have:x="images"∧c2=c:=by
      exact lk1 hx
     exact J this.2 ⟨⟨_,t3⟩,λh=>h.2.2 rfl,Oy⟩
    ·have key:∀z,[(("images":Str),c)].lookup z=Z c2->z="images":=λz hz=>(lk1 hz).1;exact J (key x hx) (J (key y hy) rfl)
    ·unfold je;refine J s2 ?_;decide
    ·rcases aM.mp wB with rfl|wB
     ·exact⟨(by decide:(("row":Str)==("__debug__":Str))=ag),u,.inl (aF.mpr rfl),ru.mono (λb o e _ _=>e) λb _ h h'=>h (h'.elim (λh=>h.1) λh=>by cases h)⟩
     ·refine J (aF.mp wB) ⟨(by decide:(("images":Str)==("__debug__":Str))=ag),.ref l,.inr ⟨by exact J s2 rfl,(by decide:("images":Str)≠"__classdict__"),c,rfl,t3⟩,?_⟩;show jT _ _ _ _;exact⟨l,vs,rfl,λh=>h.elim (λh=>h.2.1 rfl) (λh=>by cases h),t4,AL rvs⟩
    ·refine⟨⟨mc,LY.wd.ns VG K.st,yK⟩,kla_codeExpr ?_⟩;have agF:E1 rn.scope [("row",.val d),("images",.val (.list (is.map .int)))] body=Z (.int i):=by exact J jm hev
     have R':g9 (A2.deeper rn) n1:=⟨by show A2.depth+1+n1<=990;lia,by show A2.units+3+20*n1<=9800;lia,q3,q4⟩;refine ar (((hE rn _ body _ agF).1.toEv (λ_ e=>by cases e)) (A2.deeper rn) Ux _ ae R' Ek2 LY.wd S2) (λw s4' x=>⟨LY.trans x.1,?_⟩) λ_ _ x=>x.elim;have:=x.2;exact this
   ·rintro h v W' ⟨rfl,t1,_⟩
    refine⟨.frame,.inl rfl,?_⟩;unfold RF;exact uY (GY t1) CT
   ·rintro h v ⟨rfl,_⟩ e;cases e
end
section
variable{ch:Bool}
theorem sO.le{h:bq}{f:D->Option D}{k':Nat}(hk:k<=k')(F:sO G env O a h K T f k):sO G env O a h K T f k':=
 ⟨F.st,F.al,F.nO,F.nF,F.nT,λA s O' v u d r q1 q2=>F.sem A s O' v u d r (by lia) (by lia),F.kp,F.ne⟩
theorem sO.less{a':Option aL}{h:bq}{f:D->Option D}(hO:∀b,Ow O' a' b->Ow O a b)(F:sO G env O a h K T f k):sO G env O' a' h K T f k:=
 ⟨F.st,F.al,λb hb h=>F.nO b hb (hO b h),F.nF,F.nT,F.sem,F.kp,F.ne⟩
def vR(G:Gd)(n:Nat)(x:Str)(ds:List D)(key:D->Option D)(kk:Nat)(r:Int):Prop:=∃f,(x==("__debug__":Str))=ag∧G.mg x=Z f∧wZ G f∧
 ∀(A:dZ) (s:aK) (O:aL->Prop) (vs:List az) (kv:az) (Kf:aL->Prop) (Tf:bq->az->Prop) (mn:nJ),g9 A n->G.Wd s.heap->Al s.heap O->iz s.heap O vs ds->Tf s.heap kv->sO G mn O ae s.heap Kf Tf key kk->
  aJ G.M A (dE f vs [("key",kv)]) (λw s'=>G.Kx s s'∧∃t,w=.int r t) cW s
def Rv(G:Gd)(n:Nat)(env:nJ)(ρ:aE)(e:aG)(key:D->Option D)(kk:Nat):Prop:=
 ∀(A:dZ) (s:aK) (O:aL->Prop) (a:Option aL),g9 A n->dQ G env->G.Wd s.heap->SR G env O a ρ s.heap->
  aJ G.M A (eval e env) (λv s'=>G.Kx s s'∧∃Kf Tf,Tf s'.heap v∧∃mn,sO G mn O a s'.heap Kf Tf key kk) cW s
theorem Rv.name{p:eL}{f:D->Option D}(hm:(x,jS.fn K T f k)∈ρ):Rv G n env ρ (.Name x p) f k:=λA s O a R Ek W S=>by
 refine bh S.ns λm hn fs=>?_;obtain⟨nd,v,l,t,F⟩:=fs _ hm;exact jf (fA Ek hn l ⟨Gd.Kx.refl W,K,T,t,env,F⟩) nd
theorem Ev.H9{p kp:eL}{ke:aG}{r:Int}(K:l8 G)(hx:env.kindOf x=Z .globalImplicit)(hf:vR G n x ds key kk r)(h:wc G n env ρ (e::es) ds)(hk:Rv G n env ρ ke key kk):
 Ev G n env ρ (.Call (.Name x p) (e::es) [⟨Z "key",ke,kp⟩] pos) (.int r):=λA s O a R Ek W S=>by
 refine iP hf λf nd hv ck A6=>J (Tq ..) ?_;refine ai (iO K Ek W ⟨hx,nd,.inl hv⟩ ?_);have DX:(gv pos (dq (e::es) env)).any (·.1)=ag:=h.noStar;refine gd (P:=λH=>G.Wd H) (J DX rfl) (λH hH=>ck H hH) ?_;have run:=h.run (pos:=pos) A s O a R Ek W S;have he:dq (e::es) env=(ag,eval e env)::dq es env:=by cases h with|cons _ _ hs=>exact eO hs
 rw[he]at run⊢;refine evalArgs_kwB rfl (ar run (λvs s1 x1=>?_) λ_ _ x=>x);refine kws_cons (ar (hk A s1 O a R Ek x1.1.wd (S.kx W x1.1)) (λkv s2 x2=>kws_nil ?_) λ_ _ x=>x);refine c8 x2 λk2 z1=>mL z1 λKf Tf t z2=>bQ z2 λmn F=>⟨k2.wd,?_⟩;have S2:=S.kx W (x1.1.trans k2);refine ar (A6 A s2 (Ow O a) vs kv Kf Tf mn R k2.wd S2.oM (x1.2.ke x1.1.wd k2.ke) t (F.less λb hb=>hb.elim (λh=>h) λh=>by exact bK h)) (λw s3 x3=>?_) λ_ _ x=>x;refine c8 x3 λk3 z1=>bQ z1 λtk vJ=>?_;subst vJ;exact⟨(x1.1.trans k2).trans k3,by exact⟨tk,rfl⟩⟩
theorem Rv.lam(K:l8 G)(L:oH G){n1:Nat}{E1:bj->aE->aG->Option D}(hE:mT G n1 E1){body:aG}{zY:bj}{is:List Int}
 (P6:je env.scope=af) (hp:n7 params=af) (hs:se zY=af) (Kd:nU env.scope "images"=af) (hm:(("images":Str),jS.val (.list ds))∈ρ) (hi:hU ds=Z is):Rv G n env ρ (.Lambda params body zY pos) (LX E1 zY body ds) (n1+1):=
 λA s O a R Ek W S=>LV K L hE Ek W S P6 hp hs Kd hm hi
def Mm(KD:Str->List D->(D->Option D)->Option Int)(k0 n1:Nat)(E1 E:bj->aE->aG->Option D)(sc:bj)(ρ:aE)(e:aG):Option D:=
 wt e λf as ks _=>nh f λf _=>Pl as λe es=>ER ks λkw=>UJ kw λk v=>Zc v
  (λparams body zY=>bif je sc&&k==("key":Str)&&oR sc f&&n7 params&&se zY&&nU sc "images"&&ah (n1+1<=k0)then(ρ.lookup ("images":Str)).bind λb=>Le b λd=>o9 d λds=>
   bif(hU ds).isSome then(fW E sc ρ (e::es)).bind λas=>(KD f as (LX E1 zY body ds)).map .int else ae else ae)
  λx=>bif k==("key":Str)&&oR sc f then(ρ.lookup x).bind λb=>Zd b λg kk=>bif ah (kk<=k0)then(fW E sc ρ (e::es)).bind λas=>(KD f as g).map .int else ae else ae
theorem xn(K:l8 G)(L:oH G){KD:Str->List D->(D->Option D)->Option Int}{k0 n1:Nat}{E1 E:bj->aE->aG->Option D}(hE1:mT G n1 E1)(hE:mT G n E)(hK:∀f ds key r,KD f ds key=Z r->vR G n f ds key k0 r)(h:Mm KD k0 n1 E1 E env.scope ρ e=Z d):Ev G n env ρ e d:=by
 refine DV h λf as ks pos h=>sm h λf fp h=>iC h λe es h=>i1 h λkw h=>iKw h λk v kp h=>iLN h (λparams body zY lp h=>?_) λx xp h=>?_
 ·refine vN h λh0 h=>iW h0 λh0 a7=>iW h0 λh0 a6=>iW h0 λh0 a5=>iW h0 λh0 a4=>iW h0 λh0 a3=>iW h0 λa1 h0=>qF (aC.mp h0) ?_;refine bE h λb hl h=>?_;revert hl;refine ZP h λd h=>sf h λds h hl=>vN h λh1 h=>bQ (aW.mp h1) λis hi=>bE h λas h2 h=>mE h λr h3=>.H9 K (aC.mp a3) (hK f as _ r h3) (ej hE h2) ?_;intro A s O a R Ek W S
  exact ar (Rv.lam K L hE1 a1 a4 a5 a6 (mem_of_lookup hl) hi A s O a R Ek W S) (λv s1 x=>by
   exact c8 x λkx z1=>mL z1 λKf Tf t z2=>bQ z2 λmn F=>⟨kx,Kf,Tf,t,mn,F.le (aw a7)⟩) λ_ _ x=>x
 ·refine vN h λh0 h=>iW h0 λh0 a3=>qF (aC.mp h0) ?_;refine bE h λb hl h=>?_;revert hl;refine iFn h λKf Tf g kk h hl=>vN h λh1 h=>bE h λas h2 h=>mE h λr h3=>.H9 K (aC.mp a3) (hK f as _ r h3) (ej hE h2) ?_;intro A s O a R Ek W S
  exact ar (Rv.name (mem_of_lookup hl) A s O a R Ek W S) (λv s1 x=>by
   exact c8 x λkx z1=>mL z1 λKf Tf t z2=>bQ z2 λmn F=>⟨kx,Kf,Tf,t,mn,F.le (aw h1)⟩) λ_ _ x=>x
end
section
variable{ch:Bool}
noncomputable def NE:fE->Bool
 |⟨[],[⟨a,_,_⟩,⟨x,_,_⟩,⟨lo,_,_⟩,⟨hi,_,_⟩],ae,[⟨key,_,_⟩],_,ae,_⟩=>a==("a":Str)&&x==("x":Str)&&lo==("lo":Str)&&hi==("hi":Str)&&key==("key":Str)
 |_=>ag
noncomputable def WT(vs:List az)(t0:Xr)(kv:az):List (Str×az):=[("a",vs.getD 0 .none),("x",vs.getD 1 .none),("lo",vs.getD 2 (.int 0 t0)),("hi",vs.getD 3 .none),("key",kv)]
theorem ND{pr:fE}(h:NE pr=af)(H:∀c1 c2 c3 c4 c5 p1 p2 p3 p4 p5 kd de,pr=⟨[],[⟨"a",c1,p1⟩,⟨"x",c2,p2⟩,⟨"lo",c3,p3⟩,⟨"hi",c4,p4⟩],ae,[⟨"key",c5,p5⟩],kd,ae,de⟩->P):P:=by
 induction pr using we with
 |mk aea ad9 ad8 ad7 kd ad6 de=>
  induction aea using aA with
  |nil=>
   induction ad9 using aA with
   |cons ad5 ad4=>
    induction ad5 using jr with
    |mk a c1 p1=>
     induction ad4 using aA with
     |cons ad3 ad2=>
      induction ad3 using jr with
      |mk x c2 p2=>
       induction ad2 using aA with
       |cons ad1 ad0=>
        induction ad1 using jr with
        |mk lo c3 p3=>
         induction ad0 using aA with
         |cons adZ adY=>
          induction adZ using jr with
          |mk hi c4 p4=>
           induction adY using aA with
           |nil=>
            induction ad8 using aB with
            |none=>
             induction ad7 using aA with
             |cons adX adW=>
              induction adX using jr with
              |mk key c5 p5=>
               induction adW using aA with
               |nil=>
                induction ad6 using aB with
                |none=>
                 refine iW h λh h5=>iW h λh h4=>iW h λh h3=>iW h λh1 h2=>?_
                 cases aC.mp h1;cases aC.mp h2;cases aC.mp h3;cases aC.mp h4;cases aC.mp h5
                 exact H _ _ _ _ _ _ _ _ _ _ _ _ rfl
                |_=>exact ff h
               |_=>exact ff h
             |_=>exact ff h
            |_=>exact ff h
           |_=>exact ff h
         |_=>exact ff h
       |_=>exact ff h
     |_=>exact ff h
   |_=>exact ff h
  |_=>exact ff h
theorem Er{vs:List az}{kv:az}{T:aL}{oT:Aw}{t0:Xr}{nT:Nat}(hp:NE fd.params=af)(hd:fd.defaults=.ref T)(ho:s.heap.get? T=Z oT)(hs:oT.data=.seq #[.int 0 t0,.none] nT)(hl:2<=vs.length∧vs.length<=4):
 BindsTo s fd ⟨vs,[("key",kv)]⟩ (WT vs t0 kv):=by
 obtain⟨nm,qn,pr,bd,sc,gl,cl,df,kd,dc,pm,an,cd,ct,bu⟩:=fd;replace hp:NE pr=af:=hp;replace hd:df=.ref T:=hd;subst hd;refine ND hp λc1 c2 c3 c4 c5 p1 p2 p3 p4 p5 kd de e=>qF e ?_
 rcases vs with _|⟨v1,_|⟨v2,_|⟨v3,_|⟨v4,_|⟨v5,r⟩⟩⟩⟩⟩
 ·simp at hl
 ·simp at hl
 ·exact .of_defaults rfl ho hs rfl rfl
 ·exact .of_defaults rfl ho hs rfl rfl
 ·exact .of_defaults rfl ho hs rfl rfl
 ·simp at hl
structure vS(G:Gd)(x name:Str)(params:fE)(body:List bX)(scope:bj):Prop where
 nd:(x==("__debug__":Str))=ag
 ex:∃fa o fd c oc S7 t T oT t0 nT,G.mg x=Z (.ref fa)∧G.H.get? fa=Z o∧¬G.Tb fa∧o.data=.func fd∧fd.params=params∧fd.body=.stmts body∧fd.scope=scope∧fd.qualname=name∧fd.globals=bO∧fd.builtins=dK∧fd.closure=[]∧
  fd.code=.ref c∧G.H.get? c=Z oc∧¬G.Tb c∧oc.data=.fields S7∧S7[1]?=Z (.str name t)∧fd.defaults=.ref T∧G.H.get? T=Z oT∧¬G.Tb T∧oT.data=.seq #[.int 0 t0,.none] nT
theorem iz.Fg{h:bq}{ws:List az}:∀{vs:List az} {ds:List D},iz h O vs ds->(∀v∈vs,v∈ws)->bb h (λb=>O b∧∀v∈ws,v≠ .ref b) vs ds
 |[],[],_,_=>bb.nil
 |[],_::_,x,_=>x.elim
 |_::_,[],x,_=>x.elim
 |v::vs,d::ds,x,hw=>by
  refine bb.cons ?_ (iz.Fg x.2 λv hv=>hw v (ba _ hv))
  rcases x.1 with r|⟨l,items,xs,rfl,rfl,hl,r⟩
  ·exact r.mono (λb o e _ _=>e) λb _ h h'=>h h'.1
  ·skip
   exact⟨l,items,rfl,λh=>h.2 _ (hw _ bf) rfl,hl,r.mono (λb o e _ _=>e) λb _ h h'=>h h'.1⟩
theorem bb.getD{h:bq}{dv:az}{dd:D}(hd:jT h O dv dd):∀{i:Nat} {vs:List az} {ds:List D},bb h O vs ds->jT h O (vs.getD i dv) (ds.getD i dd)
 |i,vs,[],r=>by refine J (cV r) ?_;simpa using hd
 |0,vs,d::ds,r=>by refine bV r.inv λv ma qe a b=>?_;subst qe;simpa using a
 |i+1,vs,d::ds,r=>by
  refine bV r.inv λv ma wQ a b=>?_;subst wQ;have:=bb.getD hd (i:=i) b;simpa using this
theorem iz.length{h:bq}:∀{vs:List az} {ds:List D},iz h O vs ds->vs.length=ds.length
 |[],[],_=>rfl|[],_::_,x=>x.elim
 |_::_,[],x=>x.elim
 |v::vs,d::ds,x=>by exact J bA (J bA (J (iz.length x.2) rfl))
noncomputable def JO(ds:List D)(Kf:aL->Prop)(Tf:bq->az->Prop)(key:D->Option D)(kk:Nat):aE:=[("a",.val (ds.getD 0 .none)),("x",.val (ds.getD 1 .none)),("lo",.val (ds.getD 2 (.int 0))),("hi",.val (ds.getD 3 .none)),("key",.fn Kf Tf key kk)]
noncomputable def Ic:List Str:=["a","x","lo","hi","key"]
theorem wH{fa:aL}{o:Aw}(ho:G.H.get? fa=Z o)(Ox:¬G.Tb fa)(hd:o.data=.func fd):wZ G (.ref fa):=λh W=>⟨.frame,.inl rfl,by
 have e:=W.keep _ _ ho Ox;refine uY (GY e) ?_;exact J hd CT⟩
theorem vR.of_body{name:Str}{r:Int}(K:l8 G)(fn:vS G x name params body scope)(hp:NE params=af)(ok:tm scope Ic=af)(hl:2<=ds.length∧ds.length<=4)
 (hb:∀Kf Tf (env:nJ),env.scope=scope->mv G n env.scope env ag (JO ds Kf Tf key kk) body (.ret (.int r))):vR G (n+1) x ds key kk r:=by
 refine fj fn.ex λfa o fd c z1=>fj z1 λoc S7 t T z2=>g8 z2 λoT t0 nT hg z3=>dD z3 λho Ox ub f1 z4=>dD z4 λf2 f3 f4 f5 v5=>vo v5 λf6 f7 f8 hc Mr DZ Ms hdf hT VT hTd=>?_;unfold tm at ok;rw[bG,cN]at ok;refine c8 ok λk0 ok=>⟨.ref fa,fn.nd,hg,wH ho Ox ub,λA s O vs kv Kf Tf mn R W al XG t F=>?_⟩;have jM:=XG.length;have rs:=XG.Fg (ws:=vs) λv hv=>hv;generalize hO:(λb=>O b∧∀v∈vs,v≠ .ref b)=O₀ at rs;have hOO:∀b,O₀ b->O b:=λb hb=>by rw[←hO]at hb;exact hb.1
 have al0:Al s.heap O₀:=λb hb=>al b (hOO b hb);refine uJ ?_
 refine yT (ρ:=JO ds Kf Tf key kk) (O:=O₀) (a:=ae) (ch:=ag) (out:=.ret (.int r)) (xs:=Ic) (binds:=WT vs t0 kv) K W al0 (λb hb=>by exact bK hb) R (W.keep _ _ ho Ox) ub f2 f5 f6 f7 ⟨c,oc,S7,_,f8,W.keep _ _ hc Mr,DZ,f4▸Ms⟩ (f3▸ok) (λhm=>by rw[f3,k0]at hm;exact ff hm)
  (λQ hq=>Er (f1▸hp) hdf (W.keep _ _ hT VT) hTd (J jM hl) G.M A.in1 cW Q hq) rfl (λp wB=>?_) (λenv he _ _=>hb Kf Tf env (he.trans f3)) λenv f s' p=>?_
 ·have z:∀{i dv dd},jT s.heap (Ow O₀ ae) dv dd->jT s.heap (Ow O₀ ae) (vs.getD i dv) (ds.getD i dd):=λhd=>bb.getD hd (rs.less λb h=>h.elim (λh=>h) λh=>by exact bK h);have zn:jT s.heap (Ow O₀ ae) .none .none:=rfl;have z0:jT s.heap (Ow O₀ ae) (.int 0 t0) (.int 0):=by exact⟨_,rfl⟩
  unfold JO at wB;simp only[aM,dU,or_false]at wB
  rcases wB with rfl|rfl|rfl|rfl|rfl
  ·exact⟨_,.head _,z zn⟩
  ·exact⟨_,.tail _ (.head _),z zn⟩
  ·exact⟨_,.tail _ (.tail _ (.head _)),z z0⟩
  ·exact⟨_,.tail _ (.tail _ (.tail _ (.head _))),z zn⟩
  ·exact⟨kv,.tail _ (.tail _ (.tail _ (.tail _ (.head _)))),t,mn,F.less λb h=>h.elim (λh=>.inl (hOO b h)) λh=>by exact bK h⟩
 ·refine xk p λkq v qe rv=>?_;subst qe;exact⟨kq.kx λb h=>h.elim (λh=>h.1) λh=>(bK h),rv⟩
end
section
variable{ch:Bool}
theorem LL(k:Nat)(h:k<=16777216):dY (k:Int)=af:=by
 unfold dY;have h1:(k:Int)<=16777216:=da.mpr h;have h2:(0:Int)<=k:=aU k;have e1:-(2^63:Int)<=(k:Int):=kQ (by decide) h2;have e2:(k:Int)<2^63:=Oc h1 (by decide)
 first
  |(exact J (bG ..) ⟨aq e1,aq e2⟩)
  |skip
noncomputable def Vj(k:Int)(y:az)(xs:Array az):Array az:=have j:=if k<0 then(k+(xs.size:Int)).toNat else min k.toNat xs.size;(xs.extract 0 j).push y++xs.extract j
theorem DS(items:Array az)(k:Int)(v2:az)(h0:0<=k)(hk:k.toNat<=items.size):(Vj k v2 items).toList=items.toList.take k.toNat++v2::items.toList.drop k.toNat:=by
 unfold Vj;have hn:¬(k<0):=by lia
 have agp:min k.toNat items.size=k.toNat:=by lia
 simp only[hn,if_false,agp];simp[Array.toList_extract,List.extract_eq_drop_take];exact J (cE (by simp)) rfl
theorem gj.insert{p:eL}{k:Int}(hm:(x,jS.own xs)∈ρ)(h1:Ev G n env ρ e1 (.int k))(h2:Ev G n env ρ e2 d)(agg:fD e1=ag)(agf:fD e2=ag)(hl:(ju.endLine==mq.line)=af)(hz:xs.length<=16777216)(h0:0<=k)(hk:k.toNat<=xs.length)(Jq:dY k=af):
 gj G n sc env ch ρ (.Expr (.Call (.Attribute (.Name x p) "insert" ju) [e1,e2] [] mq) pos) (.next (pR ρ x (xs.take k.toNat++d::xs.drop k.toNat))):=
 .ownCall hm (.cons h1 (.cons h2 .nil agf) agg) F.slot_list_insert F.type_list_insert hl (by simp) λA s O l items vs Q R xV r ra hQ=>by
  refine bV ra.inv λv1 ma jE r1 r2=>?_;subst jE;obtain⟨v2,T3,rfl,r2,r3⟩:=r2.inv;refine J (cV r3) (bQ r1 λt qe=>?_);subst qe;have el:=r.length;rw[aX]at el;obtain⟨c,e⟩:=xV;refine gR F.slot_list_insert (self:=.ref l) ⟨_,e,rfl⟩ F.entry_list_insert (F.args_list_insert_3 _ _ _) (AutoSeq1.list_insert_list_int_val_1 l items c k t v2 (by refine J Jq ?_;decide) (J el (J cC hz))) ⟨e,hQ _ s.toks _ (gg ..) ⟨_,pJ (n:=c) e _⟩ λh'' kk hO=>?_⟩;have hi:=DS items k v2 h0 (J el hk);show bb h'' O (Vj k v2 items).toList _;refine J hi ?_;have rr:=r.but (h'':=h'') kk hO;exact(rr.take k.toNat).append (bb.cons (r2.mono (λb o e _ hb=>kk b o (λh=>hb (h▸hO)) e) λ_ _ e=>e) (rr.drop k.toNat))
theorem Dz{l:aL}{vs:Array az}(W:G.Wd s.heap)(S:SR G env O a ρ s.heap)(hm:(x,jS.own xs)∈ρ)(ha:a=Z l)(kq:G.Kq B s s')(hB:∀b,B b->s.heap.get? b=ae∨b=l)(hl:s'.heap.PlainList l vs)(r:bb s'.heap (Ow O a) vs.toList ds):SR G env O a (pR ρ x ds) s'.heap:=by
 refine bh S.ns λm hn f=>c8 (S.ow l ha) λnO z1=>bQ z1 λvs0 v6=>bQ v6 λk0 el=>?_;have k1:∀b o,s.heap.get? b=Z o->b≠l->¬G.Tb b->s'.heap.get? b=Z o:=λb o e hb ht=>kq.kp b o e (λhB'=>(hB b hB').elim (λz=>by rw[e]at z;exact R0 z) hb) ht
 have kk:∀b o,s.heap.get? b=Z o->(¬∃vs n,o.data=.seq vs n)->(¬∃vs,o.data=.fields vs)->s'.heap.get? b=Z o:=λb o e hd hf=>
  k1 b o e (λhb=>by subst hb;rw[el]at e;cases e;exact hd ⟨_,_,rfl⟩) λht=>hf (W.tbNone ht e).2
 have z8:s'.heap.Ns env.locals m:=by
  exact jz hn λo es ep e hd rr=>⟨o,es,ep,kk _ _ e (λ⟨_,_,z⟩=>by rw[hd]at z;cases z) (λ⟨_,z⟩=>by rw[hd]at z;cases z),hd,rr⟩
 have lk:∀y v,n0 env s.heap m y v->n0 env s'.heap m y v:=λy v lo=>by
  rcases lo with lo|⟨l1,l2,c,l3,o,l4,l5⟩
  ·exact .inl lo
  ·exact .inr ⟨l1,l2,c,l3,o,kk _ _ l4 (λ⟨_,_,z⟩=>by rw[l5]at z;cases z) (λ⟨_,z⟩=>by rw[l5]at z;cases z),l5⟩
 refine⟨⟨m,z8,λp hp=>?_⟩,λy c hc=>?_,λb hb=>?_,λb hb=>?_,S.nl,S.nc⟩
 ·rcases aM.mp hp with rfl|hp
  ·obtain⟨nd,l',ma,l1,l2,l3,l4⟩:=f _ hm;rw[ha]at l2;cases l2;exact⟨nd,l,vs,lk _ _ l1,ha,hl,r⟩
  ·refine c8 (cZ.mp hp) λhp hq=>?_;obtain⟨nd,ok⟩:=f p hp;refine⟨nd,?_⟩;obtain⟨y,b⟩:=p
   induction b using Internal.jS.casesOn with
   |val d=>
    exact bh ok λv l1 l2=>⟨v,lk _ _ l1,l2.mono (λb o e ⟨_,_,hs⟩ hb=>k1 b o e (λQc=>hb (.inr (Qc▸ha))) λht=>by refine c8 (W.tbNone ht e) λ_ z1=>bQ z1 λ_ z=>?_;rw[hs]at z;cases z) λ_ _ e=>e⟩
   |own ds=>simp[L8]at hq
   |fn K T f' n'=>refine gM ok λv l1 t F=>?_;exact⟨v,lk _ _ l1,F.next t (λb o hb e=>k1 b o e (λQc=>F.nO b hb (.inr (Qc▸ha))) (F.nT b hb)) F.nO F.nF⟩
 ·exact bQ (S.cells y c hc) λv OR=>bh OR λo e hd=>⟨v,o,kk _ _ e (λ⟨_,_,z⟩=>by rw[hd]at z;cases z) (λ⟨_,z⟩=>by rw[hd]at z;cases z),hd⟩
 ·refine bh (S.al b hb) λo e nc=>?_
  by_cases ht:G.Tb b
  ·refine bh ht λq hq Gh=>?_;subst Gh;exact gM (kq.wd.tab q hq) λps _ z _=>⟨_,z.2,.inl (by simp)⟩
  ·exact⟨o,k1 b o e (λQc=>nO (Qc▸hb)) ht,nc⟩
 ·rw[ha]at hb;refine qS hb ?_;exact⟨nO,vs,hl⟩
def xu(G:Gd)(n:Nat)(x:Str)(xs:List D)(d:D)(key:D->Option D)(kk:Nat)(ys:List D):Prop:=∃f,(x==("__debug__":Str))=ag∧G.mg x=Z f∧wZ G f∧
 ∀(A:dZ) (s:aK) (O:aL->Prop) (l:aL) (items:Array az) (v kv:az) (Kf:aL->Prop) (Tf:bq->az->Prop) (mn:nJ),g9 A n->G.Wd s.heap->Al s.heap O->¬O l->G.H.objs.size<=l->s.heap.PlainList l items->bb s.heap (Ow O (Z l)) items.toList xs->jT s.heap (Ow O (Z l)) v d->
  Tf s.heap kv->sO G mn O (Z l) s.heap Kf Tf key kk->
  aJ G.M A (dE f [.ref l,v] [("key",kv)]) (λw s'=>G.Kq (λb=>(s.heap.get? b=ae∧G.H.objs.size<=b)∨Z l=Z b) s s'∧∃jc,s'.heap.PlainList l jc∧bb s'.heap (Ow O (Z l)) jc.toList ys) cW s
theorem gj.Vi{t:Str}{p kp:eL}{ke:aG}(K:l8 G)(hx:env.kindOf x=Z .globalImplicit)(hm:(t,jS.own xs)∈ρ)(h:Ev G n env ρ e d)(xm:fD e=ag)(hk:Rv G n env ρ ke key kk)(hf:xu G n x xs d key kk ys):
 gj G n sc env ch ρ (.Expr (.Call (.Name x p) [.Name t tp,e] [⟨Z "key",ke,kp⟩] mq) pos) (.next (pR ρ t ys)):=λA s O a B R Ek hs W S b=>by
 refine iP hf λf nd hv ck A6=>GO ?_ (by unfold RG;exact J Ek.kind rfl) rfl;refine J (Tq ..) (ai (iO K Ek W ⟨hx,nd,.inl hv⟩ ?_))
 have DX:(gv mq (dq [.Name t tp,e] env)).any (·.1)=ag:=by
  exact J (eO rfl) (J (eO xm) rfl)
 refine gd (P:=λH=>G.Wd H) (J DX rfl) (λH hH=>ck H hH) ?_;refine bh S.ns λm hn fs=>?_;obtain⟨UR,l,items,lk,ha,xV,r⟩:=fs _ hm;subst ha;have lo:=b.lo l (b.ow l rfl)
 have run:aJ G.M A (rQ (gv mq (dq [.Name t tp,e] env))) (λvs s1=>G.Kx s s1∧∃v,vs=[.ref l,v]∧jT s1.heap (Ow O (Z l)) v d) cW s:=by
  refine qo rfl (jf (fA Ek hn lk ?_) UR);refine qo xm (ar (h A s O _ R Ek W S) (λv s1 x1=>?_) λ_ _ x=>x);exact ay ⟨x1.1,v,rfl,x1.2⟩
 rw[eO rfl]at run⊢;refine evalArgs_kwB rfl (ar run (λvs s1 x1=>?_) λ_ _ x=>x);refine c8 x1 λk1 z1=>bh z1 λv Gf rv=>?_;subst Gf;refine kws_cons (ar (hk A s1 O _ R Ek k1.wd (S.kx W k1)) (λkv s2 x2=>kws_nil ?_) λ_ _ x=>x);refine Pq x2 λk2 Kf Tf tt mn F=>⟨k2.wd,?_⟩;have kx:=k1.trans k2;have S2:=S.kx W kx;refine ar (A6 A s2 O l items v kv Kf Tf mn R k2.wd S2.al (S.ow l rfl).1 lo (gL W kx.ke xV) (r.ke W kx.ke) (rv.ke k1.wd k2.ke) tt F) (λw s3 x3=>?_) λ_ _ x=>x;refine xk x3 λkq jc vZ r'=>?_;have b2:=b.step kx.kq b.ow;refine⟨kx.kq.trans (kq.mono λc hc _=>hc.elim (λh=>b2.new c h.1 h.2) λh=>b.ow c h),rfl,Z l,?_,b.ow,λ_=>rfl⟩;exact Dz k2.wd S2 hm rfl kq (λc hc=>hc.imp (λh=>h.1) λh=>by refine qS h ?_;rfl) vZ r'
noncomputable def FL(xs:List D)(d:D)(Kf:aL->Prop)(Tf:bq->az->Prop)(key:D->Option D)(kk:Nat):aE:=[("a",.own xs),("x",.val d),("lo",.val (.int 0)),("hi",.val .none),("key",.fn Kf Tf key kk)]
theorem xu.of_body{name:Str}(K:l8 G)(fn:vS G x name params body scope)(hp:NE params=af)(ok:tm scope Ic=af)
 (hb:∀Kf Tf,∃ρ',(("a":Str),jS.own ys)∈ρ'∧∀env:nJ,env.scope=scope->mv G n env.scope env ag (FL xs d Kf Tf key kk) body (.next ρ')):xu G (n+1) x xs d key kk ys:=by
 refine fj fn.ex λfa o fd c z1=>fj z1 λoc S7 t T z2=>g8 z2 λoT t0 nT hg z3=>dD z3 λho Ox ub f1 z4=>dD z4 λf2 f3 f4 f5 v25=>vo v25 λf6 f7 f8 hc Mr DZ Ms hdf hT VT hTd=>?_;unfold tm at ok;rw[bG,cN]at ok;refine c8 ok λk0 ok=>⟨.ref fa,fn.nd,hg,wH ho Ox ub,λA s O l items v kv Kf Tf mn R W al hO lo xV r rv t F=>?_⟩;refine uJ ?_
 refine bh (hb Kf Tf) λρ' hρ' hb=>yT (ρ:=FL xs d Kf Tf key kk) (O:=O) (a:=Z l) (ch:=ag) (out:=.next ρ') (xs:=Ic) (binds:=WT [.ref l,v] t0 kv) K W al (λb hb=>by refine qS hb ?_;exact⟨hO,⟨_,xV⟩,lo⟩) R (W.keep _ _ ho Ox) ub f2 f5 f6 f7 ⟨c,oc,S7,_,f8,W.keep _ _ hc Mr,DZ,f4▸Ms⟩ (f3▸ok) (λhm=>by rw[f3,k0]at hm;exact ff hm)
  (λQ hq=>Er (f1▸hp) hdf (W.keep _ _ hT VT) hTd ⟨by simp,by simp⟩ G.M A.in1 cW Q hq) rfl (λp wB=>?_) (λenv he _ _=>hb env (he.trans f3)) λenv f s' p=>?_
 ·unfold FL at wB;simp only[aM,dU,or_false]at wB
  rcases wB with rfl|rfl|rfl|rfl|rfl
  ·exact⟨_,.head _,l,items,rfl,rfl,xV,r⟩
  ·exact⟨_,.tail _ (.head _),rv⟩
  ·refine⟨_,.tail _ (.tail _ (.head _)),?_⟩;show jT _ _ _ _;exact⟨_,rfl⟩
  ·refine⟨_,.tail _ (.tail _ (.tail _ (.head _))),?_⟩;show jT _ _ _ _
   rfl
  ·exact⟨kv,.tail _ (.tail _ (.tail _ (.tail _ (.head _)))),t,mn,F⟩
 ·refine Lh p λkq a' S' ha' nQ=>?_;obtain rfl:=nQ rfl;refine bh S'.ns λm hn fs=>?_;obtain⟨_,l',jc,_,vZ,B0,r'⟩:=fs _ hρ'
  cases vZ
  exact⟨kq,jc,B0,r'⟩
end
section
variable{ch:Bool}
theorem xd{M:Model}{E:az->aK->Prop}{a:aL}{Q:Option Aw->aK->Prop}(h:Q (s.heap.get? a) s):aJ M A (RE a) Q E s:=λΓ p _=>by
 exact J (Sem.wp_loadIfAlive ..) (J (Sem.wp_pure ..) h)
structure EE(h:bq)(z TI TO i1 i2 l1 l2:aL)(i:Nat)(xs ys:Array az):Prop where
 z:∃T fl,h.get? z=Z {cls:=.type "zip",dict:=ae,data:=.fields #[ki (T:Nat),.bool fl,.bool ag,.ref TI,.ref TO],slots:=#[]}∧(h.get? T).isSome
 TI:zF h TI (.ref i1) (.ref i2)
 h1:h.IsListIter i1 l1 i
 h2:h.IsListIter i2 l2 i
 l1:h.IsList l1 xs
 l2:h.IsList l2 ys
theorem JL{E:az->aK->Prop}{i1 i2:aL}{xs ys:Array az}{x y:az}{Q:Option az->aK->Prop}(D:q0 z TI TO i1 i2 l1 l2)(B:EE s.heap z TI TO i1 i2 l1 l2 i xs ys)(hx:xs[i]?=Z x)(hy:ys[i]?=Z y)
 (hQ:∀h' T,EE h' z TI TO i1 i2 l1 l2 (i+1) xs ys->zF h' T x y->s.heap.get? T=ae->(∀c o,c≠z->c≠i1->c≠i2->s.heap.get? c=Z o->h'.get? c=Z o)->Q (Z (.ref T)) {s with heap:=h'}):
 aJ G.M A (nj (.ref z)) Q E s:=by
 obtain⟨⟨T,fl,hz,hT⟩,Aa,h1,h2,rL,o6⟩:=B;have Qe:s.TypeIs (.ref z) "zip":=⟨_,hz,rfl⟩
 refine ai (wpAny_attempt (gH (name:=aQ "__next__") Qe F.slot_zip_next
  (lB F.slot_zip_next Qe F.entry_zip_next ?_ (F.args_zip_next_1 _))))
 show aJ _ _ (CM (.ref z) 2>>=_) _ _ _;refine ai (fC hz rfl (x:=.bool ag) rfl ?_);show aJ _ _ (CM (.ref z) 3>>=_) _ _ _;refine ai (fC hz rfl (x:=.ref TI) rfl ?_);refine ai (qX Aa rfl ?_);show aJ _ _ (pN (.ref z)>>=_) _ _ _;refine ai (ai (fC hz rfl (x:=ki (T:Nat)) rfl ?_));show aJ _ _ (RE ((T:Int)).toNat>>=_) _ _ _;refine J (bH ..) (ai (xd ?_));refine bQ (aW.mp hT) λoT eT=>J eT ?_;show aJ _ _ (CM (.ref z) 1>>=_) _ _ _;refine ai (fC hz rfl (x:=.bool fl) rfl ?_)
 have fin:∀(E':az->aK->Prop) h0,(∃fl,h0.get? z=Z {cls:=.type "zip",dict:=ae,data:=.fields #[ki (T:Nat),.bool fl,.bool ag,.ref TI,.ref TO],slots:=#[]})->d7 z s.heap h0->∀h₂,h₂.IsListIter i1 l1 (i+1)->d7 i1 h0 h₂->∀h₃,h₃.IsListIter i2 l2 (i+1)->d7 i2 h₂ h₃->
  aJ G.M A.in1 (newTuple [x,y]) (λv s'=>aJ G.M A (pure (Z v)) Q E s') E' {s with heap:=h₃}:=by
  intro E' h0 hz0 hs0 h₂ SI xH h₃ X0 Jo;refine wpAny_newTuple (ay ?_);have k3:∀c o,c≠z->c≠i1->c≠i2->s.heap.get? c=Z o->h₃.get? c=Z o:=λc o c1 c2 c3 e=>Jo.extBut _ _ c3 (xH.extBut _ _ c2 (hs0.extBut _ _ c1 e));have up:∀c o,h₃.get? c=Z o->(h₃.push {cls:=.type "tuple",data:=.seq [x,y].toArray}).get? c=Z o:=bL _;have kz:∀o,h0.get? z=Z o->h₃.get? z=Z o:=λo e=>Jo.extBut _ _ D.i2z.symm (xH.extBut _ _ D.i1z.symm e);refine hQ _ h₃.objs.size ⟨?_,up _ _ (k3 _ _ D.TIz D.TIi1 D.TIi2 Aa),?_,X0.at λo e=>up _ o e,rL.at λo e=>up _ o (k3 _ o D.l1z D.l1i1 D.l1i2 e),o6.at λo e=>up _ o (k3 _ o D.l2z D.l2i1 D.l2i2 e)⟩ (bc _ rfl) ?_ λc o c1 c2 c3 e=>up _ _ (k3 c o c1 c2 c3 e)
  ·refine bQ hz0 λfl' e=>⟨T,fl',up _ _ (kz _ e),?_⟩
   have:(h₃.get? T).isSome:=by
    by_cases c1:T=z
    ·exact J c1 (J (kz _ e) rfl)
    ·by_cases c2:T=i1
     ·exact bh SI λo e' _=>J c2 (J (Jo.extBut _ _ D.i12 e') rfl)
     ·by_cases c3:T=i2
      ·exact bh X0 λo e' _=>J c3 (J e' rfl)
      ·exact J (k3 _ _ c1 c2 c3 eT) rfl
   refine bQ (aW.mp this) λo e'=>J (up _ _ e') ?_;rfl
  ·exact(SI.at λo e=>up _ o (Jo.extBut _ _ D.i12 e))
  ·have:h₃.objs.size=s.heap.objs.size:=by exact J Jo.1 (J xH.1 (J hs0.1 rfl))
   exact J this (cU (aV _))
 induction fl using ax with
 |true=>
  refine ay (ai ?_);refine rF oY ?_;simp only[gB,uj];refine ai (ai (bg ?_));show aJ _ _ (cP (.ref i1)>>=_) _ _ _;refine ai (hZ h1 rL hx λh₂ SI xH=>ay (ay ?_));refine ai (ai (bg ?_));show aJ _ _ (cP (.ref i2)>>=_) _ _ _;refine ai (hZ (h2.extBut xH.extBut D.i12.symm) (o6.extBut xH.extBut D.l2i1) hy λh₃ X0 Jo=>ay (ay (ay ?_)));refine ai (ar (fin _ s.heap ⟨_,hz⟩ (CB ..) h₂ SI xH h₃ X0 Jo) (λv s' h=>ay ⟨_,rfl,h⟩) λ_ _ h=>h)
 |false=>
  refine ai (Xg hz (by simp) λh₁ hz₁ A5=>?_);refine ay (ai ?_);refine rF oY ?_;simp only[gB,uj];refine ai (ai (bg ?_));show aJ _ _ (cP (.ref i1)>>=_) _ _ _;refine ai (hZ (h1.extBut A5.extBut D.i1z) (rL.extBut A5.extBut D.l1z) hx λh₂ SI xH=>ay (ay ?_));refine ai (ai (bg ?_));show aJ _ _ (cP (.ref i2)>>=_) _ _ _;refine ai (hZ ((h2.extBut A5.extBut D.i2z).extBut xH.extBut D.i12.symm) ((o6.extBut A5.extBut D.l2z).extBut xH.extBut D.l2i1) hy λh₃ X0 Jo=>ay (ay (ay ?_)));refine ai (ar (fin _ h₁ ⟨af,hz₁⟩ A5 h₂ SI xH h₃ X0 Jo) (λv s' h=>ay ⟨_,rfl,h⟩) λ_ _ h=>h)
theorem Nq{E:az->aK->Prop}{i1 i2:aL}{xs ys:Array az}{Q:Option az->aK->Prop}(hh:A.handled=ae)(D:q0 z TI TO i1 i2 l1 l2)(B:EE s.heap z TI TO i1 i2 l1 l2 i xs ys)(Mp:xs[i]?=ae∨ys[i]?=ae)
 (hQ:∀h',(∀c o,c≠z->c≠i1->c≠i2->s.heap.get? c=Z o->h'.get? c=Z o)->Q ae {s with heap:=h'}):
 aJ G.M A (nj (.ref z)) Q E s:=by
 obtain⟨⟨T,fl,hz,hT⟩,Aa,h1,h2,rL,o6⟩:=B;have Qe:s.TypeIs (.ref z) "zip":=⟨_,hz,rfl⟩
 refine ai (wpAny_attempt (gH (name:=aQ "__next__") Qe F.slot_zip_next
  (lB F.slot_zip_next Qe F.entry_zip_next ?_ (F.args_zip_next_1 _))))
 show aJ _ _ (CM (.ref z) 2>>=_) _ _ _;refine ai (fC hz rfl (x:=.bool ag) rfl ?_);show aJ _ _ (CM (.ref z) 3>>=_) _ _ _;refine ai (fC hz rfl (x:=.ref TI) rfl ?_);refine ai (qX Aa rfl ?_);show aJ _ _ (pN (.ref z)>>=_) _ _ _;refine ai (ai (fC hz rfl (x:=ki (T:Nat)) rfl ?_));show aJ _ _ (RE ((T:Int)).toNat>>=_) _ _ _;refine J (bH ..) (ai (xd ?_));refine bQ (aW.mp hT) λoT eT=>J eT ?_;show aJ _ _ (CM (.ref z) 1>>=_) _ _ _;refine ai (fC hz rfl (x:=.bool fl) rfl ?_)
 have fin:∀h' e,(∀c o,c≠z->c≠i1->c≠i2->s.heap.get? c=Z o->h'.get? c=Z o)->(∃o,h'.get? e=Z o∧o.cls=.type "StopIteration")->aJ G.M A (do
  let b←isInstance (.ref e) (.type "StopIteration")
  if b=af then pure ae else throw (.ref e)) Q E {s with heap:=h'}:=λh' e k ⟨o,ho,hc⟩=>
  ai (wpAny_isInstance (T:="StopIteration") (b:=af) ⟨o,ho,hc⟩ isSubtype_stop (ay (hQ _ k)))
 induction fl using ax with
 |true=>
  refine ay (ai ?_);refine rF oY ?_;simp only[gB,uj];refine ai (ai (bg ?_));show aJ _ _ (cP (.ref i1)>>=_) _ _ _
  cases hx:xs[i]? with
  |none=>exact ai (og hh h1 rL hx λh₂ e xH he=>fin h₂ e (λc o c1 c2 c3 x=>xH _ _ c2 x) he)
  |some x=>
   have hy:ys[i]?=ae:=by refine jR Mp (λh=>?_) λh=>?_;rw[hx]at h;exact R0 h;exact h
   refine ai (hZ h1 rL hx λh₂ SI xH=>ay (ay ?_));refine ai (ai (bg ?_));show aJ _ _ (cP (.ref i2)>>=_) _ _ _;exact ai (og hh (h2.extBut xH.extBut D.i12.symm) (o6.extBut xH.extBut D.l2i1) hy λh₃ e Jo he=>fin h₃ e (λc o c1 c2 c3 x=>Jo _ _ c3 (xH.extBut _ _ c2 x)) he)
 |false=>
  refine ai (Xg hz (by simp) λh₁ hz₁ A5=>?_);refine ay (ai ?_);refine rF oY ?_;simp only[gB,uj];refine ai (ai (bg ?_));show aJ _ _ (cP (.ref i1)>>=_) _ _ _
  cases hx:xs[i]? with
  |none=>exact ai (og hh (h1.extBut A5.extBut D.i1z) (rL.extBut A5.extBut D.l1z) hx λh₂ e xH he=>fin h₂ e (λc o c1 c2 c3 x=>xH _ _ c2 (A5.extBut _ _ c1 x)) he)
  |some x=>
   have hy:ys[i]?=ae:=by refine jR Mp (λh=>?_) λh=>?_;rw[hx]at h;exact R0 h;exact h
   refine ai (hZ (h1.extBut A5.extBut D.i1z) (rL.extBut A5.extBut D.l1z) hx λh₂ SI xH=>ay (ay ?_));refine ai (ai (bg ?_));show aJ _ _ (cP (.ref i2)>>=_) _ _ _;exact ai (og hh ((h2.extBut A5.extBut D.i2z).extBut xH.extBut D.i12.symm) ((o6.extBut A5.extBut D.l2z).extBut xH.extBut D.l2i1) hy λh₃ e Jo he=>fin h₃ e (λc o c1 c2 c3 x=>Jo _ _ c3 (xH.extBut _ _ c2 (A5.extBut _ _ c1 x))) he)
end
section
variable{ch:Bool}
def ZS(h:bq)(z TI TO i1 i2 l1 l2:aL)(i:Nat)(xs ys:Array az):Prop:=
 (IsZip h z TI TO .none∧zF h TI (.ref i1) (.ref i2)∧(∃a b,zF h TO a b)∧h.IsListIter i1 l1 i∧h.IsListIter i2 l2 i∧h.IsList l1 xs∧h.IsList l2 ys)∨EE h z TI TO i1 i2 l1 l2 i xs ys
theorem OP{E:az->aK->Prop}{i1 i2:aL}{xs ys:Array az}{x y:az}{Q:Option az->aK->Prop}(D:q0 z TI TO i1 i2 l1 l2)(B:ZS s.heap z TI TO i1 i2 l1 l2 i xs ys)(hx:xs[i]?=Z x)(hy:ys[i]?=Z y)
 (hQ:∀h' T,EE h' z TI TO i1 i2 l1 l2 (i+1) xs ys->zF h' T x y->s.heap.get? T=ae->((s.heap.get? TO).isSome->(h'.get? TO).isSome)->(∀c o,c≠z->c≠TO->c≠i1->c≠i2->s.heap.get? c=Z o->h'.get? c=Z o)->Q (Z (.ref T)) {s with heap:=h'}):
 aJ G.M A (nj (.ref z)) Q E s:=by
 rcases B with⟨hz,Aa,⟨a,b,HO⟩,h1,h2,rL,o6⟩|B
 ·refine wpAny_pyNext_zip_item D hz Aa HO h1 h2 rL o6 hx hy λh' a1 a2 a3 a4 a5 a6 hk=>hQ h' s.heap.objs.size ⟨⟨_,ag,a1,by exact J a5 rfl⟩,hk _ _ D.TIz D.TITO D.TIi1 D.TIi2 Aa,a3,a4,rL.at λo e=>hk _ o D.l1z D.l1TO D.l1i1 D.l1i2 e,o6.at λo e=>hk _ o D.l2z D.l2TO D.l2i1 D.l2i2 e⟩ a5 (cU (aV _)) (λ_=>by exact J a2 rfl) hk
 ·exact JL D B hx hy λh' T b p f k=>hQ h' T b p f (λh=>by
   refine bQ (aW.mp h) λo e=>J (k _ _ D.TOz D.TOi1 D.TOi2 e) ?_;rfl) λc o c1 _ c3 c4 e=>k c o c1 c3 c4 e
theorem TM{E:az->aK->Prop}{i1 i2:aL}{xs ys:Array az}{Q:Option az->aK->Prop}(hh:A.handled=ae)(D:q0 z TI TO i1 i2 l1 l2)(B:ZS s.heap z TI TO i1 i2 l1 l2 i xs ys)(Mp:xs[i]?=ae∨ys[i]?=ae)
 (hQ:∀h',(∀c o,c≠z->c≠TO->c≠i1->c≠i2->s.heap.get? c=Z o->h'.get? c=Z o)->Q ae {s with heap:=h'}):
 aJ G.M A (nj (.ref z)) Q E s:=by
 rcases B with⟨hz,Aa,⟨a,b,HO⟩,h1,h2,rL,o6⟩|B
 ·exact wpAny_pyNext_zip_end hh D hz Aa HO h1 h2 rL o6 Mp hQ
 ·exact Nq hh D B Mp λh' k=>hQ h' λc o c1 _ c3 c4 e=>k c o c1 c3 c4 e
theorem EE.keeps{h:bq}{i1 i2:aL}{xs ys:Array az}(B:EE h z TI TO i1 i2 l1 l2 i xs ys){S:aL}(sb:d7 S h h')(hS:S≠z∧S≠TI∧S≠i1∧S≠i2∧S≠l1∧S≠l2)(hSs:(h'.get? S).isSome):EE h' z TI TO i1 i2 l1 l2 i xs ys:=by
 refine dD hS λa1 a2 a3 a4 z1=>c8 z1 λa5 a6=>?_;obtain⟨⟨T,fl,hz,hT⟩,Aa,h1,h2,rL,o6⟩:=B;refine⟨⟨T,fl,sb.extBut _ _ a1.symm hz,?_⟩,sb.extBut _ _ a2.symm Aa,h1.extBut sb.extBut a3.symm,h2.extBut sb.extBut a4.symm,rL.extBut sb.extBut a5.symm,o6.extBut sb.extBut a6.symm⟩
 by_cases e:T=S
 ·exact J e hSs
 ·exact J (sb.2 T e) hT
theorem E8{i1 i2 S:aL}{xs ys:Array az}{es:List D}{lm:az}(hh:A.handled=ae)(D:q0 z TI TO i1 i2 l1 l2)(hS:S≠z∧S≠TI∧S≠i1∧S≠i2∧S≠l1∧S≠l2)(aag:S≠TO)(EU:O' z∧O' TO∧O' i1∧O' i2∧O' S)(ZT:xs.size=ds.length)(XR:ys.size=es.length)(hN:ds.length<=16777216):
 ∀(k i:Nat) (s:aK) (di:Array az) (c:Nat),min ds.length es.length-i=k->i<=min ds.length es.length->ZS s.heap z TI TO i1 i2 l1 l2 i xs ys->s.heap.get? S=Z {cls:=.type "list",dict:=ae,data:=.seq di c,slots:=#[]}->(∀b,O' b->(s.heap.get? b).isSome)->
  bb s.heap O' di.toList ((oj ds es).take i)->bb s.heap O' xs.toList ds->bb s.heap O' ys.toList es->
  (∀h' Ak c',(∀b o,b≠z->b≠TO->b≠i1->b≠i2->b≠S->s.heap.get? b=Z o->h'.get? b=Z o)->h'.get? S=Z {cls:=.type "list",dict:=ae,data:=.seq Ak c',slots:=#[]}->bb h' O' Ak.toList (oj ds es)->R (.ok (.ret lm)) {s with heap:=h'})->
  jN G.M A (.builtin "list.extend.loop" ⟨[.ref S,.ref z,lm],[]⟩) R s:=by
 have Ot:(oj ds es).length=min ds.length es.length:=by unfold oj;simp
 intro k
 induction k with
 |zero=>
  intro i s di c hk hi B hSl al ra rx ry hR;have P9:i=min ds.length es.length:=tA hi (tU hk);refine acG F.entry_extend_loop (J (E5 F.plain_extend_loop _) ?_);show aJ _ A.in1 (nj (.ref z)>>=_) _ _ s;refine ai (TM (A:=A.in1) hh D B ?_ λh' A7=>?_)
  ·refine jR (iH ds.length es.length) (λh=>?_) λh=>?_
   ·exact .inl (EO (J ZT (J P9 (J (dG h) (aV _)))))
   ·exact .inr (EO (J XR (J P9 (J (eI h) (aV _)))))
  ·refine ay (hR h' di c (λb o c1 c2 c3 c4 _ e=>A7 b o c1 c2 c3 c4 e) (A7 _ _ hS.1 aag hS.2.2.1 hS.2.2.2.1 hSl) ?_);rw[cE (J Ot (gS P9.symm))]at ra;exact ra.mono (λb o e _ hb=>A7 b o (λh=>hb (h▸EU.1)) (λh=>hb (h▸EU.2.1)) (λh=>hb (h▸EU.2.2.1)) (λh=>hb (h▸EU.2.2.2.1)) e) λ_ _ e=>e
 |succ k ih=>
  intro i s di c hk hi B hSl al ra rx ry hR;have jJ:i<min ds.length es.length:=Ir hk;have h1:i<ds.length:=aH jJ (oJ _ _);have h2:i<es.length:=aH jJ (nr _ _);refine bh (bb.at rx (cR h1)) λx hx rX=>?_;refine bh (bb.at ry (cR h2)) λy hy rY=>?_;refine acG F.entry_extend_loop (J (E5 F.plain_extend_loop _) ?_);show aJ _ A.in1 (nj (.ref z)>>=_) _ _ s;refine ai (OP D B hx hy λh' T B' hT hTn agQ A7=>?_);have hS':=A7 _ _ hS.1 aag hS.2.2.1 hS.2.2.2.1 hSl;have m1:∀b o,s.heap.get? b=Z o->(∃vs n,o.data=.seq vs n)->¬O' b->h'.get? b=Z o:=λb o e _ hb=>A7 b o (λh=>hb (h▸EU.1)) (λh=>hb (h▸EU.2.1)) (λh=>hb (h▸EU.2.2.1)) (λh=>hb (h▸EU.2.2.2.1)) e;have aaf:¬O' T:=λh=>by have:=al T h;rw[hTn]at this;exact ff this
  have z9:di.size=i:=by
   have:=ra.length;rw[aX,gW,Ot,dG hi]at this;exact this
  have hs:di.size<16777216:=by exact J z9 (aH h1 hN)
  show aJ _ A.in1 (Kn S (·.push (.ref T))>>=_) _ _ _;refine ai ?_;have ZY:=gg h' S (ia (·.push (.ref T)));have VK:=jH (h:=h') (ia (·.push (.ref T))) hS' rfl;have m2:∀b o,h'.get? b=Z o->(∃vs n,o.data=.seq vs n)->¬O' b->(h'.update S (ia (·.push (.ref T)))).get? b=Z o:=λb o e _ hb=>ZY.extBut b o (λh=>hb (h▸EU.2.2.2.2)) e
  refine uW hS' rfl (ay ⟨plainId_quiet F.plain_extend_loop _,ih (i+1) _ (di.push (.ref T)) _ (J (Nat.sub_succ ..) (J hk rfl)) jJ (.inr (B'.keeps ZY hS (J VK rfl))) VK (λb hb=>?_) ?_ ?_ ?_ λh'' Ak c' VI agT ra'=>?_⟩)
   (by refine J cC ?_;first|exact hs|exact cm hs) (by show(di.push (.ref T)).size<=l9+1;exact J (Array.size_push ..) (J cC (nq (cm hs))))
  ·by_cases e:b=S
   ·exact J e (J VK rfl)
   ·have:(h'.get? b).isSome:=by
     obtain⟨⟨T0,fl,hz,_⟩,Aa,i1',i2',_,_⟩:=B'
     by_cases c1:b=z
     ·exact J c1 (J hz rfl)
     ·by_cases c2:b=i1
      ·exact bh i1' λ_ e' _=>J c2 (J e' rfl)
      ·by_cases c3:b=i2
       ·exact bh i2' λ_ e' _=>J c3 (J e' rfl)
       ·by_cases c4:b=TO
        ·exact J c4 (agQ (al TO EU.2.1))
        ·exact bQ (aW.mp (al b hb)) λo e'=>J (A7 b o c1 c4 c2 c3 e') rfl
    show((h'.update S (ia (·.push (.ref T)))).get? b).isSome;exact J (ZY.2 b e) this
  ·refine J xc ?_
   have htk:(oj ds es).take (i+1)=(oj ds es).take i++[.tuple [ds[i],es[i]]]:=by
    refine J List.take_succ ?_
    congr 1
    exact J bY (J (show(ds.zip es)[i]?=Z (ds[i],es[i])from Cz.mpr ⟨cR h1,cR h2⟩) rfl)
   refine J htk (((ra.mono m1 λ_ _ e=>e).mono m2 λ_ _ e=>e).append (bb.cons ?_ bb.nil));refine⟨T,#[x,y],rfl,aaf,⟨_,ZY.extBut _ _ (λh=>aaf (h▸EU.2.2.2.2)) hT,rfl,_,rfl⟩,?_⟩;exact bb.cons ((rX.mono m1 λ_ _ e=>e).mono m2 λ_ _ e=>e) (bb.cons ((rY.mono m1 λ_ _ e=>e).mono m2 λ_ _ e=>e) bb.nil)
  ·exact(rx.mono m1 λ_ _ e=>e).mono m2 λ_ _ e=>e
  ·exact(ry.mono m1 λ_ _ e=>e).mono m2 λ_ _ e=>e
  ·exact hR h'' Ak c' (λb o c1 c2 c3 c4 c5 e=>VI b o c1 c2 c3 c4 c5 (ZY.extBut _ _ c5 (A7 b o c1 c2 c3 c4 e))) agT ra'
end
section
variable{ch:Bool}
theorem E7:GP (.type "zip") "__len__"=pure ae:=by refine J (acC ..) (J OI ?_);kernel_rfl
theorem C5:GP (.type "zip") "__length_hint__"=pure ae:=by refine J (acC ..) (J OI ?_);kernel_rfl
theorem Ai{E:az->aK->Prop}{i1 i2:aL}{xs ys:Array az}{es:List D}(hh:A.handled=ae)(D:q0 z TI TO i1 i2 l1 l2)(ZT:xs.size=ds.length)(XR:ys.size=es.length)(hN:ds.length<=16777216)
 (hz:IsZip s.heap z TI TO .none) (Aa:zF s.heap TI (.ref i1) (.ref i2)) (HO:zF s.heap TO .none .none) (h1:s.heap.IsListIter i1 l1 0) (h2:s.heap.IsListIter i2 l2 0) (rL:s.heap.IsList l1 xs) (o6:s.heap.IsList l2 ys)
 (hO:∀b,O b->(s.heap.get? b).isSome) (EU:O z∧O TO∧O i1∧O i2) (rx:bb s.heap O xs.toList ds) (ry:bb s.heap O ys.toList es)
 (hQ:∀h' S di,s.heap.get? S=ae->(∀b o,b≠z->b≠TO->b≠i1->b≠i2->s.heap.get? b=Z o->h'.get? b=Z o)->h'.PlainList S di->bb h' (λb=>O b∨b=S) di.toList (oj ds es)->Q (.ref S) {s with heap:=h'}):
 aJ G.M A (dE (.type "list") [.ref z]) Q E s:=by
 have lt:∀{b o},s.heap.get? b=Z o->b≠s.heap.objs.size:=λe=>du (aZ e);have XU:∃o,s.heap.get? i1=Z o:=let⟨o,e,_⟩:=h1;⟨o,e⟩;have hi2:∃o,s.heap.get? i2=Z o:=let⟨o,e,_⟩:=h2;⟨o,e⟩;have hL1:∃o,s.heap.get? l1=Z o:=let⟨o,e,_⟩:=rL;⟨o,e⟩;have hL2:∃o,s.heap.get? l2=Z o:=let⟨o,e,_⟩:=o6;⟨o,e⟩
 refine callType_codes (Q₁:=λXd s₁=>Xd=.ref s.heap.objs.size∧s₁={s with heap:=s.heap.push {cls:=.type "list",data:=.seq #[]}}) F.called_list (F.typeCall_list_1 _) F.entry_list_init
  (code_list_new _ ⟨rfl,rfl⟩) λXd s₁ h₁=>?_
 refine afa h₁ ?_;generalize hSe:s.heap.objs.size=S at*;have hS:(s.heap.push {cls:=.type "list",data:=.seq #[]}).get? S=Z {cls:=.type "list",data:=.seq #[]}:=by exact rF hSe (bc _ rfl)
 refine⟨⟨_,hS,rfl⟩,F.args_list_init_2 _ _,?_⟩;show aJ _ A.in1.in1 (do let old←ac4 (.ref S);ac1 (.ref S) (λ_=>#[]);letGo old.toList.reverse;vX (.ref S) (.ref z) .none) _ _ _;refine ai (ai (qX hS rfl (ay ?_)));show aJ _ A.in1.in1 (Kn S (λ_=>#[])>>=λ_=>letGo (#[]:Array az).toList.reverse>>=λ_=>vX (.ref S) (.ref z) .none) _ _ _;refine ai (uW hS rfl ?_);have hS₂:=jH (ia (λ_=>(#[]:Array az))) hS rfl;refine ai (wpAny_letGo ?_);generalize hH2:(s.heap.push {cls:=.type "list",data:=.seq #[]}).update S (ia (λ_=>(#[]:Array az)))=H2 at*
 have k2:∀b o,s.heap.get? b=Z o->H2.get? b=Z o:=λb o e=>by
  exact rF hH2 ((rT _ _ (lt e).symm).trans (eG _ e))
 have Vu:IsZip H2 z TI TO .none:=k2 _ _ hz;have Qe:({s with heap:=H2}:aK).TypeIs (.ref z) "zip":=⟨_,Vu,rfl⟩;have hSz:S≠z:=(lt hz).symm;refine ai (N3 Qe ?_);have g1:xB (.ref S) (.ref z)=ag:=by simp[xB,hSz]
 have g2:(Au "zip"==Au "list")=ag:=by decide
 have g3:(Au "zip"==Au "tuple")=ag:=by decide
 simp only[g1,g2,g3,Bool.or_false,pg,if_false];refine ai (abE Vu ?_);refine ai (bg ?_);refine ai (EI Qe E7 ?_);show aJ _ _ (specialOf (oN z) (aQ "__length_hint__")>>=_) _ _ _;refine ai (EI Qe C5 ?_);refine ay ?_
 show aJ _ _ (rule "list.extend.makes-room">>=λ_=>ac2 (.ref S)>>=λ_=>
  again (.builtin "list.extend.loop" ⟨[.ref S,.ref z,.none],[]⟩)) _ _ _
 refine ai (zB ?_);refine ai ?_;show aJ _ _ (Kn S (·.push .none)>>=λ_=>Kn S (·.pop)) _ _ _;refine ai (uW hS₂ rfl ?_);have hS₃:=jH (ia (·.push j0)) hS₂ rfl;refine uW (hz:=by seq_fits) hS₃ rfl ?_;have hS₄:=jH (ia (·.pop)) hS₃ rfl
 have Oj:∀b o,s.heap.get? b=Z o->((H2.update S (ia (·.push j0))).update S (ia (·.pop))).get? b=Z o:=
  λb o e=>(rT _ _ (lt e).symm).trans ((rT _ _ (lt e).symm).trans (k2 b o e))
 generalize hH4:(H2.update S (ia (·.push j0))).update S (ia (·.pop))=H4 at*
 have mono:∀{v d},bb s.heap O v d->bb H4 (λb=>O b∨b=S) v d:=λr=>r.mono (λb o e _ _=>Oj b o e) λb hb hn ho=>by
  rcases ho with ho|ho
  ·exact hn ho
  ·exact bQ (aW.mp hb) λo e=>lt e ho
 refine ay ⟨plainId_quiet F.plain_extend_loop _,?_⟩;refine E8 (A:=A.in1) (O':=λb=>O b∨b=S) (s:={s with heap:=H4}) hh D ⟨hSz,(lt Aa).symm,(lt XU.choose_spec).symm,(lt hi2.choose_spec).symm,(lt hL1.choose_spec).symm,(lt hL2.choose_spec).symm⟩ (lt HO).symm ⟨.inl EU.1,.inl EU.2.1,.inl EU.2.2.1,.inl EU.2.2.2,.inr rfl⟩ ZT XR hN _ 0 _ _ rfl (dW _) ?_ hS₄ (λb hb=>?_) ?_ (mono rx) (mono ry) λh' Ak c' A7 hS' ra=>?_
 ·exact .inl ⟨Oj _ _ hz,Oj _ _ Aa,⟨_,_,Oj _ _ HO⟩,h1.at λo e=>Oj _ o e,h2.at λo e=>Oj _ o e,rL.at λo e=>Oj _ o e,o6.at λo e=>Oj _ o e⟩
 ·rcases hb with hb|rfl
  ·exact bQ (aW.mp (hO b hb)) λo e=>J (Oj b o e) rfl
  ·show(H4.get? _).isSome;exact J hS₄ rfl
 ·exact J TA bb.nil
 ·have hSn:s.heap.get? S=ae:=by exact rF hSe (cU (aV _))
  exact⟨rfl,hQ h' S Ak hSn (λb o c1 c2 c3 c4 e=>A7 b o c1 c2 c3 c4 (lt e) (Oj b o e)) ⟨c',hS'⟩ ra⟩
theorem Ev.PJ{lx zx:Str}{lp zp C4:eL}{es:List D}(K:l8 G)(gl:GI G env lx (.type "list"))(gz:GI G env zx (.type "zip"))(h:wc G n env ρ [e1,e2] [.list ds,.list es])(hN:ds.length<=16777216):
 Ev G n env ρ (.Call (.Name lx lp) [.Call (.Name zx zp) [e1,e2] [] C4] [] pos) (.list (oj ds es)):=λA s O a R Ek W S=>by
 show aJ G.M A (do nk pos (←iD (.Name lx lp) env) [] (gv pos (dq [.Call (.Name zx zp) [e1,e2] [] C4] env)) []) _ _ s;refine ai (iO K Ek W gl ?_);have he:dq [.Call (.Name zx zp) [e1,e2] [] C4] env=[(ag,eval (.Call (.Name zx zp) [e1,e2] [] C4) env)]:=eO rfl;refine gd (P:=λ_=>True) (J he rfl) (λH=>(pa.type "list").keeps _ H) ?_
 have run:aJ G.M A (rQ (gv pos (dq [.Call (.Name zx zp) [e1,e2] [] C4] env))) (λvs s1=>aJ G.M A (dE (.type "list") ([]++vs)) (λv s'=>G.Kx s s'∧jT s'.heap (Ow O a) v (.list (oj ds es))) cW s1) cW s:=by
  refine qo rfl ?_;show aJ G.M A (do nk C4 (←iD (.Name zx zp) env) [] (gv C4 (dq [e1,e2] env)) []) _ _ s;refine ai (iO K Ek W gz ?_);refine gd (P:=λ_=>True) (J h.noStar rfl) (λH=>(pa.type "zip").keeps _ H) (ar (h.eval A s O a R Ek W S) (λx s1 x1=>⟨trivial,?_⟩) λ_ _ x=>x);refine J x1.2.2 (bV x1.2.1.two λv v2 ev r1 r2=>J ev ?_);refine bV r1.list λl items qe hl r=>?_;subst qe;refine bV r2.list λl2 wy wQ o6 r'=>?_;subst wQ;have Yy:=x1.1;refine call_zip_2 hl.isList o6.isList λh' hz Aa HO h1 h2 hsz k=>?_;have g1:l<s1.heap.objs.size:=by refine bQ hl λk e=>?_;exact aZ e
  have g2:l2<s1.heap.objs.size:=by refine bQ o6 λk e=>?_;exact aZ e
  have el:=r.length;rw[aX]at el;have QD:=r'.length;rw[aX]at QD;generalize hS:s1.heap.objs.size=S0 at*;have x2:G.Kx s {s1 with heap:=h'}:=Yy.trans (Gd.Kx.of (tk:=s1.toks) Yy.wd k);have fr:∀j,s1.heap.get? (S0+j)=ae:=λj=>hS▸fR s1.heap j;have ap:q0 (S0+4) (S0+2) (S0+3) S0 (S0+1) l l2:=C6 _ _ _ g1 g2;have L1:h'.IsList l items:=by refine bQ hl λm e=>?_;exact⟨_,k _ _ e,rfl,_,rfl⟩
  have L2:h'.IsList l2 wy:=by refine bQ o6 λm e=>?_;exact⟨_,k _ _ e,rfl,_,rfl⟩
  refine ay ?_
  have mono:∀{v d},bb s1.heap (Ow O a) v d->bb h' (λb=>Ow O a b∨(S0<=b∧b<S0+5∧b≠S0+2)) v d:=λr=>r.mono (λb o e _ _=>k b o e) λb hb hn ho=>by
   rcases ho with ho|ho
   ·exact hn ho
   ·exact bQ (aW.mp hb) λo e=>absurd (hS▸aZ e) (dH.mpr ho.1)
  have S1:=S.kx W Yy
  have P5:S0≠S0+2∧S0+1≠S0+2∧S0+3≠S0+2∧S0+4≠S0+2:=by
   refine⟨?_,?_,?_,?_⟩<;>exact AV (by lia)
  have Q7:S0<S0+5∧S0+1<S0+5∧S0+3<S0+5∧S0+4<S0+5:=⟨Nat.lt_add_of_pos_right (by decide),cQ (by decide) _,cQ (by decide) _,cQ (by decide) _⟩;refine Ai (O:=λb=>Ow O a b∨(S0<=b∧b<S0+5∧b≠S0+2)) (s:={s1 with heap:=h'}) R.handled ap el QD hN hz Aa HO h1 h2 L1 L2 (λb hb=>?_) ⟨.inr ⟨bw _ _,Q7.2.2.2,P5.2.2.2⟩,.inr ⟨bw _ _,Q7.2.2.1,P5.2.2.1⟩,.inr ⟨aV _,Q7.1,P5.1⟩,.inr ⟨bw _ _,Q7.2.1,P5.2.1⟩⟩ (mono r) (mono r') λh'' Sx di hSx VI VC ra=>?_
  ·rcases hb with hb|⟨b1,b2,b3⟩
   ·refine bh (S1.oM b hb) λo e _=>?_;show(h'.get? b).isSome;exact J (k b o e) rfl
   ·have hb5:b=S0∨b=S0+1∨b=S0+3∨b=S0+4:=by
     have h0:∃j,b=S0+j:=⟨b-S0,(oP b1).symm⟩;refine bQ h0 λj M2=>?_;subst M2;have hj:j<5:=qp b2
     match j,hj,b3 with
     |0,_,_=>exact .inl rfl|1,_,_=>exact .inr (.inl rfl)|2,_,h=>exact absurd rfl h|3,_,_=>exact .inr (.inr (.inl rfl))|4,_,_=>exact .inr (.inr (.inr rfl))
    show(h'.get? b).isSome
    rcases hb5 with rfl|rfl|rfl|rfl
    ·exact bh h1 λo e _=>J e rfl
    ·exact bh h2 λo e _=>J e rfl
    ·exact J HO rfl
    ·exact J hz rfl
  ·have keep:∀b o,s1.heap.get? b=Z o->h''.get? b=Z o:=λb o e=>by
    have hb:b<S0:=hS▸aZ e;have ne:∀j,b≠S0+j:=λj h=>absurd hb (dH.mpr (h▸bw _ _));exact VI b o (ne 4) (ne 3) (ne 0) (ne 1) (k b o e)
   have k3:G.Kx s {s1 with heap:=h''}:=Yy.trans (Gd.Kx.of (tk:=s1.toks) Yy.wd keep);refine⟨k3,?_⟩;refine⟨Sx,di,rfl,λhO=>?_,VC,ra.less λb h=>.inl (.inl h)⟩;refine bh (S1.oM _ hO) λo e _=>?_;have e2:h'.get? Sx=Z o:=k _ _ e;have hSx:h'.get? Sx=ae:=hSx;rw[hSx]at e2;cases e2
 rw[he]at run⊢;exact GV (ar run (λvs s1 x=>⟨trivial,x⟩) λ_ _ x=>x)
end
section
variable{ch:Bool}
theorem Cm.I1{r:Int}(h:eJ G n x ds (.int r)):Cm G n x ds (.int r):=by
 refine iP h λf nd hv ck A6=>⟨f,nd,hv,ck,λs O vs W al XG A R=>?_⟩;have rs:=XG.Fg (ws:=vs) λv hv=>hv;have al0:Al s.heap (λb=>O b∧∀v∈vs,v≠ .ref b):=λb hb=>al b hb.1;refine ar (A6 s _ vs W al0 rs A R) (λw s' x=>⟨x.1,?_⟩) λ_ _ x=>x;have:=x.2;exact this
structure vT(G:Gd)(x name:Str)(params:fE)(body:List bX)(scope:bj)(c:aL):Prop where
 nd:(x==("__debug__":Str))=ag
 ex:∃fa o pm doc,G.mg x=Z (.ref fa)∧G.H.get? fa=Z o∧¬G.Tb fa∧o.data=.func (xb name params body scope pm (.ref c) doc)∧∃oc vs t,G.H.get? c=Z oc∧¬G.Tb c∧oc.data=.fields vs∧vs[1]?=Z (.str name t)
theorem eJ.vn{name:Str}{c:aL}{xs:List Str}(K:l8 G)(fn:vT G x name params body scope c)(ok:vz scope xs=af)(hlw:je scope=af->.ref c=oN G.lc.1∧name++".<locals>."=G.lq)(jM:xs.length=ds.length)
 (D0:∀pm cd doc (vs:List az),vs.length=xs.length->As (xb name params body scope pm cd doc) ⟨vs,[]⟩=pure (xs.zip vs))
 (VD:out=.ret d∨(∃ρ',out=.next ρ'∧d=.none)) (hb:∀env:nJ,env.scope=scope->env.code=.ref c->env.qual=name++".<locals>."->mv G n env.scope env ch (oq xs ds) body out):eJ G (n+1) x ds d:=by
 refine fj fn.ex λfa o pm doc z1=>dD z1 λhg ho Ox ub z2=>g8 z2 λoc S7 t hc z3=>eP z3 λMr DZ Ms=>⟨.ref fa,fn.nd,.inl hg,wH ho Ox ub,λs O vs W al r A R=>?_⟩;have hv:=r.length;refine uJ ?_
 refine yT (ρ:=oq xs ds) (O:=O) (a:=ae) (ch:=ch) (out:=out) (xs:=xs) (binds:=xs.zip vs) K W al (λb hb=>by exact bK hb) R (W.keep _ _ ho Ox) ub rfl rfl rfl rfl ⟨c,oc,S7,t,rfl,W.keep _ _ hc Mr,DZ,Ms⟩ ok hlw
  (λQ hq=>by exact J (D0 pm (.ref c) doc vs (by exact J hv (J jM rfl))) (ay hq)) (by exact J (List.map_fst_zip (by exact J hv (J jM (aV _)))) rfl) (λp wB=>?_) (λenv he ET Sw=>hb env he ET Sw) λenv f s' p=>?_
 ·refine bV (Ho r wB) λv d' e1 e2 e3=>⟨v,e2,?_⟩;exact J e1 (e3.less λb h=>h.elim (λh=>h) λh=>by exact bK h)
 ·rcases VD with rfl|⟨ρ',rfl,rfl⟩
  ·refine xk p λkq v jE rv=>?_;subst jE;exact⟨kq.kx λb h=>h.elim (λh=>h.1) λh=>(bK h),rv⟩
  ·exact Zl p λkq _=>⟨kq.kx λb h=>h.elim (λh=>h.1) λh=>(bK h),rfl⟩
def zw(f c':aL)(b:aL):Prop:=b=f∨b=c'
def Am(name qual:Str)(params:fE)(body:List bX)(scope:bj)(cl:List (Str×aL))(f c':aL)(pm ctv:az)(h:bq)(v:az):Prop:=v=.ref f∧h.get? f=Z (HS name qual params (.stmts body) scope cl pm c' ctv)∧qR h c' qual
theorem Mc{name:Str}{f:aL}{h:bq}(W:G.Wd h)(S:SR G env O a ρ h)(hf:¬Ow O a f)(t:Am name qual params body scope cl f c' pm ctv h (.ref f)):
 sO G env O a h (zw f c') (Am name qual params body scope cl f c' pm ctv) (λ_=>ae) 0:=by
 refine yu t λ_ t1 oc vsc tc g1 g2 g3 g4=>?_
 have Xd:∀b,zw f c' b->∃o,h.get? b=Z o∧(∀es ep,o.data≠ .dict es ep)∧(∀v,o.data≠ .cell v):=by
  rintro b (rfl|rfl)
  ·exact⟨_,t1,(λ_ _ e=>by cases e),(λ_ e=>by cases e)⟩
  ·exact⟨_,g1,(λ_ _ e=>by rw[g3]at e;cases e),(λ_ e=>by rw[g3]at e;cases e)⟩
 refine⟨?_,?_,?_,?_,?_,?_,?_,?_⟩
 ·rintro h h' v ⟨rfl,t1,⟨o,w,t,t2,t3⟩⟩ kk
  exact⟨rfl,kk _ _ (.inl rfl) t1,o,w,t,kk _ _ (.inr rfl) t2,t3⟩
 ·exact λb hb=>let⟨o,e,d,_⟩:=Xd b hb;⟨o,e,d⟩
 ·rintro b (rfl|rfl)
  ·exact hf
  ·intro hO;refine bh (S.oM _ hO) λo e nc=>?_;rw[g1]at e;cases e
   rcases nc with nc|nc
   ·exact nc g2
   ·exact nc _ g3
 ·intro b hb;refine gM (Xd b hb) λo e d1 d2=>⟨λhe=>?_,λy _ hy=>?_⟩
  ·refine bh S.ns λm v9 _=>jz v9 λo' es ep e' CE _=>?_;rw[←he,e]at e';cases e';exact d1 _ _ CE
  ·refine bQ (S.cells y b hy) λv v11=>bh v11 λo' e' CE=>?_;rw[e]at e';cases e';exact d2 _ CE
 ·rintro b hb ht
  rcases hb with rfl|rfl
  ·refine c8 (W.tbNone ht t1) λz _=>?_;cases z
  ·refine c8 (W.tbNone ht g1) λz _=>?_;rw[g2]at z;cases z
 ·intro A s O' v u d r _ _ _ _ _ _ _ _ hr;exact bK hr
 ·rintro h v W' ⟨rfl,t1,_⟩
  refine⟨.frame,.inl rfl,?_⟩;exact uY (GY t1) CT
 ·rintro h v ⟨rfl,_⟩ e;cases e
theorem Bf(K:l8 G)(L:oH G)(hq:q∈G.tabs){name:Str}{Q:Flow->aK->Prop}(A9:env.code=.ref q.1)(ua:env.qual++name=G.tq q.2)(hx:g0 sc name=af)
 (agJ:defaultsOf params env=([],[])) (agO:annTrees params ae env=[]) (hd:Lm (.stmts body)=af) (pP:∀p∈scope.names,p.2=.free->∃c,env.cells.lookup p.1=Z c)
 (R:g9 A n) (Ek:dQ G env) (hs:ql sc env) (W:G.Wd s.heap) (S:SR G env O a ρ s.heap) (b:Cq G sc env a B s)
 (hQ:∀f c' pm ctv s1,G.Kq B s s1->SR G env O a ((name,.fn (zw f c') (Am name (env.qual++name) params body scope (lZ env.cells scope.names []) f c' pm ctv) (λ_=>ae) 0)::ρ.filter λp=>!(p.1==name)) s1.heap->Cq G sc env a B s1->Q .next s1):
 aJ G.M A (exec (.FunctionDef name params body [] ae [] scope ae name pos) env) Q cW s:=by
 refine J (exec_def ..) (J agJ (J agO ?_));refine ai (bU ?_)
 have hqn:Xl env name name=env.qual++name:=by
  unfold Xl
  have:env.kindOf name≠Z .globalExplicit:=by
   rcases hs name hx with h|h<;>rw[h]<;>intro e<;>cases e
  exact J (bF (by simpa using this)) rfl
 have mk:∀Q':az->aK->Prop,(∀f c' pm ctv s',G.Kx s s'->s.heap.get? f=ae->s'.heap.get? f=Z (HS name (env.qual++name) params (.stmts body) scope (lZ env.cells scope.names []) pm c' ctv)->qR s'.heap c' (env.qual++name)->Q' (.ref f) s')->aJ G.M A (do
  let dv←evalAll []
  let kdv←jq dv (evalAllOpt [])
  jq (dv++kdv.filterMap id) do
   let ann←evalNamed []
   makeFunction name (Xl env name name) params (.stmts body) scope env dv kdv ann pos pos.line) Q' cW s:=by
  intro Q' h;refine ai (ay (ai (bg (ay (bg (ai (ay ?_)))))));exact J hqn (u9 K L W Ek hq A9 ua hd pP h)
 refine ai (bg (mk _ λf c' pm ctv s1 kx hf Kc ET=>?_));refine ai (bU (ai (w7 ?_)));have S1:=S.kx W kx;refine lG Ek kx.wd S1 hx (hs name hx) λs2 kp S2 lk=>ay ?_;have b1:=b.step kx.kq b.ow;have nO:¬Ow O a f:=λh=>by refine bh (S.oM f h) λo e _=>?_;rw[hf]at e;cases e
 have DG:∀c o,s1.heap.get? c=Z o->(∀es ep,o.data≠ .dict es ep)->(∀v,o.data≠ .cell v)->¬Fr sc env c:=λc o e d1 d2 h=>by
  rcases S1.HR h e with⟨es,ep,z⟩|⟨v,z⟩
  ·exact d1 _ _ z
  ·exact d2 _ z
 refine ou ET λoc vsc tc g1 g2 g3 g4=>?_
 have t2:Am name (env.qual++name) params body scope (lZ env.cells scope.names []) f c' pm ctv s2.heap (.ref f):=by
  refine⟨rfl,kp.kp _ _ Kc (DG _ _ Kc (λ_ _ e=>by cases e) (λ_ e=>by cases e)) (λht=>by refine c8 (kx.wd.tbNone ht Kc) λz _=>?_;cases z),oc,vsc,tc,kp.kp _ _ g1 (DG _ _ g1 (λ_ _ e=>by rw[g3]at e;cases e) (λ_ e=>by rw[g3]at e;cases e)) (λht=>by refine c8 (kx.wd.tbNone ht g1) λz _=>?_;rw[g2]at z;cases z),g2,g3,g4⟩
 have kqB:G.Kq B s s2:=kx.kq.trans (kp.kq.mono λc hc _=>b.fr c hc);refine hQ f c' pm ctv s2 kqB ?_ (b.step kqB b.ow);refine bh S2.ns λm hn fs=>⟨⟨m,hn,λp hp=>?_⟩,S2.cells,S2.al,S2.ow,S2.nl,S2.nc⟩
 rcases aM.mp hp with rfl|hp
 ·exact⟨(ic hx).2.2,.ref f,lk m hn,t2,Mc kp.wd S2 nO t2⟩
 ·exact fs p hp
end
section
variable{ch:Bool}
def dj(k:Nat):bX:=match pw.main.body.drop k with|s::_=>s|[]=>.Pass default
def bP(e:bX):List bX:=sv e (λx _=>[]) (λt b o _=>b) (λt v _=>[]) (λt i b o _=>b) (λt b o _=>b) (λn a b s p=>b) (λ_ _=>[]) (λ_ _ _ _=>[]) (λ_ _ _=>[]) (λ_ _=>[]) []
def c9(e:bX):bj:=sv e (λx _=>default) (λt b o _=>default) (λt v _=>default) (λt i b o _=>default) (λt b o _=>default) (λn a b s p=>s) (λ_ _=>default) (λ_ _ _ _=>default) (λ_ _ _=>default) (λ_ _=>default) default
def iU(e:bX):fE:=sv e (λx _=>⟨[],[],ae,[],[],ae,[]⟩) (λt b o _=>⟨[],[],ae,[],[],ae,[]⟩) (λt v _=>⟨[],[],ae,[],[],ae,[]⟩) (λt i b o _=>⟨[],[],ae,[],[],ae,[]⟩) (λt b o _=>⟨[],[],ae,[],[],ae,[]⟩) (λn a b s p=>a) (λ_ _=>⟨[],[],ae,[],[],ae,[]⟩) (λ_ _ _ _=>⟨[],[],ae,[],[],ae,[]⟩) (λ_ _ _=>⟨[],[],ae,[],[],ae,[]⟩) (λ_ _=>⟨[],[],ae,[],[],ae,[]⟩) ⟨[],[],ae,[],[],ae,[]⟩
def Hg(e:bX):aG:=sv e (λx _=>x) (λt b o _=>t) (λt v _=>t.headD (.Constant .none 0 default)) (λt i b o _=>t) (λt b o _=>t) (λn a b s p=>(.Constant .none 0 default)) (λ_ _=>(.Constant .none 0 default)) (λ_ _ _ _=>(.Constant .none 0 default)) (λ_ _ _=>(.Constant .none 0 default)) (λ_ _=>(.Constant .none 0 default)) (.Constant .none 0 default)
noncomputable def aY(k:Nat)(b:List bX):bX:=match b.drop k with|s::_=>s|[]=>.Pass default
noncomputable def C1:Cx:={kn:=0,F:=λ_ _=>ae,FS:=λ_ _=>ae,V:=λ_=>ae,T:=λ_=>ae,H:=λ_ _ _ _=>ae}
abbrev E1:bj->aE->aG->Option D:=ev C1 8
structure GG(G:Gd):Prop where
 range:EX G "range" (.type "range")
 reversed:EX G "reversed" (.type "reversed")
 enumerate:EX G "enumerate" (.type "enumerate")
 zip:EX G "zip" (.type "zip")
theorem aby(w:GG G):mw G n C1:=⟨dW _,(λ_ _ _ h=>by exact bK h),(λ_ _ _ h=>by exact bK h),(λ_ _ h=>by exact bK h),(λ_ _ h=>by exact bK h),(λ_ _ _ _ _ _ h=>by exact bK h),w.range,w.reversed,w.enumerate,w.zip⟩
theorem ED(K:l8 G)(w:GG G):mT G n E1:=lP K (aby w) 8
abbrev JJ:bX:=dj 5
abbrev JH:bX:=aY 0 (bP JJ)
def wU:List bX:=bP JH
def jd:bj:=c9 JH
structure Rq(G:Gd)(h:bq)(O:aL->Prop)(cl:List (Str×aL))(f:aL)(xs:List Int)(n:Int)(T:bq->az->Prop):Prop where
 t:T h (.ref f)
 nf:¬O f
 dg:∃c v,cl.lookup ("digits":Str)=Z c∧h.IsCell c (Z v)∧¬O c∧G.H.objs.size<=c∧jT h O v (.list (xs.map .int))
 nn:∃c t,cl.lookup ("n":Str)=Z c∧h.IsCell c (Z (.int n t))∧¬O c∧G.H.objs.size<=c
 Oq:∃c,cl.lookup ("inner":Str)=Z c∧h.IsCell c (Z (.ref f))∧¬O c∧G.H.objs.size<=c
noncomputable abbrev X6:Str:="_digits2int.<locals>.inner"
abbrev Kj(cl:List (Str×aL))(f c':aL)(pm ctv:az):bq->az->Prop:=Am "inner" X6 (iU JH) wU jd cl f c' pm ctv
def EC(G:Gd)(N:Nat)(cl:List (Str×aL))(f c':aL)(pm ctv:az)(xs:List Int)(n:Int)(P:Int->Int->Option Int):Prop:=
 ∀(A:dZ) (s:aK) (O:aL->Prop) (L R v:Int) (tL tR:Xr),P L R=Z v->g9 A N->G.Wd s.heap->Al s.heap O->Rq G s.heap O cl f xs n (Kj cl f c' pm ctv)->
  aJ G.M A (dE (.ref f) [.int L tL,.int R tR]) (λw s'=>G.Kx s s'∧∃t,w=.int v t) cW s
noncomputable def uC(xs:List Int)(n:Int)(f c':aL)(T:bq->az->Prop):aE:=[("digits",.val (.list (xs.map .int))),("n",.val (.int n)),("inner",.fn (zw f c') T (λ_=>ae) 0)]
def Bm(env:nJ)(x:Str):Prop:=env.kindOf x=Z .cell∨env.kindOf x=Z .free
theorem n6{h:bq}{m:Str->Option az}{v:az}(hk:Bm env x)(l:n0 env h m x v):∃c,env.cells.lookup x=Z c∧h.IsCell c (Z v):=by
 rcases l with⟨z,_⟩|⟨_,_,c,h1,h2⟩
 ·rcases hk with y|y<;>rw[z]at y<;>cases y
 ·exact⟨c,h1,h2⟩
theorem Rq.of{f:aL}{xs:List Int}{n:Int}(Ek:dQ G env)(S:SR G env O a ρ s.heap)(hm:∀p∈uC xs n f c' (Kj cl f c' pm ctv),p∈ρ)(hk:∀x,x=("digits":Str)∨x="n"∨x="inner"->Bm env x∧env.cells.lookup x=cl.lookup x):
 Rq G s.heap (Ow O a) cl f xs n (Kj cl f c' pm ctv):=by
 refine bh S.ns λm hn fs=>?_
 have zg:∀x c v,env.cells.lookup x=Z c->s.heap.IsCell c v->¬Ow O a c∧G.H.objs.size<=c:=λx c v hc hv=>by
  refine⟨?_,Ek.co x c hc⟩
  rintro(h|h)
  ·exact S.nc x c hc h
  ·refine c8 (S.ow c h) λ_ z1=>bQ z1 λvs v1=>bQ v1 λk e=>bh hv λo e' hd=>?_;rw[e]at e';cases e';cases hd
 obtain⟨_,v1,l1,r1⟩:=fs _ (hm _ (.head _));obtain⟨_,v2,l2,r2⟩:=fs _ (hm _ (.tail _ (.head _)));obtain⟨_,v3,l3,t3,F3⟩:=fs _ (hm _ (.tail _ (.tail _ (.head _))));refine c8 (hk _ (.inl rfl)) λk1 e1=>c8 (hk _ (.inr (.inl rfl))) λk2 e2=>c8 (hk _ (.inr (.inr rfl))) λk3 e3=>bh (n6 k1 l1) λc1 a1 b1=>bh (n6 k2 l2) λc2 a2 b2=>bh (n6 k3 l3) λc3 a3 b3=>c8 (zg _ _ _ a1 b1) λo1 o1'=>c8 (zg _ _ _ a2 b2) λo2 o2'=>c8 (zg _ _ _ a3 b3) λo3 o3'=>?_;have r2:jT s.heap (Ow O a) v2 (.int n):=r2;refine bQ r2 λt2 Ej=>?_;subst Ej;refine eP t3 λAc YN YM=>?_;subst Ac;exact⟨⟨rfl,YN,YM⟩,F3.nO _ (.inl rfl),⟨c1,v1,e1▸a1,b1,o1,o1',r1⟩,⟨c2,t2,e2▸a2,b2,o2,o2'⟩,⟨c3,e3▸a3,b3,o3,o3'⟩⟩
theorem Ev.inner{f:aL}{xs:List Int}{P:Int->Int->Option Int}{p:eL}{Rr v:Int}(hI:EC G N cl f c' pm ctv xs nn P)(hN:N<=n)(hm:∀p∈uC xs nn f c' (Kj cl f c' pm ctv),p∈ρ)(hk:∀x,x=("digits":Str)∨x="n"∨x="inner"->Bm env x∧env.cells.lookup x=cl.lookup x)
 (h:wb G n env ρ [e1,e2] [.int L,.int Rr]) (hP:P L Rr=Z v):Ev G n env ρ (.Call (.Name "inner" p) [e1,e2] [] pos) (.int v):=λA s O a R Ek W S=>by
 have hA:=h.toA;obtain⟨m,hn,fs⟩:=S.ns;obtain⟨nd,v3,l3,t3,F3⟩:=fs _ (hm _ (.tail _ (.tail _ (.head _))));obtain⟨rfl,YN,YM⟩:=id t3;show aJ G.M A (do nk pos (←iD (.Name "inner" p) env) [] (gv pos (dq [e1,e2] env)) []) _ _ s;refine ai (jf (fA Ek hn l3 ?_) nd);refine gd (P:=λH=>G.Wd H∧Kj cl f c' pm ctv H (.ref f)) (J hA.noStar rfl) (λH hH=>F3.kp H _ hH.1 hH.2) (ar (h.Bg A s O a R Ek W S) (λy s1 x1=>?_) λ_ _ x=>x);have S1:=S.kx W x1.1;have Ad:=Rq.of Ek S1 hm hk;refine⟨⟨x1.1.wd,Ad.t⟩,?_⟩;refine J x1.2.2 ?_;obtain⟨u1,ma,ev,r1,r2⟩:=x1.2.1.inv;obtain⟨u2,T3,rfl,r2,r3⟩:=r2.inv;rw[cV r3]at ev;refine bQ r1 λtL JD=>?_;subst JD;refine bQ r2 λtR JC=>?_;subst JC;show aJ G.M A (dE (.ref f) ([]++y.pos)) _ _ s1;exact J ev (ar (hI A s1 _ L Rr v tL tR hP (R.le hN) x1.1.wd S1.oM Ad) (λw s2 x2=>⟨x1.1.trans x2.1,by exact x2.2⟩) λ_ _ x=>x)
end
section
variable{ch:Bool}
def Na(n L jZ hi lo:Int):Option Int:=bif sa (jZ-L) n&&ah (0<=(jZ-L)*n)&&ah ((ak hi:Int)+(jZ-L)*n<=2^27)then Z (hi*2^((jZ-L)*n).toNat+lo)else ae
noncomputable def dV(xs:List Int)(n:Int):Nat->Int->Int->Option Int
 |0,_,_=>ae
 |j+1,L,R=>bif L+1==R then((xE (.list (xs.map .int)) (.int L)).bind λd=>sH d Z)else
  (dV xs n j ((L+R).fdiv (2^(1:Int).toNat)) R).bind λhi=>(dV xs n j L ((L+R).fdiv (2^(1:Int).toNat))).bind λlo=>Na n L ((L+R).fdiv (2^(1:Int).toNat)) hi lo
theorem WB{xs:List Int}{n:Int}{R:Int}:dV xs n (j+1) L R=bif L+1==R then((xE (.list (xs.map .int)) (.int L)).bind λd=>sH d Z)else
 (dV xs n j ((L+R).fdiv (2^(1:Int).toNat)) R).bind λhi=>(dV xs n j L ((L+R).fdiv (2^(1:Int).toNat))).bind λlo=>Na n L ((L+R).fdiv (2^(1:Int).toNat)) hi lo:=rfl
def diρ(xs:List Int)(n:Int)(f c':aL)(T:bq->az->Prop)(L R:Int):aE:=("L",.val (.int L))::("R",.val (.int R))::uC xs n f c' T
abbrev Wy(xs:List Int)(n:Int)(f c':aL)(T:bq->az->Prop)(L R jZ:Int):aE:=("mid",.val (.int jZ))::diρ xs n f c' T L R
abbrev aaL(xs:List Int)(n:Int)(f c':aL)(T:bq->az->Prop)(L R jZ sh:Int):aE:=("shift",.val (.int sh))::Wy xs n f c' T L R jZ
set_option tactic.hygienic true in
theorem QO(hE:mT G n E1)(hN:N<=n){f:aL}{xs:List Int}(hI:EC G N cl f c' pm ctv xs nn (dV xs nn j)){R v:Int}(hP:dV xs nn (j+1) L R=Z v)(jm:env.scope=jd)(pP:env.cells=cl):
 mv G n env.scope env ch (diρ xs nn f c' (Kj cl f c' pm ctv) L R) wU (.ret (.int v)):=by
 have hk:∀x,x=("digits":Str)∨x="n"∨x="inner"->Bm env x∧env.cells.lookup x=cl.lookup x:=by
  have kk:∀x,env.kindOf x=jd.names.lookup x:=λx=>by exact rF jm rfl
  rintro x (rfl|rfl|rfl)<;>exact⟨.inr ((kk _).trans (by kernel_rfl)),by exact J pP rfl⟩
 generalize hT:Kj cl f c' pm ctv=T at*;have hb:∃t b o p Oi RZ st4,wU=[.If t b o p,Oi,RZ,st4]:=⟨_,_,_,_,_,_,_,rfl⟩;replace hP:=WB.symm.trans hP
 cases hc:L+1==R with
 |true=>
  rw[hc]at hP
  have hv:xE (.list (xs.map .int)) (.int L)=Z (.int v):=by
   refine bE hP λd h1 h2=>?_;revert h1;refine uz h2 λi h h1=>qS h ?_;exact h1
  refine mv.ret (gj.Vp (c:=af) (fe hE 9 ?_) (mv.ret (gj.ret (b7 hE ?_))))
  ·refine J jm (rF hc ?_);kernel_rfl
  ·refine J jm (rF hv ?_);kernel_rfl
 |false=>
  rw[hc]at hP;refine bE hP λhi h1 hP=>bE hP λlo h2 hP=>?_;generalize Jp:(L+R).fdiv (2^(1:Int).toNat)=jZ at*;have g:=(cT hP).1;have hv:=(cT hP).2;simp only[bG,decide_eq_true_eq]at g;refine c8 g λz1 g3=>c8 z1 λg1 g2=>?_
  have aiD:wW .Mult (.int (jZ-L)) (.int nn)=Z (.int ((jZ-L)*nn)):=by
   show(bif sa (jZ-L) nn then Z (aI ((jZ-L)*nn))else ae)=_;exact J g1 rfl
  have agh:wW .LShift (.int hi) (.int ((jZ-L)*nn))=Z (.int (hi*2^((jZ-L)*nn).toNat)):=by
   show(bif ah (0<=(jZ-L)*nn)&&ah ((ak hi:Int)+(jZ-L)*nn<=2^27)then Z (aI (hi*2^((jZ-L)*nn).toNat))else ae)=_;exact J (aq g2) (J (aq g3) rfl)
  have e1:vU (diρ xs nn f c' T L R) "mid" (.val (.int jZ))=Wy xs nn f c' T L R jZ:=by kernel_rfl
  have e2:vU (Wy xs nn f c' T L R jZ) "shift" (.val (.int ((jZ-L)*nn)))=aaL xs nn f c' T L R jZ ((jZ-L)*nn):=by kernel_rfl
  have hm:∀p∈uC xs nn f c' T,p∈aaL xs nn f c' T L R jZ ((jZ-L)*nn):=λp hp=>.tail _ (.tail _ (.tail _ (.tail _ hp)));refine mv.cons (gj.Vp (c:=ag) (fe hE 9 ?_) mv.nil) (mv.cons (gj.assign ?_ ?_ (d:=.int jZ) (b7 hE ?_)) ?_)
  ·refine J jm (rF hc ?_);kernel_rfl
  ·refine J jm ?_;kernel_rfl
  ·kernel_rfl
  ·refine J jm (rF Jp ?_);kernel_rfl
  refine J e1 (mv.cons (gj.assign ?_ ?_ (d:=.int ((jZ-L)*nn)) (.bin (d1:=.int (jZ-L)) (d2:=.int nn) (hE env _ _ _ ?_).1 (hE env _ _ _ ?_).1 (oe aiD))) ?_)
  ·refine J jm ?_;kernel_rfl
  ·kernel_rfl
  ·refine J jm ?_;kernel_rfl
  ·refine J jm ?_;kernel_rfl
  refine J e2 ?_;subst hT;refine mv.ret (gj.ret ?_);refine rF hv (Ev.bin (d1:=.int (hi*2^((jZ-L)*nn).toNat)) (d2:=.int lo) (Ev.bin (d1:=.int hi) (d2:=.int ((jZ-L)*nn)) (Ev.inner hI hN hm hk (.cons (b7 hE ?_) (.cons (b7 hE ?_) .nil ?_) ?_) h1).w (hE env _ _ _ ?_).1 (oe agh)).w (Ev.inner hI hN hm hk (.cons (b7 hE ?_) (.cons (b7 hE ?_) .nil ?_) ?_) h2).w .add)
  all_goals first|rfl|(rw[jm];kernel_rfl)
theorem A4{name:Str}{f:aL}{h:bq}(W:G.Wd h)(al:Al h (Ow O a))(hf:¬Ow O a f)(t:Am name qual params body scope cl f c' pm ctv h (.ref f)):
 ∃mn,sO G mn O a h (zw f c') (Am name qual params body scope cl f c' pm ctv) (λ_=>ae) 0:=by
 refine yu t λ_ t1 oc vsc tc g1 g2 g3 g4=>⟨newEnv scope h.objs.size bO [] "" ae .none ae dK,?_,?_,?_,?_,?_,?_,?_,?_⟩
 ·rintro h h' v ⟨rfl,t1,⟨o,w,t,t2,t3⟩⟩ kk
  exact⟨rfl,kk _ _ (.inl rfl) t1,o,w,t,kk _ _ (.inr rfl) t2,t3⟩
 ·rintro b (rfl|rfl)
  ·exact⟨_,t1,(λ_ _ e=>by cases e)⟩
  ·exact⟨_,g1,(λ_ _ e=>by rw[g3]at e;cases e)⟩
 ·rintro b (rfl|rfl)
  ·exact hf
  ·intro hO;refine bh (al _ hO) λo e nc=>?_;rw[g1]at e;cases e
   rcases nc with nc|nc
   ·exact nc g2
   ·exact nc _ g3
 ·intro b hb;refine⟨λhe=>?_,λy _ hy=>by exact bK hy⟩
  have:b<h.objs.size:=by
   rcases hb with rfl|rfl
   ·exact aZ t1
   ·exact aZ g1
  exact du this he
 ·rintro b hb ht
  rcases hb with rfl|rfl
  ·refine c8 (W.tbNone ht t1) λz _=>?_;cases z
  ·refine c8 (W.tbNone ht g1) λz _=>?_;rw[g2]at z;cases z
 ·intro A s O' v u d r _ _ _ _ _ _ _ _ hr;exact bK hr
 ·rintro h v W' ⟨rfl,t1,_⟩
  refine⟨.frame,.inl rfl,?_⟩;exact uY (GY t1) CT
 ·rintro h v ⟨rfl,_⟩ e;cases e
theorem QN(K:l8 G)(hE:mT G n E1)(hN:N<=n){f:aL}{xs:List Int}(hI:EC G N cl f c' pm ctv xs nn (dV xs nn j))
 (pP:∀x c,cl.lookup x=Z c->x="digits"∨x="n"∨x="inner") (FU:∀x y c,cl.lookup x=Z c->cl.lookup y=Z c->x=y):EC G (n+1) cl f c' pm ctv xs nn (dV xs nn (j+1)):=λA s O L R v tL tR hP Rm W al Ad=>by
 refine eP (id Ad.t) λ_ t1 t2=>bh K.nolimit λmc VG yK=>?_;have VM:=Rm.depth;refine uJ (vV (by unfold GR;lia) t1 rfl (by kernel_rfl) (by kernel_rfl) rfl t2.rec ?_);have hb:As {name:="inner",qualname:=X6,params:=iU JH,body:=.stmts wU,scope:=jd,globals:=bO,closure:=cl,defaults:=.none,kwdefaults:=.none,doc:=.none,pyModule:=pm,annotations:=ae,code:=.ref c',closureTuple:=ctv,builtins:=dK} ⟨[lC L tL,lC R tR],[]⟩=pure [(("L":Str),lC L tL),(("R":Str),lC R tR)]:=rfl;refine J hb (ay ?_);refine dn Ad.dg λcd vd d1 d2 d3 z1=>c8 z1 λd4 d5=>dn Ad.nn λcn tn n1 n2 n3 n4=>iP Ad.Oq λci i1 i2 i3 i4=>?_
 have fk:∀x,jd.names.lookup x=Z .free->x="digits"∨x="n"∨x="inner":=λx hx=>by
  have hm:=mem_of_lookup hx;have qb:jd.names.all (λq=>!(q.2==.free)||q.1==("digits":Str)||q.1==("n":Str)||q.1==("inner":Str))=af:=by kernel_rfl
  have:=a9.mp qb _ hm;simpa[or_assoc]using this
 have gl:∀x c,cl.lookup x=Z c->(∃v,s.heap.IsCell c v)∧¬O c∧G.H.objs.size<=c:=λx c hx=>by
  rcases pP x c hx with rfl|rfl|rfl
  ·rw[d1]at hx;exact qS hx ⟨⟨_,d2⟩,d3,d4⟩
  ·rw[n1]at hx;exact qS hx ⟨⟨_,n2⟩,n3,n4⟩
  ·rw[i1]at hx;exact qS hx ⟨⟨_,i2⟩,i3,i4⟩
 refine Gc (ρ:=diρ xs nn f c' (Kj cl f c' pm ctv) L R) (O:=O) (a:=ae) W al (λb hb=>by exact bK hb) (by kernel_rfl) (λx hx=>?_) (λx hx=>?_) ?_ (λx hx=>?_) gl FU (by kernel_rfl) (λp wB=>?_) λrn Ux he jm hlc Qb LY keep Ek2 S2=>?_
 ·have qb:jd.names.all (λq=>!(q.2==.cell))=af:=by kernel_rfl
  have:=a9.mp qb _ hx;simpa using this
 ·simp only[aM,dU,or_false]at hx
  rcases hx with rfl|rfl<;>kernel_rfl
 ·exact(by decide:([("L":Str),("R":Str)]).Nodup)
 ·rcases fk x hx with rfl|rfl|rfl
  ·exact⟨_,d1⟩
  ·exact⟨_,n1⟩
  ·exact⟨_,i1⟩
 ·unfold diρ uC at wB;simp only[aM,dU,or_false]at wB
  rcases wB with rfl|rfl|rfl|rfl|rfl
  ·refine⟨(by decide:(("L":Str)==("__debug__":Str))=ag),.int L tL,.inl (.head _),?_⟩;show jT _ _ _ _;exact⟨_,rfl⟩
  ·refine⟨(by decide:(("R":Str)==("__debug__":Str))=ag),.int R tR,.inl (.tail _ (.head _)),?_⟩;show jT _ _ _ _;exact⟨_,rfl⟩
  ·refine⟨(by decide:(("digits":Str)==("__debug__":Str))=ag),vd,.inr ⟨by kernel_rfl,(by decide:("digits":Str)≠"__classdict__"),cd,d1,d2⟩,?_⟩;exact d5.less λb h=>h.elim (λh=>h) λh=>by exact bK h
  ·refine⟨(by decide:(("n":Str)==("__debug__":Str))=ag),.int nn tn,.inr ⟨by kernel_rfl,(by decide:("n":Str)≠"__classdict__"),cn,n1,n2⟩,?_⟩;show jT _ _ _ _;exact⟨_,rfl⟩
  ·refine⟨(by decide:(("inner":Str)==("__debug__":Str))=ag),.ref f,.inr ⟨by kernel_rfl,(by decide:("inner":Str)≠"__classdict__"),ci,i1,i2⟩,Ad.t,A4 W (λb h=>h.elim (al b) λh=>by exact bK h) (λh=>h.elim Ad.nf λh=>by exact bK h) Ad.t⟩
 ·refine⟨⟨mc,LY.wd.ns VG K.st,yK⟩,N5 ?_⟩;have R':g9 (A.deeper rn) n:=⟨by show A.depth+1+n<=990;lia,by have:=Rm.units;show A.units+3+20*n<=9800;lia,Rm.handled,Rm.guards⟩;have hs:ql rn.scope rn:=λx hx=>(ic hx).1
  have bk:Cq G rn.scope rn ae (λb=>s.heap.get? b=ae∧G.H.objs.size<=b) Ux:=by
   refine⟨λb hb=>?_,(λb hb=>by exact bK hb),λb hb hl=>⟨?_,hl⟩,λb hb=>hb.2⟩
   ·rcases hb with rfl|⟨y,hy,ZR⟩
    ·exact J hlc ⟨cU (aV _),W.sz⟩
    ·rw[jm]at hy;rw[Qb]at ZR;exfalso
     rcases pP y b ZR with rfl|rfl|rfl
     ·have:g0 jd "digits"=ag:=by kernel_rfl
      rw[this]at hy;exact ff hy
     ·have:g0 jd "n"=ag:=by kernel_rfl
      rw[this]at hy;exact ff hy
     ·have:g0 jd "inner"=ag:=by kernel_rfl
      rw[this]at hy;exact ff hy
   ·cases e:s.heap.get? b with
    |none=>rfl|some o=>rw[keep b o e]at hb;exact R0 hb
  refine ar (QO (ch:=ag) hE hN hI hP jm Qb (A.deeper rn) Ux O ae _ R' Ek2 hs LY.wd S2 bk) (λfl s4 p=>?_) λ_ _ x=>x.elim;refine xk p λkq w jE XG=>?_;subst jE;exact⟨(LY.kq.trans kq).kx λb h=>h.1,XG⟩
end
section
variable{ch:Bool}
noncomputable def qj:List Str:=["len","sum","str","abs","max","min","divmod"]
structure Bi(G:Gd):Prop where
 w:GG G
 b:∀x,qj.contains x=af->EX G x (Gx x)
 list:EX G "list" (.type "list")
def Q9(F:Str->List D->Option D)(x:Str)(ds:List D):Option D:=bif qj.contains x then qk x ds else F x ds
theorem Ib(B:Bi G){F:Str->List D->Option D}(hF:∀x ds d,F x ds=Z d->Cm G n x ds d)(h:Q9 F x ds=Z d):Cm G n x ds d:=by
 unfold Q9 at h
 cases hb:qj.contains x with
 |true=>
  rw[hb]at h;exact c8 (B.b x hb) λnd g=>⟨Gx x,nd,g,(Gw x).WM,JM h⟩
 |false=>rw[hb]at h;exact hF _ _ _ h
def Cb:Cx:={kn:=0,F:=Q9 λ_ _=>ae,FS:=λ_ _=>ae,V:=λ_=>ae,T:=λ_=>ae,H:=λ_ _ _ _=>ae}
theorem Tj(B:Bi G):mw G n Cb:=⟨dW _,(λ_ _ _ h=>Ib (F:=λ_ _=>ae) B (λ_ _ _ h=>by exact bK h) h),(λ_ _ _ h=>by exact bK h),(λ_ _ h=>by exact bK h),(λ_ _ h=>by exact bK h),(λ_ _ _ _ _ _ h=>by exact bK h),B.w.range,B.w.reversed,B.w.enumerate,B.w.zip⟩
theorem M8(K:l8 G)(B:Bi G){f:aL}{xs:List Int}(pP:∀x c,cl.lookup x=Z c->x="digits"∨x="n"∨x="inner")(FU:∀x y c,cl.lookup x=Z c->cl.lookup y=Z c->x=y):∀j,EC G j cl f c' pm ctv xs nn (dV xs nn j)
 |0=>λA s O L R v tL tR hP=>by exact bK hP
 |j+1=>QN (n:=j) K (ED K B.w) (aV _) (M8 K B pP FU j) pP FU
def QR(xs:List Int)(n:Int):Option Int:=bif xs.isEmpty then Z 0 else dV xs n 40 0 xs.length
noncomputable def diF(xs:List Int)(nn:Int)(f c':aL)(T:bq->az->Prop):aE:=[("inner",.fn (zw f c') T (λ_=>ae) 0),("digits",.val (.list (xs.map .int))),("n",.val (.int nn))]
theorem WC(K:l8 G)(L:oH G)(B:Bi G){c P:aL}(hq:(c,P)∈G.tabs)(ua:X6=G.tq P)(fn:vT G "_digits2int" "_digits2int" (iU JJ) (bP JJ) (c9 JJ) c){xs:List Int}{v:Int}(hz:xs.length<=fB)(hv:QR xs nn=Z v):
 eJ G 42 "_digits2int" [.list (xs.map .int),.int nn] (.int v):=by
 refine eJ.vn (n:=41) (ch:=ag) (xs:=["digits","n"]) (out:=.ret (.int v)) K fn (by kernel_rfl) (λh=>by rw[show je (c9 JJ)=ag by kernel_rfl]at h;exact ff h) rfl (λpm cd doc vs Vw=>?_) (.inl rfl) λenv jm ET Sw=>?_
 ·rcases vs with _|⟨v1,_|⟨v2,_|_⟩⟩
  ·cases Vw
  ·cases Vw
  ·rfl
  ·simp at Vw
 ·intro A s O a Bb R Ek hs W S b;have kk:∀x,env.kindOf x=(c9 JJ).names.lookup x:=λx=>by exact rF jm rfl
  have iq:∀x,(c9 JJ).names.lookup x=Z .cell->∃c,env.cells.lookup x=Z c:=λx hx=>Ek.cl x (.inl ((kk x).trans hx));show aJ G.M A (GU (.FunctionDef "inner" (iU JH) wU [] ae [] jd ae "inner" _::[aY 1 (bP JJ)]) env) _ _ s;refine ij (Bf (sc:=env.scope) K L hq ET (J Sw (rF ua rfl)) (by refine J jm ?_;kernel_rfl) rfl rfl rfl ?_ R Ek hs W S b λf c' pm ctv s1 kq S1 b1=>?_)
  ·intro p hp hf;have qb:jd.names.all (λq=>!(q.2==.free)||(c9 JJ).names.lookup q.1==Z .cell)=af:=by kernel_rfl
   have:=a9.mp qb _ hp;rw[hf]at this;exact iq _ (by simpa using this)
  ·refine bQ (iq "digits" (by kernel_rfl)) λcd DZ=>bQ (iq "n" (by kernel_rfl)) λcn Ms=>bQ (iq "inner" (by kernel_rfl)) λci VO=>?_;have hqe:env.qual++"inner"=X6:=by exact J Sw rfl
   rw[hqe]at S1;generalize pP:lZ env.cells jd.names []=cl at S1
   have e1:cl=[(("n":Str),cn),(("inner":Str),ci),(("digits":Str),cd)]:=by
    refine rF pP ?_;have:lZ env.cells jd.names []=[(("n":Str),(env.cells.lookup ("n":Str)).getD 0),(("inner":Str),(env.cells.lookup ("inner":Str)).getD 0),(("digits":Str),(env.cells.lookup ("digits":Str)).getD 0)]:=by kernel_rfl
    exact J this (J Ms (J VO (J DZ rfl)))
   have hlk:∀x,x=("digits":Str)∨x="n"∨x="inner"->Bm env x∧env.cells.lookup x=cl.lookup x:=by
    rintro x (rfl|rfl|rfl)
    ·exact⟨.inl ((kk _).trans (by kernel_rfl)),by exact J DZ (J e1 rfl)⟩
    ·exact⟨.inl ((kk _).trans (by kernel_rfl)),by exact J Ms (J e1 rfl)⟩
    ·exact⟨.inl ((kk _).trans (by kernel_rfl)),by exact J VO (J e1 rfl)⟩
   have Mt:∀x c,cl.lookup x=Z c->x="digits"∨x="n"∨x="inner":=λx c hx=>by
    rw[e1]at hx;have:=mem_of_lookup hx;simp only[aM,dU,or_false,OJ]at this;refine x6 this (λz=>c8 z λh _=>?_) (λz=>c8 z λh _=>?_) λz=>c8 z λh _=>?_
    ·exact .inr (.inl h)
    ·exact .inr (.inr h)
    ·exact .inl h
   have FU:∀x y c,cl.lookup x=Z c->cl.lookup y=Z c->x=y:=λx y c hx hy=>by
    have z:∀x,cl.lookup x=Z c->env.cells.lookup x=Z c:=λx hx=>(hlk x (Mt x c hx)).2.trans hx;exact Ek.apart x y c (z x hx) (z y hy)
   have hI:=M8 (G:=G) (f:=f) (c':=c') (pm:=pm) (ctv:=ctv) (xs:=xs) (nn:=nn) K B Mt FU 40;have hE:mT G 41 (ev Cb 8):=lP K (Tj B) 8;have hρ:(("inner",.fn (zw f c') (Am "inner" X6 (iU JH) wU jd cl f c' pm ctv) (λ_=>ae) 0)::(oq ["digits","n"] [.list (xs.map .int),.int nn]).filter (λp=>!(p.1==("inner":Str))):aE)=diF xs nn f c' (Kj cl f c' pm ctv):=by kernel_rfl
   rw[hρ]at S1
   have hm:∀p∈uC xs nn f c' (Kj cl f c' pm ctv),p∈diF xs nn f c' (Kj cl f c' pm ctv):=λp hp=>by
    unfold uC at hp;unfold diF;simp only[aM,dU,or_false]at hp⊢;refine x6 hp (λh=>?_) (λh=>?_) λh=>?_
    ·exact .inr (.inl h)
    ·exact .inr (.inr h)
    ·exact .inl h
   generalize hρ2:diF xs nn f c' (Kj cl f c' pm ctv)=ρ2 at*
   have run:mv G 41 env.scope env ag ρ2 [aY 1 (bP JJ)] (.ret (.int v)):=by
    unfold QR at hv
    cases hx:xs.isEmpty with
    |true=>
     rw[hx]at hv;refine qS hv ?_;refine mv.ret (gj.ret (Ev.Mh (fe hE 9 ?_) (b7 hE ?_)))
     ·refine J jm (rF hρ2 ?_);have:xs=[]:=by simpa using hx
      subst this
      kernel_rfl
     ·refine J jm (rF hρ2 ?_);kernel_rfl
    |false=>
     rw[hx]at hv;refine mv.ret (gj.ret (Ev.Mg (fe hE 9 ?_) (Ev.inner hI (by decide) hm hlk (.cons (b7 hE ?_) (.cons (b7 hE ?_) .nil rfl) rfl) hv)))
     ·refine J jm (rF hρ2 ?_);refine iN (b:=Dd (.list (xs.map .int))) (by kernel_rfl) ?_;show(bif ah ((xs.map aI).length<=fB)then Z (!(xs.map aI).isEmpty)else ae)=_;refine J (au ..) (J (aq hz) ?_);simp[hx]
     ·kernel_rfl
     ·refine J jm (rF hρ2 ?_);refine iN (b:=qk "len" [.list (xs.map .int)]) (by kernel_rfl) ?_;show(bif(("len":Str)=="len")&&ah ((xs.map aI).length<=fB)then Z (aI (xs.map aI).length)else _)=_;exact J (au ..) (J (aq hz) rfl)
   exact ar (run A s1 O a Bb R Ek hs kq.wd S1 b1) (λfl s2 p=>p.trans kq λ_=>rfl) λ_ _ x=>x
end
section
variable{ch:Bool}
theorem zT{E:az->aK->Prop}{l:aL}{k:Int}{t:Xr}{v:az}{Q:Unit->aK->Prop}(hl:s.heap.PlainList l items)(h0:0<=k)(Jq:k<2^63)(hn:k<items.size)
 (hQ:∀h',h'.PlainList l (items.setIfInBounds k.toNat v)->d7 l s.heap h'->Q () {s with heap:=h'}):aJ G.M A (setItem (.ref l) (.int k t) v) Q E s:=by
 refine bQ hl λc ho=>?_;have hT:s.TypeIs (.ref l) "list":=⟨_,ho,rfl⟩;unfold setItem
 try with_reducible refine bg ?_
 first|refine ai (ay ?_)|skip
 refine ai (Yi hT (by decide) ?_)
 refine ai (gH (name:=aQ "__setitem__") hT Yk
  (lB Yk hT entry_list_setitem ?_ (args_list_setitem _ _ _)))
 show aJ _ _ (ac3 (.int k t)>>=_) _ _ s;refine ai (wpAny_listSubscript_int (fitsIndex_of h0 Jq) ?_);clear Jq;refine bQ (Int.eq_ofNat_of_zero_le h0) λj qe=>?_;subst qe;have hj:j<items.size:=by exact(λ{n m}=>d9.mp) hn
 show aJ _ _ ((seqItemAt l j>>=λr=>pure (r.map (j,·)))>>=_) _ _ s;refine ai (ai (wpAny_seqItemAt ho rfl (ay ?_)));refine J (Array.getElem?_eq_getElem hj) ?_;show aJ _ _ (setSeqItemAt l j v>>=_) _ _ s;have fin:Q () {s with heap:=s.heap.update l (ia (·.setIfInBounds j v))}:=hQ _ ⟨_,pJ (n:=c) ho _⟩ (gg ..);refine ai (wpAny_setSeqItemAt ho rfl ?_)
 first
  |exact ai (ay (ay ⟨.none,rfl,ay fin⟩))
  |exact ay ⟨.none,rfl,ay fin⟩
theorem Dv{h:bq}:∀{ds:List D} {vs:List az} {i:Nat} {v:az} {d:D},bb h O vs ds->jT h O v d->bb h O (vs.set i v) (ds.set i d)
 |[],vs,i,v,d,r,_=>by refine J (cV r) ?_;simpa using bb.nil
 |d'::ds,vs,0,v,d,r,q=>by refine bV r.inv λw ma wQ a b=>?_;subst wQ;exact bb.cons q b
 |d'::ds,vs,i+1,v,d,r,q=>by refine bV r.inv λw ma vJ a b=>?_;subst vJ;exact bb.cons a (Dv b q)
theorem gj.Uv{p:eL}{i:aG}{k:Int}(hm:(x,jS.own xs)∈ρ)(hi:Ev G n env ρ i (.int k))(he:Ev G n env ρ e d)(DX:r7 i=af)(Vy:tK e (Z (.Subscript (.Name x p) i tp)) pos.line env=pure ag)(h0:0<=k)(h1:k.toNat<xs.length)(hz:xs.length<=16777216):
 gj G n sc env ch ρ (.Assign [.Subscript (.Name x p) i tp] e pos) (.next (pR ρ x (xs.set k.toNat d))):=λA s O a B R Ek hs W S b=>by
 refine J (exec_Assign_Subscript _ _ _ _ _ Vy) (ai (bU (ai (ar (he A s O a R Ek W S) (λv s1 x1=>?_) λ_ _ x=>x))));refine c8 x1 λk1 rv=>?_;have S1:=S.kx W k1;refine bh S1.ns λm hn f=>?_;obtain⟨nd,l,items,lk,ha,xV,r⟩:=f _ hm;refine ai (J (assign_Subscript ..) ?_);refine ai (bg (jf (fA Ek hn lk ?_) nd));refine ai (bg (ar (hi A s1 O a R Ek k1.wd S1) (λiv s2 x2=>?_) λ_ _ x=>x));refine c8 x2 λk2 ri=>bQ ri λt M4=>?_;subst M4;have kx:=k1.trans k2;have o6:=gL k1.wd k2.ke xV;have r2:=r.ke k1.wd k2.ke;have el:=r2.length;rw[aX]at el;have S2:=S.kx W kx;have lo:=b.lo l (b.ow l ha);refine ai (bU (ai (bg (zT o6 h0 (by lia) (by lia) λh' vZ sb=>?_))));refine JX (ay ?_);have W':=kx.wd.same lo sb (NC.plain o6);refine⟨kx.kq.trans ⟨h',s2.toks,rfl,λc o hc hB _=>by exact J (sb.2 c λpP=>hB (pP▸b.ow l ha)) hc,W'⟩,rfl,a,xQ S2 hm ha sb vZ ?_,b.ow,λ_=>rfl⟩;refine J Array.toList_setIfInBounds ?_;have kk:∀c o,c≠l->s2.heap.get? c=Z o->h'.get? c=Z o:=λc o hc e=>by exact J (sb.2 c hc) e
 exact Dv (r2.but kk (.inr ha)) ((rv.ke k1.wd k2.ke).mono (λc o e _ hb=>kk c o (λh=>hb (h▸ .inr ha)) e) λ_ _ e=>e)
end
section
variable{ch:Bool}
abbrev DO:bX:=dj 4
abbrev Je:bX:=aY 1 (bP DO)
def uy:List bX:=bP Je
def jb:bj:=c9 Je
noncomputable abbrev XQ:Str:="_int2digits.<locals>.inner"
abbrev DN(cl:List (Str×aL))(f c':aL)(pm ctv:az):bq->az->Prop:=Am "inner" XQ (iU Je) uy jb cl f c' pm ctv
structure Rp(G:Gd)(h:bq)(O:aL->Prop)(cl:List (Str×aL))(f l:aL)(n:Int)(T:bq->az->Prop):Prop where
 t:T h (.ref f)
 nf:¬O f
 dg:∃c,cl.lookup ("a_digits":Str)=Z c∧h.IsCell c (Z (.ref l))∧¬O c∧G.H.objs.size<=c
 nn:∃c t,cl.lookup ("n":Str)=Z c∧h.IsCell c (Z (.int n t))∧¬O c∧G.H.objs.size<=c
 Oq:∃c,cl.lookup ("inner":Str)=Z c∧h.IsCell c (Z (.ref f))∧¬O c∧G.H.objs.size<=c
def EB(G:Gd)(N:Nat)(cl:List (Str×aL))(f c' l:aL)(pm ctv:az)(n:Int)(P:Int->Int->Int->List Int->Option (List Int)):Prop:=
 ∀(A:dZ) (s:aK) (O:aL->Prop) (items:Array az) (x L R:Int) (xs ys:List Int) (tx tL tR:Xr),P x L R xs=Z ys->g9 A N->G.Wd s.heap->Al s.heap O->¬O l->G.H.objs.size<=l->s.heap.PlainList l items->bb s.heap (Ow O (Z l)) items.toList (xs.map .int)->Rp G s.heap O cl f l n (DN cl f c' pm ctv)->
  aJ G.M A (dE (.ref f) [.int x tx,.int L tL,.int R tR]) (λw s'=>G.Kq (λb=>(s.heap.get? b=ae∧G.H.objs.size<=b)∨Z l=Z b) s s'∧∃jc,s'.heap.PlainList l jc∧bb s'.heap (Ow O (Z l)) jc.toList (ys.map .int)) cW s
noncomputable def qJ(xs:List Int)(n:Int)(f c':aL)(T:bq->az->Prop):aE:=[("a_digits",.own (xs.map .int)),("n",.val (.int n)),("inner",.fn (zw f c') T (λ_=>ae) 0)]
def BX(env:nJ)(cl:List (Str×aL)):Prop:=∀x,x=("a_digits":Str)∨x="n"∨x="inner"->Bm env x∧env.cells.lookup x=cl.lookup x
theorem Rp.of{f:aL}{xs:List Int}{n:Int}(Ek:dQ G env)(S:SR G env O a ρ s.heap)(hm:∀p∈qJ xs n f c' (DN cl f c' pm ctv),p∈ρ)(hk:BX env cl):
 ∃l items,a=Z l∧s.heap.PlainList l items∧bb s.heap (Ow O a) items.toList (xs.map .int)∧Rp G s.heap O cl f l n (DN cl f c' pm ctv):=by
 refine bh S.ns λm hn fs=>?_;have zg:∀x c v,env.cells.lookup x=Z c->s.heap.IsCell c v->¬O c∧G.H.objs.size<=c:=λx c v hc hv=>⟨S.nc x c hc,Ek.co x c hc⟩;obtain⟨_,l,items,l1,ha,hl,r1⟩:=fs _ (hm _ (.head _));obtain⟨_,v2,l2,r2⟩:=fs _ (hm _ (.tail _ (.head _)));obtain⟨_,v3,l3,t3,F3⟩:=fs _ (hm _ (.tail _ (.tail _ (.head _))));refine c8 (hk _ (.inl rfl)) λk1 e1=>c8 (hk _ (.inr (.inl rfl))) λk2 e2=>c8 (hk _ (.inr (.inr rfl))) λk3 e3=>bh (n6 k1 l1) λc1 a1 b1=>bh (n6 k2 l2) λc2 a2 b2=>bh (n6 k3 l3) λc3 a3 b3=>?_;have r2:jT s.heap (Ow O a) v2 (.int n):=r2;refine bQ r2 λt2 Ac=>?_;subst Ac;refine eP t3 λAc YN YM=>?_;subst Ac;exact⟨l,items,ha,hl,r1,⟨rfl,YN,YM⟩,λh=>F3.nO _ (.inl rfl) (.inl h),⟨c1,e1▸a1,b1,zg _ _ _ a1 b1⟩,⟨c2,t2,e2▸a2,b2,zg _ _ _ a2 b2⟩,⟨c3,e3▸a3,b3,zg _ _ _ a3 b3⟩⟩
theorem rW{h:bq}{v:az}{i:Int}(r:jT h O v (.int i)):∃t,v=.int i t:=by
 exact r
theorem gj.FN{f:aL}{xs ys:List Int}{P:Int->Int->Int->List Int->Option (List Int)}{p:eL}{e3:aG}{x Rr:Int}(hI:∀l,EB G N cl f c' l pm ctv nn P)(hN:N<=n)(hm:∀p∈qJ xs nn f c' (DN cl f c' pm ctv),p∈ρ)(hk:BX env cl)
 (h:wb G n env ρ [e1,e2,e3] [.int x,.int L,.int Rr]) (hP:P x L Rr xs=Z ys):gj G n sc env ch ρ (.Expr (.Call (.Name "inner" p) [e1,e2,e3] [] mq) pos) (.next (pR ρ "a_digits" (ys.map .int))):=λA s O a B R Ek hs W S b=>by
 have hA:=h.toA;refine GO ?_ (by unfold RG;exact J Ek.kind rfl) rfl;refine bh S.ns λm hn fs=>?_;obtain⟨nd,v3,l3,t3,F3⟩:=fs _ (hm _ (.tail _ (.tail _ (.head _))));refine eP (id t3) λM3 YN YM=>?_;subst M3;show aJ G.M A (do nk mq (←iD (.Name "inner" p) env) [] (gv mq (dq [e1,e2,e3] env)) []) _ _ s;refine ai (jf (fA Ek hn l3 ?_) nd);refine gd (P:=λH=>G.Wd H∧DN cl f c' pm ctv H (.ref f)) (J hA.noStar rfl) (λH hH=>F3.kp H _ hH.1 hH.2) (ar (h.Bg A s O a R Ek W S) (λy s1 x1=>?_) λ_ _ x=>x);have S1:=S.kx W x1.1;refine dn (Rp.of Ek S1 hm hk) λl items ha hl r Ad=>⟨⟨x1.1.wd,Ad.t⟩,?_⟩;refine J x1.2.2 (bV x1.2.1.inv λu1 ma ev q1 w1=>bV w1.inv λu2 T3 Ej q2 w2=>?_);subst Ej;refine bV w2.inv λu3 vs3 JG q3 w3=>?_;subst JG;rw[cV w3]at ev;refine bQ (rW q1) λtx M1=>?_;subst M1;refine bQ (rW q2) λtL JF=>?_;subst JF;refine bQ (rW q3) λtR JE=>?_;subst JE;show aJ G.M A (dE (.ref f) ([]++y.pos)) _ _ s1;refine J ev ?_;subst ha;have lo:=b.lo l (b.ow l rfl);refine ar (hI l A s1 O items x L Rr xs ys tx tL tR hP (R.le hN) x1.1.wd S1.al (S1.ow l rfl).1 lo hl r Ad) (λw s2 x2=>?_) λ_ _ x=>x;refine xk x2 λkq jc vZ r'=>?_;have b2:=b.step x1.1.kq b.ow;refine⟨x1.1.kq.trans (kq.mono λc hc _=>hc.elim (λh=>b2.new c h.1 h.2) λh=>b.ow c h),rfl,Z l,?_,b.ow,λ_=>rfl⟩;exact Dz x1.1.wd S1 (hm _ (.head _)) rfl kq (λc hc=>hc.imp (λh=>h.1) λh=>by refine qS h ?_;rfl) vZ r'
def HF(n x L jZ:Int)(k:Int->Int->Option (List Int)):Option (List Int):=
 bif sa (jZ-L) n&&ah (0<=(jZ-L)*n)&&ah ((ak (x.fdiv (2^((jZ-L)*n).toNat)):Int)+(jZ-L)*n<=2^27)then k (x.fdiv (2^((jZ-L)*n).toNat)) (x.fdiv (2^((jZ-L)*n).toNat)*2^((jZ-L)*n).toNat)else ae
noncomputable def jV(n:Int):Nat->Int->Int->Int->List Int->Option (List Int)
 |0,_,_,_,_=>ae
 |j+1,x,L,R,xs=>bif L+1==R then(bif ah (0<=L)&&ah (L.toNat<xs.length)&&ah (xs.length<=fB)then Z (xs.set L.toNat x)else ae)else
  HF n x L ((L+R).fdiv (2^(1:Int).toNat)) λup us=>(jV n j (bD x us) L ((L+R).fdiv (2^(1:Int).toNat)) xs).bind λys=>jV n j up ((L+R).fdiv (2^(1:Int).toNat)) R ys
theorem Va{n:Int}{x R:Int}{xs:List Int}:jV n (j+1) x L R xs=bif L+1==R then(bif ah (0<=L)&&ah (L.toNat<xs.length)&&ah (xs.length<=fB)then Z (xs.set L.toNat x)else ae)else
 HF n x L ((L+R).fdiv (2^(1:Int).toNat)) λup us=>(jV n j (bD x us) L ((L+R).fdiv (2^(1:Int).toNat)) xs).bind λys=>jV n j up ((L+R).fdiv (2^(1:Int).toNat)) R ys:=rfl
def jρ(xs:List Int)(n:Int)(f c':aL)(T:bq->az->Prop)(x L R:Int):aE:=("x",.val (.int x))::("L",.val (.int L))::("R",.val (.int R))::qJ xs n f c' T
abbrev jρ1(xs:List Int)(n:Int)(f c':aL)(T:bq->az->Prop)(x L R jZ:Int):aE:=("mid",.val (.int jZ))::jρ xs n f c' T x L R
abbrev jρ2(xs:List Int)(n:Int)(f c':aL)(T:bq->az->Prop)(x L R jZ sh:Int):aE:=("shift",.val (.int sh))::jρ1 xs n f c' T x L R jZ
abbrev jρ3(xs:List Int)(n:Int)(f c':aL)(T:bq->az->Prop)(x L R jZ sh up:Int):aE:=("upper",.val (.int up))::jρ2 xs n f c' T x L R jZ sh
abbrev jρ4(xs:List Int)(n:Int)(f c':aL)(T:bq->az->Prop)(x L R jZ sh up Yh:Int):aE:=("lower",.val (.int Yh))::jρ3 xs n f c' T x L R jZ sh up
noncomputable abbrev jρ5(ys:List Int)(n:Int)(f c':aL)(T:bq->az->Prop)(x L R jZ sh up Yh:Int):aE:=[("a_digits",.own (ys.map .int)),("lower",.val (.int Yh)),("upper",.val (.int up)),("shift",.val (.int sh)),("mid",.val (.int jZ)),("x",.val (.int x)),("L",.val (.int L)),("R",.val (.int R)),("n",.val (.int n)),("inner",.fn (zw f c') T (λ_=>ae) 0)]
def Co(G:Gd)(n:Nat)(env:nJ)(ρ:aE)(ss:List bX)(ys:List D):Prop:=
 ∀(A:dZ) (s:aK) (O:aL->Prop) (a:Option aL) (B:aL->Prop),g9 A n->dQ G env->ql env.scope env->G.Wd s.heap->SR G env O a ρ s.heap->Cq G env.scope env a B s->
  aJ G.M A (GU ss env) (λf s'=>(f=.next∨f=.ret .none)∧G.Kq B s s'∧∃l items,a=Z l∧s'.heap.PlainList l items∧bb s'.heap (Ow O a) items.toList ys) cW s
theorem Co.of_next(h:mv G n env.scope env ag ρ ss (.next ρ'))(hm:(x,jS.own ys)∈ρ'):Co G n env ρ ss ys:=λA s O a B R Ek hs W S b=>
 ar (h A s O a B R Ek hs W S b) (λf s' p=>by
  refine lK p λkq M2 a' S' ha' nQ=>?_;subst M2;obtain rfl:=nQ rfl;refine bh S'.ns λm hn fs=>?_;obtain⟨_,l',jc,_,vZ,B0,r'⟩:=fs _ hm;exact⟨.inl rfl,kq,l',jc,vZ,B0,r'⟩) λ_ _ x=>x
theorem PQ(hE:mT G n E1)(hN:N<=n){f:aL}(hI:∀l,EB G N cl f c' l pm ctv nn (jV nn j)){xs ys:List Int}{x R:Int}(hP:jV nn (j+1) x L R xs=Z ys)(jm:env.scope=jb)(pP:env.cells=cl):
 Co G n env (jρ xs nn f c' (DN cl f c' pm ctv) x L R) uy (ys.map .int):=by
 have hk:BX env cl:=by
  have kk:∀x,env.kindOf x=jb.names.lookup x:=λx=>by exact rF jm rfl
  rintro x (rfl|rfl|rfl)<;>exact⟨.inr ((kk _).trans (by kernel_rfl)),by exact J pP rfl⟩
 generalize hT:DN cl f c' pm ctv=T at*;replace hP:=Va.symm.trans hP
 cases hc:L+1==R with
 |true=>
  rw[hc]at hP;have g:=(cT hP).1;have hv:=(cT hP).2;simp only[bG,decide_eq_true_eq]at g;refine c8 g λz1 g3=>c8 z1 λg1 g2=>?_;subst hv;intro A s O a B Rm Ek hs W S b;have ht:Tr G n env (jρ xs nn f c' T x L R) _ af:=fe hE 9 (e:=match aY 0 uy with|.If t _ _ _=>t|_=>default) (by refine J jm (rF hc ?_);kernel_rfl)
  have agi:gj G n env.scope env ag (jρ xs nn f c' T x L R) (match aY 0 uy with|.If _ (s::_) _ _=>s|_=>.Pass default) (.next (pR (jρ xs nn f c' T x L R) "a_digits" ((xs.map .int).set L.toNat (.int x)))):=by
   refine gj.Uv (xs:=xs.map .int) (d:=.int x) (k:=L) ?_ (b7 hE ?_) (b7 hE ?_) ?_ ?_ g1 ?_ ?_
   ·exact .tail _ (.tail _ (.tail _ (.head _)))
   ·refine J jm ?_;kernel_rfl
   ·refine J jm ?_;kernel_rfl
   ·rfl
   ·rfl
   ·exact J (au ..) g2
   ·exact J (au ..) g3
  show aJ G.M A (GU (.If _ [_,.Return ae _] [] _::_) env) _ _ s;refine ij (J (arm_exec_If ..) ?_);refine ai (bU (ai (ar (ht A s O a Rm Ek W S) (λv s1 x1=>?_) λ_ _ x=>x)));refine Se x1 λk=>ij (ar (agi A s1 O a B Rm Ek hs k.wd (S.kx W k) (b.step k.kq b.ow)) (λfl s2 p=>?_) λ_ _ x=>x);refine lK p λkq M1 a' S' ha' nQ=>?_;subst M1;obtain rfl:=nQ rfl;refine ij (J (abK ..) ?_);refine ai (bU (ay ?_));refine bh S'.ns λm hn fs=>?_;obtain⟨_,l',jc,_,vZ,B0,r'⟩:=fs _ bf;refine⟨.inr rfl,k.kq.trans kq,l',jc,vZ,B0,?_⟩;exact J Yq r'
 |false=>
  rw[hc]at hP;generalize Jp:(L+R).fdiv (2^(1:Int).toNat)=jZ at*;unfold HF at hP;have g:=(ig hP).1;replace hP:=(ig hP).2;simp only[bG,decide_eq_true_eq]at g;refine c8 g λz1 g3=>c8 z1 λg1 g2=>?_;generalize hsh:(jZ-L)*nn=sh at*;generalize hup:x.fdiv (2^sh.toNat)=up at*;generalize hus:up*2^sh.toNat=us at*
  have h1:wW .Mult (.int (jZ-L)) (.int nn)=Z (.int sh):=by
   show(bif sa (jZ-L) nn then Z (aI ((jZ-L)*nn))else ae)=_;exact J g1 (J hsh rfl)
  have h2:wW .RShift (.int x) (.int sh)=Z (.int up):=by
   show(bif ah (0<=sh)then Z (aI (x.fdiv (2^sh.toNat)))else ae)=_;exact J (aq g2) (J hup rfl)
  have h3:wW .LShift (.int up) (.int sh)=Z (.int us):=by
   show(bif ah (0<=sh)&&ah ((ak up:Int)+sh<=2^27)then Z (aI (up*2^sh.toNat))else ae)=_;exact J (aq g2) (J (aq g3) (J hus rfl))
  ·refine bE hP λzs h4 h5=>?_;have e1:vU (jρ xs nn f c' T x L R) "mid" (.val (.int jZ))=jρ1 xs nn f c' T x L R jZ:=by kernel_rfl
   have e2:vU (jρ1 xs nn f c' T x L R jZ) "shift" (.val (.int sh))=jρ2 xs nn f c' T x L R jZ sh:=by kernel_rfl
   have e3:vU (jρ2 xs nn f c' T x L R jZ sh) "upper" (.val (.int up))=jρ3 xs nn f c' T x L R jZ sh up:=by kernel_rfl
   have e4:vU (jρ3 xs nn f c' T x L R jZ sh up) "lower" (.val (.int (bD x us)))=jρ4 xs nn f c' T x L R jZ sh up (bD x us):=by kernel_rfl
   have e5:pR (jρ4 xs nn f c' T x L R jZ sh up (bD x us)) "a_digits" (zs.map .int)=jρ5 zs nn f c' T x L R jZ sh up (bD x us):=by kernel_rfl
   refine Co.of_next (x:="a_digits") (ρ':=pR (jρ5 zs nn f c' T x L R jZ sh up (bD x us)) "a_digits" (ys.map .int)) ?_ bf;refine mv.cons (gj.Vp (c:=ag) (fe hE 9 ?_) mv.nil) (mv.cons (gj.assign ?_ ?_ (d:=.int jZ) (b7 hE ?_)) ?_)
   ·refine J jm (rF hc ?_);kernel_rfl
   ·refine J jm ?_;kernel_rfl
   ·kernel_rfl
   ·refine J jm (rF Jp ?_);kernel_rfl
   refine J e1 (mv.cons (gj.assign ?_ ?_ (d:=.int sh) (.bin (d1:=.int (jZ-L)) (d2:=.int nn) (hE env _ _ _ ?_).1 (hE env _ _ _ ?_).1 (oe h1))) ?_)
   ·refine J jm ?_;kernel_rfl
   ·kernel_rfl
   ·refine J jm ?_;kernel_rfl
   ·refine J jm ?_;kernel_rfl
   refine J e2 (mv.cons (gj.assign ?_ ?_ (d:=.int up) (.bin (d1:=.int x) (d2:=.int sh) (hE env _ _ _ ?_).1 (hE env _ _ _ ?_).1 (oe h2))) ?_)
   ·refine J jm ?_;kernel_rfl
   ·kernel_rfl
   ·refine J jm ?_;kernel_rfl
   ·refine J jm ?_;kernel_rfl
   refine J e3 (mv.cons (gj.assign ?_ ?_ (d:=.int (bD x us)) (.bin (d1:=.int x) (d2:=.int us) (hE env _ _ _ ?_).1 (Ev.bin (d1:=.int up) (d2:=.int sh) (hE env _ _ _ ?_).1 (hE env _ _ _ ?_).1 (oe h3)).w .xor)) ?_)
   ·refine J jm ?_;kernel_rfl
   ·kernel_rfl
   ·refine J jm ?_;kernel_rfl
   ·refine J jm ?_;kernel_rfl
   ·refine J jm ?_;kernel_rfl
   refine J e4 ?_;subst hT;have hm4:∀p∈qJ xs nn f c' (DN cl f c' pm ctv),p∈jρ4 xs nn f c' (DN cl f c' pm ctv) x L R jZ sh up (bD x us):=λp hp=>.tail _ (.tail _ (.tail _ (.tail _ (.tail _ (.tail _ (.tail _ hp))))))
   have hm5:∀p∈qJ zs nn f c' (DN cl f c' pm ctv),p∈jρ5 zs nn f c' (DN cl f c' pm ctv) x L R jZ sh up (bD x us):=λp hp=>by
    unfold qJ at hp;simp only[aM,dU,or_false]at hp⊢;refine x6 hp (λh=>?_) (λh=>?_) λh=>?_
    ·exact .inl h
    ·exact .inr (.inr (.inr (.inr (.inr (.inr (.inr (.inr (.inl h))))))))
    ·exact .inr (.inr (.inr (.inr (.inr (.inr (.inr (.inr (.inr h))))))))
   refine mv.cons (gj.FN hI hN hm4 hk (.cons (b7 hE ?_) (.cons (b7 hE ?_) (.cons (b7 hE ?_) .nil rfl) rfl) rfl) h4) ?_
   ·refine J jm ?_;kernel_rfl
   ·refine J jm ?_;kernel_rfl
   ·refine J jm ?_;kernel_rfl
   refine J e5 (mv.cons (gj.FN hI hN hm5 hk (.cons (b7 hE ?_) (.cons (b7 hE ?_) (.cons (b7 hE ?_) .nil rfl) rfl) rfl) h5) mv.nil)
   ·refine J jm ?_;kernel_rfl
   ·refine J jm ?_;kernel_rfl
   ·refine J jm ?_;kernel_rfl
end
section
variable{ch:Bool}
theorem PP(K:l8 G)(hE:mT G n E1)(hN:N<=n){f:aL}(hI:∀l,EB G N cl f c' l pm ctv nn (jV nn j))
 (pP:∀x c,cl.lookup x=Z c->x="a_digits"∨x="n"∨x="inner") (FU:∀x y c,cl.lookup x=Z c->cl.lookup y=Z c->x=y) (l:aL):EB G (n+1) cl f c' l pm ctv nn (jV nn (j+1)):=λA s O items x L R xs ys tx tL tR hP Rm W al hO lo xV rl Ad=>by
 refine eP (id Ad.t) λ_ t1 t2=>bh K.nolimit λmc VG yK=>?_;have VM:=Rm.depth;refine uJ (vV (by unfold GR;lia) t1 rfl (by kernel_rfl) (by kernel_rfl) rfl t2.rec ?_);have hb:As {name:="inner",qualname:=XQ,params:=iU Je,body:=.stmts uy,scope:=jb,globals:=bO,closure:=cl,defaults:=.none,kwdefaults:=.none,doc:=.none,pyModule:=pm,annotations:=ae,code:=.ref c',closureTuple:=ctv,builtins:=dK} ⟨[lC x tx,lC L tL,lC R tR],[]⟩=pure [(("x":Str),lC x tx),(("L":Str),lC L tL),(("R":Str),lC R tR)]:=rfl;refine J hb (ay ?_);refine iP Ad.dg λcd d1 d2 d3 d4=>dn Ad.nn λcn tn n1 n2 n3 n4=>iP Ad.Oq λci i1 i2 i3 i4=>?_
 have fk:∀x,jb.names.lookup x=Z .free->x="a_digits"∨x="n"∨x="inner":=λx hx=>by
  have hm:=mem_of_lookup hx;have qb:jb.names.all (λq=>!(q.2==.free)||q.1==("a_digits":Str)||q.1==("n":Str)||q.1==("inner":Str))=af:=by kernel_rfl
  have:=a9.mp qb _ hm;simpa[or_assoc]using this
 have gl:∀x c,cl.lookup x=Z c->(∃v,s.heap.IsCell c v)∧¬O c∧G.H.objs.size<=c:=λx c hx=>by
  rcases pP x c hx with rfl|rfl|rfl
  ·rw[d1]at hx;exact qS hx ⟨⟨_,d2⟩,d3,d4⟩
  ·rw[n1]at hx;exact qS hx ⟨⟨_,n2⟩,n3,n4⟩
  ·rw[i1]at hx;exact qS hx ⟨⟨_,i2⟩,i3,i4⟩
 have oM:Al s.heap (Ow O (Z l)):=λb hb=>by
  rcases hb with hb|hb
  ·exact al b hb
  ·refine qS hb (bQ xV λk e=>?_);exact⟨_,e,.seq rfl⟩
 refine Gc (ρ:=jρ xs nn f c' (DN cl f c' pm ctv) x L R) (O:=O) (a:=Z l) W al (λb hb=>by refine qS hb ?_;exact⟨hO,_,xV⟩) (by kernel_rfl) (λx hx=>?_) (λx hx=>?_) ?_ (λx hx=>?_) gl FU (by kernel_rfl) (λp wB=>?_) λrn Ux he jm hlc Qb LY keep Ek2 S2=>?_
 ·have qb:jb.names.all (λq=>!(q.2==.cell))=af:=by kernel_rfl
  have:=a9.mp qb _ hx;simpa using this
 ·simp only[aM,dU,or_false]at hx
  rcases hx with rfl|rfl|rfl<;>kernel_rfl
 ·exact(by decide:([("x":Str),("L":Str),("R":Str)]).Nodup)
 ·rcases fk x hx with rfl|rfl|rfl
  ·exact⟨_,d1⟩
  ·exact⟨_,n1⟩
  ·exact⟨_,i1⟩
 ·have int:∀(i:Int) (t:Xr),NT G s O (Z l) (.int i t) (.val (.int i)):=λi t=>by
   show jT _ _ _ _;exact⟨_,rfl⟩
  unfold jρ qJ at wB;simp only[aM,dU,or_false]at wB
  rcases wB with rfl|rfl|rfl|rfl|rfl|rfl
  ·exact⟨(by decide:(("x":Str)==("__debug__":Str))=ag),.int x tx,.inl (.head _),int _ _⟩
  ·exact⟨(by decide:(("L":Str)==("__debug__":Str))=ag),.int L tL,.inl (.tail _ (.head _)),int _ _⟩
  ·exact⟨(by decide:(("R":Str)==("__debug__":Str))=ag),.int R tR,.inl (.tail _ (.tail _ (.head _))),int _ _⟩
  ·exact⟨(by decide:(("a_digits":Str)==("__debug__":Str))=ag),.ref l,.inr ⟨by kernel_rfl,(by decide:("a_digits":Str)≠"__classdict__"),cd,d1,d2⟩,l,items,rfl,rfl,xV,rl⟩
  ·exact⟨(by decide:(("n":Str)==("__debug__":Str))=ag),.int nn tn,.inr ⟨by kernel_rfl,(by decide:("n":Str)≠"__classdict__"),cn,n1,n2⟩,int _ _⟩
  ·refine⟨(by decide:(("inner":Str)==("__debug__":Str))=ag),.ref f,.inr ⟨by kernel_rfl,(by decide:("inner":Str)≠"__classdict__"),ci,i1,i2⟩,Ad.t,A4 W oM (λh=>?_) Ad.t⟩
   rcases h with h|h
   ·exact Ad.nf h
   ·cases h;refine bQ xV λk e=>?_;rw[t1]at e;injection e with e;injection e with _ _ e;cases e
 ·refine⟨⟨mc,LY.wd.ns VG K.st,yK⟩,N5 ?_⟩;have R':g9 (A.deeper rn) n:=⟨by show A.depth+1+n<=990;lia,by have:=Rm.units;show A.units+3+20*n<=9800;lia,Rm.handled,Rm.guards⟩;have hs:ql rn.scope rn:=λx hx=>(ic hx).1
  have bk:Cq G rn.scope rn (Z l) (λb=>(s.heap.get? b=ae∧G.H.objs.size<=b)∨Z l=Z b) Ux:=by
   refine⟨λb hb=>.inl ?_,λb hb=>.inr hb,λb hb hl=>.inl ⟨?_,hl⟩,λb hb=>hb.elim (λh=>h.2) λh=>by refine qS h ?_;exact lo⟩
   ·rcases hb with rfl|⟨y,hy,ZR⟩
    ·exact J hlc ⟨cU (aV _),W.sz⟩
    ·rw[jm]at hy;rw[Qb]at ZR;exfalso
     rcases pP y b ZR with rfl|rfl|rfl
     ·have:g0 jb "a_digits"=ag:=by kernel_rfl
      rw[this]at hy;exact ff hy
     ·have:g0 jb "n"=ag:=by kernel_rfl
      rw[this]at hy;exact ff hy
     ·have:g0 jb "inner"=ag:=by kernel_rfl
      rw[this]at hy;exact ff hy
   ·cases e:s.heap.get? b with
    |none=>rfl|some o=>rw[keep b o e]at hb;exact R0 hb
  refine ar (PQ hE hN hI hP jm Qb (A.deeper rn) Ux O (Z l) _ R' Ek2 hs LY.wd S2 bk) (λfl s4 p=>?_) λ_ _ x=>x.elim;refine eP p λSH kq z1=>bV z1 λl' jc vZ B0 r'=>?_
  cases vZ
  rcases SH with rfl|rfl<;>exact⟨LY.kq.trans kq,jc,B0,r'⟩
theorem L4(K:l8 G)(B:Bi G){f:aL}(pP:∀x c,cl.lookup x=Z c->x="a_digits"∨x="n"∨x="inner")(FU:∀x y c,cl.lookup x=Z c->cl.lookup y=Z c->x=y):∀j l,EB G j cl f c' l pm ctv nn (jV nn j)
 |0,l=>λA s O items x L R xs ys tx tL tR hP=>by exact bK hP
 |j+1,l=>PP (n:=j) K (ED K B.w) (aV _) (L4 K B pP FU j) pP FU l
end
section
variable{ch:Bool}
theorem zW{v1 v2:az}{x:List D}{k:Int}(hx:x≠[])(h:x.length*k.toNat<=16777216)(hk:-(2^63)<=k∧k<2^63)(r1:gu s.heap O v1 (.list x))(r2:gu s.heap O v2 (.int k))
 (hQ:∀(vs:Array az) (c:Nat),bb s.heap O vs.toList (cz k.toNat x).flatten->Q (.ref s.heap.objs.size) {s with heap:=s.heap.push {cls:=.type "list",data:=.seq vs c}}):
 aJ G.M A (binaryOp .Mult v1 v2) Q cW s:=by
 refine bV r1.list λl items sE v3 q1=>?_;subst sE;refine bQ v3 λc hl=>bQ r2.int λu wQ=>?_;subst wQ;have e1:=q1.length;rw[aX]at e1
 have n9:items.isEmpty=ag:=by
  rw[oX];intro e;rw[e]at e1;exact hx (nI e1.symm)
 refine Il (T:="list") (U:="int") (by decide) ⟨_,hl,rfl⟩ (λs'=>GQ s' k u) acE F.fills_int_mul F.slot_int_rmul repeat_list F.slot_int_index.lookup
  (gR F.slot_int_rmul (GQ s k u) F.entry_int_rmul (F.args_int_rmul_2 _ _) (OH k u l items c)
   ⟨hl,rfl,⟨_,hl,rfl⟩,gR F.slot_list_mul ⟨_,hl,rfl⟩ F.entry_list_mul (F.args_list_mul_2 _ _)
    (uk l items c k u (by simp[dY];exact And.symm ((λ{a b}=>And.comm.mp) hk)) (by refine J e1 ?_;lia) (by simp[oi,l9];refine J e1 ?_;exact aj (by assumption) (by decide)))
    ⟨hl,hQ _ _ ?_⟩⟩)
 exact J n9 (J (abI ..) (q1.rep _))
theorem gj.UH{p bp:eL}{k:Int}(hx:g0 sc x=af)(h1:wb G n env ρ es ds)(h2:Ev G n env ρ r (.int k))(n9:ds≠[])(hz1:ds.length<=16777216)(hz:ds.length*k.toNat<=16777216)(hk:-(2^63)<=k∧k<2^63):
 gj G n sc env af ρ (.Assign [.Name x px] (.BinOp (.List es p) .Mult r bp) pos) (.next ((x,.own (cz k.toNat ds).flatten)::(Internal.fq ρ).filter λp=>!(p.1==x))):=λA s O a B R Ek hs W S b=>by
 refine lO (pT rfl) (wpAny_BinOp (ar (Ev.list h1 hz1 A s O a R Ek W S) (λv1 s1 x1=>ar (h2 A s1 O a R Ek x1.1.wd (S.kx W x1.1)) (λv2 s2 x2=>?_) λ_ _ x=>x) λ_ _ x=>x));have kx:=x1.1.trans x2.1;have S2:=S.kx W kx;refine zW (O:=Ow O a) n9 hz hk (.inl (x1.2.ke x1.1.wd x2.1.ke)) (.inl x2.2) λvs c rr=>?_;have k3:G.Kx s {s2 with heap:=s2.heap.push {cls:=.type "list",data:=.seq vs c}}:=kx.trans (Gd.Kx.of (tk:=s2.toks) kx.wd (bL _))
 have hn:s.heap.get? s2.heap.objs.size=ae:=by
  cases e:s.heap.get? s2.heap.objs.size with
  |none=>rfl
  |some o=>
   exact bQ (aW.mp (kx.ex _ (J e rfl))) λo' e'=>absurd (aZ e') (eA _)
 have rr2:bb (s2.heap.push {cls:=.type "list",data:=.seq vs c}) (λb=>Ow O a b∨b=s2.heap.objs.size) vs.toList (cz k.toNat ds).flatten:=rr.mono (λb o e _ _=>bL _ b o e) λb hb hO h=>by
  refine jR h (λh=>?_) λh=>?_
  ·exact hO h
  ·exact bQ (aW.mp hb) λo e=>absurd (aZ e) (J h (eA _))
 refine eZ (pU Ek hx hs W S k3 hn ⟨c,bc _ rfl⟩ rr2 λs3 kp S3=>?_);exact⟨k3.kq.trans (kp.kq.mono λc hc _=>b.fr c hc),rfl,Z s2.heap.objs.size,S3,(λc hc=>by refine qS hc ?_;exact b.new _ hn kx.wd.sz),λh=>by cases h⟩
end
section
variable{ch:Bool}
def Vs(a n:Int):Option (List Int):=(wW .FloorDiv (.int ((ak a:Int)+n-1)) (.int n)).bind λd=>sH d λk=>bif ah (k.toNat<=fB)&&ah (-(2^63)<=k)&&ah (k<2^63)then(bif a !=0 then jV n 40 a 0 (cz k.toNat (0:Int)).length (cz k.toNat 0)else Z (cz k.toNat 0))else ae
theorem K3(k:Nat):(cz k [aI 0]).flatten=(cz k (0:Int)).map aI:=by
 induction k with
 |zero=>rfl|succ k ih=>exact J i5 (J d6 (J ih (J i5 (J aR rfl))))
noncomputable def jF0(xs:List Int)(a nn:Int):aE:=[("a_digits",.own (xs.map .int)),("a",.val (.int a)),("n",.val (.int nn))]
def ZN(xs:List Int)(a nn:Int)(f c':aL)(T:bq->az->Prop):aE:=("inner",.fn (zw f c') T (λ_=>ae) 0)::jF0 xs a nn
set_option tactic.hygienic true in
theorem Vr(K:l8 G)(L:oH G)(B:Bi G){c P:aL}(hq:(c,P)∈G.tabs)(ua:XQ=G.tq P)(fn:vT G "_int2digits" "_int2digits" (iU DO) (bP DO) (c9 DO) c){a:Int}{ys:List Int}(hv:Vs a nn=Z ys):
 eJ G 42 "_int2digits" [.int a,.int nn] (.list (ys.map .int)):=by
 refine eJ.vn (n:=41) (ch:=af) (xs:=["a","n"]) (out:=.ret (.list (ys.map .int))) K fn (by kernel_rfl) (λh=>by rw[show je (c9 DO)=ag by kernel_rfl]at h;exact ff h) rfl (λpm cd doc vs Vw=>?_) (.inl rfl) λenv jm ET Sw=>?_
 ·rcases vs with _|⟨v1,_|⟨v2,_|_⟩⟩
  ·cases Vw
  ·cases Vw
  ·rfl
  ·simp at Vw
 ·refine bE hv λd hk hv=>?_;revert hk;refine uz hv λk hv hk=>?_
  ·have g:=(ig hv).1;replace hv:=(ig hv).2;simp only[bG,decide_eq_true_eq]at g;refine c8 g λz1 g3=>c8 z1 λg1 g2=>?_;have hE:mT G 41 (ev Cb 8):=lP K (Tj B) 8;have kk:∀x,env.kindOf x=(c9 DO).names.lookup x:=λx=>by exact rF jm rfl
   have s1:gj G 41 env.scope env af (oq ["a","n"] [.int a,.int nn]) (aY 0 (bP DO)) (.next (("a_digits",.own (cz k.toNat [aI 0]).flatten)::(fq (oq ["a","n"] [.int a,.int nn])).filter λp=>!(p.1==("a_digits":Str)))):=by
    refine gj.UH (ds:=[.int 0]) ?_ (.cons (b7 hE ?_) .nil rfl) (b7 hE ?_) (by simp) (by decide) (by simpa using g1) ⟨g2,g3⟩
    ·refine J jm ?_;kernel_rfl
    ·kernel_rfl
    ·refine J jm (rF hk ?_);kernel_rfl
   rw[K3]at s1;generalize hxs:cz k.toNat (0:Int)=xs at s1 hv;have ZT:xs.length<=fB:=by exact rF hxs (J eU g1)
   have e0:(("a_digits",.own (xs.map .int))::(fq (oq ["a","n"] [.int a,.int nn])).filter (λp=>!(p.1==("a_digits":Str))):aE)=jF0 xs a nn:=by kernel_rfl
   rw[e0]at s1;intro A s O a0 Bb R Ek hs W S b;have iq:∀x,(c9 DO).names.lookup x=Z .cell->∃c,env.cells.lookup x=Z c:=λx hx=>Ek.cl x (.inl ((kk x).trans hx));show aJ G.M A (GU (aY 0 (bP DO):: .FunctionDef "inner" (iU Je) uy [] ae [] jb ae "inner" _::[aY 2 (bP DO),aY 3 (bP DO)]) env) _ _ s;refine ij (ar (s1 A s O a0 Bb R Ek hs W S b) (λfl s1' p1=>?_) λ_ _ x=>x);refine lK p1 λXO jE a1 S1 ha1 _=>?_;subst jE;have b1:=b.step XO ha1;refine ij (Bf (sc:=env.scope) K L hq ET (J Sw (rF ua rfl)) (by refine J jm ?_;kernel_rfl) rfl rfl rfl ?_ R Ek hs XO.wd S1 b1 λf c' pm ctv s2 XN S2 b2=>?_)
   ·intro p hp hf;have qb:jb.names.all (λq=>!(q.2==.free)||(c9 DO).names.lookup q.1==Z .cell)=af:=by kernel_rfl
    have:=a9.mp qb _ hp;rw[hf]at this;exact iq _ (by simpa using this)
   ·refine bQ (iq "a_digits" (by kernel_rfl)) λcd DZ=>bQ (iq "n" (by kernel_rfl)) λcn Ms=>bQ (iq "inner" (by kernel_rfl)) λci VO=>?_;have hqe:env.qual++"inner"=XQ:=by exact J Sw rfl
    rw[hqe]at S2;generalize pP:lZ env.cells jb.names []=cl at S2
    have e1:∀x,x=("a_digits":Str)∨x="n"∨x="inner"->env.cells.lookup x=cl.lookup x:=by
     rintro x (rfl|rfl|rfl)
     ·refine rF pP (DZ.trans (iN ?_ (b:=Z ((env.cells.lookup ("a_digits":Str)).getD 0)) (by kernel_rfl)));exact J DZ rfl
     ·refine rF pP (Ms.trans (iN ?_ (b:=Z ((env.cells.lookup ("n":Str)).getD 0)) (by kernel_rfl)));exact J Ms rfl
     ·refine rF pP (VO.trans (iN ?_ (b:=Z ((env.cells.lookup ("inner":Str)).getD 0)) (by kernel_rfl)));exact J VO rfl
    have hlk:BX env cl:=λx hx=>⟨.inl ((kk _).trans (by rcases hx with rfl|rfl|rfl<;>kernel_rfl)),e1 x hx⟩
    have Mt:∀x c,cl.lookup x=Z c->x="a_digits"∨x="n"∨x="inner":=λx c hx=>by
     have qb:(lZ env.cells jb.names []).all (λq=>q.1==("a_digits":Str)||q.1==("n":Str)||q.1==("inner":Str))=af:=by kernel_rfl
     rw[pP]at qb;have:=a9.mp qb _ (mem_of_lookup hx);simpa[or_assoc]using this
    have FU:∀x y c,cl.lookup x=Z c->cl.lookup y=Z c->x=y:=λx y c hx hy=>by
     have z:∀x,cl.lookup x=Z c->env.cells.lookup x=Z c:=λx hx=>(e1 x (Mt x c hx)).trans hx;exact Ek.apart x y c (z x hx) (z y hy)
    have hI:=L4 (G:=G) (f:=f) (c':=c') (pm:=pm) (ctv:=ctv) (nn:=nn) K B Mt FU 40;have hρ:(("inner",.fn (zw f c') (Am "inner" XQ (iU Je) uy jb cl f c' pm ctv) (λ_=>ae) 0)::(jF0 xs a nn).filter (λp=>!(p.1==("inner":Str))):aE)=ZN xs a nn f c' (DN cl f c' pm ctv):=by kernel_rfl
    rw[hρ]at S2
    have hm:∀p∈qJ xs nn f c' (DN cl f c' pm ctv),p∈ZN xs a nn f c' (DN cl f c' pm ctv):=λp hp=>by
     unfold qJ at hp;unfold ZN jF0;simp only[aM,dU,or_false]at hp⊢;refine x6 hp (λh=>?_) (λh=>?_) λh=>?_
     ·exact .inr (.inl h)
     ·exact .inr (.inr (.inr h))
     ·exact .inl h
    have run:mv G 41 env.scope env af (ZN xs a nn f c' (DN cl f c' pm ctv)) [aY 2 (bP DO),aY 3 (bP DO)] (.ret (.list (ys.map .int))):=by
     cases ha:a !=0 with
     |true=>
      rw[ha]at hv;simp only[cond_true]at hv;refine mv.cons (gj.Vp (c:=af) (fe hE 9 ?_) (mv.cons (gj.FN (ρ:=ZN xs a nn f c' (DN cl f c' pm ctv)) hI (by decide) hm hlk (.cons (b7 hE ?_) (.cons (b7 hE ?_) (.cons (b7 hE ?_) .nil rfl) rfl) rfl) hv) mv.nil)) (mv.ret (gj.Fm bf))
      ·refine J jm (rF ha ?_);kernel_rfl
      ·refine J jm ?_;kernel_rfl
      ·refine J jm ?_;kernel_rfl
      ·refine J jm (iN (b:=qk "len" [.list (xs.map .int)]) (by kernel_rfl) ?_);show(bif(("len":Str)=="len")&&ah ((xs.map aI).length<=fB)then Z (aI (xs.map aI).length)else _)=_;exact J (au ..) (J (aq ZT) rfl)
     |false=>
      rw[ha]at hv;simp only[cond_false]at hv;refine qS hv (mv.cons (gj.Vp (c:=ag) (fe hE 9 ?_) mv.nil) (mv.ret (gj.Fm (.tail _ (.head _)))));refine J jm (rF ha ?_);kernel_rfl
    exact ar (run A s2 O a1 Bb R Ek hs XN.wd S2 b2) (λfl s3 p=>⟨(XO.trans XN).trans p.1,p.2⟩) λ_ _ x=>x
end
section
variable{ch:Bool}
section
variable{prog:Program}{w:pQ}{E:az->aK->Prop}
theorem Bk{it t:aL}(n9:t≠it):∀(n i:Nat) (s:aK) (Q:List az->aK->Prop),s.heap.IsListIter it t i->s.heap.IsList t items->i+n<=items.size->
 (∀h',h'.IsListIter it t (i+n)->d7 it s.heap h'->Q ((items.toList.drop i).take n) {s with heap:=h'})->aJ (Ym prog w) A (draw (.ref it) n) Q E s
 |0,i,s,Q,GN,_,_,hQ=>by
  show aJ _ _ (pure []) Q E s;exact ay (by simpa using hQ s.heap GN (CB ..))
 |n+1,i,s,Q,GN,ht,EY,hQ=>by
  have jJ:i<items.size:=by exact fJ EY
  show aJ _ _ (nj (.ref it)>>=_) Q E s;refine ai (wpAny_pyNext_list_item GN ht (x:=items[i]) (by simp[jJ]) λh₁ VJ A5=>?_);refine ai (bg (Bk n9 n (i+1) _ _ VJ (ht.extBut A5.extBut n9) (by lia) λh₂ agz xH=>ay ?_));have hd:items.toList.drop i=items[i]::items.toList.drop (i+1):=by simp[io,jJ]
  have:=hQ h₂ (J (show i+(n+1)=i+1+n by exact tD (gk i n)) agz) (A5.trans xH);rw[hd,uZ]at this;exact this
theorem wj{t:aL}{Q:List az->aK->Prop}(hh:A.handled=ae)(ht:s.heap.IsList t items)
 (hQ:∀h',IB s.heap.objs.size s.heap h'->Q items.toList {s with heap:=h'}):aJ (Ym prog w) A (unpackItems (.ref t) items.size ae) Q E s:=by
 have jJ:t≠s.heap.objs.size:=by refine bh ht λo ho _=>?_;exact du (aZ ho)
 refine ai ?_
 ·skip
  refine ai (EI ht.typeIs slot_list_iter.lookup ?_);refine ay ?_;simp only[pg,if_false];refine ai (bg (Yj ht ?_));refine ai (bg (Bk jJ items.size 0 _ _ ⟨_,bc _ rfl,rfl,rfl⟩ (ht.push _) (by lia) λh₁ VJ A5=>?_))
  have qb:x8 items.size (ya 0 items.toList)=items.toList:=by
   exact J j7 (cE (by simp))
  refine J qb (J (bF (by simp)) ?_);have ht₁:h₁.IsList t items:=(ht.push _).extBut A5.extBut jJ;refine ai (bg (wpAny_pyNext_list_end hh VJ ht₁ (by simp) λh₂ he₂=>?_));simp only[Option.isSome_none,pg,if_false];refine ay (hQ h₂ λb o hb e=>he₂ b o hb (A5.extBut b o hb (eG _ e)))
end
theorem gj.OW{p1 p2 p:eL}(h:Ev G n env ρ (.ListComp iw gens scope p) (.list [d1,d2]))(hx:g0 sc x=af)(hy:g0 sc y=af):
 gj G n sc env ch ρ (.Assign [.Tuple [.Name x p1,.Name y p2] tk tp] (.ListComp iw gens scope p) pos) (.next (vU (vU ρ x (.val d1)) y (.val d2))):=λA s O a B R Ek hs W S b=>by
 refine Od (ar (h A s O a R Ek W S) (λv s1 x1=>?_) λ_ _ x=>x) rfl rfl;have x2:=x1.2;refine dn x2 λl vs qe hO ht r=>?_;subst qe;have el:=r.length;rw[aX]at el;refine J (arm_assign_Tuple ..) (ai (bU ?_));refine ai (bg ?_);refine J (show(fX [.Name x p1,.Name y p2] env).length=vs.size from el.symm) (J (show(fX [.Name x p1,.Name y p2] env).findIdx? (·.1)=ae from rfl) ?_);refine wj R.handled ht.isList λh' ext=>?_;have k0:∀b o,s1.heap.get? b=Z o->h'.get? b=Z o:=λb o e=>ext b o (du (aZ e)) e;have kx:G.Kx s {s1 with heap:=h'}:=x1.1.trans (Gd.Kx.of (tk:=s1.toks) x1.1.wd k0);have rr:bb h' (Ow O a) vs.toList [d1,d2]:=r.mono (λb o e _ _=>k0 b o e) λ_ _ e=>e;refine bV rr.inv λv1 ma e1 ra rb=>bV rb.inv λv2 T3 e2 rb rc=>?_;rw[cV rc]at e2;refine J e1 (J e2 ?_);have S1:=S.kx W kx;show aJ G.M A (do jq [v2] (EM (Expr.Name x p1) env v1);jq [] (EM (Expr.Name y p2) env v2);pure ()) _ _ _;have bb1:nV sc 1 (.Name x p1) d1 ρ=Z (vU ρ x (.val d1)):=by show(bif g0 sc x then Z (vU ρ x (.val d1))else ae)=_;exact J hx rfl
 have bb2:nV sc 1 (.Name y p2) d2 (vU ρ x (.val d1))=Z (vU (vU ρ x (.val d1)) y (.val d2)):=by show(bif g0 sc y then Z (vU (vU ρ x (.val d1)) y (.val d2))else ae)=_;exact J hy rfl
 refine ai (bg (kZ (sc:=sc) hs 1 (.Name x p1) d1 ρ _ bb1 A _ O a v1 _ _ R.handled Ek kx.wd S1 ra λs2 kp S2=>?_))
 have rb2:jT s2.heap (Ow O a) v2 d2:=by
  have h2:bb h' (Ow O a) [v2] [d2]:=bb.cons rb bb.nil;refine bV ((h2.kp kx.wd kp.kp (od (sc:=sc) S1)).inv) λ_ _ e r2 _=>?_
  cases e;exact r2
 refine ai (bg (kZ (sc:=sc) hs 1 (.Name y p2) d2 _ _ bb2 A s2 O a v2 _ _ R.handled Ek kp.wd S2 rb2 λs3 LZ S3=>ay ?_));exact⟨kx.kq.trans ((kp.trans LZ).kq.mono λc hc _=>b.fr c hc),rfl,a,S3,b.ow,λ_=>rfl⟩
end
section
variable{ch:Bool}
theorem Ev.aaX{l m:aG}{o1 o2:yd}{d3:D}{b1 b2:Bool}(h1:rf G n env ρ l d1)(h2:rf G n env ρ m d2)(h3:b1=af->rf G n env ρ r d3)(c1:qm G n o1 d1 d2 b1)(c2:b1=af->qm G n o2 d2 d3 b2)(hm:j3 o2 r=ag):
 Ev G n env ρ (.Compare l [o1,o2] [m,r] pos) (.bool (b1&&b2)):=λA s O a R Ek W S=>by
 have hme:markedEach [o1,o2] [m,r] (evalEach [m,r] env)=[eval m env,eval r env]:=by
  show[eval m env,markedBehindIn o2 r (eval r env)]=_;exact J (markedBehindIn_of_false hm) rfl
 refine J (arm_eval_Compare ..) (J hme ?_);refine ai (ar (h1 A s O a R Ek W S) (λv1 s1 x1=>?_) λ_ _ x=>x);refine chain_link (ar (h2 A s1 O a R Ek x1.1.wd (S.kx W x1.1)) (λv2 s2 x2=>?_) λ_ _ x=>x);have k2:=x1.1.trans x2.1;refine ar (c1 s2 _ v1 v2 x2.1.wd (S.kx W k2).oM (x1.2.ke x1.1.wd x2.1.ke) x2.2 A R) (λv s3 x3=>?_) λ_ _ x=>x;have e:=x3.2;subst e;have k3:=k2.trans x3.1;refine rM ?_
 induction b1 using ax with
 |false=>
  refine⟨k3,?_⟩
  rfl
 |true=>
  show aJ G.M A (compareChain pos v2 [o2] [eval r env]) _ _ _;refine chain_last (ar (h3 rfl A s3 O a R Ek x3.1.wd (S.kx W k3)) (λv4 s4 x4=>?_) λ_ _ x=>x);refine ar (c2 rfl s4 _ v2 v4 x4.1.wd (S.kx W (k3.trans x4.1)).oM ((x2.2.ke x2.1.wd x3.1.ke).ke x3.1.wd x4.1.ke) x4.2 A R) (λv s5 x5=>?_) λ_ _ x=>x;exact⟨(k3.trans x4.1).trans x5.1,x5.2⟩
def Sz(E:bj->aE->aG->Option D)(sc:bj)(ρ:aE)(e:aG):Option D:=
 Sb e λl os rs=>AQ os λo1 o2=>AQ rs λm r=>bif j3 o2 r then ae else(E sc ρ l).bind λd1=>(E sc ρ m).bind λd2=>(sI o1 d1 d2).bind λc=>bif c then((E sc ρ r).bind λd3=>(sI o2 d2 d3).map .bool)else Z (.bool ag)
theorem Mn:∀E,mT G n E->∀(env:nJ) (ρ:aE) (e:aG) (d:D),Sz E env.scope ρ e=Z d->Ev G n env ρ e d:=λE hE env ρ e d h=>by
 refine af6 h λl os rs pos h=>i2 h λo1 o2 h=>i2 h λm r h=>Q8 h λhm h=>bE h λd1 e1 h=>bE h λd2 e2 h=>bE h λc e3 h=>?_
 induction c using ax with
 |false=>
  exact qS h (.aaX (b1:=ag) (b2:=ag) (d3:=.none) (hE env ρ l d1 e1).1 (hE env ρ m d2 e2).1 (λh=>nomatch h) (qh e3) (λh=>nomatch h) hm)
 |true=>
  exact bE h λd3 e4 h=>mE h λb2 e5=>.aaX (hE env ρ l d1 e1).1 (hE env ρ m d2 e2).1 (λ_=>(hE env ρ r d3 e4).1) (qh e3) (λ_=>qh e5) hm
end
def b2(o:gD)(x y:Option D):Option D:=x.bind λa=>y.bind λb=>wW o a b
def c2(o:yd)(x y:Option D):Option Bool:=x.bind λa=>y.bind λb=>sI o a b
def tO(x:Option D):Option Bool:=x.bind Dd
noncomputable def N2(x:Option Bool):Option Bool:=x.bind λb=>bif b then Z af else Z ag
def Ri(x y:Option Bool):Option Bool:=x.bind λb=>bif b then N2 y else Z ag
noncomputable def nA(t:Option Bool)(e:Option D):Option (List D):=t.bind λok=>bif ok then e.map λy=>[y]else Z []
def zZ(x:Option (List D)):Option (List D):=x.bind λds=>bif ah (ds.length<=fB)then Z ds else ae
def qg(xs:List D)(t:D->Option Bool)(e:D->Option D):Option (List D):=zZ ((oQ (λd=>nA (t d) (e d)) xs).map eF)
noncomputable def fS(C:Cx)(f:Str)(a b:Option (List D)):Option D:=match a.bind λds=>C.FS f ds with
 |some d=>Z d
 |none=>b.bind λds=>C.F f ds
noncomputable def one(x:Option D):Option (List D):=x.bind λd=>Z [d]
noncomputable def I(k:Nat):D:=.int k
theorem bx(a:α)(f:α->Option β):(Z a).bind f=f a:=rfl
theorem WW(a b:Nat):dS (a:Int) (b:Int)=((a&&&b:Nat):Int):=by
 exact J (acT (aU a) (aU b)) rfl
theorem bOr(a b:Nat):eQ (a:Int) (b:Int)=((a|||b:Nat):Int):=by
 have h1:¬(0<=aS (a:Int)):=by unfold aS;lia
 have h2:¬(0<=aS (b:Int)):=by unfold aS;lia
 have h3:∀c:Nat,(aS (aS (c:Int))).toNat=c:=λc=>by unfold aS;lia
 unfold eQ;refine J (acU h1 h2) (J (h3 ..) (J (h3 ..) ?_));unfold aS;lia
theorem R7(a b:Nat):a+b=(a|||b)+(a&&&b):=by
 have:=acS (a:Int) (b:Int);rw[WW,bOr]at this
 lia
theorem abl(a b:Nat):bD (a:Int) (b:Int)=((a^^^b:Nat):Int):=by
 unfold bD;refine J (bOr ..) (J (WW ..) ?_)
 have:(a|||b)=(a^^^b)+(a&&&b):=by
  have h:(a^^^b)&&&(a&&&b)=0:=by
   apply eu;intro i;simp only[lE,lD,jk]
   cases a.testBit i<;>cases b.testBit i<;>rfl
  have h2:(a^^^b)|||(a&&&b)=a|||b:=by
   apply eu;intro i;simp only[lE,lD,Cv]
   cases a.testBit i<;>cases b.testBit i<;>rfl
  have:=R7 (a^^^b) (a&&&b);rw[h,h2]at this;lia
 lia
theorem fQ(k:Nat):(0:Int)<2^k:=Int.pow_pos (by decide)
theorem Ut(a k:Nat):(a:Int).fdiv (2^k)=((a>>>k:Nat):Int):=by
 exact J (bS ..) (J (dI _ (mD (fQ k))) (J (show(2:Int)^k=((2^k:Nat):Int) by push_cast;rfl) ((kP a (2^k)).symm)))
theorem jB{a b:Nat}(h:a<2^b):ak (a:Int)<=b:=by
 unfold ak
 split
 ·exact dW b
 ·rename_i h0
  have h0:a≠0:=by
   intro e;subst e;exact h0 rfl
  have:(a:Int).natAbs=a:=dR a;refine J this ?_;have:=(J4 h0).mpr h;exact fH this
theorem iQ(a b:Nat):b2 .BitAnd (Z (I a)) (Z (I b))=Z (I (a&&&b)):=aD (λi=>Z (aI i)) (WW a b)
theorem US(a b:Nat):b2 .BitOr (Z (I a)) (Z (I b))=Z (I (a|||b)):=aD (λi=>Z (aI i)) (bOr a b)
theorem Zo(a b:Nat):b2 .BitXor (Z (I a)) (Z (I b))=Z (I (a^^^b)):=aD (λi=>Z (aI i)) (abl a b)
theorem j1(a b:Nat):b2 .Add (Z (I a)) (Z (I b))=Z (I (a+b)):=aD (λi=>Z (aI i)) (by push_cast;rfl)
theorem t8(a b:Nat)(h:b<=a):b2 .Sub (Z (I a)) (Z (I b))=Z (I (a-b)):=aD (λi=>Z (aI i)) (show(a:Int)-(b:Int)=((a-b:Nat):Int) by exact tD (q6 h))
theorem i7(a b:Nat):b2 .RShift (Z (I a)) (Z (I b))=Z (I (a>>>b)):=by
 show(bif ah (0<=(b:Int))then Z (aI ((a:Int).fdiv (2^(b:Int).toNat)))else ae)=_;exact J (aq (aU b)) (J (bH ..) (J (Ut ..) rfl))
theorem Lr(a b:Nat)(h:a<2^1000)(hb:b<=1000):b2 .LShift (Z (I a)) (Z (I b))=Z (I (a<<<b)):=by
 have D1:=jB h;show(bif ah (0<=(b:Int))&&ah ((ak (a:Int):Int)+(b:Int)<=2^27)then Z (aI ((a:Int)*2^(b:Int).toNat))else ae)=_;refine J (aq (aU b)) (J (aq (show(ak (a:Int):Int)+(b:Int)<=2^27 by lia)) (J (bH ..) (J (RK ..) ?_)));show Z (aI ((a:Int)*2^b))=Z (aI ((a*2^b:Nat):Int))
 push_cast;rfl
theorem DH(a b:Nat)(h:b<2^64):b2 .Mult (Z (I a)) (Z (I b))=Z (I (a*b)):=by
 have D1:=jB h;show(bif sa (a:Int) (b:Int)then Z (aI ((a:Int)*(b:Int)))else ae)=_
 have:sa (a:Int) (b:Int)=af:=by
  unfold sa uX;refine J (bi (show ¬(ak (b:Int)>64) by exact(λ{a b}=>dH.mpr) D1)) ?_;simp
 refine J this ?_;show Z (aI ((a:Int)*b))=Z (aI ((a*b:Nat):Int))
 push_cast;rfl
theorem Ls(a b:Nat)(h:b≠0):b2 .Mod (Z (I a)) (Z (I b))=Z (I (a%b)):=by
 show(bif(b:Int) !=0 then Z (aI ((a:Int).fmod b))else ae)=_;have:((b:Int) !=0)=af:=by simp;exact neN h
 refine J this ?_;show Z (aI ((a:Int).fmod b))=Z (aI ((a%b:Nat):Int));exact J (fL _ (aU b)) (J (kO ..) rfl)
theorem FD(a b:Nat):c2 .Eq (Z (I a)) (Z (I b))=Z (a==b):=by
 show Z ((a:Int)==(b:Int))=_
 congr 1
 rw[cj];simp only[aC];exact Int.ofNat_inj
theorem afe(a b:Nat):c2 .NotEq (Z (I a)) (Z (I b))=Z (a !=b):=by
 show Z ((a:Int) !=(b:Int))=_
 congr 1
 rw[cj];simp only[bne_iff_ne];lia
theorem aff(a b:Nat):c2 .Lt (Z (I a)) (Z (I b))=Z (ah (a<b)):=by
 show Z (ah ((a:Int)<(b:Int)))=_
 congr 1
 rw[cj];simp
theorem mH(a:Nat):tO (Z (I a))=Z (a !=0):=by
 show Z ((a:Int) !=0)=_
 congr 1
 rw[cj];simp
theorem lN(b:Bool):N2 (Z b)=Z b:=by induction b using ax<;>rfl
theorem wY(a b:Bool):Ri (Z a) (Z b)=Z (a&&b):=by induction a using ax<;>induction b using ax<;>rfl
theorem Ep(xs:List Nat):ik (xs.map I)=af:=by
 induction xs with
 |nil=>rfl|cons x xs ih=>exact J aR (J ih rfl)
theorem UU(a:Nat)(xs:List Nat):c2 .In (Z (I a)) (Z (.list (xs.map I)))=Z (xs.contains a):=by
 show Ik (I a) (xs.map I)=_;unfold Ik;refine J (Ep ..) ?_;have h1:(I a).canLay0=af:=rfl;have h2:ah ((I a).depth<=80)=af:=rfl;refine J h1 (J h2 ?_);show Z ((xs.map I).any λy=>mJ y (I a))=_
 congr 1
 induction xs with
 |nil=>rfl
 |cons x xs ih=>
  refine J aR (J CX (J ih (J wg ?_)))
  congr 1
  show((x:Int)==(a:Int))=_;rw[cj];simp only[aC];lia
theorem pZ{f:α->Option β}{g:α->β}:∀{xs:List α},(∀x∈xs,f x=Z (g x))->oQ f xs=Z (xs.map g)
 |[],_=>rfl
 |x::xs,h=>by
  exact J Lz (J (h x bf) (J (pZ λy hy=>h y (ba _ hy)) rfl))
theorem yC{γ:Type}{f:β->Option γ}{g:α->β}:∀{xs:List α},oQ f (xs.map g)=oQ (λx=>f (g x)) xs
 |[]=>rfl|x::xs=>by exact J aR (J Lz (J yC rfl))
theorem sx(p:α->Bool)(k:α->D):∀xs:List α,(xs.map λx=>bif p x then[k x]else[]).flatten=(xs.filter p).map k
 |[]=>rfl
 |x::xs=>by
  refine J aR (J d6 (J (sx p k xs) ?_))
  cases h:p x
  ·exact J (rj (by refine J h ?_;simp)) rfl
  ·exact J (lV h) rfl
theorem oA(h:ds.length<=fB):zZ (Z ds)=Z ds:=by
 show(bif ah (ds.length<=fB)then Z ds else ae)=_;exact J (aq h) rfl
theorem qf(g:α->D){xs:List α}{t:D->Option Bool}{e:D->Option D}(p:α->Bool)(k:α->D)(ht:∀x∈xs,t (g x)=Z (p x))(he:∀x∈xs,p x=af->e (g x)=Z (k x))(hz:xs.length<=fB):qg (xs.map g) t e=Z ((xs.filter p).map k):=by
 unfold qg
 refine J yC ?_;refine J (pZ (g:=λx=>bif p x then[k x]else[]) λx hx=>by
  refine J (ht x hx) ?_
  cases h:p x
  ·rfl
  ·refine J (he x hx h) ?_;rfl) ?_
 show zZ (Z (xs.map λx=>bif p x then[k x]else[]).flatten)=_;exact J (sx ..) (oA (aj (by refine J (au ..) ?_;exact eV _ _) hz))
theorem vL(g:α->D){xs:List α}{e:D->Option D}(k:α->D)(he:∀x∈xs,e (g x)=Z (k x))(hz:xs.length<=fB):qg (xs.map g) (λ_=>Z af) e=Z (xs.map k):=by
 refine J (qf g (λ_=>af) k (λ_ _=>rfl) (λx hx _=>he x hx) hz) ?_
 congr 2
 exact u6.mpr λ_ _=>rfl
theorem i9(n:Nat):(av n).map (λ(i:Nat)=>aI (0+(i:Int)*1))=(av n).map I:=by
 apply dx;intro i _;show aI _=aI _;congr 1;lia
def Cf(fs:List (Str×(List D->Option D)))(F:Str->List D->Option D)(V:Str->Option D)(T:Str->Option (List (Str×Int)))(H:(bj->aE->aG->Option D)->bj->aE->aG->Option D):Cx:=
 {kn:=6,F:=Q9 F,FS:=λx ds=>(fs.lookup x).bind λf=>f ds,V:=V,T:=T,H:=H}
noncomputable abbrev Ll:Str->List D->Option D:=λ_ _=>ae
noncomputable abbrev Pw:Str->Option D:=λ_=>ae
noncomputable abbrev Lk:Str->Option (List (Str×Int)):=λ_=>ae
noncomputable abbrev Pz:(bj->aE->aG->Option D)->bj->aE->aG->Option D:=λ_ _ _ _=>ae
theorem eJ.le(hm:m<=n)(h:eJ G m x ds d):eJ G n x ds d:=by
 exact iP h λf a b c e=>⟨f,a,b,c,λs O vs W al r A R=>e s O vs W al r A (R.le hm)⟩
def JV(G:Gd)(n:Nat)(fs:List (Str×(List D->Option D))):Prop:=∀p∈fs,∀ds d,p.2 ds=Z d->eJ G n p.1 ds d
theorem X1:JV G n []:=λ_ hp=>by cases hp
theorem zM{g:List D->Option D}{l:List (Str×(List D->Option D))}(h:∀ds d,g ds=Z d->eJ G n x ds d)(hl:JV G n l):JV G n ((x,g)::l):=List.forall_mem_cons.mpr ⟨h,hl⟩
noncomputable def abz:Nat->(List az->Prop)->Prop
 |0,P=>P []
 |k+1,P=>∀v,abz k λl=>P (v::l)
theorem rt(k:Nat){P:List az->Prop}(h:abz k P)(vs:List az)(e:vs.length=k):P vs:=by
 induction k generalizing P vs with
 |zero=>exact nI e▸h
 |succ k ih=>induction vs using aA with
  |nil=>cases e
  |cons v vs=>exact ih (h v) vs (Nat.succ.inj e)
def Tg(G:Gd)(V:Str->Option D):Prop:=∀x d,V x=Z d->∃v,EX G x v∧∀h O,jT h O v d
def TOk(G:Gd)(n:Nat)(T:Str->Option (List (Str×Int))):Prop:=∀x th,T x=Z th->∃a,EX G x (.ref a)∧Ig G n a th
theorem rg(B:Bi G){fs:List (Str×(List D->Option D))}{F:Str->List D->Option D}{V:Str->Option D}{T:Str->Option (List (Str×Int))}{H:(bj->aE->aG->Option D)->bj->aE->aG->Option D}(hn:6<=n)(hfs:JV G n fs)(hF:∀x ds d,F x ds=Z d->Cm G n x ds d)(hV:Tg G V)(hT:TOk G n T)
 (hH:∀E,mT G n E->∀(env:nJ) (ρ:aE) (e:aG) (d:D),H E env.scope ρ e=Z d->Ev G n env ρ e d):mw G n (Cf fs F V T H):=
 ⟨hn,(λx ds d h=>Ib B hF h),(λx ds d h=>by
  exact bE h λf h1 h2=>hfs (x,f) (mem_of_lookup h1) ds d h2),hV,hT,hH,B.w.range,B.w.reversed,B.w.enumerate,B.w.zip⟩
theorem oy:∀x ds d,Ll x ds=Z d->Cm G n x ds d:=λ_ _ _ h=>by exact bK h
theorem r8:Tg G Pw:=λ_ _ h=>by exact bK h
theorem ox:TOk G n Lk:=λ_ _ h=>by exact bK h
theorem qI:∀E,mT G n E->∀(env:nJ) (ρ:aE) (e:aG) (d:D),Pz E env.scope ρ e=Z d->Ev G n env ρ e d:=λ_ _ _ _ _ _ h=>by exact bK h
noncomputable def Py:bj->aE->bX->Option gO:=λ_ _ _=>ae
theorem xS:Rt G n Py:=λ_ _ _ _ h=>by exact bK h
abbrev bB(C:Cx)(k:Nat):=uE C (ev C 14) Py (ex C Py 14 70 k) 70
abbrev eR(C:Cx)(k:Nat):=ex C Py 14 70 k
theorem aO(h:bB C k ow sc ρ st=Z (.next ρ'))(h2:eR C (k+1) ow sc ρ' ss=Z out):eR C (k+1) ow sc ρ (st::ss)=Z out:=by
 show kX (bB C k) ow sc ρ (st::ss)=Z out;exact J qc (J h h2)
theorem cH(h:bB C k ow sc ρ st=Z (.ret d)):eR C (k+1) ow sc ρ (st::ss)=Z (.ret d):=by
 show kX (bB C k) ow sc ρ (st::ss)=Z (.ret d);exact J qc (J h rfl)
theorem cY:eR C (k+1) ow sc ρ []=Z (.next ρ):=rfl
def Fn(G:Gd)(k:Nat)(x:Str):Prop:=∃c,vT G x x (iU (dj k)) (bP (dj k)) (c9 (dj k)) c
theorem Fn.ok{xs:List Str}(K:l8 G)(fn:Fn G k x)(hC:mw G n C)(h:eR C kk ow (c9 (dj k)) (oq xs ds) (bP (dj k))=Z out)(VD:out=.ret d∨(∃ρ',out=.next ρ'∧d=.none))
 (ok:tm (c9 (dj k)) xs=af) (jM:xs.length=ds.length)
 (D0:∀pm cd doc (vs:List az),vs.length=xs.length->As (xb x (iU (dj k)) (bP (dj k)) (c9 (dj k)) pm cd doc) ⟨vs,[]⟩=pure (xs.zip vs)):eJ G (n+1) x ds d:=by
 refine bQ fn λc fn=>?_;unfold tm at ok;rw[bG,cN]at ok;exact eJ.vn (n:=n) (ch:=!ow.isEmpty) K fn ok.2 (λhm=>by rw[ok.1]at hm;exact ff hm) jM D0 VD λenv he _ _=>sC K hC xS kk ow env (oq xs ds) _ out (J he h)
theorem iM{f:Str}{a b:Option (List D)}(ha:a=Z ds)(h:C.FS f ds=Z d):fS C f a b=Z d:=by
 unfold fS;exact J ha (J (bx ..) (J h rfl))
theorem Nn{f:Str}{a b:Option (List D)}(hn:∀ds,C.FS f ds=ae)(hb:b=Z ds)(h:C.F f ds=Z d):fS C f a b=Z d:=by
 unfold fS
 have:(a.bind λds=>C.FS f ds)=ae:=by induction a using aB with
  |none=>rfl|some x=>exact hn x
 exact J this (J hb h)
theorem oE{fs:List (Str×(List D->Option D))}{F:Str->List D->Option D}{V:Str->Option D}{T:Str->Option (List (Str×Int))}{H:(bj->aE->aG->Option D)->bj->aE->aG->Option D}{f:Str}{a b:Option (List D)}(h:qk f ds=Z d)(hb:b=Z ds)(hn:(fs.lookup f).isNone=af:=by kernel_rfl)(hc:qj.contains f=af:=by kernel_rfl):fS (Cf fs F V T H) f a b=Z d:=by
 refine Nn (λds=>?_) hb ?_
 ·show(fs.lookup f).bind (λg=>g ds)=ae;exact J (pb.mp hn) rfl
 ·show(bif qj.contains f then qk f ds else F f ds)=_;exact J hc h
noncomputable def HK(xs:List Nat):List Int:=xs.map dO
theorem wz:∀(xs:List Nat),hU (xs.map I)=Z (HK xs)
 |[]=>rfl
 |x::xs=>by
  show(hU (xs.map I)).map ((x:Int)::·)=_;exact J (wz xs) rfl
theorem Df:∀(xs:List Nat),(HK xs).sum=(xs.sum:Nat)
 |[]=>rfl
 |x::xs=>by
  show(x:Int)+(HK xs).sum=_;refine J (Df xs) (J CU ?_);push_cast;rfl
theorem Te(xs:List Nat):qk "sum" [.list (xs.map I)]=Z (I xs.sum):=by
 have:qk "sum" [.list (xs.map I)]=(hU (xs.map I)).map λxs=>aI xs.sum:=by kernel_rfl
 refine J this (J (wz ..) ?_);show Z (aI (HK xs).sum)=_;exact J (Df ..) rfl
abbrev C0:Cx:=Cf [] Ll Pw Lk Pz
theorem Br(B:Bi G)(hn:6<=n):mw G n C0:=rg B hn (λp hp=>by cases hp) oy r8 ox qI
def LR(rule Xb U4:D):Option (List D):=
 qg (fh 0 8 1) (λt=>N2 (Ri (tO (b2 .BitAnd (b2 .RShift (Z Xb) (b2 .RShift (Z t) (Z (I 1)))) (Z (I 1)))) (c2 .Eq (b2 .BitAnd (b2 .RShift (Z rule) (Z t)) (Z (I 1))) (Z U4)))) (λt=>b2 .BitAnd (Z t) (Z (I 3)))
def HB(adK:D):Option (List D):=qg (fh 0 4 1) (λp=>N2 (c2 .In (Z p) (Z adK))) (λp=>b2 .LShift (Z (I 1)) (Z p))
abbrev vv:bX:=dj 74
def afT(r p l:D):aE:=oq ["rule","places","letter"] [r,p,l]
def LM(r p l w:D):aE:=("ways",.val w)::oq ["rule","places","letter"] [r,p,l]
theorem LO(r p l:D):bB C0 5 [] (c9 vv) (afT r p l) (aY 0 (bP vv))=(LR r p l).map λds=>.next (LM r p l (.list ds)):=by kernel_rfl
theorem LN(r p l w:D):bB C0 5 [] (c9 vv) (LM r p l w) (aY 1 (bP vv))=(fS C0 "sum" (one ((HB w).map .list)) (one ((HB w).map .list))).map .ret:=by kernel_rfl
noncomputable def xT(r p l:Nat):List Nat:=((av 8).filter λt=>(p>>>(t>>>1)&&&1 !=0)&&(r>>>t&&&1==l)).map (·&&&3)
theorem LQ(r p l:Nat):LR (I r) (I p) (I l)=Z ((xT r p l).map I):=by
 unfold LR;refine J (show fh 0 8 1=(av 8).map I from i9 8) (J (qf I (λt=>(p>>>(t>>>1)&&&1 !=0)&&(r>>>t&&&1==l)) (λt=>I (t&&&3)) (λt _=>by exact J (i7 ..) (J (i7 ..) (J (i7 ..) (J (iQ ..) (J (iQ ..) (J (mH ..) (J (FD ..) (J (wY ..) (J (lN ..) rfl))))))))) (λt _ _=>iQ t 3) (by decide)) ?_);unfold xT;exact J bI rfl
def yF(r p l:Nat):Nat:=(((av 4).filter λq=>(xT r p l).contains q).map λq=>1<<<q).sum
theorem LP(ws:List Nat):HB (.list (ws.map I))=Z ((((av 4).filter λq=>ws.contains q).map λq=>1<<<q).map I):=by
 unfold HB;exact J (show fh 0 4 1=(av 4).map I from i9 4) (J (qf I (λq=>ws.contains q) (λq=>I (1<<<q)) (λt _=>by exact J (UU ..) (J (lN ..) rfl)) (λq hq _=>Lr 1 q (by decide) (by have:=b9.mp hq;lia)) (by decide)) (J bI rfl))
theorem U6(r p l:Nat):eR C0 6 [] (c9 vv) (oq ["rule","places","letter"] [I r,I p,I l]) (bP vv)=Z (.ret (I (yF r p l))):=by
 refine J (show bP vv=[aY 0 (bP vv),aY 1 (bP vv)] by kernel_rfl) ?_;refine aO (ρ':=LM (I r) (I p) (I l) (.list ((xT r p l).map I))) ?_ (cH ?_)
 ·exact(LO (I r) (I p) (I l)).trans (J (LQ ..) rfl)
 ·exact(LN _ _ _ _).trans (J (LP ..) (aD (Ip gO.ret) (oE (Te _) rfl)))
theorem U5(K:l8 G)(B:Bi G)(fn:Fn G 74 "_law_led")(r p l:Nat):eJ G 7 "_law_led" [I r,I p,I l] (I (yF r p l)):=
 fn.ok (n:=6) K (Br B (aV _)) (U6 r p l) (.inl rfl) (by kernel_rfl) rfl λ_ _ _=>rt 3 λ_ _ _=>rfl
noncomputable def b8:List (Option D)->Option (List D)
 |[]=>Z []
 |x::r=>x.bind λd=>(b8 r).map (d::·)
def gh(x y:Option D):Option D:=x.bind λd=>y.bind λk=>xE d k
noncomputable def pO(x:Option D):Option (Option Int):=match x with
 |some (.int k)=>Z (Z k)
 |_=>ae
def lX(l u k:Option (Option Int))(v:Option D):Option D:=l.bind λl=>u.bind λu=>k.bind λk=>v.bind λd=>rm d l u k
noncomputable def Kb(t:Option Bool)(a b:Option D):Option D:=t.bind λc=>bif c then a else b
def Vt(x:Str):Option D:=bif x==("NT_OFFSET":Str)then Z (I 256)else bif x==("ENDMARKER":Str)then Z (I 0)else bif x==("ELLIPSIS_MARKER":Str)then Z (.str "...")else bif x==("_DIV_LIMIT":Str)then Z (I 4000)else ae
abbrev CV:Cx:=Cf [] Ll Vt Lk Pz
theorem Ii(B:Bi G)(V:Tg G Vt)(hn:6<=n):mw G n CV:=rg B hn (λp hp=>by cases hp) oy V ox qI
theorem Vd(x:Int):eR CV 6 [] (c9 (dj 68)) (oq ["x"] [.int x]) (bP (dj 68))=Z (.ret (.bool (ah (x<256)))):=by kernel_rfl
theorem Vf(x:Int):eR CV 6 [] (c9 (dj 69)) (oq ["x"] [.int x]) (bP (dj 69))=Z (.ret (.bool (ah (256<=x)))):=by kernel_rfl
theorem Vh(x:Int):eR CV 6 [] (c9 (dj 70)) (oq ["x"] [.int x]) (bP (dj 70))=Z (.ret (.bool (x==0))):=by kernel_rfl
theorem Vc(K:l8 G)(B:Bi G)(V:Tg G Vt)(fn:Fn G 68 "ISTERMINAL")(x:Int):eJ G 7 "ISTERMINAL" [.int x] (.bool (ah (x<256))):=fn.ok (n:=6) K (Ii B V (aV _)) (Vd x) (.inl rfl) (by kernel_rfl) rfl (λ_ _ _=>rt 1 λ_=>rfl)
theorem Ve(K:l8 G)(B:Bi G)(V:Tg G Vt)(fn:Fn G 69 "ISNONTERMINAL")(x:Int):eJ G 7 "ISNONTERMINAL" [.int x] (.bool (ah (256<=x))):=fn.ok (n:=6) K (Ii B V (aV _)) (Vf x) (.inl rfl) (by kernel_rfl) rfl (λ_ _ _=>rt 1 λ_=>rfl)
theorem Vg(K:l8 G)(B:Bi G)(V:Tg G Vt)(fn:Fn G 70 "ISEOF")(x:Int):eJ G 7 "ISEOF" [.int x] (.bool (x==0)):=fn.ok (n:=6) K (Ii B V (aV _)) (Vh x) (.inl rfl) (by kernel_rfl) rfl (λ_ _ _=>rt 1 λ_=>rfl)
def V8(ds:List D):Option D:=ER ds λu1=>sH u1 λx=>Z (.bool (ah (x<256)))
def Qq(ds:List D):Option D:=ER ds λu1=>sH u1 λx=>Z (.bool (ah (256<=x)))
def V9(ds:List D):Option D:=ER ds λu1=>sH u1 λx=>Z (.bool (x==0))
def V7(ds:List D):Option D:=XI ds λu1 u2 u3=>kY u1 λr=>kY u2 λp=>kY u3 λl=>Z (I (yF r p l))
structure Gr(G:Gd):Prop where
 K:l8 G
 L:oH G
 B:Bi G
 V:Tg G Vt
 ist:Fn G 68 "ISTERMINAL"
 isn:Fn G 69 "ISNONTERMINAL"
 ise:Fn G 70 "ISEOF"
 led:Fn G 74 "_law_led"
 D6:Fn G 75 "_law_forms"
theorem Qp(g:Gr G):∀ds d,V8 ds=Z d->eJ G 7 "ISTERMINAL" ds d:=λds d h=>by
 refine i1 h λu1 h=>uz h λx h=>qS h ?_;exact Vc g.K g.B g.V g.ist _
theorem HW(g:Gr G):∀ds d,Qq ds=Z d->eJ G 7 "ISNONTERMINAL" ds d:=λds d h=>by
 refine i1 h λu1 h=>uz h λx h=>qS h ?_;exact Ve g.K g.B g.V g.isn _
theorem Qr(g:Gr G):∀ds d,V9 ds=Z d->eJ G 7 "ISEOF" ds d:=λds d h=>by
 refine i1 h λu1 h=>uz h λx h=>qS h ?_;exact Vg g.K g.B g.V g.ise _
theorem HV(g:Gr G):∀ds d,V7 ds=Z d->eJ G 7 "_law_led" ds d:=λds d h=>by
 refine i3 h λu1 u2 u3 h=>lA h λr h=>lA h λp h=>lA h λl h=>qS h ?_;exact U5 g.K g.B g.led _ _ _
theorem qL(a b:Int)(h:b.natAbs<2^9000):bT a b=ag:=by
 unfold bT
 have:ah ((if b==0 then 0 else b.natAbs.log2/30+1)>300)=ag:=by
  apply bi
  split
  ·decide
  ·rename_i hb;have:=(J4 λe=>hb (by exact J (Oa.mp e) rfl)).mpr h;exact dH.mpr (fH (nY (n:=30) (k:=299+1) this))
 simp only[this,TK]
theorem FC(a b:Nat)(h0:b≠0)(h:b<2^64):b2 .FloorDiv (Z (I a)) (Z (I b))=Z (I (a/b)):=by
 show(bif((b:Int) !=0)&&!bT (a:Int) (b:Int)then Z (aI ((a:Int).fdiv b))else ae)=_
 refine J (qL _ _ (by
  exact J (dR ..) (aH h (cb (by decide) (by decide))))) ?_
 have:((b:Int) !=0)=af:=bne_iff_ne.mpr λe=>h0 (mh e);refine J this ?_;show Z (aI ((a:Int).fdiv b))=Z (aI ((a/b:Nat):Int));exact J (dI _ (aU b)) (J (kP ..) rfl)
theorem td(d:Int)(k:Nat)(h:0<k):(d%(k:Int)).toNat<k:=(kN (cD d (eb (d9.mpr h)))).mpr (cO d (d9.mpr h))
theorem LA(m:Nat):(-1:Int)+((m+1:Nat):Int)=m:=by
 show(-1:Int)+((m:Int)+1)=m;exact J (jx ..) (J (Yw ..) (Int.add_zero _))
theorem yi(xs:List D)(x:D)(h:xs.length+1<=fB):gh (Z (.list (xs++[x]))) (Z (.int (-1)))=Z x:=by
 show xE (.list (xs++[x])) (.int (-1))=_;show(bif ah ((xs++[x]).length<=fB)then zO (xs++[x]) (-1)else ae)=_;refine J (aq (by simpa using h)) ?_;show zO (xs++[x]) (-1)=_;unfold zO;have e:(-1:Int)+((xs++[x]).length:Nat)=(xs.length:Nat):=(aD (λk:Nat=>(-1:Int)+(k:Int)) aP).trans (LA xs.length);refine J (bF (by decide)) (J e (J (bz (show-(((xs++[x]).length:Nat):Int)<=-1 from Xy (da.mpr (show 1<=(xs++[x]).length by exact J aP (dm 1 _))))) (J (bH ..) ?_)));simp
theorem afi(x y:Nat):min (x:Int) (y:Int)=((min x y:Nat):Int):=by
 refine(iH x y).elim (λh=>?_) λh=>?_
 ·exact J (dG h) (J (Int.min_eq_left (da.mpr h)) rfl)
 ·exact J (eI h) (J (Int.min_eq_right (da.mpr h)) rfl)
theorem clI(a b c:Nat):max (a:Int) (min (b:Int) (c:Int))=((max a (min b c):Nat):Int):=by
 refine J (afi ..) ((iH a (min b c)).elim (λh=>?_) λh=>?_)
 ·exact J (rH h) (J (Int.max_eq_right (da.mpr h)) rfl)
 ·exact J (Tx h) (J (TG (da.mpr h)) rfl)
theorem WJ(b c:Nat):(max (0:Int) (min (b:Int) (c:Int))).toNat=min b c:=by
 exact J (show max (0:Int) (min (b:Int) (c:Int))=((max 0 (min b c):Nat):Int)from clI 0 b c) (J (bH ..) (J (Nat.zero_max ..) rfl))
theorem qi(n a:Nat):clipAt n (a:Int)=min a n:=by
 unfold clipAt;exact J (bF (ky.mpr (aU a))) (WJ a n)
theorem H8(n:Nat):clipAt n (-1)=n-1:=by
 unfold clipAt;refine J (bz (by decide)) ?_
 induction n using nZ with
 |zero=>rfl|succ m=>exact J (LA ..) (J (WJ ..) (J (dG (km m)) rfl))
theorem sZ(xs:List D)(l u:Option Int)(h:xs.length<=fB):rm (.list xs) l u ae=Z (.list (rk xs l u)):=by
 show(bif ah (xs.length<=fB)&&!(ae==Z (0:Int))then Z (bJ (rk xs l u))else ae)=_;exact J (aq h) rfl
theorem Dj(xs:List D)(x:D)(h:xs.length+1<=fB):rm (.list (xs++[x])) ae (Z (-1)) ae=Z (.list xs):=by
 refine J (sZ _ _ _ (by simpa using h)) ?_
 congr 2
 show x8 (clipAt (xs++[x]).length (-1)-0) (ya 0 (xs++[x]))=xs;refine J (H8 ..) ?_;simp
theorem BJ(xs:List D)(a b:Nat)(h:xs.length<=fB)(hb:a<=b):rm (.list xs) (Z (a:Int)) (Z (b:Int)) ae=Z (.list ((xs.drop a).take (b-a))):=by
 refine J (sZ _ _ _ h) ?_
 congr 2
 show x8 (clipAt xs.length (b:Int)-clipAt xs.length (a:Int)) (ya (clipAt xs.length (a:Int)) xs)=_;refine J (qi ..) (J (qi ..) ?_);refine jR (iH a xs.length) (λh1=>?_) λh1=>?_
 ·refine J (dG h1) (jR (iH b xs.length) (λh2=>?_) λh2=>?_)
  ·exact J (dG h2) rfl
  ·exact J (eI h2) (J (cE (J cJ (aV _))) (J (cE (J cJ (uM h2 a))) rfl))
 ·refine J (eI h1) (J (cS (aV _)) (J (cS h1) ?_));simp
abbrev ahc:List (Str×(List D->Option D)):=[("ISNONTERMINAL",Qq),("_law_led",V7)]
abbrev CF:Cx:=Cf ahc Ll Pw Lk Pz
abbrev FY:bX:=dj 75
abbrev mO:bj:=c9 FY
abbrev eY(e:bX):List bX:=bP e
abbrev uD(e:bX):aG:=Hg e
abbrev fm(e:bX):List bX:=bP e
abbrev uc:bX:=aY 1 (bP FY)
abbrev gC:bX:=aY 0 (eY uc)
abbrev GH:=Option (D×D×D×D)
noncomputable def HT(o:GH)(fs:List D)(r ns:D):aE:=match o with
 |none=>[("forms",.own fs),("rule",.val r),("numbers",.val ns)]
 |some (sy,pl,fo,t)=>[("symbol",.val sy),("places",.val pl),("form",.val fo),("turn",.val t),("forms",.own fs),("rule",.val r),("numbers",.val ns)]
noncomputable def vA(o:GH)(t:D)(fs:List D)(r ns:D):aE:=match o with
 |none=>[("turn",.val t),("forms",.own fs),("rule",.val r),("numbers",.val ns)]
 |some (sy,pl,fo,_)=>[("turn",.val t),("symbol",.val sy),("places",.val pl),("form",.val fo),("forms",.own fs),("rule",.val r),("numbers",.val ns)]
noncomputable def V2(o:GH)(fo t:D)(fs:List D)(r ns:D):aE:=match o with
 |none=>[("form",.val fo),("turn",.val t),("forms",.own fs),("rule",.val r),("numbers",.val ns)]
 |some (sy,pl,_,_)=>[("form",.val fo),("turn",.val t),("symbol",.val sy),("places",.val pl),("forms",.own fs),("rule",.val r),("numbers",.val ns)]
noncomputable def aan(o:GH)(pl fo t:D)(fs:List D)(r ns:D):aE:=match o with
 |none=>[("places",.val pl),("form",.val fo),("turn",.val t),("forms",.own fs),("rule",.val r),("numbers",.val ns)]
 |some (sy,_,_,_)=>[("places",.val pl),("form",.val fo),("turn",.val t),("symbol",.val sy),("forms",.own fs),("rule",.val r),("numbers",.val ns)]
noncomputable def D7(sy pl fo t:D)(fs:List D)(r ns:D):aE:=[("symbol",.val sy),("places",.val pl),("form",.val fo),("turn",.val t),("forms",.own fs),("rule",.val r),("numbers",.val ns)]
noncomputable def V3(sy pl fo t:D)(fs:List D)(r ns:D):aE:=[("forms",.own fs),("symbol",.val sy),("places",.val pl),("form",.val fo),("turn",.val t),("rule",.val r),("numbers",.val ns)]
def kE(k:Nat)(st:bX)(sc:bj)(C:Cx)(ρ:aE)(x:D):Option gO:=(nV sc 3 (uD st) x ρ).bind λρ1=>(eR C k [] sc ρ1 (eY st)).map (fb ρ)
theorem fm1(r ns:D):bB CF 6 ["forms"] mO (oq ["rule","numbers"] [r,ns]) (aY 0 (bP FY))=Z (.next (HT ae [.list [I 271]] r ns)):=by kernel_rfl
theorem fm2(r ns:D)(fs:List D):bB CF 6 ["forms"] mO (HT ae fs r ns) uc=gY (kE 6 uc mO CF) (fh 0 32 1) (HT ae fs r ns):=by kernel_rfl
theorem fm3(o:GH)(t:D)(r ns:D)(fs:List D):nV mO 3 (uD uc) t (HT o fs r ns)=Z (vA o t fs r ns):=by induction o using aB<;>kernel_rfl
noncomputable def kf(x:Option D):Option (List D×Bool×Bool):=match x with
 |some (.list ds)=>Z (ds,ag,af)
 |some (.tuple ds)=>Z (ds,ag,af)
 |_=>ae
noncomputable def Ry(q:Option (List D×Bool×Bool))(f:List D->Option gO):Option gO:=q.bind λq=>bif q.2.2&&(!q.2.1||false)then f q.1 else ae
theorem fm4(o:GH)(t:D)(r ns:D)(fs:List D):bB CF 5 [] mO (vA o t fs r ns) gC=Ry (kf (lX (pO (b2 .FloorDiv (Z t) (Z (I 2)))) (pO (b2 .Add (b2 .FloorDiv (Z t) (Z (I 2))) (Z (I 1)))) (Z ae) (Z (.list fs)))) λds=>gY (kE 5 gC mO CF) ds (vA o t fs r ns):=by induction o using aB<;>kernel_rfl
theorem fm5(o:GH)(fo t:D)(r ns:D)(fs:List D):nV mO 3 (uD gC) fo (vA o t fs r ns)=Z (V2 o fo t fs r ns):=by induction o using aB<;>kernel_rfl
def wK(fo:D):Option D:=gh (Z fo) (Z (.int (-1)))
def V5(fo t r:D):Option D:=Kb (tO (fS CF "ISNONTERMINAL" (b8 [wK fo]) (b8 [wK fo]))) (fS CF "_law_led" (b8 [Z r,b2 .Sub (wK fo) (Z (I 256)),b2 .Mod (Z t) (Z (I 2))]) (b8 [Z r,b2 .Sub (wK fo) (Z (I 256)),b2 .Mod (Z t) (Z (I 2))])) (Z (I 15))
theorem fm6(o:GH)(fo t:D)(r ns:D)(fs:List D):bB CF 4 [] mO (V2 o fo t fs r ns) (aY 0 (eY gC))=(V5 fo t r).map λpl=>.next (aan o pl fo t fs r ns):=by induction o using aB<;>kernel_rfl
theorem fm7(o:GH)(pl fo t:D)(r ns:D)(fs:List D):bB CF 4 [] mO (aan o pl fo t fs r ns) (aY 1 (eY gC))=(Kb (tO (Z pl)) (b2 .Add (Z (I 256)) (Z pl)) (Z (I 0))).map λsy=>.next (D7 sy pl fo t fs r ns):=by induction o using aB<;>kernel_rfl
def FX(sy:D)(fs:List D):Option Bool:=c2 .NotIn (Z sy) ((qg fs (λ_=>Z af) (λd=>gh (Z d) (Z (.int (-1))))).map .list)
theorem fm8(sy pl fo t:D)(r ns:D)(fs:List D):bB CF 4 [] mO (D7 sy pl fo t fs r ns) (aY 2 (eY gC))=(FX sy fs).bind λc=>eR CF 4 [] mO (D7 sy pl fo t fs r ns) (bif c then fm (aY 2 (eY gC))else[]):=by kernel_rfl
def MJ(sy fo t ns:D):Option D:=b2 .Add (lX (Z ae) (pO (Z (.int (-1)))) (Z ae) (Z fo)) ((b8 [gh (Z ns) (b2 .Mod (Z t) (Z (I 2))),Z sy]).bind λds=>bif ah (ds.length<=fB)then Z (.list ds)else ae)
theorem fm9(sy pl fo t:D)(r ns:D)(fs:List D):bB CF 3 [] mO (D7 sy pl fo t fs r ns) (aY 0 (fm (aY 2 (eY gC))))=bif ah (fs.length<=fB)then(MJ sy fo t ns).map λd=>.next (V3 sy pl fo t (fs++[d]) r ns)else ae:=by kernel_rfl
noncomputable def sg(a b l:Nat):Nat:=if l=0 then a else b
abbrev qW:=List Nat×Nat
def eD(a b:Nat)(f:qW):D:=.list ((f.1.map (sg a b)++[f.2]).map I)
def fg(r:Nat)(s t:Nat):Nat:=if 256<=s then yF r (s-256) (t%2)else 15
def iS(r:Nat)(fs:List qW)(t:Nat):List qW:=match fs[t/2]? with
 |none=>fs
 |some (w,s)=>if(fs.map (·.2)).contains (if fg r s t≠0 then 256+fg r s t else 0)then fs else fs++[(w++[t%2],if fg r s t≠0 then 256+fg r s t else 0)]
def js(r:Nat):List qW:=(av 32).foldl (iS r) [([],271)]
theorem yI(c:Bool)(x y:Option D):Kb (Z c) x y=if c then x else y:=by induction c using ax<;>rfl
theorem Hc(c:Bool):tO (Z (.bool c))=Z c:=rfl
theorem tr(a b:Nat)(f:qW)(h:f.1.length<1000):wK (eD a b f)=Z (I f.2):=by
 unfold wK eD;exact J bN (J aR (J kB (yi _ _ (by simp only[au];show _<=16777216;exact aj (by assumption) (by decide)))))
theorem I9(d:D):b8 [Z d]=Z [d]:=rfl
theorem Qm(a b r t:Nat)(f:qW)(h:f.1.length<1000):V5 (eD a b f) (I t) (I r)=Z (I (fg r f.2 t)):=by
 unfold V5;refine J (tr a b f h) (J (I9 ..) (J (iM (f:="ISNONTERMINAL") (d:=.bool (ah (256<=(f.2:Int)))) rfl rfl) (J (Hc ..) (J (yI ..) ?_))));unfold fg
 by_cases h1:256<=f.2
 ·have h2:(256:Int)<=(f.2:Int):=by exact(λ{m} {n}=>GZ.mp) h1
  exact J (bz (aq h2)) (J (bz h1) (J (t8 _ _ h1) (J (Ls _ _ (by decide)) (iM rfl rfl))))
 ·have h2:¬((256:Int)<=(f.2:Int)):=by lia
  exact J (bF (by simpa using h2)) (J (bF h1) rfl)
theorem Jw(a b sy:Nat)(fs:List qW)(h:∀f∈fs,f.1.length<1000)(hl:fs.length<1000):FX (I sy) (fs.map (eD a b))=Z (!(fs.map (·.2)).contains sy):=by
 unfold FX;refine J (vL (e:=λd=>gh (Z d) (Z (.int (-1)))) (eD a b) (λf=>I f.2) (λf hf=>tr a b f (h f hf)) (by show _<=16777216;lia)) ?_;have:(fs.map λf=>I f.2)=(fs.map (·.2)).map I:=by exact J bI rfl
 refine J this ?_;show c2 .NotIn (Z (I sy)) (Z (.list ((fs.map (·.2)).map I)))=_;have:=UU sy (fs.map (·.2));show(Ik (I sy) ((fs.map (·.2)).map I)).map (!·)=_;exact J (show Ik (I sy) ((fs.map (·.2)).map I)=Z ((fs.map (·.2)).contains sy)from this) rfl
theorem at2(a b l:Nat)(h:l<2):gh (Z (.list [I a,I b])) (Z (I l))=Z (I (sg a b l)):=by
 match l,h with
 |0,_=>rfl|1,_=>rfl
theorem MI(a b sy t:Nat)(f:qW)(h:f.1.length<1000):MJ (I sy) (eD a b f) (I t) (.list [I a,I b])=Z (eD a b (f.1++[t%2],sy)):=by
 unfold MJ
 have h1:lX (Z ae) (pO (Z (.int (-1)))) (Z ae) (Z (eD a b f))=Z (.list ((f.1.map (sg a b)).map I)):=by
  show rm (eD a b f) ae (Z (-1)) ae=_;unfold eD;exact J bN (J aR (J kB (Dj _ _ (by simp only[au];show _<=16777216;exact aj (by assumption) (by decide)))))
 refine J h1 (J (Ls _ _ (by decide)) (J (at2 a b (t%2) (gE _ (by decide))) ?_));show wW .Add (.list _) (.list [I (sg a b (t%2)),I sy])=_;show(bif ah (((f.1.map (sg a b)).map I).length+2<=fB)then Z (bJ (((f.1.map (sg a b)).map I)++[I (sg a b (t%2)),I sy]))else ae)=_;refine J (aq (by simp only[au];show _<=16777216;exact aT (by assumption) (by decide))) ?_;unfold eD;simp
def UL(fs:List qW)(m:Nat):Prop:=(∀f∈fs,f.1.length<=m)∧fs.length<=m+1
def MH(o:GH)(sy pl fo t:D)(fs:List D)(r ns:D):aE:=match o with
 |none=>D7 sy pl fo t fs r ns
 |some _=>vA (Z (sy,pl,fo,t)) t fs r ns
theorem aar(o:GH)(sy pl fo t:D)(fs MC:List D)(r ns:D):fb (vA o t fs r ns) (.next (D7 sy pl fo t MC r ns))=.next (MH o sy pl fo t MC r ns):=by induction o using aB<;>kernel_rfl
theorem aaq(o:GH)(sy pl fo t:D)(fs MC:List D)(r ns:D):fb (vA o t fs r ns) (.next (V3 sy pl fo t MC r ns))=.next (MH o sy pl fo t MC r ns):=by induction o using aB<;>kernel_rfl
theorem aap(o:GH)(sy pl fo t:D)(fs MC:List D)(r ns:D):fb (HT o fs r ns) (.next (MH o sy pl fo t MC r ns))=.next (HT (Z (sy,pl,fo,t)) MC r ns):=by induction o using aB<;>kernel_rfl
theorem aao(o:D×D×D×D)(t:D)(fs MC:List D)(r ns:D):fb (HT (Z o) fs r ns) (.next (vA (Z o) t MC r ns))=.next (HT (Z (o.1,o.2.1,o.2.2.1,t)) MC r ns):=by kernel_rfl
def vy(r t:Nat)(fs:List qW)(f:qW):List qW:=if(fs.map (·.2)).contains (if fg r f.2 t≠0 then 256+fg r f.2 t else 0)then fs else fs++[(f.1++[t%2],if fg r f.2 t≠0 then 256+fg r f.2 t else 0)]
theorem D5(o:GH)(a b r t m:Nat)(fs:List qW)(hm:UL fs m)(hmm:m<900)(f:qW)(hf:f∈fs):∃sy pl,kE 5 gC mO CF (vA o (I t) (fs.map (eD a b)) (I r) (.list [I a,I b])) (eD a b f)=Z (.next (MH o sy pl (eD a b f) (I t) ((vy r t fs f).map (eD a b)) (I r) (.list [I a,I b]))):=by
 have jM:f.1.length<1000:=by have:=hm.1 f hf;lia
 have qb:∀f∈fs,f.1.length<1000:=λf hf=>by have:=hm.1 f hf;lia
 have SH:fs.length<1000:=by have:=hm.2;lia
 unfold vy;generalize hsy:(if fg r f.2 t≠0 then 256+fg r f.2 t else 0)=sy;refine⟨I sy,I (fg r f.2 t),?_⟩;unfold kE;refine J (fm5 ..) ?_;have hB:eY gC=[aY 0 (eY gC),aY 1 (eY gC),aY 2 (eY gC)]:=by kernel_rfl
 have e6:=fm6 o (eD a b f) (I t) (I r) (.list [I a,I b]) (fs.map (eD a b));rw[Qm a b r t f jM]at e6;have e7:=fm7 o (I (fg r f.2 t)) (eD a b f) (I t) (I r) (.list [I a,I b]) (fs.map (eD a b))
 have hs:Kb (tO (Z (I (fg r f.2 t)))) (b2 .Add (Z (I 256)) (Z (I (fg r f.2 t)))) (Z (I 0))=Z (I sy):=by
  refine J (mH ..) (J (yI ..) (J (j1 ..) (rF hsy ?_)))
  by_cases h0:fg r f.2 t=0
  ·exact J h0 rfl
  ·exact J (bz (by simpa using h0)) (J (bz h0) rfl)
 rw[hs]at e7;have e8:=fm8 (I sy) (I (fg r f.2 t)) (eD a b f) (I t) (I r) (.list [I a,I b]) (fs.map (eD a b));rw[Jw a b sy fs qb SH]at e8
 have run:∀ρ',bB CF 4 [] mO (D7 (I sy) (I (fg r f.2 t)) (eD a b f) (I t) (fs.map (eD a b)) (I r) (.list [I a,I b])) (aY 2 (eY gC))=Z (.next ρ')->eR CF 5 [] mO (V2 o (eD a b f) (I t) (fs.map (eD a b)) (I r) (.list [I a,I b])) (eY gC)=Z (.next ρ'):=λρ' h=>by
  exact J hB (aO e6 (aO e7 (aO h cY)))
 cases hc:(fs.map (·.2)).contains sy with
 |true=>
  rw[hc]at e8;refine J (bx ..) (J (run _ e8) (J (bz rfl) ?_));show Z (fb _ _)=_;exact J (aar ..) rfl
 |false=>
  rw[hc]at e8;have e9:=fm9 (I sy) (I (fg r f.2 t)) (eD a b f) (I t) (I r) (.list [I a,I b]) (fs.map (eD a b));rw[MI a b sy t f jM,aq (show(fs.map (eD a b)).length<=fB by refine J (au ..) ?_;show _<=16777216;lia)]at e9
  have e8':bB CF 4 [] mO (D7 (I sy) (I (fg r f.2 t)) (eD a b f) (I t) (fs.map (eD a b)) (I r) (.list [I a,I b])) (aY 2 (eY gC))=Z (.next (V3 (I sy) (I (fg r f.2 t)) (eD a b f) (I t) (fs.map (eD a b)++[eD a b (f.1++[t%2],sy)]) (I r) (.list [I a,I b]))):=by
   refine e8.trans ?_;show eR CF 4 [] mO _ (fm (aY 2 (eY gC)))=_;exact J (show fm (aY 2 (eY gC))=[aY 0 (fm (aY 2 (eY gC)))] by kernel_rfl) (aO e9 cY)
  refine J (bx ..) (J (run _ e8') (J (bF (by simp)) ?_));show Z (fb _ _)=_;exact J (aaq ..) (J bN rfl)
theorem yP(o:GH)(a b r t m:Nat)(fs:List qW)(hm:UL fs m)(hmm:m<900)(ho:o.isSome=af∨t/2<fs.length):∃o',kE 6 uc mO CF (HT o (fs.map (eD a b)) (I r) (.list [I a,I b])) (I t)=Z (.next (HT (Z o') ((iS r fs t).map (eD a b)) (I r) (.list [I a,I b]))):=by
 have SH:fs.length<1000:=by have:=hm.2;lia
 have e4:=fm4 o (I t) (I r) (.list [I a,I b]) (fs.map (eD a b))
 have ZX:lX (pO (b2 .FloorDiv (Z (I t)) (Z (I 2)))) (pO (b2 .Add (b2 .FloorDiv (Z (I t)) (Z (I 2))) (Z (I 1)))) (Z ae) (Z (.list (fs.map (eD a b))))=Z (.list (((fs.map (eD a b)).drop (t/2)).take 1)):=by
  refine J (FC _ _ (by decide) (by decide)) (J (j1 ..) ?_);show rm (.list (fs.map (eD a b))) (Z ((t/2:Nat):Int)) (Z ((t/2+1:Nat):Int)) ae=_;exact J (BJ _ _ _ (by refine J (au ..) ?_;show _<=16777216;lia) (bw (t/2) 1)) (J (eh ..) rfl)
 rw[ZX]at e4;have OB:bB CF 5 [] mO (vA o (I t) (fs.map (eD a b)) (I r) (.list [I a,I b])) gC=gY (kE 5 gC mO CF) (((fs.map (eD a b)).drop (t/2)).take 1) (vA o (I t) (fs.map (eD a b)) (I r) (.list [I a,I b])):=e4;unfold kE;refine J (fm3 ..) ?_
 have fin:∀ρ',bB CF 5 [] mO (vA o (I t) (fs.map (eD a b)) (I r) (.list [I a,I b])) gC=Z (.next ρ')->(eR CF 6 [] mO (vA o (I t) (fs.map (eD a b)) (I r) (.list [I a,I b])) (eY uc))=Z (.next ρ'):=λρ' h=>by
  exact J (show eY uc=[gC] by kernel_rfl) (aO h cY)
 cases hf:fs[t/2]? with
 |none=>
  have SG:fs.length<=t/2:=kM.mp hf;have VE:o.isSome=af:=ho.resolve_right ((λ{a b}=>dH.mpr) SG);refine bQ (aW.mp VE) λp jE=>?_;subst jE
  have hd:((fs.map (eD a b)).drop (t/2)).take 1=[]:=by
   exact J (cS (J (au ..) SG)) rfl
  rw[hd]at OB;refine J (bx ..) (J (fin _ OB) ?_);refine⟨(p.1,p.2.1,p.2.2.1,I t),?_⟩;show Z (fb _ _)=_;refine J (aao ..) ?_;unfold iS;exact J hf rfl
 |some f=>
  have jJ:t/2<fs.length:=(cK.mp hf).1;have DY:f∈fs:=j5 hf
  have hd:((fs.map (eD a b)).drop (t/2)).take 1=[eD a b f]:=by
   refine rF lu (rF lr (J (io jJ) ?_));rw[cR jJ]at hf;refine qS hf ?_;rfl
  rw[hd]at OB;refine jY (D5 o a b r t m fs hm hmm f DY) λsy pl hi=>?_
  have M5:gY (kE 5 gC mO CF) [eD a b f] (vA o (I t) (fs.map (eD a b)) (I r) (.list [I a,I b]))=Z (.next (MH o sy pl (eD a b f) (I t) ((vy r t fs f).map (eD a b)) (I r) (.list [I a,I b]))):=by
   exact J iT (J hi rfl)
  refine J (bx ..) (J (fin _ (OB.trans M5)) ?_);refine⟨(sy,pl,eD a b f,I t),?_⟩;show Z (fb _ _)=_;refine J (aap ..) ?_;unfold iS vy;exact J hf rfl
set_option tactic.hygienic true in
theorem yq{r t:Nat}{fs:List qW}(hm:UL fs m):UL (iS r fs t) (m+1):=by
 unfold iS
 split
 ·exact⟨λf hf=>jW (hm.1 f hf),jW hm.2⟩
 ·rename_i w s hf;generalize hsy:(if fg r s t≠0 then 256+fg r s t else 0)=sy
  split
  ·exact⟨λf hf=>jW (hm.1 f hf),jW hm.2⟩
  ·refine⟨λf hf'=>?_,by refine J aP ?_;have:=hm.2;simp;exact(λ{i₁ i₂}=>w8.mp) this⟩;refine jR (ez.mp hf') (λh=>?_) λh=>?_
   ·exact jW (hm.1 f h)
   ·rw[aF]at h;subst h;have:=hm.1 (w,s) (j5 hf);simp only[aP,dX]at this⊢;exact ku this 1
theorem yQ(a b r:Nat):∀(ts:List Nat) (o:D×D×D×D) (m:Nat) (fs:List qW),UL fs m->m+ts.length<900->∃o',gY (kE 6 uc mO CF) (ts.map I) (HT (Z o) (fs.map (eD a b)) (I r) (.list [I a,I b]))=Z (.next (HT (Z o') ((ts.foldl (iS r) fs).map (eD a b)) (I r) (.list [I a,I b])))
 |[],o,m,fs,hm,h=>⟨o,rfl⟩
 |t::ts,o,m,fs,hm,h=>by
  rw[bA]at h;refine bQ (yP (Z o) a b r t m fs hm (fJ h) (.inl rfl)) λo1 h1=>bQ (yQ a b r ts o1 (m+1) (iS r fs t) (yq hm) (by lia)) λo2 h2=>⟨o2,?_⟩;exact J aR (J iT (J h1 h2))
theorem MD(a b r:Nat):eR CF 7 ["forms"] mO (oq ["rule","numbers"] [I r,.list [I a,I b]]) (bP FY)=Z (.ret (.list ((js r).map (eD a b)))):=by
 refine J (show bP FY=[aY 0 (bP FY),uc,aY 2 (bP FY)] by kernel_rfl) ?_;refine aO (fm1 _ _) ?_;have e0:[bJ [I 271]]=[(([],271):qW)].map (eD a b):=rfl;refine bQ (yP ae a b r 0 0 [([],271)] ⟨λf hf=>by refine J (aF.mp hf) ?_;decide,by decide⟩ (by decide) (.inr (by decide))) λo1 h1=>?_;refine bQ (yQ a b r ((av 31).map (·+1)) o1 1 (iS r [([],271)] 0) (yq ⟨λf hf=>by refine J (aF.mp hf) ?_;decide,by decide⟩) (by decide)) λo2 h2=>?_
 have h3:bB CF 6 ["forms"] mO (HT ae [.list [I 271]] (I r) (.list [I a,I b])) uc=Z (.next (HT (Z o2) ((js r).map (eD a b)) (I r) (.list [I a,I b]))):=by
  refine J (fm2 ..) (J (show fh 0 32 1=(av 32).map I from i9 32) (J (show av 32=0::(av 31).map (·+1) by decide) ?_));rw[aR];refine J e0 (J iT (J h1 ?_));refine iN h2 ?_;unfold js;refine J (show av 32=0::(av 31).map (·+1) by decide) ?_;rw[fT]
 refine aO h3 (cH ?_)
 kernel_rfl
def F2(ds:List D):Option D:=AQ ds λu1 u2=>kY u1 λr=>o9 u2 λu3=>AQ u3 λu4 u5=>kY u4 λa=>kY u5 λb=>Z (.list ((js r).map (eD a b)))
theorem Jy(g:Gr G):∀ds d,F2 ds=Z d->eJ G 8 "_law_forms" ds d:=λds d h=>by
 refine i2 h λu1 u2 h=>lA h λr h=>sf h λu3 h=>i2 h λu4 u5 h=>lA h λa h=>lA h λb h=>qS h ?_;exact g.D6.ok (n:=7) (C:=CF) (ow:=["forms"]) (kk:=7) g.K (rg g.B (by decide) (zM (HW g) (zM (HV g) X1)) oy r8 ox qI) (MD a b r) (.inl rfl) (by kernel_rfl) rfl (λ_ _ _=>rt 2 λ_ _=>rfl)
def gf(es:List (Option D)):Option D:=(b8 es).bind λds=>bif ah (ds.length<=fB)then Z (.list ds)else ae
def lI(es:List (Option D)):Option D:=(b8 es).bind λds=>bif ah (ds.length<=fB)then Z (.tuple ds)else ae
def Ef(q:Option (List D×Bool×Bool))(tp:Bool)(f:List D->Option (List D)):Option (List D):=q.bind λq=>zZ (bif(!q.2.1||tp)&&af then f q.1 else ae)
noncomputable def ZD(q:Option (List D×Bool×Bool))(tp:Bool)(f:List D->Option (List D)):Option (List D):=q.bind λq=>bif q.2.2 then(bif(!q.2.1||tp)&&af then f q.1 else ae)else ae
abbrev BB:bX:=dj 76
abbrev fV:bj:=c9 BB
abbrev li:bX:=aY 1 (bP BB)
abbrev j8:bX:=aY 0 (eY li)
abbrev kU:bX:=aY 0 (eY j8)
abbrev P4:=D×D×D×D
noncomputable def XD(ps:List D)(r:D):aE:=[("pairs",.own ps),("rule",.val r)]
abbrev om:=Option (Option (D×D)×P4×D)
noncomputable def EP(o:om)(ps:List D)(r:D):aE:=match o with
 |none=>[("pairs",.own ps),("rule",.val r)]
 |some (ae,(p,q,x,y),t)=>[("other",.val y),("one",.val x),("q",.val q),("p",.val p),("turn",.val t),("pairs",.own ps),("rule",.val r)]
 |some (Z (t',u'),(p,q,x,y),t)=>[("u",.val u'),("t",.val t'),("other",.val y),("one",.val x),("q",.val q),("p",.val p),("turn",.val t),("pairs",.own ps),("rule",.val r)]
noncomputable def EQ(o:om)(t:D)(ps:List D)(r:D):aE:=match o with
 |none=>[("turn",.val t),("pairs",.own ps),("rule",.val r)]
 |some (ae,(p,q,x,y),_)=>[("turn",.val t),("other",.val y),("one",.val x),("q",.val q),("p",.val p),("pairs",.own ps),("rule",.val r)]
 |some (Z (t',u'),(p,q,x,y),_)=>[("turn",.val t),("u",.val u'),("t",.val t'),("other",.val y),("one",.val x),("q",.val q),("p",.val p),("pairs",.own ps),("rule",.val r)]
abbrev G8:=Option (Bool×D×D)
noncomputable def zK(k:G8)(v:P4)(t:D)(ps:List D)(r:D):aE:=match k with
 |none=>[("other",.val v.2.2.2),("one",.val v.2.2.1),("q",.val v.2.1),("p",.val v.1),("turn",.val t),("pairs",.own ps),("rule",.val r)]
 |some (ag,t',u')=>[("u",.val u'),("t",.val t'),("other",.val v.2.2.2),("one",.val v.2.2.1),("q",.val v.2.1),("p",.val v.1),("turn",.val t),("pairs",.own ps),("rule",.val r)]
 |some (af,t',u')=>[("other",.val v.2.2.2),("one",.val v.2.2.1),("q",.val v.2.1),("p",.val v.1),("turn",.val t),("u",.val u'),("t",.val t'),("pairs",.own ps),("rule",.val r)]
noncomputable def BC(o:om):G8:=match o with
 |some (Z (t',u'),_,_)=>Z (af,t',u')
 |_=>ae
def Oh(t' u':D)(v:P4)(t:D)(ps:List D)(r:D):aE:=zK (Z (ag,t',u')) v t ps r
noncomputable def twE(t' u':D)(v:P4)(t:D)(ps:List D)(r:D):aE:=[("pairs",.own ps),("u",.val u'),("t",.val t'),("other",.val v.2.2.2),("one",.val v.2.2.1),("q",.val v.2.1),("p",.val v.1),("turn",.val t),("rule",.val r)]
noncomputable def ME(q:Option (List D×Bool×Bool))(f:List D->Option gO):Option gO:=q.bind λq=>bif q.2.2&&(!q.2.1||true)then f q.1 else ae
theorem tw1(r:D):bB C0 6 ["pairs"] fV (oq ["rule"] [r]) (aY 0 (bP BB))=Z (.next (XD ((av 4).map λp=>.tuple [I p,I p,.list [I (p/2),I (p%2)],.list [I (p/2),I (p%2)]]) r)):=by kernel_rfl
theorem tw2(r:D)(ps:List D):bB C0 6 ["pairs"] fV (XD ps r) li=gY (kE 6 li fV C0) (fh 0 16 1) (XD ps r):=by kernel_rfl
theorem tw3(o:om)(t r:D)(ps:List D):nV fV 3 (uD li) t (EP o ps r)=Z (EQ o t ps r):=by rcases o with _|⟨_|⟨_,_⟩,⟨_,_,_,_⟩,_⟩<;>kernel_rfl
theorem tw4(o:om)(t r:D)(ps:List D):bB C0 5 [] fV (EQ o t ps r) j8=ME (kf (lX (pO (Z t)) (pO (b2 .Add (Z t) (Z (I 1)))) (Z ae) (Z (.list ps)))) λds=>gY (kE 5 j8 fV C0) ds (EQ o t ps r):=by rcases o with _|⟨_|⟨_,_⟩,⟨_,_,_,_⟩,_⟩<;>kernel_rfl
theorem tw5(o:om)(p q x y t r:D)(ps:List D):nV fV 3 (uD j8) (.tuple [p,q,x,y]) (EQ o t ps r)=Z (zK (BC o) (p,q,x,y) t ps r):=by rcases o with _|⟨_|⟨_,_⟩,⟨_,_,_,_⟩,_⟩<;>kernel_rfl
def OV(p q r:D):Option (List D):=Ef (kf (lI [b2 .Mult (Z (I 2)) (Z p),b2 .Add (b2 .Mult (Z (I 2)) (Z p)) (Z (I 1))])) ag (λxs=>(oQ (λd=>ZD (kf (lI [b2 .Mult (Z (I 2)) (Z q),b2 .Add (b2 .Mult (Z (I 2)) (Z q)) (Z (I 1))])) ag (λys=>(oQ (λd2=>nA (N2 (Ri (c2 .NotEq (Z d) (Z d2)) (c2 .Eq (b2 .BitAnd (b2 .RShift (Z r) (Z d)) (Z (I 1))) (b2 .BitAnd (b2 .RShift (Z r) (Z d2)) (Z (I 1)))))) (lI [Z d,Z d2])) ys).map eF)) xs).map eF)
theorem tw6(k:G8)(v:P4)(t r:D)(ps:List D):bB C0 4 [] fV (zK k v t ps r) kU=ME (kf ((OV v.1 v.2.1 r).map .list)) λds=>gY (kE 4 kU fV C0) ds (zK k v t ps r):=by rcases k with _|⟨_|_,_,_⟩<;>kernel_rfl
theorem tw7(k:G8)(v:P4)(a b t r:D)(ps:List D):nV fV 3 (uD kU) (.tuple [a,b]) (zK k v t ps r)=Z (Oh a b v t ps r):=by rcases k with _|⟨_|_,_,_⟩<;>kernel_rfl
def m3(x:D):Option D:=b2 .BitAnd (Z x) (Z (I 3))
def m1(x:D):Option D:=b2 .BitAnd (Z x) (Z (I 1))
def T5(a b:D):Option Bool:=c2 .Eq (m3 a) (m3 b)
abbrev xh:bX:=aY 0 (eY kU)
abbrev xg:bX:=aY 1 (eY kU)
theorem tw8(v:P4)(a b t r:D)(ps:List D):bB C0 3 [] fV (Oh a b v t ps r) xh=(T5 a b).bind λc=>eR C0 3 [] fV (Oh a b v t ps r) (bif c then fm xh else[]):=by kernel_rfl
theorem tw9(v:P4)(a b t r:D)(ps:List D):bB C0 2 [] fV (Oh a b v t ps r) (aY 0 (fm xh))=(lI [b2 .Add (Z v.2.2.1) (gf [m1 a]),b2 .Add (Z v.2.2.2) (gf [m1 b])]).map .ret:=by kernel_rfl
def T4(a b:D)(ps:List D):Option Bool:=c2 .NotIn (lI [m3 a,m3 b]) ((qg ps (λ_=>Z af) (λd=>lX (Z ae) (pO (Z (I 2))) (Z ae) (Z d))).map .list)
theorem aew(v:P4)(a b t r:D)(ps:List D):bB C0 3 [] fV (Oh a b v t ps r) xg=(T4 a b ps).bind λc=>eR C0 3 [] fV (Oh a b v t ps r) (bif c then fm xg else[]):=by kernel_rfl
def RS(v:P4)(a b:D):Option D:=lI [m3 a,m3 b,b2 .Add (Z v.2.2.1) (gf [m1 a]),b2 .Add (Z v.2.2.2) (gf [m1 b])]
theorem aev(v:P4)(a b t r:D)(ps:List D):bB C0 2 [] fV (Oh a b v t ps r) (aY 0 (fm xg))=bif ah (ps.length<=fB)then(RS v a b).map λd=>.next (twE a b v t (ps++[d]) r)else ae:=by kernel_rfl
noncomputable def Dc(k:G8)(a b:D):G8:=match k with
 |none=>Z (ag,a,b)
 |some (c,_,_)=>Z (c,a,b)
theorem aeu(k:G8)(v:P4)(a b t r:D)(ps nM:List D):fb (zK k v t ps r) (.next (Oh a b v t nM r))=.next (zK (Dc k a b) v t nM r):=by rcases k with _|⟨_|_,_,_⟩<;>kernel_rfl
theorem aet(k:G8)(v:P4)(a b t r:D)(ps nM:List D):fb (zK k v t ps r) (.next (twE a b v t nM r))=.next (zK (Dc k a b) v t nM r):=by rcases k with _|⟨_|_,_,_⟩<;>kernel_rfl
noncomputable def aen(o:om)(k:G8)(v:P4)(t:D):om:=Z (k.map (λp=>(p.2.1,p.2.2)),v,t)
def kOk(o:om)(k:G8):Prop:=match o with
 |some (Z _,_,_)=>∃a b,k=Z (af,a,b)
 |_=>k=ae∨∃a b,k=Z (ag,a,b)
theorem aes(o:om)(k:G8)(v:P4)(t r:D)(ps nM:List D)(h:kOk o k):∃ρ1,fb (EQ o t ps r) (.next (zK k v t nM r))=.next ρ1∧fb (EP o ps r) (.next ρ1)=.next (EP (aen o k v t) nM r):=by
 rcases o with _|⟨_|⟨_,_⟩,⟨_,_,_,_⟩,_⟩
 ·rcases h with rfl|⟨a,b,rfl⟩<;>exact⟨_,rfl,by kernel_rfl⟩
 ·rcases h with rfl|⟨a,b,rfl⟩<;>exact⟨_,rfl,by kernel_rfl⟩
 ·refine jY h λa b jE=>?_;subst jE;exact⟨_,rfl,by kernel_rfl⟩
theorem aer(o:Option (D×D)×P4×D)(t r:D)(ps:List D):fb (EP (Z o) ps r) (.next (EQ (Z o) t ps r))=.next (EP (Z (o.1,o.2.1,t)) ps r):=by rcases o with⟨_|⟨_,_⟩,⟨_,_,_,_⟩,_⟩<;>kernel_rfl
theorem aeq(o:om)(ps:List D)(r:D):bB C0 6 ["pairs"] fV (EP o ps r) (aY 2 (bP BB))=Z (.ret (.tuple [.list [],.list []])):=by rcases o with _|⟨_|⟨_,_⟩,⟨_,_,_,_⟩,_⟩<;>kernel_rfl
abbrev TP:=(Nat×Nat)×List Nat×List Nat
variable{ps:List TP}
def bW(xs:List Nat):D:=.list (xs.map I)
def eS(x:TP):D:=.tuple [I x.1.1,I x.1.2,bW x.2.1,bW x.2.2]
def kj(m:Nat×Nat):D:=.tuple [I m.1,I m.2]
noncomputable def oG(r p q:Nat):List (Nat×Nat):=([2*p,2*p+1].map λt=>([2*q,2*q+1].filter λu=>t !=u&&(r>>>t&&&1==r>>>u&&&1)).map λu=>(t,u)).flatten
theorem vc(a b:D):lI [Z a,Z b]=Z (.tuple [a,b]):=rfl
theorem EG(a:D):gf [Z a]=Z (.list [a]):=rfl
theorem uu(ds:List D):kf (Z (.tuple ds))=Z (ds,ag,af):=rfl
theorem AW(r p q:Nat):(oG r p q).length<=4:=by
 have h:∀t,(([2*q,2*q+1].filter λu=>t !=u&&(r>>>t&&&1==r>>>u&&&1)).map λu=>(t,u)).length<=2:=λt=>by exact J (au ..) (eV _ _)
 unfold oG;simp only[aR,kB,d6,ON,aP,iy];exact cL (h (2*p)) (h (2*p+1))
theorem U3(ds:List D)(tp:Bool)(f:List D->Option (List D)):ZD (Z (ds,ag,af)) tp f=f ds:=by induction tp using ax<;>rfl
theorem F7(ds:List D)(tp:Bool)(f:List D->Option (List D)):Ef (Z (ds,ag,af)) tp f=zZ (f ds):=by induction tp using ax<;>rfl
theorem ww(g:α->D){xs:List α}{f:D->Option (List D)}(k:α->List D)(h:∀x∈xs,f (g x)=Z (k x)):(oQ f (xs.map g)).map eF=Z (xs.map k).flatten:=by
 exact J yC (J (pZ h) rfl)
theorem qz(g:α->D){xs:List α}{t:D->Option Bool}{e:D->Option D}(p:α->Bool)(k:α->D)(ht:∀x∈xs,t (g x)=Z (p x))(he:∀x∈xs,p x=af->e (g x)=Z (k x)):(oQ (λd=>nA (t d) (e d)) (xs.map g)).map eF=Z ((xs.filter p).map k):=by
 refine J (ww g (λx=>bif p x then[k x]else[]) λx hx=>by
  show nA (t (g x)) (e (g x))=_;refine J (ht x hx) ?_
  cases h:p x
  ·rfl
  ·refine J (he x hx h) ?_;rfl) ?_
 refine J (sx ..) rfl
theorem Hp(p:Nat)(hp:p<4):lI [b2 .Mult (Z (I 2)) (Z (I p)),b2 .Add (b2 .Mult (Z (I 2)) (Z (I p))) (Z (I 1))]=Z (.tuple ([2*p,2*p+1].map I)):=by
 exact J (DH 2 p (iG hp (by decide))) (J (j1 ..) rfl)
theorem OU(r p q:Nat)(hp:p<4)(hq:q<4):OV (I p) (I q) (I r)=Z ((oG r p q).map kj):=by
 unfold OV
 refine J (Hp p hp) (J (Hp q hq) (J (uu ..) (J (uu ..) (J (F7 ..) (J (ww I (λt=>([2*q,2*q+1].filter λu=>t !=u&&(r>>>t&&&1==r>>>u&&&1)).map λu=>kj (t,u)) λt _=>by
  exact J (U3 ..) (qz I (λu=>t !=u&&(r>>>t&&&1==r>>>u&&&1)) (λu=>kj (t,u)) (λu _=>by exact J (afe ..) (J (i7 ..) (J (iQ ..) (J (i7 ..) (J (iQ ..) (J (FD ..) (J (wY ..) (J (lN ..) rfl)))))))) λu _ _=>rfl)) ?_)))))
 have e:([2*p,2*p+1].map λt=>([2*q,2*q+1].filter λu=>t !=u&&(r>>>t&&&1==r>>>u&&&1)).map λu=>kj (t,u)).flatten=(oG r p q).map kj:=by
  unfold oG;refine J List.map_flatten (J bI ?_)
  congr 1
  apply dx;intro t _;show _=ui kj (ui _ _);exact J bI rfl
 exact J e (oA (J (au ..) (aj (AW r p q) (by decide))))
noncomputable def uo(m:Nat×Nat)(x y:List Nat)(ps:List TP):List TP⊕(List Nat×List Nat):=
 if m.1&&&3=m.2&&&3 then .inr (x++[m.1&&&1],y++[m.2&&&1])
 else .inl (if(ps.map (·.1)).contains (m.1&&&3,m.2&&&3)then ps else ps++[((m.1&&&3,m.2&&&3),x++[m.1&&&1],y++[m.2&&&1])])
noncomputable def nK(x y:List Nat):List (Nat×Nat)->List TP->List TP⊕(List Nat×List Nat)
 |[],ps=>.inl ps
 |m::ms,ps=>match uo m x y ps with
  |.inl nM=>nK x y ms nM
  |.inr z=>.inr z
theorem IF{x y:List Nat}{m:Nat×Nat}{ms:List (Nat×Nat)}:nK x y (m::ms) ps=(match uo m x y ps with
 |.inl nM=>nK x y ms nM
 |.inr z=>.inr z):=rfl
def wm(r:Nat)(ps:List TP)(t:Nat):List TP⊕(List Nat×List Nat):=match ps[t]? with
 |none=>.inl ps
 |some ((p,q),x,y)=>nK x y (oG r p q) ps
noncomputable def xf(r:Nat):List Nat->List TP->List TP⊕(List Nat×List Nat)
 |[],ps=>.inl ps
 |t::ts,ps=>match wm r ps t with
  |.inl nM=>xf r ts nM
  |.inr z=>.inr z
theorem G7{r t:Nat}{ts:List Nat}:xf r (t::ts) ps=(match wm r ps t with
 |.inl nM=>xf r ts nM
 |.inr z=>.inr z):=rfl
noncomputable def mZ:List TP:=(av 4).map λp=>((p,p),[p/2,p%2],[p/2,p%2])
def mY(r:Nat):List Nat×List Nat:=match xf r (av 16) mZ with
 |.inl _=>([],[])
 |.inr z=>z
def q9(z:List Nat×List Nat):D:=.tuple [bW z.1,bW z.2]
theorem AZ(a:Nat):m3 (I a)=Z (I (a&&&3)):=iQ a 3
theorem Hx(a:Nat):m1 (I a)=Z (I (a&&&1)):=iQ a 1
theorem mI(x y:List Nat)(h:x.length+y.length<=fB):b2 .Add (Z (bW x)) (Z (bW y))=Z (bW (x++y)):=by
 show(bif ah ((x.map I).length+(y.map I).length<=fB)then Z (bJ (x.map I++y.map I))else ae)=_;exact J (aq (by simpa using h)) (rF bN rfl)
theorem Qw(a b:Nat)(xs:List (Nat×Nat)):c2 .In (Z (kj (a,b))) (Z (.list (xs.map kj)))=Z (xs.contains (a,b)):=by
 show Ik (kj (a,b)) (xs.map kj)=_
 have hc:∀xs:List (Nat×Nat),ik (xs.map kj)=af:=λxs=>by
  induction xs with
  |nil=>rfl|cons x xs ih=>exact J aR (J ih rfl)
 unfold Ik;refine J (hc ..) ?_;have h1:(kj (a,b)).canLay0=af:=rfl;have h2:ah ((kj (a,b)).depth<=80)=af:=rfl;refine J h1 (J h2 ?_);show Z ((xs.map kj).any λy=>mJ y (kj (a,b)))=_
 congr 1
 induction xs with
 |nil=>rfl
 |cons x xs ih=>
  refine J aR (J CX (J ih (J wg ?_)))
  congr 1
  show((x.1:Int)==(a:Int)&&((x.2:Int)==(b:Int)&&af))=_;obtain⟨p,q⟩:=x;rw[cj];simp only[Bool.and_true,bG,aC,OJ];exact⟨λh=>⟨(mh h.1).symm,(mh h.2).symm⟩,λh=>⟨aD _ h.1.symm,aD _ h.2.symm⟩⟩
theorem OT(a b:Nat)(ps:List TP)(h:ps.length<=fB):T4 (I a) (I b) (ps.map eS)=Z (!(ps.map (·.1)).contains (a&&&3,b&&&3)):=by
 unfold T4;refine J (AZ ..) (J (AZ ..) (J (vc ..) (J (vL (e:=λd=>lX (Z ae) (pO (Z (I 2))) (Z ae) (Z d)) eS (λx=>kj x.1) (λx _=>rfl) h) ?_)));have:(ps.map λx=>kj x.1)=(ps.map (·.1)).map kj:=by exact J bI rfl
 refine J this ?_;have:=Qw (a&&&3) (b&&&3) (ps.map (·.1));show(Ik (kj (a&&&3,b&&&3)) ((ps.map (·.1)).map kj)).map (!·)=_;exact J (show Ik (kj (a&&&3,b&&&3)) ((ps.map (·.1)).map kj)=_ from this) rfl
def ie(x:TP):P4:=(I x.1.1,I x.1.2,bW x.2.1,bW x.2.2)
theorem OS(k:G8)(v:TP)(t:D)(r:Nat)(m:Nat×Nat)(ps:List TP)(hl:ps.length<1000)(hv:v.2.1.length<1000∧v.2.2.length<1000):
 kE 4 kU fV C0 (zK k (ie v) t (ps.map eS) (I r)) (kj m)=match uo m v.2.1 v.2.2 ps with
  |.inl nM=>Z (.next (zK (Dc k (I m.1) (I m.2)) (ie v) t (nM.map eS) (I r)))
  |.inr z=>Z (.ret (q9 z)):=by
 obtain⟨a,b⟩:=m;have hz:∀c:Nat,c<1000->c+1<=fB:=λc h=>by show c+1<=16777216;exact aj (by assumption) (by decide)
 unfold kE;refine J (show kj (a,b)=.tuple [I a,I b]from rfl) (J (tw7 ..) (J (bx ..) ?_));have hB:eY kU=[xh,xg]:=by kernel_rfl
 have e8:=tw8 (ie v) (I a) (I b) t (I r) (ps.map eS);rw[show T5 (I a) (I b)=Z (a&&&3==b&&&3) by unfold T5;exact J (AZ ..) (J (AZ ..) (J (FD ..) rfl))]at e8;have aoq:(bW v.2.1)=(ie v).2.2.1:=rfl;unfold uo
 by_cases h:a&&&3=b&&&3
 ·refine J (bz h) ?_;have hb:(a&&&3==b&&&3)=af:=by simpa using h
  rw[hb]at e8;have e9:=tw9 (ie v) (I a) (I b) t (I r) (ps.map eS);rw[Hx,Hx,EG,EG]at e9
  rw[show b2 .Add (Z (ie v).2.2.1) (Z (.list [I (a&&&1)]))=Z (bW (v.2.1++[a&&&1]))from mI v.2.1 [a&&&1] (hz _ hv.1),
   show b2 .Add (Z (ie v).2.2.2) (Z (.list [I (b&&&1)]))=Z (bW (v.2.2++[b&&&1]))from mI v.2.2 [b&&&1] (hz _ hv.2),vc]at e9
  have e8':bB C0 3 [] fV (Oh (I a) (I b) (ie v) t (ps.map eS) (I r)) xh=Z (.ret (q9 (v.2.1++[a&&&1],v.2.2++[b&&&1]))):=by
   refine e8.trans ?_;show eR C0 3 [] fV _ (fm xh)=_;exact J (show fm xh=[aY 0 (fm xh)] by kernel_rfl) (cH e9)
  refine J hB ?_;show(eR C0 4 [] fV _ _).map _=_;exact J (cH e8') rfl
 ·refine J (bF h) ?_;have hb:(a&&&3==b&&&3)=ag:=by simpa using h
  rw[hb]at e8;have El:=aew (ie v) (I a) (I b) t (I r) (ps.map eS);rw[OT a b ps (cm (iG hl (by decide)))]at El;show(eR C0 4 [] fV _ _).map _=_;refine J hB ?_
  cases hc:(ps.map (·.1)).contains (a&&&3,b&&&3)with
  |true=>
   rw[hc]at El;refine J (aO e8 (aO El cY)) (J (bz rfl) ?_);show Z (fb _ _)=_;exact J (aeu ..) rfl
  |false=>
   rw[hc]at El;have SX:=aev (ie v) (I a) (I b) t (I r) (ps.map eS);unfold RS at SX;rw[AZ,AZ,Hx,Hx,EG,EG]at SX
   rw[show b2 .Add (Z (ie v).2.2.1) (Z (.list [I (a&&&1)]))=Z (bW (v.2.1++[a&&&1]))from mI v.2.1 [a&&&1] (hz _ hv.1),
    show b2 .Add (Z (ie v).2.2.2) (Z (.list [I (b&&&1)]))=Z (bW (v.2.2++[b&&&1]))from mI v.2.2 [b&&&1] (hz _ hv.2)]at SX
   rw[aq (show(ps.map eS).length<=fB by exact J (au ..) (cm (iG hl (by decide))))]at SX
   have ahJ:bB C0 3 [] fV (Oh (I a) (I b) (ie v) t (ps.map eS) (I r)) xg=Z (.next (twE (I a) (I b) (ie v) t (ps.map eS++[eS ((a&&&3,b&&&3),v.2.1++[a&&&1],v.2.2++[b&&&1])]) (I r))):=by
    refine El.trans ?_;show eR C0 3 [] fV _ (fm xg)=_;exact J (show fm xg=[aY 0 (fm xg)] by kernel_rfl) (aO SX cY)
   refine J (aO e8 (aO ahJ cY)) (J (bF (by simp)) ?_);show Z (fb _ _)=_;refine J (aet ..) ?_;show _=Z (gO.next (zK (Dc k (I a) (I b)) (ie v) t ((ps++[((a&&&3,b&&&3),v.2.1++[a&&&1],v.2.2++[b&&&1])]).map eS) (I r)));exact J bN rfl
theorem IG{m:Nat×Nat}{x y:List Nat}{nM:List TP}{M:Nat}(h:uo m x y ps=.inl nM)(hx:x.length<M∧y.length<M)(hp:∀x∈ps,x.1.1<4∧x.1.2<4∧x.2.1.length<=M∧x.2.2.length<=M):
 (∀x∈nM,x.1.1<4∧x.1.2<4∧x.2.1.length<=M∧x.2.2.length<=M)∧nM.length<=ps.length+1:=by
 unfold uo at h
 split at h
 ·cases h
 ·cases h
  split
  ·exact⟨hp,km _⟩
  ·refine⟨λz hz=>?_,by simp⟩;refine jR (ez.mp hz) (λhz=>?_) λhz=>?_
   ·exact hp z hz
   ·refine J (aF.mp hz) ?_;have h3:∀a:Nat,a&&&3<4:=λa=>aT nv (by decide);refine⟨h3 _,h3 _,?_,?_⟩<;>simp<;>lia
theorem C9(v:TP)(t:D)(r M:Nat)(hv:v.2.1.length<M∧v.2.2.length<M)(hM:M<100):∀(ms:List (Nat×Nat)) (k:G8) (ps:List TP),(∀x∈ps,x.1.1<4∧x.1.2<4∧x.2.1.length<=M∧x.2.2.length<=M)->ps.length+ms.length<1000->
 match nK v.2.1 v.2.2 ms ps with
  |.inl nM=>(∃k',gY (kE 4 kU fV C0) (ms.map kj) (zK k (ie v) t (ps.map eS) (I r))=Z (.next (zK k' (ie v) t (nM.map eS) (I r)))∧(k'=k∨∃a b,k'=Dc k a b))∧(∀x∈nM,x.1.1<4∧x.1.2<4∧x.2.1.length<=M∧x.2.2.length<=M)∧nM.length<=ps.length+ms.length
  |.inr z=>gY (kE 4 kU fV C0) (ms.map kj) (zK k (ie v) t (ps.map eS) (I r))=Z (.ret (q9 z))
 |[],k,ps,hp,hl=>⟨⟨k,rfl,.inl rfl⟩,hp,aV _⟩
 |m::ms,k,ps,hp,hl=>by
  rw[bA]at hl;have h1:=OS k v t r m ps (fJ hl) ⟨by lia,by lia⟩;refine J IF ?_
  cases hm:uo m v.2.1 v.2.2 ps with
  |inr z=>
   rw[hm]at h1;simp only;exact J aR (J iT (J h1 rfl))
  |inl nM=>
   rw[hm]at h1;obtain⟨wB,vZ⟩:=IG hm hv hp;have h2:=C9 v t r M hv hM ms (Dc k (I m.1) (I m.2)) nM wB (by lia);simp only
   have hf:gY (kE 4 kU fV C0) ((m::ms).map kj) (zK k (ie v) t (ps.map eS) (I r))=gY (kE 4 kU fV C0) (ms.map kj) (zK (Dc k (I m.1) (I m.2)) (ie v) t (nM.map eS) (I r)):=by
    exact J aR (J iT (J h1 rfl))
   refine J hf ?_
   cases hs:nK v.2.1 v.2.2 ms nM with
   |inr z=>rw[hs]at h2;exact h2
   |inl ae4=>
    rw[hs]at h2;obtain⟨⟨k',e,A7⟩,a,b⟩:=h2;refine⟨⟨k',e,.inr ?_⟩,a,by refine J bA ?_;lia⟩
    rcases A7 with rfl|⟨a,b,rfl⟩
    ·exact⟨_,_,rfl⟩
    ·exact⟨a,b,by rcases k with _|⟨_,_,_⟩<;>rfl⟩
def BD(ps:List TP)(M:Nat):Prop:=∀x∈ps,x.1.1<4∧x.1.2<4∧x.2.1.length<=M∧x.2.2.length<=M
theorem T6(o:om)(k':G8)(h:k'=BC o∨∃a b,k'=Dc (BC o) a b):kOk o k':=by
 rcases o with _|⟨_|⟨_,_⟩,_,_⟩
 ·rcases h with rfl|⟨a,b,rfl⟩
  ·exact .inl rfl
  ·exact .inr ⟨_,_,rfl⟩
 ·rcases h with rfl|⟨a,b,rfl⟩
  ·exact .inl rfl
  ·exact .inr ⟨_,_,rfl⟩
 ·rcases h with rfl|⟨a,b,rfl⟩
  ·exact⟨_,_,rfl⟩
  ·exact⟨_,_,rfl⟩
theorem G5(o:om)(r t M:Nat)(ps:List TP)(hp:BD ps M)(hl:ps.length<900)(hM:M<90)(ho:o.isSome=af∨t<ps.length):
 match wm r ps t with
  |.inl nM=>(∃o',kE 6 li fV C0 (EP o (ps.map eS) (I r)) (I t)=Z (.next (EP (Z o') (nM.map eS) (I r))))∧BD nM (M+1)∧nM.length<=ps.length+4
  |.inr z=>kE 6 li fV C0 (EP o (ps.map eS) (I r)) (I t)=Z (.ret (q9 z)):=by
 have e4:=tw4 o (I t) (I r) (ps.map eS)
 have ZX:lX (pO (Z (I t))) (pO (b2 .Add (Z (I t)) (Z (I 1)))) (Z ae) (Z (.list (ps.map eS)))=Z (.list (((ps.map eS).drop t).take 1)):=by
  refine J (j1 ..) ?_;show rm (.list (ps.map eS)) (Z ((t:Nat):Int)) (Z ((t+1:Nat):Int)) ae=_;exact J (BJ _ _ _ (by refine J (au ..) ?_;show _<=16777216;lia) (bw t 1)) (J (eh ..) rfl)
 rw[ZX]at e4;have OB:bB C0 5 [] fV (EQ o (I t) (ps.map eS) (I r)) j8=gY (kE 5 j8 fV C0) (((ps.map eS).drop t).take 1) (EQ o (I t) (ps.map eS) (I r)):=e4
 have fin:∀ρ',bB C0 5 [] fV (EQ o (I t) (ps.map eS) (I r)) j8=Z (.next ρ')->(eR C0 6 [] fV (EQ o (I t) (ps.map eS) (I r)) (eY li))=Z (.next ρ'):=λρ' h=>by
  exact J (show eY li=[j8] by kernel_rfl) (aO h cY)
 have ahd:∀d,bB C0 5 [] fV (EQ o (I t) (ps.map eS) (I r)) j8=Z (.ret d)->(eR C0 6 [] fV (EQ o (I t) (ps.map eS) (I r)) (eY li))=Z (.ret d):=λd h=>by
  exact J (show eY li=[j8] by kernel_rfl) (cH h)
 unfold wm
 cases hf:ps[t]? with
 |none=>
  have SG:ps.length<=t:=kM.mp hf;obtain⟨p,rfl⟩:=aW.mp (ho.resolve_right ((λ{a b}=>dH.mpr) SG))
  have hd:((ps.map eS).drop t).take 1=[]:=by
   exact J (cS (J (au ..) SG)) rfl
  rw[hd]at OB;refine⟨⟨(p.1,p.2.1,I t),?_⟩,λx hx=>by obtain⟨a,b,c,d⟩:=hp x hx;exact⟨a,b,by exact fK c,by exact fK d⟩,by exact bw ps.length 4⟩;unfold kE;refine J (tw3 ..) (J (bx ..) (J (fin _ OB) ?_));show Z (fb _ _)=_;exact J (aer ..) rfl
 |some v=>
  have jJ:t<ps.length:=(cK.mp hf).1;have DY:v∈ps:=j5 hf
  have hd:((ps.map eS).drop t).take 1=[eS v]:=by
   refine rF lu (rF lr (J (io jJ) ?_));rw[cR jJ]at hf;refine qS hf ?_;rfl
  rw[hd]at OB;obtain⟨⟨p,q⟩,x,y⟩:=v;obtain⟨v1,v2,v3,v4⟩:=hp _ DY;have h6:=tw6 (BC o) (ie ((p,q),x,y)) (I t) (I r) (ps.map eS);rw[show OV (ie ((p,q),x,y)).1 (ie ((p,q),x,y)).2.1 (I r)=Z ((oG r p q).map kj)from OU r p q v1 v2]at h6;have h6':bB C0 4 [] fV (zK (BC o) (ie ((p,q),x,y)) (I t) (ps.map eS) (I r)) kU=gY (kE 4 kU fV C0) ((oG r p q).map kj) (zK (BC o) (ie ((p,q),x,y)) (I t) (ps.map eS) (I r)):=h6;have ml:=AW r p q;have hm:=C9 ((p,q),x,y) (I t) r (M+1) ⟨by show x.length<_;have:x.length<=M:=v3;exact mB v3,by show y.length<_;have:y.length<=M:=v4;exact mB v4⟩ (by exact aT (by assumption) (by decide)) (oG r p q) (BC o) ps (λx hx=>by obtain⟨a,b,c,d⟩:=hp x hx;exact⟨a,b,by exact fK c,by exact fK d⟩) (by lia);show match nK x y (oG r p q) ps with|.inl nM=>_|.inr z=>_
  have hm:match nK x y (oG r p q) ps with|.inl nM=>_|.inr z=>_:=hm
  cases hs:nK x y (oG r p q) ps with
  |inr z=>
   rw[hs]at hm
   have e5:kE 5 j8 fV C0 (EQ o (I t) (ps.map eS) (I r)) (eS ((p,q),x,y))=Z (.ret (q9 z)):=by
    unfold kE;refine J (show eS ((p,q),x,y)=.tuple [I p,I q,bW x,bW y]from rfl) (J (tw5 ..) (J (bx ..) (J (show eY j8=[kU] by kernel_rfl) ?_)));show(eR C0 5 [] fV (zK (BC o) (ie ((p,q),x,y)) (I t) (ps.map eS) (I r)) _).map _=_;exact J (cH (h6'.trans hm)) rfl
   have M5:gY (kE 5 j8 fV C0) [eS ((p,q),x,y)] (EQ o (I t) (ps.map eS) (I r))=Z (.ret (q9 z)):=by
    exact J iT (J e5 rfl)
   show kE 6 li fV C0 _ _=_;unfold kE;exact J (tw3 ..) (J (bx ..) (J (ahd _ (OB.trans M5)) rfl))
  |inl nM=>
   rw[hs]at hm;obtain⟨⟨k',e,A7⟩,a,b⟩:=hm;obtain⟨ρ1,s1,s2⟩:=aes o k' (ie ((p,q),x,y)) (I t) (I r) (ps.map eS) (nM.map eS) (T6 o k' A7)
   have e5:kE 5 j8 fV C0 (EQ o (I t) (ps.map eS) (I r)) (eS ((p,q),x,y))=Z (.next ρ1):=by
    unfold kE;refine J (show eS ((p,q),x,y)=.tuple [I p,I q,bW x,bW y]from rfl) (J (tw5 ..) (J (bx ..) (J (show eY j8=[kU] by kernel_rfl) ?_)));show(eR C0 5 [] fV (zK (BC o) (ie ((p,q),x,y)) (I t) (ps.map eS) (I r)) _).map _=_;refine J (aO (h6'.trans e) cY) ?_;show Z (fb _ _)=_;exact J s1 rfl
   have M5:gY (kE 5 j8 fV C0) [eS ((p,q),x,y)] (EQ o (I t) (ps.map eS) (I r))=Z (.next ρ1):=by
    exact J iT (J e5 rfl)
   refine⟨⟨(k'.map (λp=>(p.2.1,p.2.2)),ie ((p,q),x,y),I t),?_⟩,a,by lia⟩;unfold kE;refine J (tw3 ..) (J (bx ..) (J (fin _ (OB.trans M5)) ?_));show Z (fb _ _)=_;exact J s2 rfl
theorem G6(r:Nat):∀(ts:List Nat) (o:om) (M:Nat) (ps:List TP),BD ps M->ps.length+4*ts.length<900->M+ts.length<90->(o.isSome=af∨∀t∈ts,t<ps.length)->
 match xf r ts ps with
  |.inl nM=>∃o',gY (kE 6 li fV C0) (ts.map I) (EP o (ps.map eS) (I r))=Z (.next (EP o' (nM.map eS) (I r)))
  |.inr z=>gY (kE 6 li fV C0) (ts.map I) (EP o (ps.map eS) (I r))=Z (.ret (q9 z))
 |[],o,M,ps,hp,hl,hM,ho=>⟨o,rfl⟩
 |t::ts,o,M,ps,hp,hl,hM,ho=>by
  rw[bA]at hl hM;have h1:=G5 o r t M ps hp (fJ hl) (fJ hM) (ho.imp (λh=>h) λh=>h t bf);refine J G7 ?_
  cases hs:wm r ps t with
  |inr z=>
   rw[hs]at h1;simp only at h1⊢;exact J aR (J iT (J h1 rfl))
  |inl nM=>
   rw[hs]at h1;obtain⟨⟨o',e⟩,wB,vZ⟩:=h1;have h2:=G6 r ts (Z o') (M+1) nM wB (by lia) (by lia) (.inl rfl);simp only
   have hf:gY (kE 6 li fV C0) ((t::ts).map I) (EP o (ps.map eS) (I r))=gY (kE 6 li fV C0) (ts.map I) (EP (Z o') (nM.map eS) (I r)):=by
    exact J aR (J iT (J e rfl))
   exact J hf h2
theorem KJ(r:Nat):eR C0 7 ["pairs"] fV (oq ["rule"] [I r]) (bP BB)=Z (.ret (q9 (mY r))):=by
 refine J (show bP BB=[aY 0 (bP BB),li,aY 2 (bP BB)] by kernel_rfl) ?_
 have e0:(av 4).map (λp=>CR [I p,I p,.list [I (p/2),I (p%2)],.list [I (p/2),I (p%2)]])=mZ.map eS:=by
  exact J bI rfl
 have e1:=tw1 (I r);rw[e0]at e1;refine aO e1 ?_;have e2:=tw2 (I r) (mZ.map eS);rw[show fh 0 16 1=(av 16).map I from i9 16]at e2
 have hg:BD mZ 2:=by
  intro x hx;obtain⟨p,hp,rfl⟩:=cG.mp hx;have:=b9.mp hp;exact⟨this,this,aV _,aV _⟩
 have ht:∀(o':om) (ps:List D),bB C0 6 ["pairs"] fV (EP o' ps (I r)) (aY 2 (bP BB))=Z (.ret (q9 ([],[]))):=λo' ps=>aeq o' ps _;have hr:av 16=0::(av 15).map (·+1):=by decide
 rw[hr,aR]at e2;have h1:=G5 ae r 0 2 mZ hg (by decide) (by decide) (.inr (by decide));unfold mY;refine J hr (J (G7 (t:=0)) ?_)
 cases hs:wm r mZ 0 with
 |inr z=>
  rw[hs]at h1;simp only at h1⊢;refine cH (e2.trans ?_);exact J iT (J (show kE 6 li fV C0 (XD (mZ.map eS) (I r)) (I 0)=Z (.ret (q9 z))from h1) rfl)
 |inl nM=>
  rw[hs]at h1;obtain⟨⟨o',e⟩,wB,vZ⟩:=h1;have h2:=G6 r ((av 15).map (·+1)) (Z o') 3 nM wB (by simp only[au,aN];have:mZ.length=4:=rfl;lia) (by simp) (.inl rfl);simp only
  have hf:gY (kE 6 li fV C0) (I 0::((av 15).map (·+1)).map I) (XD (mZ.map eS) (I r))=gY (kE 6 li fV C0) (((av 15).map (·+1)).map I) (EP (Z o') (nM.map eS) (I r)):=by
   exact J iT (J (show kE 6 li fV C0 (XD (mZ.map eS) (I r)) (I 0)=_ from e) rfl)
  rw[hf]at e2
  cases hs2:xf r ((av 15).map (·+1)) nM with
  |inr z=>
   rw[hs2]at h2;exact cH (e2.trans h2)
  |inl ae4=>
   rw[hs2]at h2;obtain⟨o'',e3⟩:=h2;exact aO (e2.trans e3) (cH (ht _ _))
def F1(ds:List D):Option D:=ER ds λu1=>kY u1 λr=>Z (q9 (mY r))
theorem Jx(g:Gr G)(fn:Fn G 76 "_law_twins"):∀ds d,F1 ds=Z d->eJ G 8 "_law_twins" ds d:=λds d h=>by
 refine i1 h λu1 h=>lA h λr h=>qS h ?_;exact fn.ok (n:=7) (C:=C0) (ow:=["pairs"]) (kk:=7) g.K (Br g.B (by decide)) (KJ r) (.inl rfl) (by kernel_rfl) rfl (λ_ _ _=>rt 1 λ_=>rfl)
noncomputable abbrev int(i:Int):D:=.int i
theorem sk(a:Int)(b:Nat)(h0:b≠0)(h:b<2^9000):b2 .FloorDiv (Z (int a)) (Z (I b))=Z (int (a/(b:Int))):=by
 show(bif((b:Int) !=0)&&!bT a (b:Int)then Z (aI (a.fdiv b))else ae)=_;refine J (qL _ _ (by exact J (dR ..) h)) ?_;have:((b:Int) !=0)=af:=by simp;lia
 refine J this ?_;show Z (aI (a.fdiv b))=_;exact J (dI _ (aU b)) rfl
theorem nB(a:Int)(b:Nat)(h0:b≠0):b2 .Mod (Z (int a)) (Z (I b))=Z (I (a%(b:Int)).toNat):=by
 show(bif((b:Int) !=0)then Z (aI (a.fmod b))else ae)=_;have:((b:Int) !=0)=af:=by simp;lia
 refine J this ?_;show Z (aI (a.fmod b))=Z (aI (((a%(b:Int)).toNat:Nat):Int));exact J (fL _ (aU b)) (J (cw (cD _ (by lia))) rfl)
theorem DU(a:Int)(k:Nat):b2 .RShift (Z (int a)) (Z (I k))=Z (int (a/2^k)):=by
 show(bif ah (0<=(k:Int))then Z (aI (a.fdiv (2^(k:Int).toNat)))else ae)=_;refine J (aq (aU k)) (J (bH ..) ?_);show Z (aI (a.fdiv (2^k)))=_;exact J (dI _ (mD (fQ k))) rfl
theorem Ss(a:Int):b2 .BitAnd (Z (int a)) (Z (I 1))=Z (I (a%2).toNat):=by
 show Z (aI (dS a 1))=Z (aI (((a%2).toNat:Nat):Int));exact J (acV ..) (J (cw (cD _ (by decide))) rfl)
abbrev Dr:bX:=dj 72
abbrev IR:bj:=c9 Dr
abbrev IS:bX:=aY 0 (bP Dr)
theorem ru1(x:D):bB C0 6 [] IR (oq ["number"] [x]) IS=(c2 .Lt (b2 .Mod (b2 .FloorDiv (Z x) (Z (I 256))) (Z (I 4))) (Z (I 2))).bind λc=>eR C0 6 [] IR (oq ["number"] [x]) (bif c then fm IS else[]):=by kernel_rfl
theorem ru2(x:D):bB C0 5 [] IR (oq ["number"] [x]) (aY 0 (fm IS))=(b2 .Mod (Z x) (Z (I 256))).map .ret:=by kernel_rfl
def Fj(x t:D):Option D:=Kb (tO (b2 .Mod (b2 .FloorDiv (Z x) (Z (I 256))) (Z (I 2)))) (lI [b2 .RShift (Z t) (Z (I 1)),b2 .BitAnd (Z t) (Z (I 1))]) (lI [b2 .BitAnd (Z t) (Z (I 3)),b2 .RShift (Z t) (Z (I 2))])
def ruρ(x:D)(ps:List D):aE:=("parts",.val (.list ps))::oq ["number"] [x]
theorem ru3(x:D):bB C0 6 [] IR (oq ["number"] [x]) (aY 1 (bP Dr))=(qg (fh 0 8 1) (λ_=>Z af) (Fj x)).map λds=>.next (ruρ x ds):=by kernel_rfl
def BK(x:D)(i two one:Nat):Option D:=b2 .LShift (b2 .BitXor (b2 .BitAnd (b2 .RShift (Z x) (Z (I two))) (Z (I 1))) (Z (I one))) (Z (I i))
def Hl(x:D)(ps:List (Nat×Nat)):Option (List D):=zZ ((oQ (λp=>nA (Z af) (BK x p.1 p.2.1 p.2.2)) ((av 8).zip ps)).map eF)
noncomputable def yl(c:Bool):List (Nat×Nat):=(av 8).map λt=>if c then(t/2,t%2)else(t%4,t/4)
theorem ru4(x:D)(c:Bool):bB C0 6 [] IR (ruρ x ((yl c).map kj)) (aY 2 (bP Dr))=(fS C0 "sum" (b8 [(Hl x (yl c)).map .list]) (b8 [(Hl x (yl c)).map .list])).map .ret:=by induction c using ax<;>kernel_rfl
theorem IQ(x:Int)(i two one:Nat)(hi:i<8)(ho:one<2):BK (int x) i two one=Z (I ((((x/2^two)%2).toNat^^^one)<<<i)):=by
 unfold BK;refine J (DU ..) (J (Ss ..) (J (Zo ..) ?_));refine Lr _ _ ?_ (aj (cm hi) (by decide));have h1:((x/2^two)%2).toNat<2:=zu _ 2 (by decide);exact aH (Nat.xor_lt_two_pow (n:=1) h1 ho) (cb (by decide) (by decide))
def Hi(m:Nat):Nat:=if m/256<2 then m%256 else(((av 8).zip (yl (m/256%2==1))).map λp=>((m>>>p.2.1&&&1)^^^p.2.2)<<<p.1).sum
def Hj(x:Int):Nat:=Hi (x%1024).toNat
theorem Hz(x:Int)(a b c N:Nat)(ha:0<a)(hN:0<N)(h:a*(b*c)=N):(x/(a:Int)%(b:Int)).toNat=(x%(N:Int)).toNat/a%b:=by
 have e:∀r q:Int,(r+N*q)/(a:Int)%(b:Int)=r/(a:Int)%(b:Int):=λr q=>by
  exact J (show(N:Int)=(a:Int)*((b:Int)*(c:Int))from aD dO h.symm) (J (Yv ..) (J (Yv ..) (J (Int.add_mul_ediv_left _ _ (eb (d9.mpr ha))) (J (Int.add_mul_emod_self_left ..) rfl))))
 have e:=e (x%N) (x/N);rw[Int.emod_add_mul_ediv]at e;refine J e ?_;have hm:0<=x%(N:Int):=cD _ (eb (d9.mpr hN));revert hm;generalize x%(N:Int)=m;intro hm
 induction m using uS with
 |ofNat r=>rfl|negSucc=>cases hm
theorem BS(x:Int)(a b c:Nat)(ha:0<a)(h:a*(b*c)=1024):(x/(a:Int)%(b:Int)).toNat=(x%1024).toNat/a%b:=Hz x a b c 1024 ha (by decide) h
theorem Ra(x:Int)(k:Nat)(h:k<10):((x/2^k)%2).toNat=(x%1024).toNat>>>k&&&1:=by
 refine J (bS ..) (J (ib ..) ?_);have e:=BS x (2^k) 2 (2^(9-k)) (Tw k) ((by decide:∀k<10,2^k*(2*2^(9-k))=1024) k h);rw[oK]at e;exact e
theorem O9(x:Int):eR C0 7 [] IR (oq ["number"] [int x]) (bP Dr)=Z (.ret (I (Hj x))):=by
 refine J (show bP Dr=[IS,aY 1 (bP Dr),aY 2 (bP Dr)] by kernel_rfl) ?_;have e1:=ru1 (int x);have hm:(x%1024).toNat<1024:=(Int.toNat_lt' (by decide)).mpr (cO x (by decide));have hq:((x/(256:Nat))%(4:Nat)).toNat=(x%1024).toNat/256:=(BS x 256 4 1 (by decide) rfl).trans (kL (nY hm));rw[sk x 256 (by decide) (by decide),nB _ 4 (by decide),aff,hq]at e1;unfold Hj Hi
 by_cases h:(x%1024).toNat/256<2
 ·refine J (bz h) ?_;rw[aq h]at e1;refine cH (e1.trans ?_);refine J (bx ..) ?_;simp only[cond_true];refine J (show fm IS=[aY 0 (fm IS)] by kernel_rfl) ?_;refine cH ((ru2 (int x)).trans ?_);refine J (nB x 256 (by decide)) ?_
  have:(x%(256:Nat)).toNat=(x%1024).toNat%256:=by
   have e:=BS x 1 256 4 (by decide) rfl;rw[uP,show(x/((1:Nat):Int))=x from xN x]at e;exact e
  exact J this rfl
 ·refine J (bF h) ?_;rw[bi h,bx]at e1;refine aO e1 ?_;have e3:=ru3 (int x)
  have hp:qg (fh 0 8 1) (λ_=>Z af) (Fj (int x))=Z ((yl ((x%1024).toNat/256%2==1)).map kj):=by
   refine J (show fh 0 8 1=(av 8).map I from i9 8) ?_;have h2:((x/(256:Nat))%(2:Nat)).toNat=(x%1024).toNat/256%2:=BS x 256 2 2 (by decide) rfl;rw[vL I (λt=>kj (if((x%1024).toNat/256%2==1)then(t/2,t%2)else(t%4,t/4))) (λt ht=>?_) (by decide)]
   ·exact J bI rfl
   ·unfold Fj;refine J (sk x 256 (by decide) (by decide)) (J (nB _ 2 (by decide)) (J h2 (J (mH ..) (J (yI ..) (J (i7 ..) (J (iQ ..) (J (iQ ..) (J (i7 ..) ?_))))))));have ht:=b9.mp ht;have e1:t>>>1=t/2:=bS t 1;have e2:t&&&1=t%2:=ib t;have e3:t&&&3=t%4:=nu t 2;have e4:t>>>2=t/4:=bS t 2;refine J e1 (J e2 (J e3 (J e4 ?_)))
    by_cases hc:(x%1024).toNat/256%2=1
    ·exact J hc rfl
    ·exact J ((pL _).resolve_right hc ..) rfl
  rw[hp]at e3;refine aO e3 ?_;generalize hc:((x%1024).toNat/256%2==1)=c;refine cH ((ru4 (int x) c).trans ?_)
  have hs:Hl (int x) (yl c)=Z ((((av 8).zip (yl c)).map λp=>(((x%1024).toNat>>>p.2.1&&&1)^^^p.2.2)<<<p.1).map I):=by
   unfold Hl;rw[pZ (g:=λp=>[I ((((x%1024).toNat>>>p.2.1&&&1)^^^p.2.2)<<<p.1)]) λp hp=>?_]
   ·show zZ (Z (ui _ _).flatten)=_
    exact J (show(ui (λp:Nat×Nat×Nat=>[I ((((x%1024).toNat>>>p.2.1&&&1)^^^p.2.2)<<<p.1)]) ((av 8).zip (yl c))).flatten=(((av 8).zip (yl c)).map λp=>(((x%1024).toNat>>>p.2.1&&&1)^^^p.2.2)<<<p.1).map I by
     refine J bI ?_;generalize(av 8).zip (yl c)=l
     induction l with
     |nil=>rfl|cons a l ih=>exact J aR (J d6 (J ih (J aR rfl)))) (oA (by exact J (au ..) (J (au ..) (J sT (aj (oJ _ _) (by decide))))))
   ·obtain⟨i,two,one⟩:=p;have h1:=List.of_mem_zip hp;have hi:=b9.mp h1.1;have h2:∀q∈yl c,q.1<10∧q.2<2:=by induction c using ax<;>decide
    have:=h2 _ h1.2;show nA (Z af) (BK (int x) i two one)=_;exact J (IQ x i two one hi this.2) (J (Ra x two this.1) rfl)
  exact J hs (aD (Ip gO.ret) (oE (Te _) rfl))
def MM(ds:List D):Option D:=ER ds λu1=>sH u1 λx=>Z (I (Hj x))
theorem ML(g:Gr G)(fn:Fn G 72 "_law_rule"):∀ds d,MM ds=Z d->eJ G 8 "_law_rule" ds d:=λds d h=>by
 refine i1 h λu1 h=>uz h λx h=>qS h ?_;exact fn.ok (n:=7) (C:=C0) (ow:=[]) (kk:=7) g.K (Br g.B (by decide)) (O9 x) (.inl rfl) (by kernel_rfl) rfl (λ_ _ _=>rt 1 λ_=>rfl)
abbrev Dy:bX:=dj 73
abbrev BN:bj:=c9 Dy
abbrev vj:bX:=aY 1 (bP Dy)
noncomputable def K5(o:Option D)(told r row:D):aE:=match o with
 |none=>[("told",.val told),("rule",.val r),("row",.val row)]
 |some t=>[("t",.val t),("told",.val told),("rule",.val r),("row",.val row)]
noncomputable def YZ(t told r row:D):aE:=[("t",.val t),("told",.val told),("rule",.val r),("row",.val row)]
noncomputable def Y0(t told r row:D):aE:=[("told",.val told),("t",.val t),("rule",.val r),("row",.val row)]
theorem pl1(r row:D):bB C0 6 [] BN (oq ["rule","row"] [r,row]) (aY 0 (bP Dy))=Z (.next (K5 ae (I 0) r row)):=by kernel_rfl
def UC(r:D):Option (List D):=qg (fh 0 8 1) (λt=>N2 (tO (b2 .BitAnd (b2 .RShift (Z r) (Z t)) (Z (I 1))))) (λt=>Z t)
theorem pl2(told r row:D):bB C0 6 [] BN (K5 ae told r row) vj=Ry (kf ((UC r).map .list)) λds=>gY (kE 6 vj BN C0) ds (K5 ae told r row):=by kernel_rfl
theorem pl3(o:Option D)(t told r row:D):nV BN 3 (uD vj) t (K5 o told r row)=Z (YZ t told r row):=by induction o using aB<;>kernel_rfl
def Fq(row t:D):Option D:=b2 .BitAnd (b2 .BitAnd (b2 .BitXor (b2 .RShift (Z row) (Z (I 2))) (b2 .Sub (b2 .RShift (Z t) (Z (I 2))) (Z (I 1)))) (b2 .BitXor (b2 .RShift (Z row) (Z (I 1))) (b2 .Sub (b2 .BitAnd (b2 .RShift (Z t) (Z (I 1))) (Z (I 1))) (Z (I 1))))) (b2 .BitXor (Z row) (b2 .Sub (b2 .BitAnd (Z t) (Z (I 1))) (Z (I 1))))
theorem pl4(t told r row:D):bB C0 5 [] BN (YZ t told r row) (aY 0 (eY vj))=(Fq row t).bind λd=>(qK .BitOr told d).map λd=>.next (Y0 t d r row):=by kernel_rfl
theorem pl5(o:Option D)(t told RU r row:D):fb (K5 o told r row) (.next (Y0 t RU r row))=.next (K5 (Z t) RU r row):=by induction o using aB<;>kernel_rfl
theorem pl6(o:Option D)(told r row:D):bB C0 6 [] BN (K5 o told r row) (aY 2 (bP Dy))=Z (.ret told):=by induction o using aB<;>kernel_rfl
noncomputable def yg(row:Int)(t:Nat):Int:=dS (dS (bD (row/2^2) ((t>>>2:Nat)-1)) (bD (row/2^1) ((t>>>1&&&1:Nat)-1))) (bD row ((t&&&1:Nat)-1))
noncomputable def AM(r:Nat):List Nat:=(av 8).filter λt=>r>>>t&&&1 !=0
def c6(r:Nat)(row:Int):Int:=(AM r).foldl (λdi t=>eQ di (yg row t)) 0
theorem Pb(r:Nat):UC (I r)=Z ((AM r).map I):=by
 unfold UC;exact J (show fh 0 8 1=(av 8).map I from i9 8) (qf I (λt=>r>>>t&&&1 !=0) I (λt _=>by exact J (i7 ..) (J (iQ ..) (J (mH ..) (J (lN ..) rfl)))) (λt _ _=>rfl) (by decide))
theorem IX(row:Int)(t:Nat):Fq (int row) (I t)=Z (int (yg row t)):=by
 unfold Fq;refine J (DU ..) ?_;rw[DU,i7,i7];exact J (iQ ..) (J (iQ ..) rfl)
theorem yo(r:D)(row:Int):∀(ts:List Nat) (o:Option D) (told:Int),∃o',gY (kE 6 vj BN C0) (ts.map I) (K5 o (int told) r (int row))=Z (.next (K5 o' (int (ts.foldl (λdi t=>eQ di (yg row t)) told)) r (int row)))
 |[],o,told=>⟨o,rfl⟩
 |t::ts,o,told=>by
  refine bQ (yo r row ts (Z (I t)) (eQ told (yg row t))) λo' h=>⟨o',?_⟩;refine J aR (J iT ?_)
  have e:kE 6 vj BN C0 (K5 o (int told) r (int row)) (I t)=Z (.next (K5 (Z (I t)) (int (eQ told (yg row t))) r (int row))):=by
   unfold kE;refine J (pl3 ..) (J (bx ..) (J (show eY vj=[aY 0 (eY vj)] by kernel_rfl) ?_));have e4:=pl4 (I t) (int told) r (int row);rw[IX]at e4;refine J (aO (e4.trans rfl) cY) ?_;show Z (fb _ _)=_;exact J (pl5 ..) rfl
  exact J e h
theorem K6(r:Nat)(row:Int):eR C0 7 [] BN (oq ["rule","row"] [I r,int row]) (bP Dy)=Z (.ret (int (c6 r row))):=by
 refine J (show bP Dy=[aY 0 (bP Dy),vj,aY 2 (bP Dy)] by kernel_rfl) ?_;refine aO (pl1 _ _) ?_;have e2:=pl2 (I 0) (I r) (int row);rw[Pb]at e2;exact bQ (yo (I r) row (AM r) ae 0) λo' h=>aO (iN e2 h) (cH (pl6 _ _ _ _))
def sA(ds:List D):Option D:=AQ ds λu1 u2=>kY u1 λr=>sH u2 λrow=>Z (int (c6 r row))
theorem Be(g:Gr G)(fn:Fn G 73 "_law_plain"):∀ds d,sA ds=Z d->eJ G 8 "_law_plain" ds d:=λds d h=>by
 refine i2 h λu1 u2 h=>lA h λr h=>uz h λrow h=>qS h ?_;exact fn.ok (n:=7) (C:=C0) (ow:=[]) (kk:=7) g.K (Br g.B (by decide)) (K6 r row) (.inl rfl) (by kernel_rfl) rfl (λ_ _ _=>rt 2 λ_ _=>rfl)
abbrev Fs:bX:=dj 79
abbrev vl:bj:=c9 Fs
abbrev oo:bX:=aY 1 (bP Fs)
noncomputable def IY(o:Option D)(text NX seen r sg sz:D):aE:=match o with
 |none=>[("text",.val text),("window",.val NX),("seen",.val seen),("rule",.val r),("signs",.val sg),("size",.val sz)]
 |some u=>[("_",.val u),("text",.val text),("window",.val NX),("seen",.val seen),("rule",.val r),("signs",.val sg),("size",.val sz)]
abbrev asT(e:bX):aG:=Hg e
def asV(e:bX):aG:=sv e (λx _=>(.Constant .none 0 default)) (λt b o _=>(.Constant .none 0 default)) (λt v _=>v) (λt i b o _=>(.Constant .none 0 default)) (λt b o _=>(.Constant .none 0 default)) (λn a b s p=>(.Constant .none 0 default)) (λ_ _=>(.Constant .none 0 default)) (λ_ _ _ _=>(.Constant .none 0 default)) (λ_ _ _=>(.Constant .none 0 default)) (λ_ _=>(.Constant .none 0 default)) (.Constant .none 0 default)
def gN(sc:bj)(st:bX)(ρ:aE)(d:D):Option gO:=(yh sc (asT st) (asV st)).bind λr=>match r with
 |none=>(nV sc 3 (asT st) d ρ).map .next
 |some names=>match d with
  |.tuple ds=>bif names.length==ds.length then(KR sc names.reverse ds.reverse ρ).map .next else ae
  |_=>ae
abbrev pgA:bX:=aY 0 (bP Fs)
def UE(r sg sz:D):Option D:=b2 .Mult (gh (Z sg) (b2 .BitAnd (Z r) (Z (I 1)))) (b2 .Sub (Z sz) (Z (I 2)))
theorem pg1(r sg sz:D):bB C0 6 [] vl (oq ["rule","signs","size"] [r,sg,sz]) pgA=(lI [UE r sg sz,Z (I 0),Z (I 1)]).bind (gN vl pgA (oq ["rule","signs","size"] [r,sg,sz])):=by kernel_rfl
theorem ae6(t r sg sz:D):gN vl pgA (oq ["rule","signs","size"] [r,sg,sz]) (.tuple [t,I 0,I 1])=Z (.next (IY ae t (I 0) (I 1) r sg sz)):=by kernel_rfl
theorem pg2(k:Nat)(hk:k=3∨k=4∨k=5)(tx w s r sg:D):bB C0 6 [] vl (IY ae tx w s r sg (I k)) oo=gY (kE 6 oo vl C0) ((av (2^k-1)).map I) (IY ae tx w s r sg (I k)):=by
 rcases hk with rfl|rfl|rfl
 ·kernel_rfl
 ·kernel_rfl
 ·kernel_rfl
theorem pg3(o:Option D)(u tx w s r sg sz:D):nV vl 3 (uD oo) u (IY o tx w s r sg sz)=Z (IY (Z u) tx w s r sg sz):=by induction o using aB<;>kernel_rfl
noncomputable def Pd(u tx w s r sg sz:D):aE:=[("window",.val w),("_",.val u),("text",.val tx),("seen",.val s),("rule",.val r),("signs",.val sg),("size",.val sz)]
noncomputable def Y3(u tx w s r sg sz:D):aE:=[("seen",.val s),("window",.val w),("_",.val u),("text",.val tx),("rule",.val r),("signs",.val sg),("size",.val sz)]
noncomputable def Y2(u tx w s r sg sz:D):aE:=[("text",.val tx),("seen",.val s),("window",.val w),("_",.val u),("rule",.val r),("signs",.val sg),("size",.val sz)]
theorem pg4(u tx w s r sg sz:D):bB C0 5 [] vl (IY (Z u) tx w s r sg sz) (aY 0 (eY oo))=(b2 .Mod (b2 .Add (b2 .Mult (Z (I 2)) (Z w)) (Z (I 1))) (b2 .Pow (Z (I 2)) (Z sz))).map λw=>.next (Pd u tx w s r sg sz):=by kernel_rfl
theorem pg5(u tx w s r sg sz:D):bB C0 5 [] vl (Pd u tx w s r sg sz) (aY 1 (eY oo))=(b2 .BitAnd (b2 .RShift (Z s) (Z w)) (Z (I 1))).bind λd=>(qK .Sub w d).map λw=>.next (Pd u tx w s r sg sz):=by kernel_rfl
theorem pg6(u tx w s r sg sz:D):bB C0 5 [] vl (Pd u tx w s r sg sz) (aY 2 (eY oo))=(b2 .LShift (Z (I 1)) (Z w)).bind λd=>(qK .BitOr s d).map λs=>.next (Y3 u tx w s r sg sz):=by kernel_rfl
def K9(w r sg:D):Option D:=gh (Z sg) (b2 .BitAnd (b2 .RShift (Z r) (b2 .BitAnd (Z w) (Z (I 7)))) (Z (I 1)))
theorem pg7(u tx w s r sg sz:D):bB C0 5 [] vl (Y3 u tx w s r sg sz) (aY 3 (eY oo))=(K9 w r sg).bind λd=>(qK .Add tx d).map λtx=>.next (Y2 u tx w s r sg sz):=by kernel_rfl
theorem pg8(o:Option D)(u tx w s tx' w' s' r sg sz:D):fb (IY o tx w s r sg sz) (.next (Y2 u tx' w' s' r sg sz))=.next (IY (Z u) tx' w' s' r sg sz):=by induction o using aB<;>kernel_rfl
theorem pg9(o:Option D)(tx w s r sg sz:D):bB C0 6 [] vl (IY o tx w s r sg sz) (aY 2 (bP Fs))=Z (.ret tx):=by induction o using aB<;>kernel_rfl
noncomputable def tW(c0 c1:Nat)(ls:List Nat):Str:=⟨(ls.map λl=>if l=0 then c0 else c1).toArray⟩
def IP(c0 c1:Nat):D:=.list [.str (tW c0 c1 [0]),.str (tW c0 c1 [1])]
theorem OQ(c0 c1:Nat)(xs ys:List Nat):tW c0 c1 xs++tW c0 c1 ys=tW c0 c1 (xs++ys):=by
 show oI _=oI _
 congr 1
 refine J bN ?_;simp[tW]
theorem G1(c0 c1:Nat)(xs:List Nat):(tW c0 c1 xs).length=xs.length:=by
 show(E3 _).size=_;exact J gy (J (au ..) rfl)
theorem KY(c0 c1 l:Nat)(h:l<2):gh (Z (IP c0 c1)) (Z (I l))=Z (.str (tW c0 c1 [l])):=by
 match l,h with
 |0,_=>rfl|1,_=>rfl
abbrev Ye:=List Nat×Nat×Nat
noncomputable def ka(r k:Nat)(x:Ye):Ye:=
 let w1:=(2*x.2.1+1)%2^k
 let w2:=w1-(x.2.2>>>w1&&&1)
 (x.1++[r>>>(w2&&&7)&&&1],w2,x.2.2|||1<<<w2)
noncomputable def BO(r k:Nat):Ye:=(cz (k-2) (r&&&1),0,1)
def pV(r k:Nat):List Nat:=((av (2^k-1)).foldl (λx _=>ka r k x) (BO r k)).1
theorem kS(a:Nat):a&&&1<2:=aT nv (by decide)
theorem PU(c0 c1:Nat)(xs ys:List Nat)(h:xs.length+ys.length<=fB):qK .Add (.str (tW c0 c1 xs)) (.str (tW c0 c1 ys))=Z (.str (tW c0 c1 (xs++ys))):=by
 show(bif ah ((tW c0 c1 xs).length+(tW c0 c1 ys).length<=fB)then Z (gT (tW c0 c1 xs++tW c0 c1 ys))else ae)=_;exact J (G1 ..) (J (G1 ..) (J (aq h) (J (OQ ..) rfl)))
theorem ae5(k:Nat)(hk:k=3∨k=4∨k=5):b2 .Pow (Z (I 2)) (Z (I k))=Z (I (2^k)):=by
 rcases hk with rfl|rfl|rfl<;>kernel_rfl
theorem IZ(c0 c1 r k:Nat)(hk:k=3∨k=4∨k=5)(o:Option D)(u:D)(x:Ye)(hw:x.2.1<32)(hl:x.1.length<1000):kE 6 oo vl C0 (IY o (.str (tW c0 c1 x.1)) (I x.2.1) (I x.2.2) (I r) (IP c0 c1) (I k)) u=Z (.next (IY (Z u) (.str (tW c0 c1 (ka r k x).1)) (I (ka r k x).2.1) (I (ka r k x).2.2) (I r) (IP c0 c1) (I k)))∧(ka r k x).2.1<32∧(ka r k x).1.length=x.1.length+1:=by
 obtain⟨ls,w,s⟩:=x;have Z6:2^k<=32∧2∣2^k∧0<2^k:=by rcases hk with rfl|rfl|rfl<;>decide
 generalize hw1:(2*w+1)%2^k=w1
 have YF:w1<32:=by
  exact hw1▸aH (gE (2*w+1) Z6.2.2) Z6.1
 have YE:w1%2=1:=by
  refine rF hw1 (bQ Z6.2.1 λc hc=>J (Nat.mod_mod_of_dvd _ ⟨c,hc⟩) ?_);exact aMb (by decide)
 generalize hb:s>>>w1&&&1=b;have bl:b<2:=by exact rF hb (kS _)
 have xm:ka r k (ls,w,s)=(ls++[r>>>((w1-b)&&&7)&&&1],w1-b,s|||1<<<(w1-b)):=by
  unfold ka;simp only[hw1,hb]
 refine J xm ⟨?_,by show w1-b<32;exact Nat.sub_lt_of_lt YF,by simp⟩;unfold kE;refine J (pg3 ..) (J (bx ..) (J (show eY oo=[aY 0 (eY oo),aY 1 (eY oo),aY 2 (eY oo),aY 3 (eY oo)] by kernel_rfl) ?_));have e4:=pg4 u (.str (tW c0 c1 ls)) (I w) (I s) (I r) (IP c0 c1) (I k);rw[DH _ _ (iG hw (by decide)),j1,ae5 k hk,Ls _ _ (RI (NeZero.ne' (2^k))),hw1]at e4;have e5:=pg5 u (.str (tW c0 c1 ls)) (I w1) (I s) (I r) (IP c0 c1) (I k);rw[i7,iQ,hb,bx,show qK .Sub (I w1) (I b)=Z (I (w1-b))from t8 w1 b (aj (qw bl) (YE▸Nat.mod_le w1 2))]at e5;have e6:=pg6 u (.str (tW c0 c1 ls)) (I (w1-b)) (I s) (I r) (IP c0 c1) (I k);rw[Lr 1 _ (by decide) (NR (aj (cm YF) (by decide))),bx,show qK .BitOr (I s) (I (1<<<(w1-b)))=Z (I (s|||1<<<(w1-b)))from US _ _]at e6;have e7:=pg7 u (.str (tW c0 c1 ls)) (I (w1-b)) (I (s|||1<<<(w1-b))) (I r) (IP c0 c1) (I k)
 have agt:K9 (I (w1-b)) (I r) (IP c0 c1)=Z (.str (tW c0 c1 [r>>>((w1-b)&&&7)&&&1])):=by
  unfold K9;exact J (iQ ..) (J (i7 ..) (J (iQ ..) (KY _ _ _ (kS _))))
 rw[agt,bx,PU _ _ _ _ (by simp;show _<=16777216;have hl:ls.length<1000:=hl;exact aj hl (by decide))]at e7;refine J (aO e4 (aO e5 (aO e6 (aO e7 cY)))) ?_;show Z (fb _ _)=_;exact J (pg8 ..) rfl
theorem AO(c0 c1 r k:Nat)(hk:k=3∨k=4∨k=5):∀(us:List D) (o:Option D) (x:Ye),x.2.1<32->x.1.length+us.length<1000->∃o',gY (kE 6 oo vl C0) us (IY o (.str (tW c0 c1 x.1)) (I x.2.1) (I x.2.2) (I r) (IP c0 c1) (I k))=Z (.next (IY o' (.str (tW c0 c1 (us.foldl (λx _=>ka r k x) x).1)) (I (us.foldl (λx _=>ka r k x) x).2.1) (I (us.foldl (λx _=>ka r k x) x).2.2) (I r) (IP c0 c1) (I k)))
 |[],o,x,hw,hl=>⟨o,rfl⟩
 |u::us,o,x,hw,hl=>by
  rw[bA]at hl;refine eP (IZ c0 c1 r k hk o u x hw (fJ hl)) λe h1 h2=>bQ (AO c0 c1 r k hk us (Z u) (ka r k x) h1 (by lia)) λo' h=>⟨o',?_⟩;exact J iT (J e h)
theorem Pf(c0 c1 r k:Nat)(hk:k=3∨k=4∨k=5):eR C0 7 [] vl (oq ["rule","signs","size"] [I r,IP c0 c1,I k]) (bP Fs)=Z (.ret (.str (tW c0 c1 (pV r k)))):=by
 refine J (show bP Fs=[pgA,oo,aY 2 (bP Fs)] by kernel_rfl) ?_
 have h0:UE (I r) (IP c0 c1) (I k)=Z (.str (tW c0 c1 (cz (k-2) (r&&&1)))):=by
  unfold UE;refine J (iQ ..) (J (KY _ _ _ (kS _)) (J (t8 _ _ (by lia)) ?_))
  rcases hk with rfl|rfl|rfl<;>rfl
 have e1:=pg1 (I r) (IP c0 c1) (I k);rw[h0]at e1;refine aO (e1.trans (ae6 _ _ _ _)) ?_
 refine bQ (AO c0 c1 r k hk ((av (2^k-1)).map I) ae (BO r k) (show(0:Nat)<32 by decide) (by
  unfold BO;simp only[eU,au,aN]
  rcases hk with rfl|rfl|rfl<;>decide)) λo' h=>?_
 refine aO ((pg2 k hk _ _ _ _ _).trans h) (cH ((pg9 _ _ _ _ _ _ _).trans ?_));exact J List.foldl_map rfl
def MO(ds:List D):Option D:=XI ds λx y z=>kY x λr=>o9 y λl=>AQ l λs t=>Gi s λs0=>Gi t λs1=>kY z λk=>ER s0.cps.toList λc0=>ER s1.cps.toList λc1=>bif k==3||k==4||k==5 then Z (.str (tW c0 c1 (pV r k)))else ae
theorem MN(g:Gr G)(fn:Fn G 79 "_law_page"):∀ds d,MO ds=Z d->eJ G 8 "_law_page" ds d:=λds d h=>by
 refine i3 h λx y z h=>lA h λr h=>sf h λl h=>i2 h λs t h=>Jf h λs0 h=>Jf h λs1 h=>lA h λk h=>?_;generalize h0:s0.cps.toList=o0 at h;generalize h1:s1.cps.toList=o1 at h;revert h0 h1;refine i1 h λc0 h=>i1 h λc1 h h0 h1=>c8 (cT h) λhk h=>?_;subst h
 have e0:s0=tW c0 c1 [0]:=by
  obtain⟨⟨l⟩⟩:=s0;simp at h0;subst h0;rfl
 have e1:s1=tW c0 c1 [1]:=by
  obtain⟨⟨l⟩⟩:=s1;simp at h1;subst h1;rfl
 subst e0 e1;have A7:k=3∨k=4∨k=5:=by simpa[or_assoc]using hk
 exact fn.ok (n:=7) (C:=C0) (ow:=[]) (kk:=7) g.K (Br g.B (by decide)) (Pf c0 c1 r k A7) (.inl rfl) (by kernel_rfl) rfl (λ_ _ _=>rt 3 λ_ _ _=>rfl)
def Ml(E:bj->aE->aG->Option D)(sc:bj)(ρ:aE)(e:aG):Option D:=
 wt e λf as ks _=>nh f λl _=>ER as λc=>Ol ks (wt c λg es ks _=>nh g λz _=>AQ es λe1 e2=>Ol ks (bif l==("list":Str)&&z==("zip":Str)&&oR sc l&&oR sc z then(fW E sc ρ [e1,e2]).bind λds=>AQ ds λx y=>o9 x λa=>o9 y λb=>
  bif ah (a.length<=fB)then Z (.list (oj a b))else ae else ae))
theorem DW(g:Gr G):∀E,mT G n E->∀(env:nJ) (ρ:aE) (e:aG) (d:D),Ml E env.scope ρ e=Z d->Ev G n env ρ e d:=λE hE env ρ e d h=>by
 refine DV h λf as ks pos h=>sm h λl lp h=>i1 h λc h=>i0 h λh=>DV h λf es ks C4 h=>sm h λz zp h=>i2 h λe1 e2 h=>i0 h λh=>vN h λh0 h=>iW h0 λh0 g2=>iW h0 λh0 g1=>iW h0 λh0 h9=>?_;revert g1 g2;refine qF (aC.mp h0) (qF (aC.mp h9) λg2 g1=>?_);refine bE h λds hb h=>?_;revert hb;exact i2 h λx y h=>sf h λa h=>sf h λb h hb=>Nu h λh1=>.PJ g.K (pB g.B.list g1) (pB g.B.w.zip g2) (ej hE hb) (aw h1)
abbrev aif:List (Str×(List D->Option D)):=[("_law_led",V7)]
abbrev CZ:Cx:=Cf aif Ll Pw Lk Ml
abbrev zr:bX:=dj 77
abbrev qQ:bj:=c9 zr
abbrev vO:bX:=aY 1 (bP zr)
abbrev pF:bX:=aY 3 (bP zr)
noncomputable def JR(o:Option D)(cells:D)(dy:List D)(r w:D):aE:=match o with
 |none=>[("cells",.val cells),("sets",.own dy),("rule",.val r),("word",.val w)]
 |some l=>[("letter",.val l),("cells",.val cells),("sets",.own dy),("rule",.val r),("word",.val w)]
theorem bf1(r w:D):bB CZ 6 ["sets"] qQ (oq ["rule","word"] [r,w]) (aY 0 (bP zr))=Z (.next (JR ae (.list []) [I 15] r w)):=by kernel_rfl
theorem bf2(cells:D)(dy:List D)(r w:D):bB CZ 6 ["sets"] qQ (JR ae cells dy r w) vO=Ry (kf (Z w)) λds=>gY (kE 6 vO qQ CZ) ds (JR ae cells dy r w):=by kernel_rfl
theorem bf3(o:Option D)(l cells:D)(dy:List D)(r w:D):nV qQ 3 (uD vO) l (JR o cells dy r w)=Z (JR (Z l) cells dy r w):=by induction o using aB<;>kernel_rfl
noncomputable def abj(l cells:D)(dy:List D)(r w:D):aE:=[("sets",.own dy),("letter",.val l),("cells",.val cells),("rule",.val r),("word",.val w)]
def NL(l:D)(dy:List D)(r:D):Option D:=fS CZ "_law_led" (b8 [Z r,gh (Z (.list dy)) (Z (.int (-1))),Z l]) (b8 [Z r,gh (Z (.list dy)) (Z (.int (-1))),Z l])
theorem bf4(l cells:D)(dy:List D)(r w:D):bB CZ 5 [] qQ (JR (Z l) cells dy r w) (aY 0 (eY vO))=bif ah (dy.length<=fB)then(NL l dy r).map λd=>.next (abj l cells (dy++[d]) r w)else ae:=by kernel_rfl
theorem bf5(o:Option D)(l cells:D)(dy R1:List D)(r w:D):fb (JR o cells dy r w) (.next (abj l cells R1 r w))=.next (JR (Z l) cells R1 r w):=by induction o using aB<;>kernel_rfl
def WV(dy:List D):Option D:=gh ((qg (fh 0 4 1) (λp=>N2 (tO (b2 .BitAnd (b2 .RShift (gh (Z (.list dy)) (Z (.int (-1)))) (Z p)) (Z (I 1))))) (λp=>Z p)).map .list) (Z (I 0))
noncomputable def NI(o:Option (D×D))(pl l cells:D)(dy:List D)(r w:D):aE:=match o with
 |none=>[("place",.val pl),("letter",.val l),("cells",.val cells),("sets",.own dy),("rule",.val r),("word",.val w)]
 |some (t,led)=>[("t",.val t),("led",.val led),("place",.val pl),("letter",.val l),("cells",.val cells),("sets",.own dy),("rule",.val r),("word",.val w)]
theorem bf6(l cells:D)(dy:List D)(r w:D):bB CZ 6 ["sets"] qQ (JR (Z l) cells dy r w) (aY 2 (bP zr))=(WV dy).map λpl=>.next (NI ae pl l cells dy r w):=by kernel_rfl
noncomputable def Sy(x:Option D):Option D:=match x with
 |some d=>Z d
 |none=>ae
def NJ(dy:List D)(w:D):Option D:=match w with
 |.list ws=>bif ah (dy.length<=fB)then Z (.list (oj dy ws))else ae
 |_=>ae
theorem bf7(pl l cells:D)(dy:List D)(r:D)(ws:List D):bB CZ 6 ["sets"] qQ (NI ae pl l cells dy r (.list ws)) pF=ME (kf (lX (Z ae) (Z ae) (pO (Z (.int (-1)))) (Sy (NJ dy (.list ws))))) λds=>gY (kE 6 pF qQ CZ) ds (NI ae pl l cells dy r (.list ws)):=by kernel_rfl
noncomputable def abh(o:Option (D×D))(led l pl cells:D)(dy:List D)(r w:D):aE:=match o with
 |none=>[("letter",.val l),("led",.val led),("place",.val pl),("cells",.val cells),("sets",.own dy),("rule",.val r),("word",.val w)]
 |some (t,_)=>[("letter",.val l),("led",.val led),("t",.val t),("place",.val pl),("cells",.val cells),("sets",.own dy),("rule",.val r),("word",.val w)]
noncomputable def Rf(t led l pl cells:D)(dy:List D)(r w:D):aE:=[("t",.val t),("letter",.val l),("led",.val led),("place",.val pl),("cells",.val cells),("sets",.own dy),("rule",.val r),("word",.val w)]
noncomputable def abi(t led l pl cells:D)(dy:List D)(r w:D):aE:=[("cells",.val cells),("place",.val pl),("t",.val t),("letter",.val l),("led",.val led),("sets",.own dy),("rule",.val r),("word",.val w)]
theorem bf8(o:Option (D×D))(led l' pl l cells:D)(dy:List D)(r w:D):nV qQ 3 (uD pF) (.tuple [led,l']) (NI o pl l cells dy r w)=Z (abh o led l' pl cells dy r w):=by rcases o with _|⟨_,_⟩<;>kernel_rfl
def bfT(led l pl r:D):Option D:=gh ((Ef (kf (lI [Z pl,b2 .Add (Z pl) (Z (I 4))])) ag (λxs=>(oQ (λt=>nA (N2 (Ri (tO (b2 .BitAnd (b2 .RShift (Z led) (b2 .RShift (Z t) (Z (I 1)))) (Z (I 1)))) (c2 .Eq (b2 .BitAnd (b2 .RShift (Z r) (Z t)) (Z (I 1))) (Z l)))) (Z t)) xs).map eF)).map .list) (Z (I 0))
theorem bf9(o:Option (D×D))(led l pl cells:D)(dy:List D)(r w:D):bB CZ 5 [] qQ (abh o led l pl cells dy r w) (aY 0 (eY pF))=(bfT led l pl r).map λt=>.next (Rf t led l pl cells dy r w):=by rcases o with _|⟨_,_⟩<;>kernel_rfl
abbrev bfA:bX:=aY 1 (eY pF)
theorem aik(t led l pl cells:D)(dy:List D)(r w:D):bB CZ 5 [] qQ (Rf t led l pl cells dy r w) bfA=(lI [b2 .Add (gf [b2 .BitAnd (Z t) (Z (I 1))]) (Z cells),b2 .RShift (Z t) (Z (I 1))]).bind (gN qQ bfA (Rf t led l pl cells dy r w)):=by kernel_rfl
theorem aij(t led l pl cells:D)(dy:List D)(r w c' p':D):gN qQ bfA (Rf t led l pl cells dy r w) (.tuple [c',p'])=Z (.next (abi t led l p' c' dy r w)):=by kernel_rfl
theorem aii(o:Option (D×D))(t led l' pl' c' pl l cells:D)(dy:List D)(r w:D):fb (NI o pl l cells dy r w) (.next (abi t led l' pl' c' dy r w))=.next (NI (Z (t,led)) pl' l' c' dy r w):=by rcases o with _|⟨_,_⟩<;>kernel_rfl
theorem aih(o:Option (D×D))(pl l cells:D)(dy:List D)(r w:D):bB CZ 6 ["sets"] qQ (NI o pl l cells dy r w) (aY 4 (bP zr))=(b2 .Add (gf [b2 .RShift (Z pl) (Z (I 1)),b2 .BitAnd (Z pl) (Z (I 1))]) (Z cells)).map .ret:=by rcases o with _|⟨_,_⟩<;>kernel_rfl
def jL(r:Nat)(ls:List Nat):List Nat:=ls.foldl (λdi l=>di++[yF r (di.getLast?.getD 0) l]) [15]
noncomputable def GC(r:Nat)(x:List Nat×Nat)(m:Nat×Nat):Option (List Nat×Nat):=(([x.2,x.2+4].filter λt=>(m.1>>>(t>>>1)&&&1 !=0)&&(r>>>t&&&1==m.2)).head?).map λt=>((t&&&1)::x.1,t>>>1)
noncomputable def NK(r:Nat):List (Nat×Nat)->List Nat×Nat->Option (List Nat×Nat)
 |[],x=>Z x
 |m::ms,x=>(GC r x m).bind λy=>NK r ms y
def ii(r:Nat)(ls:List Nat):Option (List Nat):=
 (((av 4).filter λp=>(jL r ls).getLast?.getD 0>>>p&&&1 !=0).head?).bind λpl=>
  (NK r ((jL r ls).zip ls).reverse ([],pl)).map λx=>[x.2>>>1,x.2&&&1]++x.1
theorem A3(xs:List Nat)(h:xs≠[])(hl:xs.length<=fB):gh (Z (.list (xs.map I))) (Z (.int (-1)))=Z (I (xs.getLast?.getD 0)):=by
 obtain⟨ys,y,rfl⟩:∃ys y,xs=ys++[y]:=⟨xs.dropLast,xs.getLast h,(List.dropLast_concat_getLast h).symm⟩;refine J bN (J aR (J kB (J (yi _ _ (by simpa using hl)) ?_)));simp
theorem A8(xs:List Nat)(hl:xs.length<=fB):gh (Z (.list (xs.map I))) (Z (I 0))=xs.head?.map I:=by
 show(bif ah ((xs.map I).length<=fB)then zO (xs.map I) ((0:Nat):Int)else ae)=_;refine J (aq (by simpa using hl)) ?_;show zO (xs.map I) 0=_;unfold zO;refine J (bz (by decide)) ?_
 induction xs using aA<;>rfl
theorem Eu(r:Nat)(cells w:D):∀(ls:List Nat) (o:Option D) (dy:List Nat),dy≠[]->dy.length+ls.length<1000->∃o',gY (kE 6 vO qQ CZ) (ls.map I) (JR o cells (dy.map I) (I r) w)=Z (.next (JR o' cells ((ls.foldl (λdi l=>di++[yF r (di.getLast?.getD 0) l]) dy).map I) (I r) w))∧(ls≠[]∨o.isSome=af->o'.isSome=af)
 |[],o,dy,hs,hl=>⟨o,rfl,λh=>h.resolve_left λh=>h rfl⟩
 |l::ls,o,dy,hs,hl=>by
  rw[bA]at hl;refine bh (Eu r cells w ls (Z (I l)) (dy++[yF r (dy.getLast?.getD 0) l]) (by simp) (by refine J aP (J dX ?_);lia)) λo' h h'=>?_;refine⟨o',?_,λ_=>h' (.inr rfl)⟩;refine J aR (J iT ?_)
  have e:kE 6 vO qQ CZ (JR o cells (dy.map I) (I r) w) (I l)=Z (.next (JR (Z (I l)) cells ((dy++[yF r (dy.getLast?.getD 0) l]).map I) (I r) w)):=by
   unfold kE;refine J (bf3 ..) (J (bx ..) (J (show eY vO=[aY 0 (eY vO)] by kernel_rfl) ?_));have e4:=bf4 (I l) cells (dy.map I) (I r) w
   have agu:NL (I l) (dy.map I) (I r)=Z (I (yF r (dy.getLast?.getD 0) l)):=by
    unfold NL;exact J (A3 dy hs (by show _<=16777216;lia)) (iM rfl rfl)
   rw[agu,aq (show(dy.map I).length<=fB by refine J (au ..) ?_;show _<=16777216;lia)]at e4;refine J (aO e4 cY) ?_;show Z (fb _ _)=_;exact J (bf5 ..) (J bN rfl)
  exact J e h
theorem Rg(r:Nat)(o:Option (D×D))(l0:D)(x y:List Nat×Nat)(m:Nat×Nat)(dy:List D)(w:D)(hx:x.1.length<1000)(h:GC r x m=Z y):∃o' l',kE 6 pF qQ CZ (NI o (I x.2) l0 (bW x.1) dy (I r) w) (kj m)=Z (.next (NI (Z o') (I y.2) l' (bW y.1) dy (I r) w))∧y.1.length=x.1.length+1:=by
 obtain⟨cs,pl⟩:=x;obtain⟨led,l⟩:=m;unfold GC at h;refine mE h λt ht=>?_
 have hT:bfT (I led) (I l) (I pl) (I r)=Z (I t):=by
  unfold bfT;refine J (j1 ..) (J (vc ..) (J (uu ..) (J (F7 ..) (J (show[I pl,I (pl+4)]=[pl,pl+4].map I from rfl) (J (qz I (λt=>(led>>>(t>>>1)&&&1 !=0)&&(r>>>t&&&1==l)) I (λt _=>by exact J (i7 ..) (J (i7 ..) (J (iQ ..) (J (mH ..) (J (i7 ..) (J (iQ ..) (J (FD ..) (J (wY ..) (J (lN ..) rfl))))))))) λt _ _=>rfl) (J (oA (J (au ..) (aj (eV _ _) (by show 2<=16777216;decide)))) ?_))))));show gh (Z (.list _)) _=_;exact J (A8 _ (aj (eV _ _) (by show 2<=16777216;decide))) (J ht rfl)
 refine⟨(I t,I led),I l,?_,rfl⟩;unfold kE;refine J (show kj (led,l)=.tuple [I led,I l]from rfl) (J (bf8 ..) (J (bx ..) (J (show eY pF=[aY 0 (eY pF),bfA] by kernel_rfl) ?_)));have e9:=bf9 o (I led) (I l) (I pl) (bW cs) dy (I r) w;rw[hT]at e9;have El:=aik (I t) (I led) (I l) (I pl) (bW cs) dy (I r) w;rw[iQ,EG,i7,show b2 .Add (Z (.list [I (t&&&1)])) (Z (bW cs))=Z (bW ([t&&&1]++cs))from mI [t&&&1] cs (by simp;show _<=16777216;have hx:cs.length<1000:=hx;lia),vc,bx,aij]at El;refine J (aO e9 (aO El cY)) ?_;show Z (fb _ _)=_;exact J (aii ..) rfl
theorem Et(r:Nat)(dy:List D)(w:D):∀(ms:List (Nat×Nat)) (o:Option (D×D)) (l0:D) (x y:List Nat×Nat),NK r ms x=Z y->x.1.length+ms.length<1000->∃o' l',gY (kE 6 pF qQ CZ) (ms.map kj) (NI o (I x.2) l0 (bW x.1) dy (I r) w)=Z (.next (NI o' (I y.2) l' (bW y.1) dy (I r) w))∧y.1.length<=x.1.length+ms.length
 |[],o,l0,x,y,h,hl=>by refine qS h ?_;exact⟨o,l0,rfl,aV _⟩
 |m::ms,o,l0,x,y,h,hl=>by
  rw[bA]at hl;refine bE h λz h1 h2=>mL (Rg r o l0 x z m dy w (fJ hl) h1) λo1 l1 e hz=>mL (Et r dy w ms (Z o1) l1 z y h2 (by lia)) λo2 l2 e2 hy=>⟨o2,l2,?_,by refine J bA ?_;lia⟩;exact J aR (J iT (J e e2))
theorem NQ:∀ds:List D,(av ds.length).filterMap (ds[·]?)=ds
 |[]=>rfl
 |d::ds=>by
  refine J bA (J rS (J kT ?_));show d::pe _ (ui J2 _)=_;refine J KC ?_
  congr 1
  exact NQ ds
theorem Hf(ds:List D)(h:ds.length<=fB):rm (.list ds) ae ae (Z (-1))=Z (.list ds.reverse):=by
 show(bif ah (ds.length<=fB)&&!(Z (-1)==Z (0:Int))then Z (bJ (Dk ds ae ae (Z (-1))))else ae)=_;refine J (aq h) ?_;show Z (bJ (Dk ds ae ae (Z (-1))))=_
 congr 2
 show pe (ds[·]?) (qZ ((ds.length:Int)-1) (-1) (-1))=_
 have:qZ ((ds.length:Int)-1) (-1) (-1)=(av ds.length).reverse:=by
  unfold qZ;simp only[show ¬((-1:Int)>0)from by decide,if_false]
  have hc:(if(ds.length:Int)-1>-1 then((ds.length:Int)-1- -1- -1-1)/(- -1)else 0).toNat=ds.length:=by
   split
   ·refine J (show(- -1:Int)=1 from rfl) (J (xN ..) ?_);lia
   ·lia
  refine J hc ?_;apply OO
  ·simp
  ·intro i h1 h2;simp at h1 h2⊢;exact air ..
 exact J this (J List.filterMap_reverse (J (NQ ..) rfl))
theorem JS(r:Nat)(ls cs:List Nat)(hn:ls≠[])(hl:ls.length<100)(h:ii r ls=Z cs):eR CZ 7 ["sets"] qQ (oq ["rule","word"] [I r,bW ls]) (bP zr)=Z (.ret (bW cs)):=by
 refine J (show bP zr=[aY 0 (bP zr),vO,aY 2 (bP zr),pF,aY 4 (bP zr)] by kernel_rfl) ?_;refine aO (bf1 _ _) (bh (Eu r (.list []) (bW ls) ls ae [15] (by simp) (by simp;lia)) λo1 h1 h1'=>?_);refine bQ (aW.mp (h1' (.inl hn))) λl y0=>?_;subst y0;have e2:=bf2 (.list []) [I 15] (I r) (bW ls);refine aO (iN e2 h1) ?_;have hss:ls.foldl (λdi l=>di++[yF r (di.getLast?.getD 0) l]) [15]=jL r ls:=rfl;refine J hss ?_
 have ZX:∀(ls:List Nat) (di:List Nat),(ls.foldl (λdi l=>di++[yF r (di.getLast?.getD 0) l]) di).length=di.length+ls.length:=λls=>by
  induction ls with
  |nil=>intro di;rfl
  |cons a ls ih=>intro di;refine J fT (J (ih ..) ?_);simp;exact gk di.length ls.length
 have jM:(jL r ls).length=1+ls.length:=ZX ls [15];have n9:jL r ls≠[]:=by intro e;rw[e]at jM;simp at jM;lia
 unfold ii at h;refine bh (d8.mp h) λpl hp h=>bh (dM.mp h) λx hx Ac=>?_;subst Ac;have e6:=bf6 l (.list []) ((jL r ls).map I) (I r) (bW ls)
 have VC:WV ((jL r ls).map I)=Z (I pl):=by
  unfold WV;refine J (A3 _ n9 (by show _<=16777216;lia)) (J (show fh 0 4 1=(av 4).map I from i9 4) (J (qf I (λp=>(jL r ls).getLast?.getD 0>>>p&&&1 !=0) I (λp _=>by exact J (i7 ..) (J (iQ ..) (J (mH ..) (J (lN ..) rfl)))) (λp _ _=>rfl) (by decide)) ?_));show gh (Z (.list _)) _=_;exact J (A8 _ (aj (eV _ _) (by decide))) (J hp rfl)
 rw[VC]at e6;refine aO e6 ?_;have e7:=bf7 (I pl) l (.list []) ((jL r ls).map I) (I r) (ls.map I)
 have hz:lX (Z ae) (Z ae) (pO (Z (.int (-1)))) (Sy (NJ ((jL r ls).map I) (.list (ls.map I))))=Z (.list ((((jL r ls).zip ls).reverse).map kj)):=by
  have:NJ ((jL r ls).map I) (.list (ls.map I))=Z (.list (((jL r ls).zip ls).map kj)):=by
   show(bif ah (((jL r ls).map I).length<=fB)then Z (bJ (oj ((jL r ls).map I) (ls.map I)))else ae)=_;refine J (aq (by refine J (au ..) ?_;show _<=16777216;lia)) ?_;show Z (bJ _)=_
   congr 2
   unfold oj;exact J List.zip_map (J bI rfl)
  refine J this ?_;show rm (.list _) ae ae (Z (-1))=_;exact J (Hf _ (by refine J (au ..) (J sT ?_);show _<=16777216;lia)) (J mW rfl)
 rw[hz]at e7;refine mL (Et r ((jL r ls).map I) (bW ls) ((jL r ls).zip ls).reverse ae l ([],pl) x hx (by simp only[cI,sT,iy];lia)) λo2 l2 h2 hy=>aO (iN e7 h2) (cH ((aih _ _ _ _ _ _ _).trans ?_))
 exact J (i7 ..) (J (iQ ..) (J (show gf [Z (I (x.2>>>1)),Z (I (x.2&&&1))]=Z (bW [x.2>>>1,x.2&&&1])from rfl) (J (mI _ _ (by
  simp only[cI,sT,iy]at hy;show 2+x.1.length<=16777216;lia)) rfl)))
noncomputable def pv:List D->Option (List Nat)
 |[]=>Z []
 |.int (.ofNat k)::r=>(pv r).map (k::·)
 |_=>ae
theorem r9:∀{ds:List D} {xs:List Nat},pv ds=Z xs->ds=xs.map I
 |[],xs,h=>by refine qS h ?_;rfl
 |d::ds,xs,h=>by
  induction d using ao with
  |int w57=>
   induction w57 using uS with
   |ofNat k=>
    refine mE h λys h1=>J (r9 h1) ?_;rfl
   |_=>exact bK h
  |_=>exact bK h
def B2(ds:List D):Option D:=AQ ds λu1 u2=>kY u1 λr=>o9 u2 λws=>(pv ws).bind λls=>bif !ls.isEmpty&&ah (ls.length<100)then(ii r ls).map bW else ae
theorem F5(g:Gr G)(fn:Fn G 77 "_law_before"):∀ds d,B2 ds=Z d->eJ G 8 "_law_before" ds d:=λds d h=>by
 refine i2 h λu1 u2 h=>lA h λr h=>sf h λws h=>bE h λls h1 h=>?_;have h0:=(ig h).1;replace h:=(ig h).2;simp only[bG,cN,eK,decide_eq_true_eq]at h0;refine mE h λcs h2=>J (r9 h1) ?_;exact fn.ok (n:=7) (C:=CZ) (ow:=["sets"]) (kk:=7) g.K (rg g.B (by decide) (zM (λds d hd=>HV g ds d hd) X1) oy r8 ox (DW g)) (JS r ls cs h0.1 h0.2 h2) (.inl rfl) (by kernel_rfl) rfl (λ_ _ _=>rt 2 λ_ _=>rfl)
abbrev QA:bX:=dj 15
abbrev iA:bj:=c9 QA
abbrev lY(k:Nat):bX:=aY k (bP QA)
def pz(e:bX):List bX:=sv e (λx _=>[]) (λt b o _=>o) (λt v _=>[]) (λt i b o _=>[]) (λt b o _=>[]) (λn a b s p=>[]) (λ_ _=>[]) (λ_ _ _ _=>[]) (λ_ _ _=>[]) (λ_ _=>[]) []
noncomputable abbrev str(x:Str):D:=.str x
noncomputable abbrev jt:Str:="..."
def el0(w g:D):aE:=oq ["want","got"] [w,g]
theorem el1(w g:Str):bB CV 6 ["ws"] iA (el0 (str w) (str g)) (lY 0)=eR CV 6 ["ws"] iA (el0 (str w) (str g)) (bif !iB w jt then fm (lY 0)else[]):=by kernel_rfl
theorem QD(w g:Str):bB CV 5 ["ws"] iA (el0 (str w) (str g)) (aY 0 (fm (lY 0)))=Z (.ret (.bool (w==g))):=by kernel_rfl
noncomputable def X3(ws:List D)(w g:D):aE:=[("ws",.own ws),("want",.val w),("got",.val g)]
theorem el3(w g:Str):bB CV 6 ["ws"] iA (el0 (str w) (str g)) (lY 1)=bif(ah (w.length<=fB)&&ah ((fy w (dz w jt 0 w.length (w.length+1)) jt.length).length<=fB))then Z (.next (X3 ((j9 w jt).map .str) (str w) (str g)))else ae:=by kernel_rfl
def FJ(x:Option D)(o:Bool):Option D:=fS CV "len" (bif o then ae else b8 [x]) (b8 [x])
theorem el4(ws:List D)(w g:Str):bB CV 6 ["ws"] iA (X3 ws (str w) (str g)) (lY 2)=(c2 .GtE (FJ (Z (.list ws)) af) (Z (I 2))).bind λc=>bif c then Z (.next (X3 ws (str w) (str g)))else ae:=by kernel_rfl
noncomputable def elP(sp ep:D)(ws:List D)(w g:D):aE:=[("startpos",.val sp),("endpos",.val ep),("ws",.own ws),("want",.val w),("got",.val g)]
theorem el5(ws:List D)(w g:Str):bB CV 6 ["ws"] iA (X3 ws (str w) (str g)) (lY 3)=(lI [Z (I 0),FJ (Z (str g)) ag]).bind (gN iA (lY 3) (X3 ws (str w) (str g))):=by kernel_rfl
theorem ahi(ws:List D)(w g sp ep:D):gN iA (lY 3) (X3 ws w g) (.tuple [sp,ep])=Z (.next (elP sp ep ws w g)):=by kernel_rfl
def QC(x sp ep:D)(ws:List D)(w g:D):aE:=("w",.val x)::elP sp ep ws w g
theorem el6(sp ep:D)(ws:List D)(w g:D):bB CV 6 ["ws"] iA (elP sp ep ws w g) (lY 4)=(gh (Z (.list ws)) (Z (I 0))).map λx=>.next (QC x sp ep ws w g):=by kernel_rfl
theorem el7(x sp ep:D)(ws:List D)(w g:D):bB CV 6 ["ws"] iA (QC x sp ep ws w g) (lY 5)=(tO (Z x)).bind λc=>eR CV 6 ["ws"] iA (QC x sp ep ws w g) (bif c then fm (lY 5)else[]):=by kernel_rfl
abbrev Kh:bX:=aY 0 (fm (lY 5))
theorem el8(x g:Str)(sp ep:D)(ws:List D)(w:D):bB CV 5 ["ws"] iA (QC (str x) sp ep ws w (str g)) Kh=eR CV 5 ["ws"] iA (QC (str x) sp ep ws w (str g)) (bif mx g x then fm Kh else pz Kh):=by kernel_rfl
noncomputable def aaD(x sp ep:D)(ws:List D)(w g:D):aE:=[("startpos",.val sp),("w",.val x),("endpos",.val ep),("ws",.own ws),("want",.val w),("got",.val g)]
noncomputable def QB(x sp ep:D)(ws:List D)(w g:D):aE:=[("ws",.own ws),("startpos",.val sp),("w",.val x),("endpos",.val ep),("want",.val w),("got",.val g)]
theorem el9(x sp ep:D)(ws:List D)(w g:D):bB CV 4 ["ws"] iA (QC x sp ep ws w g) (aY 0 (fm Kh))=(FJ (Z x) ag).map λl=>.next (aaD x l ep ws w g):=by kernel_rfl
def JI(k:Int)(ws:List D)(f:List D->gO):Option gO:=(tM k ws.length).bind λj=>bif ah (ws.length<=fB)then Z (f (ws.eraseIdx j))else ae
theorem ahz(x sp ep:D)(ws:List D)(w g:D):bB CV 4 ["ws"] iA (aaD x sp ep ws w g) (aY 1 (fm Kh))=JI 0 ws λws=>.next (QB x sp ep ws w g):=by kernel_rfl
theorem ahy(x sp ep:D)(ws:List D)(w g:D):bB CV 4 ["ws"] iA (QC x sp ep ws w g) (aY 0 (pz Kh))=Z (.ret (.bool ag)):=by kernel_rfl
def elB(k:Bool)(x sp ep:D)(ws:List D)(w g:D):aE:=bif k then QB x sp ep ws w g else QC x sp ep ws w g
def SV(k:Bool)(x sp ep:D)(ws:List D)(w g:D):aE:=bif k then[("w",.val x),("ws",.own ws),("startpos",.val sp),("endpos",.val ep),("want",.val w),("got",.val g)]else QC x sp ep ws w g
theorem ahx(k:Bool)(x sp ep:D)(ws:List D)(w g:D):bB CV 6 ["ws"] iA (elB k x sp ep ws w g) (lY 6)=(gh (Z (.list ws)) (Z (int (-1)))).map λy=>.next (SV k y sp ep ws w g):=by induction k using ax<;>kernel_rfl
theorem ahw(k:Bool)(x sp ep:D)(ws:List D)(w g:D):bB CV 6 ["ws"] iA (SV k x sp ep ws w g) (lY 7)=(tO (Z x)).bind λc=>eR CV 6 ["ws"] iA (SV k x sp ep ws w g) (bif c then fm (lY 7)else[]):=by induction k using ax<;>kernel_rfl
abbrev Kg:bX:=aY 0 (fm (lY 7))
theorem ahv(k:Bool)(x g:Str)(sp ep:D)(ws:List D)(w:D):bB CV 5 ["ws"] iA (SV k (str x) sp ep ws w (str g)) Kg=eR CV 5 ["ws"] iA (SV k (str x) sp ep ws w (str g)) (bif oS g x then fm Kg else pz Kg):=by induction k using ax<;>kernel_rfl
noncomputable def aaC(k:Bool)(x sp ep:D)(ws:List D)(w g:D):aE:=bif k then[("endpos",.val ep),("w",.val x),("ws",.own ws),("startpos",.val sp),("want",.val w),("got",.val g)]else[("endpos",.val ep),("w",.val x),("startpos",.val sp),("ws",.own ws),("want",.val w),("got",.val g)]
theorem ahu(k:Bool)(x sp ep:D)(ws:List D)(w g:D):bB CV 4 ["ws"] iA (SV k x sp ep ws w g) (aY 0 (fm Kg))=(FJ (Z x) ag).bind λl=>(qK .Sub ep l).map λe=>.next (aaC k x sp e ws w g):=by induction k using ax<;>kernel_rfl
noncomputable def elD(x sp ep:D)(ws:List D)(w g:D):aE:=[("ws",.own ws),("endpos",.val ep),("w",.val x),("startpos",.val sp),("want",.val w),("got",.val g)]
theorem aht(k:Bool)(x sp ep:D)(ws:List D)(w g:D):bB CV 4 ["ws"] iA (aaC k x sp ep ws w g) (aY 1 (fm Kg))=JI (-1) ws λws=>.next (elD x sp ep ws w g):=by induction k using ax<;>kernel_rfl
theorem ahs(k:Bool)(x sp ep:D)(ws:List D)(w g:D):bB CV 4 ["ws"] iA (SV k x sp ep ws w g) (aY 0 (pz Kg))=Z (.ret (.bool ag)):=by induction k using ax<;>kernel_rfl
def elS(k:Option Bool)(x sp ep:D)(ws:List D)(w g:D):aE:=match k with
 |some k=>SV k x sp ep ws w g
 |none=>elD x sp ep ws w g
theorem ahr(k:Option Bool)(x sp ep:D)(ws:List D)(w g:D):bB CV 6 ["ws"] iA (elS k x sp ep ws w g) (lY 8)=(c2 .Gt (Z sp) (Z ep)).bind λc=>eR CV 6 ["ws"] iA (elS k x sp ep ws w g) (bif c then fm (lY 8)else[]):=by rcases k with _|_|_<;>kernel_rfl
theorem ahq(k:Option Bool)(x sp ep:D)(ws:List D)(w g:D):bB CV 5 ["ws"] iA (elS k x sp ep ws w g) (aY 0 (fm (lY 8)))=Z (.ret (.bool ag)):=by rcases k with _|_|_<;>kernel_rfl
noncomputable def MX(k:Option Bool)(x sp ep:D)(ws w g:D):aE:=match k with
 |none=>[("ws",.val ws),("endpos",.val ep),("w",.val x),("startpos",.val sp),("want",.val w),("got",.val g)]
 |some false=>[("w",.val x),("startpos",.val sp),("endpos",.val ep),("ws",.val ws),("want",.val w),("got",.val g)]
 |some true=>[("w",.val x),("ws",.val ws),("startpos",.val sp),("endpos",.val ep),("want",.val w),("got",.val g)]
theorem ahp(k:Option Bool)(x sp ep:D)(ws:List D)(w g:D):bB CV 6 ["ws"] iA (elS k x sp ep ws w g) (lY 9)=gY (kE 6 (lY 9) iA CV) ws (MX k x sp ep (.list ws) w g):=by rcases k with _|_|_<;>kernel_rfl
def elG(k:Option Bool)(x sp ep ws w g:D):aE:=match k with
 |none=>[("w",.val x),("ws",.val ws),("endpos",.val ep),("startpos",.val sp),("want",.val w),("got",.val g)]
 |some k=>MX (Z k) x sp ep ws w g
theorem aho(k:Option Bool)(y x sp ep ws w g:D):nV iA 3 (uD (lY 9)) y (MX k x sp ep ws w g)=Z (elG k y sp ep ws w g):=by rcases k with _|_|_<;>kernel_rfl
noncomputable def Wn(k:Option Bool)(x sp ep ws w g:D):aE:=match k with
 |some false=>[("startpos",.val sp),("w",.val x),("endpos",.val ep),("ws",.val ws),("want",.val w),("got",.val g)]
 |_=>[("startpos",.val sp),("w",.val x),("ws",.val ws),("endpos",.val ep),("want",.val w),("got",.val g)]
theorem aaE(k:Option Bool)(x g:Str)(sp ep:Int)(ws w:D):bB CV 5 [] iA (elG k (str x) (int sp) (int ep) ws w (str g)) (aY 0 (eY (lY 9)))=Z (.next (Wn k (str x) (int (kF g x sp ep)) (int ep) ws w (str g))):=by rcases k with _|_|_<;>kernel_rfl
abbrev X4:bX:=aY 1 (eY (lY 9))
theorem ahn(k:Option Bool)(x sp ep ws w g:D):bB CV 5 [] iA (Wn k x sp ep ws w g) X4=(c2 .Lt (Z sp) (Z (I 0))).bind λc=>eR CV 5 [] iA (Wn k x sp ep ws w g) (bif c then fm X4 else[]):=by rcases k with _|_|_<;>kernel_rfl
theorem ahm(k:Option Bool)(x sp ep ws w g:D):bB CV 4 [] iA (Wn k x sp ep ws w g) (aY 0 (fm X4))=Z (.ret (.bool ag)):=by rcases k with _|_|_<;>kernel_rfl
theorem ahl(k:Option Bool)(x sp ep ws w g:D):bB CV 5 [] iA (Wn k x sp ep ws w g) (aY 2 (eY (lY 9)))=(FJ (Z x) ag).bind λl=>(qK .Add sp l).map λs=>.next (Wn k x s ep ws w g):=by rcases k with _|_|_<;>kernel_rfl
theorem ahk(k:Option Bool)(y x sp YS ep ws w g:D):fb (MX k x sp ep ws w g) (.next (Wn k y YS ep ws w g))=.next (MX k y YS ep ws w g):=by rcases k with _|_|_<;>kernel_rfl
theorem ahj(k:Option Bool)(x sp ep ws w g:D):bB CV 6 ["ws"] iA (MX k x sp ep ws w g) (lY 10)=Z (.ret (.bool af)):=by rcases k with _|_|_<;>kernel_rfl
structure So(α:Type)where
 len:α->Nat
 sw:α->α->Bool
 ew:α->α->Bool
 fd:α->α->Int->Int->Int
 has:α->Bool
 sp:α->List α
 pl:α->Nat
 eq:α->α->Bool
section
variable(o:So α)(g:α)
noncomputable def vI(ep:Int):List α->Int->Bool
 |[],_=>af
 |x::xs,sp=>bif ah (o.fd g x sp ep<0)then ag else vI ep xs (o.fd g x sp ep+(o.len x:Int))
theorem yY{ep:Int}{x:α}{xs:List α}{sp:Int}:vI o g ep (x::xs) sp=bif ah (o.fd g x sp ep<0)then ag else vI o g ep xs (o.fd g x sp ep+(o.len x:Int)):=rfl
def yX(ws:List α)(sp ep:Int):Bool:=bif ah (ep<sp)then ag else vI o g ep ws sp
def Ab(ws:List α)(sp:Int):Option Bool:=ws.getLast?.bind λx=>bif(o.len x:Int) !=0 then(bif o.ew g x then Z (yX o g ws.dropLast sp ((o.len g:Int)-(o.len x:Int)))else Z ag)else Z (yX o g ws sp (o.len g))
def Qy:List α->Option Bool
 |[]=>ae
 |x::r=>bif(o.len x:Int) !=0 then(bif o.sw g x then Ab o g r (o.len x)else Z ag)else Ab o g (x::r) 0
def uG(w:α):Option Bool:=bif ah (o.len g<=1000)&&ah (o.len w<=1000)then(bif o.has w then(bif ah (o.pl w<=1000)&&ah (2<=(o.sp w).length)&&ah ((o.sp w).length<=1000)&&(o.sp w).all (λx=>ah (o.len x<=1000))then Qy o g (o.sp w)else ae)else Z (o.eq w g))else ae
end
def Fh:So Str:=⟨Str.length,mx,oS,kF,λw=>iB w jt,λw=>j9 w jt,λw=>(fy w (dz w jt 0 w.length (w.length+1)) jt.length).length,λw g=>w==g⟩
def Qz(w g:Str):Option Bool:=uG Fh g w
theorem N4(h:x.length<=1000):FJ (Z (str x)) ag=Z (int x.length):=
 oE (show qk "len" [str x]=_ by
  show(bif("len":Str)==("len":Str)&&ah (x.length<=fB)then Z (aI x.length)else ae)=_;exact J (aq (aj h (by decide))) rfl) rfl
theorem G9(h:x.length<=1000):tO (Z (str x))=Z ((x.length:Int) !=0):=by
 show(bif ah (x.length<=fB)then Z ((x.length:Int) !=0)else ae)=_;exact J (aq (aj h (by decide))) rfl
theorem len_own(h:ds.length<=1000):FJ (Z (.list ds)) af=Z (int ds.length):=
 oE (show qk "len" [.list ds]=_ by
  show(bif("len":Str)==("len":Str)&&ah (ds.length<=fB)then Z (aI ds.length)else _)=_;exact J (aq (aj h (by decide))) rfl) rfl
theorem Ei(g:Str)(k:Option Bool)(ws w:D)(ep:Int):∀(xs:List Str),xs.all (λx=>ah (x.length<=1000))=af->∀(x:D) (sp:Int),
 (vI Fh g ep xs sp=ag->gY (kE 6 (lY 9) iA CV) (xs.map .str) (MX k x (int sp) (int ep) ws w (str g))=Z (.ret (.bool ag)))∧
 (vI Fh g ep xs sp=af->∃x' YS,gY (kE 6 (lY 9) iA CV) (xs.map .str) (MX k x (int sp) (int ep) ws w (str g))=Z (.next (MX k x' YS (int ep) ws w (str g))))
 |[],_,x,sp=>⟨λh=>(nomatch h),λ_=>⟨x,int sp,rfl⟩⟩
 |y::ys,hl,x,sp=>by
  rw[Xx,bG,decide_eq_true_eq]at hl;have ih:=Ei g k ws w ep ys hl.2 (str y) (kF g y sp ep+(y.length:Int))
  have step:kE 6 (lY 9) iA CV (MX k x (int sp) (int ep) ws w (str g)) (str y)=Z (bif ah (kF g y sp ep<0)then gO.ret (.bool ag)else gO.next (MX k (str y) (int (kF g y sp ep+(y.length:Int))) (int ep) ws w (str g))):=by
   unfold kE;refine J (aho ..) (J (bx ..) (J (show eY (lY 9)=[aY 0 (eY (lY 9)),X4,aY 2 (eY (lY 9))] by kernel_rfl) ?_));have e23:=ahn k (str y) (int (kF g y sp ep)) (int ep) ws w (str g);rw[show c2 .Lt (Z (int (kF g y sp ep))) (Z (I 0))=Z (ah (kF g y sp ep<0))from rfl,bx]at e23
   cases hc:ah (kF g y sp ep<0)with
   |true=>
    rw[hc,show fm X4=[aY 0 (fm X4)] by kernel_rfl]at e23;exact J (aO (aaE k y g sp ep ws w) (cH (e23.trans (cH (ahm ..))))) rfl
   |false=>
    rw[hc]at e23;have e25:=ahl k (str y) (int (kF g y sp ep)) (int ep) ws w (str g);rw[N4 hl.1]at e25;refine J (aO (aaE k y g sp ep ws w) (aO (e23.trans cY) (aO e25 cY))) ?_;show Z (fb _ _)=_;exact J (ahk ..) rfl
  refine J (yY ..) (J aR (J iT ?_));show((bif ah (kF g y sp ep<0)then ag else vI Fh g ep ys (kF g y sp ep+(y.length:Int)))=ag->_)∧((bif ah (kF g y sp ep<0)then ag else vI Fh g ep ys (kF g y sp ep+(y.length:Int)))=af->_);refine J step ?_
  cases hc:ah (kF g y sp ep<0)with
  |true=>exact⟨λ_=>rfl,λh=>(nomatch h)⟩
  |false=>exact ih
theorem Eh(g:Str)(k:Option Bool)(x w:D)(ws:List Str)(sp ep:Int)(hl:ws.all (λx=>ah (x.length<=1000))=af):eR CV 7 ["ws"] iA (elS k x (int sp) (int ep) (ws.map .str) w (str g)) [lY 8,lY 9,lY 10]=Z (.ret (.bool (yX Fh g ws sp ep))):=by
 have QH:=ahr k x (int sp) (int ep) (ws.map .str) w (str g);rw[show c2 .Gt (Z (int sp)) (Z (int ep))=Z (ah (ep<sp))from rfl,bx]at QH;unfold yX
 cases hc:ah (ep<sp)with
 |true=>
  rw[hc,show fm (lY 8)=[aY 0 (fm (lY 8))] by kernel_rfl]at QH;exact cH (QH.trans (cH (ahq ..)))
 |false=>
  rw[hc]at QH;refine aO (QH.trans cY) ?_;have e:=Ei g k (.list (ws.map .str)) w ep ws hl x sp;have e20:=ahp k x (int sp) (int ep) (ws.map .str) w (str g);show _=Z (gO.ret (.bool (vI Fh g ep ws sp)))
  cases hf:vI Fh g ep ws sp with
  |false=>exact cH (e20.trans (e.1 hf))
  |true=>
   exact jY (e.2 hf) λx' YS h=>aO (e20.trans h) (cH (ahj ..))
theorem DK:∀{ws:List α} {y:α},ws.getLast?=Z y->ws=ws.dropLast++[y]
 |[],_,h=>nomatch h
 |[x],_,h=>by refine qS h ?_;rfl
 |x::z::r,y,h=>by
  have:=DK (ws:=z::r) (y:=y) (by simpa using h);exact J List.dropLast_cons₂ (J yb (rF this rfl))
theorem NP{p:Str->Bool}{ws:List Str}(h:ws.all p=af):ws.dropLast.all p=af:=a9.mpr λx hx=>a9.mp h x (List.dropLast_subset _ hx)
theorem Uw(k:Nat):tM (-1) (k+1)=Z k:=by
 show(if(ah (0<=-1+((k+1:Nat):Int))&&ah (-1+((k+1:Nat):Int)<((k+1:Nat):Int)))=af then Z (-1+((k+1:Nat):Int)).toNat else ae)=_;refine J (aq (show 0<=-1+((k+1:Nat):Int) by lia)) (J (aq (show-1+((k+1:Nat):Int)<((k+1:Nat):Int) by lia)) ?_);show Z (-1+((k+1:Nat):Int)).toNat=_
 congr 1;lia
theorem HZ(g:Str)(k:Bool)(x0 w:D)(ws:List Str)(sp:Int)(b:Bool)(hl:ws.all (λx=>ah (x.length<=1000))=af)(hn:ws.length<=1000)(h:Ab Fh g ws sp=Z b):eR CV 7 ["ws"] iA (elB k x0 (int sp) (int g.length) (ws.map .str) w (str g)) [lY 6,lY 7,lY 8,lY 9,lY 10]=Z (.ret (.bool b)):=by
 refine bE h λy hy h=>?_;obtain⟨ys,rfl⟩:∃ys,ws=ys++[y]:=⟨ws.dropLast,(DK hy)⟩;have hym:y∈ys++[y]:=by simp
 have XR:y.length<=1000:=aw (a9.mp hl y hym);have QJ:=ahx k x0 (int sp) (int g.length) ((ys++[y]).map .str) w (str g)
 rw[bN,aR,kB,yi _ _ (by
  rw[aP,dX]at hn;exact J (au ..) (aj hn (by decide)))]at QJ
 refine J bN (J aR (J kB ?_));refine aO QJ ?_;have X5:=ahw k (str y) (int sp) (int g.length) (ys.map .str++[str y]) w (str g);rw[G9 XR,bx]at X5;replace h:(bif(y.length:Int) !=0 then(bif oS g y then Z (yX Fh g (ys++[y]).dropLast sp ((g.length:Int)-(y.length:Int)))else Z ag)else Z (yX Fh g (ys++[y]) sp (g.length:Int)))=Z b:=h;have RX:=Eh g (Z k) (str y) w (ys++[y]) sp (g.length:Int) hl;rw[bN,aR,kB]at RX
 cases hc:((y.length:Int) !=0)with
 |false=>
  rw[hc]at h X5;exact qS h (aO (X5.trans cY) RX)
 |true=>
  rw[hc,show fm (lY 7)=[Kg] by kernel_rfl]at X5;rw[hc]at h;have QI:=ahv k y g (int sp) (int g.length) (ys.map .str++[str y]) w
  cases he:oS g y with
  |false=>
   rw[he]at h QI;refine qS h ?_;rw[show pz Kg=[aY 0 (pz Kg)] by kernel_rfl]at QI;exact cH (X5.trans (cH (QI.trans (cH (ahs ..)))))
  |true=>
   rw[he,show fm Kg=[aY 0 (fm Kg),aY 1 (fm Kg)] by kernel_rfl]at QI;rw[he]at h;refine qS h ?_;have e15:=ahu k (str y) (int sp) (int g.length) (ys.map .str++[str y]) w (str g);rw[N4 XR]at e15;have SW:=aht k (str y) (int sp) (int ((g.length:Int)-(y.length:Int))) (ys.map .str++[str y]) w (str g)
   have hd:JI (-1) (ys.map .str++[str y]) (λws=>gO.next (elD (str y) (int sp) (int ((g.length:Int)-(y.length:Int))) ws w (str g)))=Z (.next (elD (str y) (int sp) (int ((g.length:Int)-(y.length:Int))) (ys.map .str) w (str g))):=by
    unfold JI
    have hs:tM (-1) (ys.map gT++[str y]).length=Z ys.length:=by
     exact J aP (J (au ..) (J dX (Uw _)))
    refine J hs (J (bx ..) (J (aq (by
     rw[aP,dX]at hn;exact J aP (J (au ..) (J dX (aj hn (by decide)))))) ?_))
    show Z (gO.next (elD _ _ _ _ _ _))=_
    congr 3
    have:=List.eraseIdx_append_of_length_le (l:=ys.map gT) (k:=ys.length) (by simp) [str y];refine J this ?_;simp
   rw[hd]at SW;have ht:=Eh g ae (str y) w ys sp ((g.length:Int)-(y.length:Int)) (by simpa using NP hl);exact J (show(ys++[y]).dropLast=ys by simp) (aO (X5.trans (aO (QI.trans (aO e15 (aO SW cY))) cY)) ht)
theorem fv{a b:Bool}(h:(a&&b)=af):a=af:=by induction a using ax;exact ff h;rfl
theorem gx{a b:Bool}(h:(a&&b)=af):b=af:=by induction a using ax;exact ff h;exact h
theorem Wj(w g:Str)(b:Bool)(h:Qz w g=Z b):eR CV 7 ["ws"] iA (el0 (str w) (str g)) (bP QA)=Z (.ret (.bool b)):=by
 refine J (show bP QA=[lY 0,lY 1,lY 2,lY 3,lY 4,lY 5,lY 6,lY 7,lY 8,lY 9,lY 10] by kernel_rfl) ?_;have h0:=(ig h).1;replace h:=(ig h).2;have hg:g.length<=1000:=aw (fv h0);have hw:w.length<=1000:=aw (gx h0);have e1:=el1 w g
 cases hc:iB w jt with
 |false=>
  replace h:(bif iB w jt then _ else Z (w==g))=Z b:=h;rw[hc]at h e1;refine qS h ?_;rw[show fm (lY 0)=[aY 0 (fm (lY 0))] by kernel_rfl]at e1;exact cH (e1.trans (cH (QD w g)))
 |true=>
  replace h:(bif iB w jt then _ else Z (w==g))=Z b:=h;rw[hc]at h e1;replace h:=h;have h1:=(ig h).1;replace h:=(ig h).2;have k1:(fy w (dz w jt 0 w.length (w.length+1)) jt.length).length<=1000:=aw (fv (fv (fv h1)));have k2:2<=(j9 w jt).length:=aw (gx (fv (fv h1)));have k3:(j9 w jt).length<=1000:=aw (gx (fv h1));have k4:(j9 w jt).all (λx=>ah (x.length<=1000))=af:=gx h1;have e3:=el3 w g;rw[aq (aj hw (by decide)),aq (aj k1 (by decide))]at e3;refine aO (e1.trans cY) (aO e3 ?_);replace h:Qy Fh g (j9 w jt)=Z b:=h;revert h k2 k3 k4;generalize j9 w jt=ws;intro k2 k3 k4 h;have e4:=el4 (ws.map .str) w g;rw[len_own (J (au ..) k3),show c2 .GtE (Z (int ((ws.map gT).length))) (Z (I 2))=Z (ah ((2:Int)<=((ws.map gT).length:Int)))from rfl,bx,aq (J (au ..) ((λ{m} {n}=>GZ.mp) k2))]at e4;have e5:=el5 (ws.map .str) w g;rw[N4 hg,vc,bx,ahi]at e5;refine aO e4 (aO e5 ?_)
  match ws,h,k2,k3,k4 with
  |[],h,_,_,_=>exact bK h
  |x::r,h,k2,k3,k4=>
   have k4':=k4;rw[Xx]at k4';have hx:x.length<=1000:=aw (fv k4');have e6:=el6 (I 0) (int g.length) ((x::r).map .str) (str w) (str g)
   rw[show gh (Z (.list ((x::r).map .str))) (Z (I 0))=Z (str x) by
    show(bif ah (((x::r).map gT).length<=fB)then zO ((x::r).map .str) ((0:Nat):Int)else ae)=_;exact J (aq (J (au ..) (aj k3 (by decide)))) rfl]at e6
   refine aO e6 ?_;have e7:=el7 (str x) (I 0) (int g.length) ((x::r).map .str) (str w) (str g);rw[G9 hx,bx]at e7;replace h:(bif(x.length:Int) !=0 then(bif mx g x then Ab Fh g r (x.length:Int)else Z ag)else Ab Fh g (x::r) 0)=Z b:=h
   cases Vv:((x.length:Int) !=0)with
   |false=>
    rw[Vv]at h e7;exact aO (e7.trans cY) (HZ g ag (str x) (str w) (x::r) 0 b k4 k3 h)
   |true=>
    rw[Vv,show fm (lY 5)=[Kh] by kernel_rfl]at e7;rw[Vv]at h;have e8:=el8 x g (I 0) (int g.length) ((x::r).map .str) (str w)
    cases hs:mx g x with
    |false=>
     rw[hs]at h e8;refine qS h ?_;rw[show pz Kh=[aY 0 (pz Kh)] by kernel_rfl]at e8;exact cH (e7.trans (cH (e8.trans (cH (ahy ..)))))
    |true=>
     rw[hs]at h e8;rw[show fm Kh=[aY 0 (fm Kh),aY 1 (fm Kh)] by kernel_rfl]at e8;have e9:=el9 (str x) (I 0) (int g.length) ((x::r).map .str) (str w) (str g);rw[N4 hx]at e9;have El:=ahz (str x) (int x.length) (int g.length) ((x::r).map .str) (str w) (str g)
     rw[show JI 0 ((x::r).map .str) (λws=>gO.next (QB (str x) (int x.length) (int g.length) ws (str w) (str g)))=Z (.next (QB (str x) (int x.length) (int g.length) (r.map .str) (str w) (str g))) by
      unfold JI
      exact J (show tM 0 ((x::r).map gT).length=Z 0 by
       refine J (au ..) ?_;show(if(ah ((0:Int)<=0)&&ah ((0:Int)<(((x::r).length:Nat):Int)))=af then Z (0:Int).toNat else ae)=_;exact J (aq (show(0:Int)<(((x::r).length:Nat):Int) by exact J bA (N9 r.length))) rfl) (J (bx ..) (J (aq (J (au ..) (aj k3 (by decide)))) rfl))]at El
     rw[bA]at k3;exact aO (e7.trans (aO (e8.trans (aO e9 (aO El cY))) cY)) (HZ g af (str x) (str w) r x.length b (gx k4') (gA k3) h)
def Wa(ds:List D):Option D:=AQ ds λu1 u2=>Gi u1 λw=>Gi u2 λg=>(Qz w g).map .bool
theorem Qs(g:Gr G)(fn:Fn G 15 "_ellipsis_match"):∀ds d,Wa ds=Z d->eJ G 7 "_ellipsis_match" ds d:=λds d h=>by
 exact i2 h λu1 u2 h=>Jf h λw h=>Jf h λt h=>mE h λb h1=>fn.ok (n:=6) (C:=CV) (ow:=["ws"]) (kk:=7) g.K (Ii g.B g.V (aV _)) (Wj w t b h1) (.inl rfl) (by kernel_rfl) rfl (λ_ _ _=>rt 2 λ_ _=>rfl)
section
noncomputable def yt(p:Nat->Bool)(w hi jA:Nat):List Nat->Nat->Nat->List Nat
 |[],_,_=>[]
 |i::is,c,fr=>bif ah (c<jA)&&ah (fr<=i)&&ah (i+w<=hi)&&p i then i::yt p w hi jA is (c+1) (i+w)else yt p w hi jA is c fr
theorem Fy{p:Nat->Bool}{w hi jA:Nat}{is:List Nat}{c fr:Nat}:yt p w hi jA (i::is) c fr=bif ah (c<jA)&&ah (fr<=i)&&ah (i+w<=hi)&&p i then i::yt p w hi jA is (c+1) (i+w)else yt p w hi jA is c fr:=rfl
theorem Fx(p:Nat->Bool)(w hi jA:Nat):∀(is:List Nat) (fr:Nat) (xw:Array Nat),((forIn (m:=Id) is (xw,fr) λi r=>if(ah (r.1.size<jA)&&ah (r.2<=i)&&ah (i+w<=hi)&&p i)=af then pure (kC (r.1.push i,i+w))else pure (kC (r.1,r.2))):Array Nat×Nat).1.toList=xw.toList++yt p w hi jA is xw.size fr
 |[],fr,xw=>by simp[show∀c,yt p w hi jA [] c fr=[]from λ_=>rfl];rfl
 |i::is,fr,xw=>by
  refine J (gB ..) (J Fy ?_)
  cases h:(ah (xw.size<jA)&&ah (fr<=i)&&ah (i+w<=hi)&&p i)with
  |true=>
   refine J (bz rfl) ((Fx p w hi jA is (i+w) (xw.push i)).trans ?_);simp
  |false=>
   exact J (bF dP) (Fx p w hi jA is fr xw)
theorem Xc(s sub:Str)(lo hi jA:Nat):dz s sub lo hi jA=yt (RD s sub) sub.length hi jA (fw lo (hi+1-lo)) 0 lo:=by
 unfold dz;simp only[Tu,Tt,pM,uP];exact Fx (RD s sub) sub.length hi jA (fw lo (hi+1-lo)) lo #[]
def rZ(x y:List Nat)(lo hi jA:Nat):List Nat:=yt (λi=>(x.drop i).take y.length==y) y.length hi jA (fw lo (hi+1-lo)) 0 lo
def zL:So (List Nat)where
 len:=qr
 sw x y:=ah (y.length<=x.length)&&x.take y.length==y
 ew x y:=ah (y.length<=x.length)&&(x.drop (x.length-y.length)).take y.length==y
 fd x y i j:=match rZ x y (gI x.length i) (min (gI x.length j) x.length) 1 with|k::_=>(k:Int)|[]=>-1
 has w:=!(rZ w [2,2,2] 0 w.length 1).isEmpty
 sp w:=bif ah (w.length<3)||(rZ w [2,2,2] 0 w.length (w.length+1)).isEmpty then[w]else((0::(rZ w [2,2,2] 0 w.length (w.length+1)).map (·+3)).zip (rZ w [2,2,2] 0 w.length (w.length+1)++[w.length])).map λp=>(w.drop p.1).take (p.2-p.1)
 pl w:=(((0::(rZ w [2,2,2] 0 w.length (w.length+1)).map (·+3)).zip (rZ w [2,2,2] 0 w.length (w.length+1)++[w.length])).map λp=>(w.drop p.1).take (p.2-p.1)).length
 eq x y:=x==y
noncomputable def S(f:Nat->Nat)(l:List Nat):Str:=⟨(l.map f).toArray⟩
variable{f:Nat->Nat}
theorem kJ(l:List Nat):(S f l).length=l.length:=by
 show(E3 _).size=_;exact J gy (J (au ..) rfl)
theorem Th(x:List Nat)(i j:Nat):(S f x).cps.extract i j=(((x.drop i).take (j-i)).map f).toArray:=by
 show(x.map f).toArray.extract i j=_;exact J List.extract_toArray (J List.extract_eq_take_drop (J lr (J lu rfl)))
theorem BQ(hf:∀a b,f a=f b->a=b)(x y:List Nat):((x.map f).toArray==(y.map f).toArray)=(x==y):=by
 rw[cj,aC,aC];exact⟨λh=>List.map_inj_right (λa b=>hf a b)|>.mp (by simpa using h),λh=>by exact J h rfl⟩
theorem NS(hf:∀a b,f a=f b->a=b)(x y:List Nat)(i:Nat):RD (S f x) (S f y) i=((x.drop i).take y.length==y):=by
 unfold RD;exact J (Th ..) (J (kJ ..) (J (eh ..) (BQ hf _ _)))
theorem Ez(hf:∀a b,f a=f b->a=b)(x y:List Nat)(lo hi jA:Nat):dz (S f x) (S f y) lo hi jA=rZ x y lo hi jA:=by
 exact J (Xc ..) (J (kJ ..) (J (show RD (S f x) (S f y)=_ from funext (NS hf x y)) rfl))
theorem Ck(h2:f 2=46):jt=S f [2,2,2]:=by
 show _=oI (E3 [f 2,f 2,f 2]);refine J h2 ?_;kernel_rfl
theorem Ih(x:List Nat)(WG:List Nat):fy (S f x) WG 3=(((0::WG.map (·+3)).zip (WG++[x.length])).map λp=>(x.drop p.1).take (p.2-p.1)).map (S f):=by
 unfold fy;refine J bI (J (kJ ..) ?_);apply dx;intro p _;show oI _=oI _;exact J (Th ..) rfl
theorem Jc(x:Str):ah (jn x<jn jt)=ag:=by
 apply bi;have h1:jn jt=1:=by kernel_rfl
 refine J h1 ?_;unfold jn
 split
 ·decide
 ·split<;>decide
theorem Qx{o1:So α}{o2:So β}{F:α->β}(h1:∀x,o2.len (F x)=o1.len x)(h2:∀x y,o2.sw (F x) (F y)=o1.sw x y)(h3:∀x y,o2.ew (F x) (F y)=o1.ew x y)(h4:∀x y i j,o2.fd (F x) (F y) i j=o1.fd x y i j)(h5:∀x,o2.has (F x)=o1.has x)(h6:∀x,o2.sp (F x)=(o1.sp x).map F)(h7:∀x,o2.pl (F x)=o1.pl x)(h8:∀x y,o2.eq (F x) (F y)=o1.eq x y)(g w:α):uG o2 (F g) (F w)=uG o1 g w:=by
 have hF:∀ep xs sp,vI o2 (F g) ep (xs.map F) sp=vI o1 g ep xs sp:=λep xs=>by
  induction xs with
  |nil=>intro sp;rfl
  |cons x xs ih=>intro sp;exact J aR (J (yY ..) (J (h4 ..) (J (ih ..) (J (h1 ..) rfl))))
 have hE:∀ws sp,Ab o2 (F g) (ws.map F) sp=Ab o1 g ws sp:=λws sp=>by
  unfold Ab;refine J List.getLast?_map ?_
  cases ws.getLast? with
  |none=>rfl
  |some x=>
   show(bif(o2.len (F x):Int) !=0 then(bif o2.ew (F g) (F x)then Z (yX o2 (F g) (ws.map F).dropLast sp _)else _)else Z (yX o2 (F g) (ws.map F) sp _))=_;unfold yX;exact J (h1 ..) (J (h1 ..) (J (h3 ..) (rF List.map_dropLast (J (hF ..) (J (hF ..) rfl)))))
 have hS:∀ws,Qy o2 (F g) (ws.map F)=Qy o1 g ws:=λws=>by
  induction ws using aA with
  |nil=>rfl
  |cons x r=>
   show(bif(o2.len (F x):Int) !=0 then(bif o2.sw (F g) (F x)then Ab o2 (F g) (r.map F) (o2.len (F x))else Z ag)else Ab o2 (F g) ((x::r).map F) 0)=_;exact J (h1 ..) (J (h2 ..) (J (hE ..) (J (hE ..) rfl)))
 unfold uG;exact J (h1 ..) (J (h1 ..) (J (h5 ..) (J (h7 ..) (J (h6 ..) (J (h8 ..) (J (hS ..) (J (au ..) (J List.all_map (J (show((λx=>ah (o2.len x<=1000))∘F)=λx=>ah (o1.len x<=1000)from funext λx=>by exact J Function.comp_apply (J (h1 ..) rfl)) rfl)))))))))
theorem Wm(hf:∀a b,f a=f b->a=b)(h2:f 2=46)(g w:List Nat):Qz (S f w) (S f g)=uG zL g w:=by
 refine Qx (o1:=zL) (o2:=Fh) (F:=S f) (λx=>kJ x) ?_ ?_ ?_ ?_ ?_ ?_ ?_ g w
 ·intro x y;show(ah (0+(S f y).length<=(S f x).length)&&RD (S f x) (S f y) 0)=_;exact J (kJ ..) (J (kJ ..) (J (NS hf ..) (J (dF ..) rfl)))
 ·intro x y;show(ah (0+(S f y).length<=(S f x).length)&&RD (S f x) (S f y) ((S f x).length-(S f y).length))=_;exact J (kJ ..) (J (kJ ..) (J (NS hf ..) (J (dF ..) rfl)))
 ·intro x y i j;show kF (S f x) (S f y) i j=_;unfold kF;exact J (Ez hf ..) (J (kJ ..) rfl)
 ·intro x;show(!(dz (S f x) jt 0 (S f x).length 1).isEmpty)=_;exact J (Ck h2) (J (Ez hf ..) (J (kJ ..) rfl))
 ·intro x;show j9 (S f x) jt=_;unfold j9;refine J (Jc ..) (J (Ck h2) (J (Ez hf ..) (J (kJ ..) (J (kJ ..) ?_))));show(if(ah (x.length<3)||false)=af then[S f x]else if(rZ x [2,2,2] 0 x.length (x.length+1)).isEmpty=af then[S f x]else fy (S f x) (rZ x [2,2,2] 0 x.length (x.length+1)) 3)=ui (S f) (bif ah (x.length<3)||(rZ x [2,2,2] 0 x.length (x.length+1)).isEmpty then[x]else _);refine J (Ih ..) ?_
  cases ah (x.length<3)<;>cases(rZ x [2,2,2] 0 x.length (x.length+1)).isEmpty<;>rfl
 ·intro x;show(fy (S f x) (dz (S f x) jt 0 (S f x).length ((S f x).length+1)) jt.length).length=_;refine J (Ck h2) (J (Ez hf ..) (J (kJ ..) (J (kJ ..) ?_)));show(fy (S f x) _ 3).length=_;exact J (Ih ..) (J (au ..) rfl)
 ·intro x y;show(S f x==S f y)=(x==y);refine rF (BQ hf x y) ?_;rw[cj,aC,aC];exact⟨λh=>aD Str.cps h,λh=>aD oI h⟩
end
noncomputable def kG(x n k:Nat):List Nat:=(av k).map λi=>x/2^(n*i)%2^n
noncomputable def gK(n:Nat):List Nat->Nat
 |[]=>0
 |d::ds=>d+2^n*gK n ds
theorem vK(x n k:Nat):(kG x n k).length=k:=by rw[kG];exact J (au ..) (J aN rfl)
theorem En(x n a b:Nat):kG x n (a+b)=kG x n a++kG (x/2^(n*a)) n b:=by
 unfold kG;refine J List.range_add (J bN (J bI ?_))
 congr 1
 apply dx;intro i _;show x/2^(n*(a+i))%2^n=_;exact J (sQ ..) (rF (fU ..) (J (fz ..) rfl))
theorem M7(x n a:Nat):kG (x%2^(n*a)) n a=kG x n a:=by
 apply dx;intro i hi;rw[b9]at hi
 have h1:n*a=n*i+n+(n*a-n*i-n):=by
  have:n*(i+1)<=n*a:=fM _ hi;rw[fz,gU]at this;exact ais this
 apply eu;intro j;simp only[jl,rD]
 by_cases hj:j<n
 ·have:n*i+j<n*a:=aH (cQ hj (n*i)) (Tz h1.symm);have h2:j+n*i<n*a:=bM j _▸this;simp[hj,h2]
 ·simp[hj]
theorem QM(x n k:Nat):∀d∈kG x n k,d<2^n:=λd hd=>by
 refine bh (cG.mp hd) λi _ jE=>?_;subst jE;exact gE _ (c7 (by decide))
theorem va(n:Nat)(ys:List Nat):∀xs:List Nat,gK n (xs++ys)=gK n xs+2^(n*xs.length)*gK n ys
 |[]=>by
  exact J iy (J (iF ..) (J (oV ..) (J (iE ..) (J (oh ..) ((dF _).symm)))))
 |x::xs=>by
  refine J yb (J bA (J (fz ..) (J (gU ..) (J (fU ..) ?_))));show x+2^n*gK n (xs++ys)=x+2^n*gK n xs+_;exact J (va n ys xs) (J (fz ..) (J (dA ..) (rF (fF ..) (J (cA (2^n) (2^(n*xs.length))) rfl))))
theorem qy(n:Nat):∀xs:List Nat,(∀x∈xs,x<2^n)->gK n xs<2^(n*xs.length)
 |[],_=>by show 0<_;exact c7 (by decide)
 |x::xs,h=>by
  have h1:=h x bf;have h2:=qy n xs λy hy=>h y (ba _ hy);refine J bA (J (fz ..) (J (gU ..) (J (fU ..) (J (cA (2^(n*xs.length)) ..) ?_))));show x+2^n*gK n xs<_;have h3:2^n*(gK n xs+1)<=2^n*2^(n*xs.length):=fM _ h2;rw[fz,gU]at h3;exact aH (J (bM ..) (cQ h1 _)) h3
theorem G4(n:Nat):∀(k x:Nat),gK n (kG x n k)=x%2^(n*k)
 |0,x=>by exact J (iF ..) (J (oV ..) (J (Nat.mod_one ..) rfl))
 |k+1,x=>by
  refine J (bM k 1) (J (En ..) (J (va ..) (J (G4 n k ..) (J (vK ..) (J (gU ..) (J (show kG x n 1=[x%2^n] by show[x/2^(n*0)%2^n]=_;exact J (iF ..) (J (oV ..) (J (uP ..) rfl))) ?_))))));show x%2^n+2^n*0+_=_;exact J (iF ..) (J (iI ..) (J (fz ..) (J (gU ..) (J (fU ..) (J Nat.mod_mul rfl)))))
theorem KH(x s:Nat):x^^^(x/2^s*2^s)=x%2^s:=by
 apply eu;intro i;refine J (lD ..) (rF (RK ..) (J (Nat.testBit_shiftLeft ..) (J (jl ..) (J (rD ..) ?_))))
 by_cases h:s<=i
 ·refine J (aq (show i≥s from h)) (J (show i-s+s=i from eo h) (J (bi (show ¬i<s from dH.mpr h)) ?_));simp
 ·refine J (bi (show ¬i≥s from h)) (J (aq (show i<s from rI h)) ?_);simp
theorem yA{a:Nat}(b:Int)(h:a<2^40):sa (a:Int) b=af:=by
 unfold sa uX;exact J (bi (show ¬(ak (a:Int)>64) by have:=jB h;lia)) rfl
theorem NA{a b:Nat}(h:a<2^b):(ak (a:Int):Int)<=(b:Int):=da.mpr (jB h)
theorem aae(L R:Nat):((L:Int)+(R:Int)).fdiv (2^(1:Int).toNat)=(((L+R)/2:Nat):Int):=by
 exact J (show((L:Int)+(R:Int))=((L+R:Nat):Int) by exact KE L R) ((Ut (L+R) 1).trans (J (bS ..) rfl))
theorem FA(a b:Nat):(a:Int)*(b:Int)=((a*b:Nat):Int):=(tC a b).symm
theorem Mv{d:Nat}(h:d<=2^(j+1))(h1:0<d)(hb:¬d=1):∃p q,d=p+q∧0<p∧0<q∧p<=2^j∧q<=2^j∧∀L:Nat,((L:Int)+((L+d:Nat):Int)).fdiv (2^(1:Int).toNat)=((L+p:Nat):Int):=by
 rw[gm]at h;have h2:1<d:=N7 h1 λh=>hb h.symm;refine⟨d/2,d-d/2,(iJ (Ay d 2)).symm,Nat.div_pos h2 (by decide),jU (Nat.div_lt_self h1 (by decide)),Nat.div_le_of_le_mul (J (cA ..) h),abp h,λL=>?_⟩;exact J (aae ..) (rF (dA ..) (rF (qv ..) (J (bM ..) (J (jO _ _ (by decide)) (J (bM ..) rfl)))))
theorem ZK(L p:Nat):((L+p:Nat):Int)-(L:Int)=(p:Int):=by
 show(L:Int)+(p:Int)-(L:Int)=p;exact J (jx ..) (J (xa ..) rfl)
theorem Lj{L d:Nat}(hb:¬d=1):((L:Int)+1==((L+d:Nat):Int))=ag:=beq_eq_false_iff_ne.mpr λh=>hb (Nat.add_left_cancel (mh h)).symm
theorem Sn{p:Nat}(h:p<=k)(h3:k<=fB):p<2^40:=aT (aj h h3) (by decide)
theorem K1{p q:Nat}(hu:u<2^(n*q))(h:p+q<=k)(h7:n*k<=2^27):(ak (u:Int):Int)+((n*p:Nat):Int)<=2^27:=by
 refine kQ (Int.add_le_add_right (NA hu) _) (show((n*q+n*p:Nat):Int)<=((2^27:Nat):Int)from da.mpr ?_);exact rF (fz ..) (J (bM ..) (aj (fM _ h) h7))
theorem L5(n j x L:Nat)(xs:List Nat)(h2:L+1<=xs.length)(h3:xs.length<=fB)(h6:x<2^(n*1)):jV n (j+1) x L ((L+1:Nat):Int) (xs.map dO)=Z ((xs.take L++kG x n 1++xs.drop (L+1)).map dO):=by
 refine J Va (J (show((L:Int)+1==((L+1:Nat):Int))=af from beq_self_eq_true ((L:Int)+1)) (J (cond_true ..) (J (aq (aU L)) (J (bH ..) (J (aq (show L<(xs.map dO).length by exact J (au ..) h2)) (J (aq (show(xs.map dO).length<=fB by exact J (au ..) h3)) ?_))))));show Z ((xs.map dO).set L (dO x))=_;rw[gU]at h6;exact rF Yq (J (show kG x n 1=[x] by show[x/2^(n*0)%2^n]=_;exact J (iF ..) (J (oV ..) (J (uP ..) (J (kL h6) rfl)))) (J List.set_eq_take_append_cons_drop (J (bz (show L<xs.length from h2)) (J (jP ..) rfl))))
theorem ZL(n:Nat):∀(j x L d:Nat) (xs:List Nat),0<d->L+d<=xs.length->xs.length<=fB->d<=2^j->x<2^(n*d)->n*xs.length<=2^27->jV n (j+1) x L ((L+d:Nat):Int) (xs.map dO)=Z ((xs.take L++kG x n d++xs.drop (L+d)).map dO):=λj=>by
 induction j with
 |zero=>
  intro x L d xs h1 h2 h3 h4 h6 h7;obtain rfl:d=1:=tA h4 h1;exact L5 n 0 x L xs h2 h3 h6
 |succ j ih=>
  intro x L d xs h1 h2 h3 h4 h6 h7
  by_cases hb:d=1
  ·subst hb;exact L5 n (j+1) x L xs h2 h3 h6
  ·have n9:=Lj (L:=L) hb;refine AU (Mv h4 h1 hb) λp q jE g1 g2 k1 k2 hh=>?_;subst jE;have EY:p+q<=xs.length:=aj (dm _ _) h2
   have hu:x/2^(n*p)<2^(n*q):=by
    rw[eX (c7 (by decide))];exact rF (fU ..) (J (bM ..) (rF (fz ..) h6))
   refine J Va (J n9 (J (cond_false ..) (J (hh ..) ?_)));unfold HF;refine J (ZK ..) (J (yA _ (Sn (aj (bw p q) EY) h3)) (J (jw ..) (J (FA ..) (J (aq (aU _)) (J (bH ..) (J (show(x:Int).fdiv (2^(n*p))=((x/2^(n*p):Nat):Int)from(Ut _ _).trans (J (bS ..) rfl)) (J (aq (K1 hu EY h7)) ?_)))))));show((jV n (j+1) (bD x (((x/2^(n*p):Nat):Int)*2^(n*p))) L (L+p:Nat) (xs.map dO)).bind λys=>jV n (j+1) _ (L+p:Nat) (L+(p+q):Nat) ys)=_;refine J (show((x/2^(n*p):Nat):Int)*2^(n*p)=((x/2^(n*p)*2^(n*p):Nat):Int) by exact J (tC ..) (J (oK ..) rfl)) (J (abl ..) (J (KH ..) ?_));rw[←dA]at h2⊢;refine J (ih _ L p xs g1 (aj (bw _ q) h2) h3 k1 (gE _ (c7 (by decide))) h7) (J (bx ..) ?_)
   have rL:(xs.take L++kG (x%2^(n*p)) n p).length=L+p:=by
    exact J aP (J gW (J (vK ..) (J (dG (aj (bw L (p+q)) (rF (dA ..) h2))) rfl)))
   have o6:(xs.take L++kG (x%2^(n*p)) n p++xs.drop (L+p)).length=xs.length:=by
    exact J aP (J rL (J cJ (J (iJ (aj (bw _ q) h2)) rfl)))
   exact J (ih _ (L+p) q _ g2 (J o6 h2) (J o6 h3) k2 hu (J o6 h7)) (J (List.take_left' rL) (J List.drop_append (J rL (J (cS (J rL (bw _ _))) (J (oh ..) (J TF (J (eh ..) (J (M7 ..) (J (En ..) (J (jP (xs.take L) ..) rfl))))))))))
theorem M9(n:Nat)(xs:List Nat)(hl:xs.length<=fB)(j L:Nat)(h2:L+1<=xs.length):dV (xs.map dO) n (j+1) L ((L+1:Nat):Int)=Z ((gK n ((xs.drop L).take 1):Nat):Int):=by
 refine J WB (J (show((L:Int)+1==((L+1:Nat):Int))=af from beq_self_eq_true ((L:Int)+1)) (J (cond_true ..) ?_))
 have:xE (.list ((xs.map dO).map .int)) (.int L)=Z (.int (xs[L]'h2:Nat)):=by
  show(bif ah (((xs.map dO).map aI).length<=fB)then zO ((xs.map dO).map .int) (L:Int)else ae)=_;refine J (aq (J (au ..) (J (au ..) hl))) (J (cond_true ..) ?_);unfold zO;exact J (bz (aU L)) (J (bH ..) (J bI (J bY (J (cR h2) rfl))))
 refine J this (J (io h2) ?_);show Z ((xs[L]'h2:Nat):Int)=Z ((xs[L]'h2+2^n*0:Nat):Int);exact J (iF ..) (J (iI ..) rfl)
theorem aaO(n:Nat)(xs:List Nat)(hx:∀x∈xs,x<2^n)(hl:xs.length<=fB)(h7:n*xs.length<=2^27):∀(j L d:Nat),0<d->L+d<=xs.length->d<=2^j->dV (xs.map dO) n (j+1) L ((L+d:Nat):Int)=Z ((gK n ((xs.drop L).take d):Nat):Int):=λj=>by
 induction j with
 |zero=>
  intro L d h1 h2 h4;obtain rfl:d=1:=tA h4 h1;exact M9 n xs hl 0 L h2
 |succ j ih=>
  intro L d h1 h2 h4
  by_cases hb:d=1
  ·subst hb;exact M9 n xs hl (j+1) L h2
  ·have n9:=Lj (L:=L) hb;refine AU (Mv h4 h1 hb) λp q sE g1 g2 k1 k2 hh=>?_;subst sE;have EY:p+q<=xs.length:=aj (dm _ _) h2;refine J WB (J n9 (J (cond_false ..) (J (hh ..) ?_)));rw[←dA]at h2⊢;have h8:L+p<=xs.length:=aj (bw _ q) h2;refine J (ih (L+p) q g2 h2 k2) (J (bx ..) (J (ih L p g1 h8 k1) (J (bx ..) ?_)));unfold Na;have jM:((xs.drop (L+p)).take q).length=q:=by exact J gW (J cJ (dG (It h2)))
   have hu:gK n ((xs.drop (L+p)).take q)<2^(n*q):=by
    have:=qy n ((xs.drop (L+p)).take q) λx h=>hx x (List.mem_of_mem_drop (List.mem_of_mem_take h));rw[jM]at this;exact this
   refine J (ZK ..) (J (yA _ (Sn (aj (bw p q) EY) hl)) (J (jw ..) (J (FA ..) (J (aq (aU _)) (J (bH ..) (J (aq (K1 hu EY h7)) (J List.take_add (J TF (J (va ..) (J gW (J cJ (J (dG (It h8)) ?_))))))))))));show Z _=Z _;exact J (Int.natCast_add ..) (J (tC ..) (J (oK ..) (J (jw ..) (J (jx ..) rfl))))
theorem PY(x n:Nat)(h0:0<n)(h1:n<2^20)(h2:ak (x:Int)<2^23):Vs x n=Z ((kG x n ((ak (x:Int)+n-1)/n)).map dO):=by
 obtain⟨k,hk⟩:∃k,k=(ak (x:Int)+n-1)/n:=⟨_,rfl⟩;obtain⟨b,hb⟩:∃b,b=ak (x:Int):=⟨_,rfl⟩
 have hx:x<2^b:=by
  by_cases h:x=0
  ·subst h;exact c7 (by decide)
  ·have:b=x.log2+1:=by
    refine J hb ?_;unfold ak;exact J (bF (by simp;exact neN h)) (J (dR ..) rfl)
   exact J this rJ
 refine rF hk ?_;rw[←hb]at hk h2;have hkb:k<=b+n-1:=by exact J hk (Ay _ _)
 have P6:n*k<=b+n-1:=by exact J hk (Xv _ _)
 have Qd:b<=n*k:=by
  have:=Kt (b+n-1) h0;rw[←hk,fz,gU]at this;exact aPr this
 unfold Vs
 have hd:wW .FloorDiv (.int ((ak (x:Int):Int)+n-1)) (.int n)=Z (.int (k:Int)):=by
  exact rF hb (J (show(b:Int)+(n:Int)-1=((b+n-1:Nat):Int)from aCs (a:=b+n) (b:=1) (aj h0 (dm ..))) (J hk (FC _ _ (mA h0) (aH h1 (cb (by decide) (by decide))))))
 have SE:k<=16777216:=aj hkb (aj (lS ..) (aj (cL (cm h2) (cm h1)) (by decide)))
 have h63:(k:Int)<2^63:=by
  have:(2:Int)^63=9223372036854775808:=rfl
  lia
 have agW:-(2^63:Int)<=(k:Int):=by
  have:(2:Int)^63=9223372036854775808:=rfl;exact EN (2^63) k
 refine J hd ?_;show(bif ah ((k:Int).toNat<=fB)&&ah (-(2^63:Int)<=(k:Int))&&ah ((k:Int)<2^63)then _ else ae)=_;refine J (bH ..) ?_;rw[aq (show k<=fB from SE),aq agW];refine J (aq h63) ?_;show(bif(x:Int) !=0 then _ else _)=_
 cases hz:((x:Int) !=0)with
 |false=>
  have:x=0:=by simp at hz;exact hz
  subst this;refine J (cond_false ..) ?_
  congr 1
  refine J bI ?_;apply OO
  ·simp
  ·intro i _ _;simp
 |true=>
  have Vv:x≠0:=by simp at hz;exact hz
  have hk0:0<k:=by
   apply pK;intro h;rw[h,iF]at Qd;have:b=0:=by exact Nat.eq_zero_of_le_zero Qd
   rw[this]at hx;lia
  refine J (cond_true ..) (J eU ?_);have:=ZL n 39 x 0 k (cz k 0) hk0 (J (dF ..) (J eU (aV _))) (J eU SE) (aj SE (by decide)) (aH hx (cb (by decide) Qd)) (J eU (aj P6 (aj (lS ..) (aj (cL (cm h2) (cm h1)) (by decide)))));rw[List.map_replicate,dF]at this;refine iN this (J TA ?_);rw[oh,cS (gS eU),jC]
theorem QQ(n:Nat)(xs:List Nat)(hx:∀x∈xs,x<2^n)(hl:xs.length<=fB)(h7:n*xs.length<=2^27):QR (xs.map dO) n=Z ((gK n xs:Nat):Int):=by
 unfold QR
 by_cases h0:xs=[]
 ·subst h0;rfl
 ·have hp:0<xs.length:=List.length_pos_iff.mpr h0;have e:=aaO n xs hx hl h7 39 0 xs.length hp (gS (dF _)) (aj hl (by decide));rw[dF,j7,List.take_length,show(39+1:Nat)=40 from rfl,show((0:Nat):Int)=0 from rfl]at e;exact J mX (J (show xs.isEmpty=ag by rw[eK];exact h0) (J (cond_false ..) (J (au ..) e)))
section
noncomputable abbrev V1(x:Str)(d:D):Str×jS:=(x,.val d)
abbrev QT:bX:=dj 2
abbrev mo:bj:=c9 QT
abbrev ll(k:Nat):bX:=aY k (bP QT)
abbrev C2(g:List D->Option D):Cx:=Cf [("_div3n2n",g)] Ll Vt Lk Pz
abbrev C3(g:List D->Option D):Cx:=Cf [("_div2n1n",g)] Ll Vt Lk Pz
def WE(a b n:D):aE:=oq ["a","b","n"] [a,b,n]
variable(g:List D->Option D)
theorem dd1(a:Int)(b n:D):bB (C2 g) 6 [] mo (WE (int a) b n) (ll 0)=(c2 .LtE (b2 .Sub (Z (int (ak a))) (Z n)) (Z (I 4000))).bind λc=>eR (C2 g) 6 [] mo (WE (int a) b n) (bif c then fm (ll 0)else[]):=by kernel_rfl
theorem dd2(a b:Int)(n:D):bB (C2 g) 5 [] mo (WE (int a) (int b) n) (aY 0 (fm (ll 0)))=(bif b !=0&&!bT a b then Z (CR [.int (a.fdiv b),.int (a.fmod b)])else ae).map .ret:=by kernel_rfl
def d21(p a b n:D):aE:=V1 "pad" p::WE a b n
theorem dd3(a b n:D):bB (C2 g) 6 [] mo (WE a b n) (ll 1)=(b2 .BitAnd (Z n) (Z (I 1))).map λp=>.next (d21 p a b n):=by kernel_rfl
theorem dd4(p a b n:D):bB (C2 g) 6 [] mo (d21 p a b n) (ll 2)=(tO (Z p)).bind λc=>eR (C2 g) 6 [] mo (d21 p a b n) (bif c then fm (ll 2)else[]):=by kernel_rfl
def WD(k:Nat)(p a b n:D):aE:=match k with
 |0=>d21 p a b n
 |1=>V1 "a" a::V1 "pad" p::V1 "b" b::[V1 "n" n]
 |2=>V1 "b" b::V1 "a" a::V1 "pad" p::[V1 "n" n]
 |_=>V1 "n" n::V1 "b" b::V1 "a" a::[V1 "pad" p]
theorem dd5(p a b n:D):bB (C2 g) 5 [] mo (WD 0 p a b n) (aY 0 (fm (ll 2)))=(qK .LShift a (I 1)).map λa=>.next (WD 1 p a b n):=by kernel_rfl
theorem dd6(p a b n:D):bB (C2 g) 5 [] mo (WD 1 p a b n) (aY 1 (fm (ll 2)))=(qK .LShift b (I 1)).map λb=>.next (WD 2 p a b n):=by kernel_rfl
theorem dd7(p a b n:D):bB (C2 g) 5 [] mo (WD 2 p a b n) (aY 2 (fm (ll 2)))=(qK .Add n (I 1)).map λn=>.next (WD 3 p a b n):=by kernel_rfl
def d2g(k:Bool)(p a b n:D):aE:=WD (bif k then 3 else 0) p a b n
def d2h(k:Bool)(p a b n h:D):aE:=V1 "half_n" h::d2g k p a b n
theorem dd8(k:Bool)(p a b n:D):bB (C2 g) 6 [] mo (d2g k p a b n) (ll 3)=(b2 .RShift (Z n) (Z (I 1))).map λh=>.next (d2h k p a b n h):=by induction k using ax<;>kernel_rfl
def d2i(k:Bool)(p a b n h m:D):aE:=V1 "mask" m::d2h k p a b n h
theorem dd9(k:Bool)(p a b n h:D):bB (C2 g) 6 [] mo (d2h k p a b n h) (ll 4)=(b2 .Sub (b2 .LShift (Z (I 1)) (Z h)) (Z (I 1))).map λm=>.next (d2i k p a b n h m):=by induction k using ax<;>kernel_rfl
def X8(k:Bool)(p a b n h m x y:D):aE:=V1 "b1" x::V1 "b2" y::d2i k p a b n h m
theorem ahZ(k:Bool)(p a b n h m:D):bB (C2 g) 6 [] mo (d2i k p a b n h m) (ll 5)=(lI [b2 .RShift (Z b) (Z h),b2 .BitAnd (Z b) (Z m)]).bind (gN mo (ll 5) (d2i k p a b n h m)):=by induction k using ax<;>kernel_rfl
theorem ahY(k:Bool)(p a b n h m x y:D):gN mo (ll 5) (d2i k p a b n h m) (.tuple [x,y])=Z (.next (X8 k p a b n h m x y)):=by induction k using ax<;>kernel_rfl
def d2k(k:Bool)(p a b n h m x y q r:D):aE:=V1 "r" r::V1 "q1" q::X8 k p a b n h m x y
def d3c(a a3 b x y h:Option D):Option D:=fS (C2 g) "_div3n2n" (b8 [a,a3,b,x,y,h]) (b8 [a,a3,b,x,y,h])
theorem ahX(k:Bool)(p a b n h m x y:D):bB (C2 g) 6 [] mo (X8 k p a b n h m x y) (ll 6)=(d3c g (b2 .RShift (Z a) (Z n)) (b2 .BitAnd (b2 .RShift (Z a) (Z h)) (Z m)) (Z b) (Z x) (Z y) (Z h)).bind (gN mo (ll 6) (X8 k p a b n h m x y)):=by induction k using ax<;>kernel_rfl
theorem ahW(k:Bool)(p a b n h m x y q r:D):gN mo (ll 6) (X8 k p a b n h m x y) (.tuple [q,r])=Z (.next (d2k k p a b n h m x y q r)):=by induction k using ax<;>kernel_rfl
def X7(k:Bool)(p a b n h m x y q r q2:D):aE:=V1 "r" r::V1 "q2" q2::V1 "q1" q::X8 k p a b n h m x y
theorem ahV(k:Bool)(p a b n h m x y q r:D):bB (C2 g) 6 [] mo (d2k k p a b n h m x y q r) (ll 7)=(d3c g (Z r) (b2 .BitAnd (Z a) (Z m)) (Z b) (Z x) (Z y) (Z h)).bind (gN mo (ll 7) (d2k k p a b n h m x y q r)):=by induction k using ax<;>kernel_rfl
theorem ahU(k:Bool)(p a b n h m x y q r q2 r2:D):gN mo (ll 7) (d2k k p a b n h m x y q r) (.tuple [q2,r2])=Z (.next (X7 k p a b n h m x y q r2 q2)):=by induction k using ax<;>kernel_rfl
theorem ahT(k:Bool)(p a b n h m x y q r q2:D):bB (C2 g) 6 [] mo (X7 k p a b n h m x y q r q2) (ll 8)=(tO (Z p)).bind λc=>eR (C2 g) 6 [] mo (X7 k p a b n h m x y q r q2) (bif c then fm (ll 8)else[]):=by induction k using ax<;>kernel_rfl
theorem ahS(k:Bool)(p a b n h m x y q r q2:D):bB (C2 g) 5 [] mo (X7 k p a b n h m x y q r q2) (aY 0 (fm (ll 8)))=(qK .RShift r (I 1)).map λr=>.next (X7 k p a b n h m x y q r q2):=by induction k using ax<;>kernel_rfl
theorem ahR(k:Bool)(p a b n h m x y q r q2:D):bB (C2 g) 6 [] mo (X7 k p a b n h m x y q r q2) (ll 9)=(lI [b2 .BitOr (b2 .LShift (Z q) (Z h)) (Z q2),Z r]).map .ret:=by induction k using ax<;>kernel_rfl
abbrev QP:bX:=dj 3
abbrev pC:bj:=c9 QP
abbrev uH(k:Nat):bX:=aY k (bP QP)
def Nb(a a3 b x y n:D):aE:=oq ["a12","a3","b","b1","b2","n"] [a,a3,b,x,y,n]
theorem de1(a a3 b x y n:D):bB (C3 g) 6 [] pC (Nb a a3 b x y n) (uH 0)=(c2 .Eq (b2 .RShift (Z a) (Z n)) (Z x)).bind λc=>eR (C3 g) 6 [] pC (Nb a a3 b x y n) (bif c then fm (uH 0)else pz (uH 0)):=by kernel_rfl
def EW(a a3 b x y n q r:D):aE:=V1 "r" r::V1 "q" q::Nb a a3 b x y n
def aaR(a a3 b x y n q r:D):aE:=V1 "q" q::V1 "r" r::Nb a a3 b x y n
theorem de2(a a3 b x y n:D):bB (C3 g) 5 [] pC (Nb a a3 b x y n) (aY 0 (fm (uH 0)))=(lI [b2 .Sub (b2 .LShift (Z (I 1)) (Z n)) (Z (I 1)),b2 .Add (b2 .Sub (Z a) (b2 .LShift (Z x) (Z n))) (Z x)]).bind (gN pC (aY 0 (fm (uH 0))) (Nb a a3 b x y n)):=by kernel_rfl
theorem de3(a a3 b x y n q r:D):gN pC (aY 0 (fm (uH 0))) (Nb a a3 b x y n) (.tuple [q,r])=Z (.next (aaR a a3 b x y n q r)):=by kernel_rfl
theorem de4(a a3 b x y n:D):bB (C3 g) 5 [] pC (Nb a a3 b x y n) (aY 0 (pz (uH 0)))=(fS (C3 g) "_div2n1n" (b8 [Z a,Z x,Z n]) (b8 [Z a,Z x,Z n])).bind (gN pC (aY 0 (pz (uH 0))) (Nb a a3 b x y n)):=by kernel_rfl
theorem de5(a a3 b x y n q r:D):gN pC (aY 0 (pz (uH 0))) (Nb a a3 b x y n) (.tuple [q,r])=Z (.next (EW a a3 b x y n q r)):=by kernel_rfl
theorem de6(a a3 b x y n q r:D):bB (C3 g) 6 [] pC (EW a a3 b x y n q r) (uH 1)=(b2 .Sub (b2 .BitOr (b2 .LShift (Z r) (Z n)) (Z a3)) (b2 .Mult (Z q) (Z y))).map λr=>.next (EW a a3 b x y n q r):=by kernel_rfl
theorem ahQ(a a3 b x y n q r:D):bB (C3 g) 6 [] pC (aaR a a3 b x y n q r) (uH 1)=(b2 .Sub (b2 .BitOr (b2 .LShift (Z r) (Z n)) (Z a3)) (b2 .Mult (Z q) (Z y))).map λr=>.next (EW a a3 b x y n q r):=by kernel_rfl
abbrev RP(e:bX):aG:=Hg e
abbrev YB(e:bX):List bX:=bP e
def RQ(k:Nat)(st:bX)(ow:List Str)(sc:bj)(C:Cx)(ρ:aE):Option gO:=(eR C k ow sc ρ (YB st)).map (fb ρ)
theorem de7(a a3 b x y n q r:D):bB (C3 g) 6 [] pC (EW a a3 b x y n q r) (uH 2)=Og (λρ=>B6 (ev (C3 g) 14) pC ρ 9 (RP (uH 2))) (RQ 6 (uH 2) [] pC (C3 g)) 70 (EW a a3 b x y n q r):=by kernel_rfl
theorem de8(a a3 b x y n q:D)(r:Int):B6 (ev (C3 g) 14) pC (EW a a3 b x y n q (int r)) 9 (RP (uH 2))=Z (ah (r<0)):=by kernel_rfl
theorem de9(a a3 x y n:D)(b q r:Int):RQ 6 (uH 2) [] pC (C3 g) (EW a a3 (int b) x y n (int q) (int r))=Z (.next (EW a a3 (int b) x y n (int (q-1)) (int (r+b)))):=by kernel_rfl
theorem aaN(a a3 b x y n q r:D):bB (C3 g) 6 [] pC (EW a a3 b x y n q r) (uH 3)=Z (.ret (.tuple [q,r])):=by kernel_rfl
end
section
theorem uw(a b k:Nat)(h:a<2^k)(hb:k+b<=2^27):b2 .LShift (Z (I a)) (Z (I b))=Z (I (a*2^b)):=by
 have D1:=jB h;show(bif ah (0<=(b:Int))&&ah ((ak (a:Int):Int)+(b:Int)<=2^27)then Z (aI ((a:Int)*2^(b:Int).toNat))else ae)=_;refine J (aq (aU b)) (J (aq (show(ak (a:Int):Int)+(b:Int)<=2^27 by lia)) (J (bH ..) ?_));show Z (aI ((a:Int)*2^b))=Z (aI ((a*2^b:Nat):Int))
 push_cast;rfl
theorem Rh(o:gD)(a b:D):b2 o (Z a) (Z b)=wW o a b:=rfl
theorem Vk(a b:D):qK .LShift a b=wW .LShift a b:=by induction a using ao<;>first|rfl|(induction b using ao<;>rfl)
theorem HH(a k:Nat)(h:a<2^k)(hb:k<2^26):qK .LShift (I a) (I 1)=Z (I (2*a)):=by
 exact J (Vk ..) (rF (Rh ..) (J (uw a 1 k h (by exact aj (by assumption) (by decide))) (J (acW ..) (J (cA ..) rfl))))
theorem aia:((bitsLine:Nat):Int)=2^27:=by kernel_rfl
theorem Rc{k:Int}(h:k<=(bitsLine:Int)):lF k=ag:=bi (ky.mpr h)
theorem NF{k:Int}(h:k<=2^27):lF k=ag:=Rc (kQ h (Int.le_of_eq aia.symm))
theorem UT(a b k l:Nat)(ha:a<2^k)(hb:b<2^l)(h:k+l<=2^27):b2 .Mult (Z (I a)) (Z (I b))=Z (I (a*b)):=by
 have h1:=jB ha;have h2:=jB hb;show(bif sa (a:Int) (b:Int)then Z (aI ((a:Int)*(b:Int)))else ae)=_;have ht:lF ((ak (a:Int):Int)+(ak (b:Int):Int))=ag:=NF (by lia)
 have:sa (a:Int) (b:Int)=af:=by
  unfold sa;exact J ht (J (TL ..) rfl)
 refine J this ?_;show Z (aI ((a:Int)*b))=Z (aI ((a*b:Nat):Int))
 push_cast;rfl
theorem zt(a h:Nat):a&&&(2^h-1)=a%2^h:=nu a h
theorem Ld(a b h:Nat)(hb:b<2^h):a*2^h|||b=a*2^h+b:=by
 exact J (cA ..) (J (Nat.two_pow_add_eq_or_of_lt hb ..) rfl)
variable(g:List D->Option D)
theorem H7(a b n:Nat)(h0:0<b)(hb:b<2^9000):bB (C2 g) 5 [] mo (WE (I a) (I b) (I n)) (aY 0 (fm (ll 0)))=Z (.ret (.tuple [I (a/b),I (a%b)])):=by
 refine(dd2 g a b (I n)).trans (J (qL _ _ (J (dR ..) hb)) (J (show((b:Int) !=0)=af by simp;exact fI (by assumption)) ?_));show Z (gO.ret (CR [.int ((a:Int).fdiv b),.int ((a:Int).fmod b)]))=_;exact J (dI _ (aU b)) (J (fL _ (aU b)) (rF (kP ..) (rF (kO ..) rfl)))
theorem H5(a n:Nat):(c2 .LtE (b2 .Sub (Z (int (ak (a:Int)))) (Z (I n))) (Z (I 4000)))=Z (ah ((ak (a:Int):Int)-n<=4000)):=rfl
theorem aaP(a a3 x y n:D)(A b:Nat)(hb:0<b)(k:Nat):∀(j:Nat) (q r:Int),(A:Int)=q*b+r->-((j*b:Nat):Int)<=r->r<b->Og (λρ=>B6 (ev (C3 g) 14) pC ρ 9 (RP (uH 2))) (RQ 6 (uH 2) [] pC (C3 g)) (k+j+1) (EW a a3 (int b) x y n (int q) (int r))=Z (.next (EW a a3 (int b) x y n (I (A/b)) (I (A%b)))):=λj=>by
 have fin:∀(q r:Int),(A:Int)=q*b+r->0<=r->r<b->EW a a3 (int b) x y n (int q) (int r)=EW a a3 (int b) x y n (I (A/b)) (I (A%b)):=λq r e h1 h2=>by
  have:=(iK (a:=(A:Int)) (b:=(b:Int)) (r:=r) (q:=q) (by exact oL.mpr (by assumption))).mpr ⟨by refine J e (J (jw ..) ?_);lia,h1,h2⟩;exact rF this.1 (rF this.2 (rF (kP ..) (rF (kO ..) rfl)))
 induction j with
 |zero=>
  intro q r e h1 h2;refine J AE (J (de8 ..) (J (bi (by lia)) ?_));show Z _=_;exact J (fin q r e (by lia) h2) rfl
 |succ j ih=>
  intro q r e h1 h2;refine J AE (J (de8 ..) ?_)
  by_cases hr:r<0
  ·refine J (aq hr) ?_;simp only[de9];refine ih (q-1) (r+b) ?_ ?_ (by lia)
   ·refine J (Int.sub_mul ..) (J (acZ ..) ?_);lia
   ·rw[kK]at h1;lia
  ·refine J (bi hr) ?_;show Z _=_;exact J (fin q r e (by lia) h2) rfl
structure D3c(a a3 b x y n:Nat):Prop where
 n1:0<n
 n2:n<=4000
 e:b=x*2^n+y
 hy:y<2^n
 hx:x<2^n
 XS:2^n<=2*x
 ha:a<b
 h3:a3<2^n
theorem aaQ{a a3 b x y:Nat}(c:D3c a a3 b x y n)(hg:a<x*2^n->g [I a,I x,I n]=Z (.tuple [I (a/x),I (a%x)])):
 eR (C3 g) 7 [] pC (Nb (I a) (I a3) (I b) (I x) (I y) (I n)) (bP QP)=Z (.ret (.tuple [I ((a*2^n+a3)/b),I ((a*2^n+a3)%b)])):=by
 have hp:0<2^n:=c7 (by decide)
 have Vv:0<x:=pK λh=>by
  have:=c.XS;rw[h]at this;exact eA _ (aH hp this)
 have FT:0<b:=aT (dW _) c.ha;have Z2:n<=2^26:=aj c.n2 (by decide);have hnn:n+n<=2^27:=cL Z2 Z2
 have An:∀(q r:Nat),a=q*x+r->q<2^n->r<2^(n+1)->(r<x∨q+1=2^n)->
  (b2 .Sub (b2 .BitOr (b2 .LShift (Z (I r)) (Z (I n))) (Z (I a3))) (b2 .Mult (Z (I q)) (Z (I y))))=Z (int (((r*2^n+a3:Nat):Int)-((q*y:Nat):Int)))∧
  Og (λρ=>B6 (ev (C3 g) 14) pC ρ 9 (RP (uH 2))) (RQ 6 (uH 2) [] pC (C3 g)) 70 (EW (I a) (I a3) (int b) (I x) (I y) (I n) (int (q:Nat)) (int (((r*2^n+a3:Nat):Int)-((q*y:Nat):Int))))=Z (.next (EW (I a) (I a3) (int b) (I x) (I y) (I n) (I ((a*2^n+a3)/b)) (I ((a*2^n+a3)%b)))):=λq r e hq hr hd=>by
  refine⟨?_,?_⟩
  ·exact J (uw r n (n+1) hr (cL (fH (aT c.n2 (by decide))) Z2)) (J (US ..) (J (Ld _ _ _ c.h3) (J (UT q y n n hq c.hy hnn) rfl)))
  ·have hA:a*2^n+a3<b*2^n:=aH (cQ c.h3 _) (rF (kK ..) (er _ c.ha))
   have hE:a*2^n+a3+q*y=q*b+(r*2^n+a3):=by
    exact J c.e (J e (J (fz ..) (J (lW ..) (J (fF ..) (J (dA (q*_) ..) (J (lT ..) rfl))))))
   refine aaP g (I a) (I a3) (I x) (I y) (I n) (a*2^n+a3) b FT 67 2 q _ ?_ ?_ ?_
   ·exact J (FA ..) (rF (Int.add_sub_assoc ..) ((Int.sub_eq_iff_eq_add.mpr (aD dO hE).symm).symm))
   ·have h1:q*y<=2^n*2^n:=Xu (cm hq) (cm c.hy);have h2:2^n*2^n<=2*x*2^n:=er _ c.XS;have h3:2*x*2^n<=2*b:=by exact J c.e (J (fz ..) (J (fF ..) (bw _ _)))
    exact kQ (Xy (da.mpr (aj h1 (aj h2 h3)))) (Int.le_add_of_nonneg_left (aU _))
   ·refine Int.sub_right_lt_of_lt_add (show((r*2^n+a3:Nat):Int)<((b+q*y:Nat):Int)from d9.mpr ?_);refine jR hd (λh=>?_) λh=>?_
    ·exact aH (cQ c.h3 _) (rF (kK ..) (J c.e (J (dA ..) (aj (er _ h) (bw _ _)))))
    ·exact qp (n:=q*b) (rF hE (rF (dA ..) (rF (kK ..) (J (show q.succ=2^n from h) (J (cA (2^n) ..) (J5 hA _))))))
 have jJ:a<2^n*2^n:=by
  refine aH (iG c.ha ?_) (er _ c.hx);exact J c.e (J (kK ..) (cQ c.hy _))
 refine J (show bP QP=[uH 0,uH 1,uH 2,uH 3] by kernel_rfl) ?_;have e1:=de1 g (I a) (I a3) (I b) (I x) (I y) (I n);rw[i7,bS,FD,bx]at e1
 by_cases hc:a/2^n=x
 ·rw[show(a/2^n==x)=af by rw[aC];exact hc,show(bif af then fm (uH 0)else pz (uH 0))=[aY 0 (fm (uH 0))] by kernel_rfl]at e1;have hm:=jF a (2^n);rw[hc]at hm;have hmm:=gE a hp;rw[cA]at hm;have SG:x*2^n<=a:=aj (bw _ _) (gS hm);have Vz:a-x*2^n=a%2^n:=uO (J (bM ..) hm.symm);have hk:2^n-1+1=2^n:=eo hp;have e2:=de2 g (I a) (I a3) (I b) (I x) (I y) (I n);rw[uw 1 n 1 (by decide) (aj (fN Z2 1) (by decide)),uw x n n c.hx hnn,iE,t8 _ _ hp,t8 _ _ SG,j1,vc,bx,de3]at e2
  refine c8 (An (2^n-1) (a-x*2^n+x) (by
   exact J Vz (J (bM (a%_) ..) (rF (dA ..) (rF (kK ..) (J (Nat.succ_eq_add_one ..) (J hk (J (cA ..) hm.symm))))))) (Nat.pred_lt (fI hp)) (J Vz (J (gm ..) (J (qv ..) (Cy hmm c.hx)))) (.inr hk)) λt1 t2=>?_
  have e6:=ahQ g (I a) (I a3) (I b) (I x) (I y) (I n) (I (2^n-1)) (I (a-x*2^n+x));rw[t1]at e6;exact aO (e1.trans (aO e2 cY)) (aO e6 (aO ((de7 g ..).trans t2) (cH (aaN g ..))))
 ·rw[show(a/2^n==x)=ag by rw[beq_eq_false_iff_ne];exact hc,show(bif ag then fm (uH 0)else pz (uH 0))=[aY 0 (pz (uH 0))] by kernel_rfl]at e1
  have hax:a<x*2^n:=by
   apply rI;intro h;apply hc;refine Nat.div_eq_of_lt_le h (iG c.ha ?_);exact J c.e (J (kK ..) (cQ c.hy _))
  have hq:a/x<2^n:=by rw[eX Vv];exact J (cA ..) hax
  have hr:a%x<x:=gE _ Vv;have e4:=de4 g (I a) (I a3) (I b) (I x) (I y) (I n);rw[show fS (C3 g) "_div2n1n" (b8 [Z (I a),Z (I x),Z (I n)]) (b8 [Z (I a),Z (I x),Z (I n)])=Z (.tuple [I (a/x),I (a%x)])from iM (ds:=[I a,I x,I n]) rfl (hg hax),bx,de5]at e4;refine c8 (An (a/x) (a%x) (J (cA ..) ((jF a x).symm)) hq (J (gm ..) (J (qv ..) (aH (iG hr c.hx) (bw _ _)))) (.inl hr)) λt1 t2=>?_;have e6:=de6 g (I a) (I a3) (I b) (I x) (I y) (I n) (I (a/x)) (I (a%x));rw[t1]at e6;exact aO (e1.trans (aO e4 cY)) (aO e6 (aO ((de7 g ..).trans t2) (cH (aaN g ..))))
structure D2c(a b n:Nat):Prop where
 hb:b<2^n
 Jr:2^n<=2*b
 ha:a<b*2^n
 n2:n<=7990
theorem QS{a b h:Nat}(hb:b<2^(2*h))(Jr:2^(2*h)<=2*b)(ha:a<b*2^(2*h))(h1:0<h)(h2:h<=4000):
 D3c (a/2^(2*h)) (a/2^h%2^h) b (b/2^h) (b%2^h) h∧a/2^(2*h)*2^h+a/2^h%2^h=a/2^h∧
 D3c (a/2^h%b) (a%2^h) b (b/2^h) (b%2^h) h∧a/2^h/b*2^h+(a/2^h%b*2^h+a%2^h)/b=a/b∧(a/2^h%b*2^h+a%2^h)%b=a%b∧(a/2^h%b*2^h+a%2^h)/b<2^h∧a/2^h/b<2^h:=by
 have hp:0<2^h:=c7 (by decide);have hpp:2^(2*h)=2^h*2^h:=by exact J (uL ..) (J (fU ..) rfl)
 rw[hpp]at hb Jr ha⊢
 have FT:0<b:=by
  exact rG (aH (acX hp hp) Jr)
 have VS:b=b/2^h*2^h+b%2^h:=by exact J (cA ..) ((jF b (2^h)).symm)
 have hx:b/2^h<2^h:=(eX hp).mpr hb
 have XS:2^h<=2*(b/2^h):=by
  obtain⟨k,rfl⟩:∃k,h=k+1:=⟨h-1,by exact(eo (by assumption)).symm⟩;have e2:(2:Nat)^(k+1)=2*2^k:=by refine J (gm ..) ?_;lia
  have:2^k<=b/2^(k+1):=(Iu hp).mpr (by
   have h3:2^(k+1)*2^(k+1)=2*(2^k*2^(k+1)):=by
    rw[←fF,←e2]
   lia)
  lia
 have hae:a=a/2^h*2^h+a%2^h:=by exact J (cA ..) ((jF a (2^h)).symm)
 have hm:=gE a hp;have hA1:a/2^h<b*2^h:=(eX hp).mpr (J (fF ..) ha);have hr:a/2^h%b<b:=gE _ FT
 have hA2:a/2^h%b*2^h+a%2^h<b*2^h:=by
  have h3:(a/2^h%b+1)*2^h<=b*2^h:=er _ hr;rw[lW,iE]at h3;exact aHb hm h3
 have key:a=(a/2^h/b*2^h)*b+(a/2^h%b*2^h+a%2^h):=by
  have h3:a/2^h=a/2^h/b*b+a/2^h%b:=by exact J (cA ..) ((jF _ b).symm)
  have h4:a/2^h*2^h=(a/2^h/b*b+a/2^h%b)*2^h:=aD (·*2^h) h3;rw[lW,fF,cA b,←fF]at h4;exact hae.trans ((aD (·+_) h4).trans (dA ..))
 refine⟨⟨h1,h2,VS,gE _ hp,hx,XS,?_,gE _ hp⟩,?_,⟨h1,h2,VS,gE _ hp,hx,XS,hr,hm⟩,?_,?_,?_,?_⟩
 ·exact(eX (acX hp hp)).mpr ha
 ·exact rF (sQ ..) (J (cA ..) (jF _ _))
 ·have:a/b=(a/2^h/b*2^h*b+(a/2^h%b*2^h+a%2^h))/b:=aD (·/b) key;exact J this (J (bM (_*b) ..) (J (jO _ _ FT) (J (bM ..) rfl)))
 ·have:a%b=(a/2^h/b*2^h*b+(a/2^h%b*2^h+a%2^h))%b:=aD (·%b) key;exact J this (J (bM (_*b) ..) (J (ko ..) rfl))
 ·rw[eX FT];exact J (cA (2^h) ..) hA2
 ·rw[eX FT];exact J (cA (2^h) ..) hA1
end
section
variable(g:List D->Option D)
abbrev G3:Prop:=∀a a3 b x y n,D3c a a3 b x y n->g [I a,I a3,I b,I x,I y,I n]=Z (.tuple [I ((a*2^n+a3)/b),I ((a*2^n+a3)%b)])
theorem H6(hg:G3 g){a b h p:Nat}(k:Bool)(hb:b<2^(2*h))(Jr:2^(2*h)<=2*b)(ha:a<b*2^(2*h))(h1:0<h)(h2:h<=4000):
 eR (C2 g) 7 [] mo (d2g k (I p) (I a) (I b) (I (2*h))) [ll 3,ll 4,ll 5,ll 6,ll 7,ll 8,ll 9]=Z (.ret (.tuple [I (a/b),I (bif p !=0 then a%b/2 else a%b)])):=by
 refine dD (QS hb Jr ha h1 h2) λc1 m1 c2' m2 z1=>eP z1 λm3 m4 m5=>?_;have hp:0<2^h:=c7 (by decide);have e8:=dd8 g k (I p) (I a) (I b) (I (2*h));rw[i7,show(2*h)>>>1=h by exact(bS ..).trans (E2 h (by decide))]at e8;refine aO e8 ?_;have e9:=dd9 g k (I p) (I a) (I b) (I (2*h)) (I h);rw[uw 1 h 1 (by decide) (by lia),iE,t8 _ _ hp]at e9;refine aO e9 ?_;have El:=ahZ g k (I p) (I a) (I b) (I (2*h)) (I h) (I (2^h-1));rw[i7,iQ,zt,bS,vc,bx,ahY]at El;refine aO El ?_;have QJ:=ahX g k (I p) (I a) (I b) (I (2*h)) (I h) (I (2^h-1)) (I (b/2^h)) (I (b%2^h));rw[i7,i7,iQ,zt,bS,bS]at QJ;rw[show d3c g (Z (I (a/2^(2*h)))) (Z (I (a/2^h%2^h))) (Z (I b)) (Z (I (b/2^h))) (Z (I (b%2^h))) (Z (I h))=Z (.tuple [I (a/2^h/b),I (a/2^h%b)])from iM (ds:=[I (a/2^(2*h)),I (a/2^h%2^h),I b,I (b/2^h),I (b%2^h),I h]) rfl ((hg _ _ _ _ _ _ c1).trans (J m1 rfl)),bx,ahW]at QJ;refine aO QJ ?_;have QI:=ahV g k (I p) (I a) (I b) (I (2*h)) (I h) (I (2^h-1)) (I (b/2^h)) (I (b%2^h)) (I (a/2^h/b)) (I (a/2^h%b));rw[iQ,zt]at QI;rw[show d3c g (Z (I (a/2^h%b))) (Z (I (a%2^h))) (Z (I b)) (Z (I (b/2^h))) (Z (I (b%2^h))) (Z (I h))=_ from iM (ds:=[I (a/2^h%b),I (a%2^h),I b,I (b/2^h),I (b%2^h),I h]) rfl (hg _ _ _ _ _ _ c2'),bx,ahU]at QI;refine aO QI (J m3 ?_);generalize hq2:(a/2^h%b*2^h+a%2^h)/b=q2 at*;have SW:=ahT g k (I p) (I a) (I b) (I (2*h)) (I h) (I (2^h-1)) (I (b/2^h)) (I (b%2^h)) (I (a/2^h/b)) (I (a%b)) (I q2);rw[mH,bx]at SW;have QH:=λr=>ahR g k (I p) (I a) (I b) (I (2*h)) (I h) (I (2^h-1)) (I (b/2^h)) (I (b%2^h)) (I (a/2^h/b)) r (I q2);rw[uw _ h h m5 (by exact aj (cL (by assumption) (by assumption)) (by decide)),US,Ld _ _ _ m4,m2]at QH
 cases hz:p !=0 with
 |false=>
  rw[hz]at SW;exact aO (SW.trans cY) (cH (QH _))
 |true=>
  rw[hz,show(bif af then fm (ll 8)else[])=[aY 0 (fm (ll 8))] by kernel_rfl]at SW;have e17:=ahS g k (I p) (I a) (I b) (I (2*h)) (I h) (I (2^h-1)) (I (b/2^h)) (I (b%2^h)) (I (a/2^h/b)) (I (a%b)) (I q2);have ahH:qK .RShift (I (a%b)) (I 1)=Z (I (a%b/2)):=(i7 (a%b) 1).trans (J (bS ..) rfl);rw[ahH]at e17;exact aO (SW.trans (aO e17 cY)) (cH (QH _))
theorem aaU(hg:G3 g){a b:Nat}(c:D2c a b n):eR (C2 g) 7 [] mo (WE (I a) (I b) (I n)) (bP QT)=Z (.ret (.tuple [I (a/b),I (a%b)])):=by
 have FT:0<b:=by
  have h1:0<2^n:=c7 (by decide);exact rG (aH h1 c.Jr)
 have XT:0<n:=by
  apply pK;intro h;have:=c.hb;have:=c.Jr;subst h;lia
 have jM:bP QT=[ll 0,ll 1,ll 2,ll 3,ll 4,ll 5,ll 6,ll 7,ll 8,ll 9]:=by kernel_rfl
 refine J jM ?_;have e1:=dd1 g a (I b) (I n);rw[H5,bx]at e1
 cases hc:ah ((ak (a:Int):Int)-n<=4000)with
 |true=>
  rw[hc,show(bif af then fm (ll 0)else[])=[aY 0 (fm (ll 0))] by kernel_rfl]at e1;exact cH (e1.trans (cH (H7 g a b n FT (aH c.hb (cb (by decide) (by have:=c.n2;exact aj (by assumption) (by decide)))))))
 |false=>
  rw[hc]at e1;refine aO (e1.trans cY) ?_;have e3:=dd3 g (I a) (I b) (I n);rw[iQ,ib]at e3;refine aO e3 ?_;have e4:=dd4 g (I (n%2)) (I a) (I b) (I n);rw[mH,bx]at e4;refine jR (pL n) (λhm=>?_) λhm=>?_
  ·rw[hm]at e4⊢;obtain⟨h,rfl⟩:∃h,n=2*h:=⟨n/2,by lia⟩;exact aO (e4.trans cY) (H6 g hg (p:=0) ag c.hb c.Jr c.ha (rG XT) (by have:=c.n2;lia))
  ·rw[hm,show(bif(1:Nat) !=0 then fm (ll 2)else[])=[aY 0 (fm (ll 2)),aY 1 (fm (ll 2)),aY 2 (fm (ll 2))] by kernel_rfl]at e4;refine J hm ?_;obtain⟨h,hh⟩:∃h,n+1=2*h:=⟨(n+1)/2,by lia⟩;have Z2:=c.n2
   have ha':a<2^(2*n):=by
    have h1:b*2^n<=2^n*2^n:=er _ (cm c.hb);rw[←fU,←uL]at h1;exact aH c.ha h1
   have e5:=dd5 g (I 1) (I a) (I b) (I n);rw[HH a (2*n) ha' (by lia)]at e5;have e6:=dd6 g (I 1) (I (2*a)) (I b) (I n);rw[HH b n c.hb (by exact aT (by assumption) (by decide))]at e6;have e7:=dd7 g (I 1) (I (2*a)) (I (2*b)) (I n);rw[show qK .Add (I n) (I 1)=Z (I (2*h)) by exact rF hh rfl]at e7;refine aO (e4.trans (aO e5 (aO e6 (aO e7 cY)))) ?_;have hpw:2^(2*h)=2*2^n:=by exact rF hh (J (gm ..) (cA (2^n) 2))
   have:=H6 g hg (p:=1) (a:=2*a) (b:=2*b) (h:=h) af (by have:=c.hb;lia) (by have:=c.Jr;lia) (by
    refine J hpw ?_;have h1:=c.ha
    have h2:2*b*(2*2^n)=4*(b*2^n):=by
     exact J (Nat.mul_mul_mul_comm ..) rfl
    lia) (by lia) (by lia)
   rw[Nat.mul_div_mul_left _ _ (by decide),Nat.mul_mod_mul_left]at this;refine iN this ?_;show Z (gO.ret (.tuple [I (a/b),I (2*(a%b)/2)]))=_;exact J (E2 _ (by decide)) rfl
open Classical in
def f2a(ds:List D):Option D:=XI ds λu1 u2 u3=>kY u1 λa=>kY u2 λb=>kY u3 λn=>if 0<b∧(∃k,k<=9000∧b<2^k)∧ak (a:Int)<=n+4000 then Z (.tuple [I (a/b),I (a%b)])else ae
open Classical in
def f3a(ds:List D):Option D:=Pl ds λu1 u7=>kY u1 λa=>Pl u7 λu8 u13=>kY u8 λa3=>on4 u13 λu14 u15 u16 u17=>kY u14 λb=>kY u15 λx=>kY u16 λy=>kY u17 λn=>if D3c a a3 b x y n then Z (.tuple [I ((a*2^n+a3)/b),I ((a*2^n+a3)%b)])else ae
open Classical in
def Qt(ds:List D):Option D:=XI ds λu1 u2 u3=>kY u1 λa=>kY u2 λb=>kY u3 λn=>if D2c a b n then Z (.tuple [I (a/b),I (a%b)])else ae
theorem sj{p:Prop}{i:Decidable p}{a b:α}(h:(if p then Z a else ae)=Z b):p∧a=b:=by
 by_cases hp:p
 ·rw[bz hp]at h;exact qS h ⟨hp,rfl⟩
 ·rw[bF hp]at h;exact bK h
theorem fs1{g:List D->Option D}(h:∀ds d,g ds=Z d->eJ G m x ds d):JV G m [(x,g)]:=zM h X1
theorem Wf(gr:Gr G)(fn:Fn G 2 "_div2n1n"):∀ds d,f2a ds=Z d->eJ G 7 "_div2n1n" ds d:=λds d h=>by
 refine i3 h λu1 u2 u3 h=>lA h λa h=>lA h λb h=>lA h λn h=>c8 (sj h) λz1 e=>c8 z1 λh0 z2=>c8 z2 λz3 ajr=>bh z3 λk hk hb=>?_;subst e;refine fn.ok (n:=6) (C:=C2 λ_=>ae) (ow:=[]) (xs:=["a","b","n"]) (kk:=7) gr.K (rg gr.B (by decide) (fs1 λ_ _ e=>nomatch e) oy gr.V ox qI) ?_ (.inl rfl) (by kernel_rfl) rfl (λ_ _ _=>rt 3 λ_ _ _=>rfl);refine J (show bP (dj 2)=[ll 0,ll 1,ll 2,ll 3,ll 4,ll 5,ll 6,ll 7,ll 8,ll 9] by kernel_rfl) ?_;have e1:=dd1 (λ_=>ae) a (I b) (I n);rw[H5,bx,aq (by lia),show(bif af then fm (ll 0)else[])=[aY 0 (fm (ll 0))] by kernel_rfl]at e1;exact cH (e1.trans (cH (H7 _ a b n h0 (aH hb (cb (by decide) hk)))))
theorem Wc(gr:Gr G)(fn:Fn G 2 "_div2n1n")(fn3:Fn G 3 "_div3n2n"):∀ds d,f3a ds=Z d->eJ G 8 "_div3n2n" ds d:=λds d h=>by
 refine iC h λu1 u7 h=>lA h λa h=>iC h λu8 u13 h=>lA h λa3 h=>i4 h λu14 u15 u16 u17 h=>lA h λb h=>lA h λx h=>lA h λy h=>lA h λn h=>c8 (sj h) λc e=>?_;subst e;refine fn3.ok (n:=7) (C:=C3 f2a) (ow:=[]) (xs:=["a12","a3","b","b1","b2","n"]) (kk:=7) gr.K (rg gr.B (by decide) (fs1 (Wf gr fn)) oy gr.V ox qI) (aaQ f2a c λha=>?_) (.inl rfl) (by kernel_rfl) rfl (λ_ _ _=>rt 6 λ_ _ _ _ _ _=>rfl);refine bz ⟨by have:=c.XS;have:0<2^n:=c7 (by decide);exact Nat.pos_of_lt_mul_right ha,⟨n,by have:=c.n2;exact aj (by assumption) (by decide),c.hx⟩,?_⟩;have h1:x*2^n<=2^n*2^n:=er _ (cm c.hx);rw[←fU]at h1;have:=jB (aH ha h1);have:=c.n2
 lia
theorem We(gr:Gr G)(fn:Fn G 2 "_div2n1n")(fn3:Fn G 3 "_div3n2n"):∀ds d,Qt ds=Z d->eJ G 9 "_div2n1n" ds d:=λds d h=>by
 refine i3 h λu1 u2 u3 h=>lA h λa h=>lA h λb h=>lA h λn h=>c8 (sj h) λc e=>?_;subst e;exact fn.ok (n:=8) (C:=C2 f3a) (ow:=[]) (kk:=7) gr.K (rg gr.B (by decide) (fs1 (Wc gr fn fn3)) oy gr.V ox qI) (aaU f3a (λa a3 b x y n c=>bz c) c) (.inl rfl) (by kernel_rfl) rfl (λ_ _ _=>rt 3 λ_ _ _=>rfl)
end
section
abbrev QL:bX:=dj 6
abbrev sG:bj:=c9 QL
abbrev xW(k:Nat):bX:=aY k (bP QL)
noncomputable def dpF(h:List D->Option D)(x:Str)(ds:List D):Option D:=bif x==("_digits2int":Str)then h ds else ae
variable(g1 g2 h:List D->Option D)
abbrev CP:Cx:=Cf [("_div2n1n",g1),("_int2digits",g2)] (dpF h) Pw Lk Pz
theorem dp1(a:D)(b:Int):bB (CP g1 g2 h) 6 ["q_digits"] sG (oq ["a","b"] [a,int b]) (xW 0)=Z (.next (V1 "n" (int (ak b))::oq ["a","b"] [a,int b])):=by kernel_rfl
def Ki(ds n a b:D):aE:=V1 "a_digits" ds::V1 "n" n::oq ["a","b"] [a,b]
theorem dp2(a b n:D):bB (CP g1 g2 h) 6 ["q_digits"] sG (V1 "n" n::oq ["a","b"] [a,b]) (xW 1)=(fS (CP g1 g2 h) "_int2digits" (b8 [Z a,Z n]) (b8 [Z a,Z n])).map λds=>.next (Ki ds n a b):=by kernel_rfl
def M6(o:Option (D×D))(qs:List D)(r ds n a b:D):aE:=match o with
 |none=>("q_digits",.own qs)::V1 "r" r::Ki ds n a b
 |some (q,d)=>V1 "q_digit" q::V1 "a_digit" d::("q_digits",.own qs)::V1 "r" r::Ki ds n a b
theorem dp3(ds a b n:D):bB (CP g1 g2 h) 6 ["q_digits"] sG (Ki ds n a b) (xW 2)=Z (.next (V1 "r" (I 0)::Ki ds n a b)):=by kernel_rfl
theorem dp4(ds a b n:D):bB (CP g1 g2 h) 6 ["q_digits"] sG (V1 "r" (I 0)::Ki ds n a b) (xW 3)=Z (.next (M6 ae [] (I 0) ds n a b)):=by kernel_rfl
theorem dp5(ds:List D)(a b n:D):bB (CP g1 g2 h) 6 ["q_digits"] sG (M6 ae [] (I 0) (.list ds) n a b) (xW 4)=gY (kE 6 (xW 4) sG (CP g1 g2 h)) ds.reverse (M6 ae [] (I 0) (.list ds) n a b):=by kernel_rfl
def dpD(o:Option (D×D))(d:D)(qs:List D)(r ds n a b:D):aE:=match o with
 |none=>V1 "a_digit" d::("q_digits",.own qs)::V1 "r" r::Ki ds n a b
 |some (q,_)=>V1 "a_digit" d::V1 "q_digit" q::("q_digits",.own qs)::V1 "r" r::Ki ds n a b
theorem dp6(o:Option (D×D))(d:D)(qs:List D)(r ds n a b:D):nV sG 3 (uD (xW 4)) d (M6 o qs r ds n a b)=Z (dpD o d qs r ds n a b):=by rcases o with _|⟨_,_⟩<;>kernel_rfl
abbrev dpA:bX:=aY 0 (eY (xW 4))
theorem dp7(o:Option (D×D))(d:D)(qs:List D)(r ds n a b:D):bB (CP g1 g2 h) 5 [] sG (dpD o d qs r ds n a b) dpA=(fS (CP g1 g2 h) "_div2n1n" (b8 [b2 .Add (b2 .LShift (Z r) (Z n)) (Z d),Z b,Z n]) (b8 [b2 .Add (b2 .LShift (Z r) (Z n)) (Z d),Z b,Z n])).bind (gN sG dpA (dpD o d qs r ds n a b)):=by rcases o with _|⟨_,_⟩<;>kernel_rfl
def dpE(q d:D)(qs:List D)(r ds n a b:D):aE:=V1 "r" r::V1 "q_digit" q::V1 "a_digit" d::("q_digits",.own qs)::Ki ds n a b
theorem dp8(o:Option (D×D))(d:D)(qs:List D)(r ds n a b q r2:D):gN sG dpA (dpD o d qs r ds n a b) (.tuple [q,r2])=Z (.next (dpE q d qs r2 ds n a b)):=by rcases o with _|⟨_,_⟩<;>kernel_rfl
def dpG(q d:D)(qs:List D)(r ds n a b:D):aE:=("q_digits",.own qs)::V1 "r" r::V1 "q_digit" q::V1 "a_digit" d::Ki ds n a b
theorem dp9(q d:D)(qs:List D)(r ds n a b:D):bB (CP g1 g2 h) 5 [] sG (dpE q d qs r ds n a b) (aY 1 (eY (xW 4)))=bif ah (qs.length<=fB)then Z (.next (dpG q d (qs++[q]) r ds n a b))else ae:=by kernel_rfl
theorem ahP(o:Option (D×D))(q d:D)(qs R5:List D)(r' r ds n a b:D):fb (M6 o R5 r' ds n a b) (.next (dpG q d qs r ds n a b))=.next (M6 (Z (q,d)) qs r ds n a b):=by rcases o with _|⟨_,_⟩<;>kernel_rfl
def dpR(o:Option (D×D))(qs:List D)(r ds n a b:D):aE:=match o with
 |none=>("q_digits",.own qs)::V1 "r" r::Ki ds n a b
 |some (q,d)=>("q_digits",.own qs)::V1 "q_digit" q::V1 "a_digit" d::V1 "r" r::Ki ds n a b
theorem ahO(o:Option (D×D))(qs:List D)(r ds n a b:D):bB (CP g1 g2 h) 6 ["q_digits"] sG (M6 o qs r ds n a b) (xW 5)=bif ah (qs.length<=fB)then Z (.next (dpR o qs.reverse r ds n a b))else ae:=by rcases o with _|⟨_,_⟩<;>kernel_rfl
theorem ahN(o:Option (D×D))(qs:List D)(r ds n a b:D):bB (CP g1 g2 h) 6 ["q_digits"] sG (dpR o qs r ds n a b) (xW 6)=(fS (CP g1 g2 h) "_digits2int" ae (b8 [Z (.list qs),Z n])).map λq=>.next (V1 "q" q::dpR o qs r ds n a b):=by rcases o with _|⟨_,_⟩<;>kernel_rfl
theorem ahM(o:Option (D×D))(qs:List D)(r ds n a b q:D):bB (CP g1 g2 h) 6 ["q_digits"] sG (V1 "q" q::dpR o qs r ds n a b) (xW 7)=Z (.ret (.tuple [q,r])):=by rcases o with _|⟨_,_⟩<;>kernel_rfl
abbrev PV:bX:=dj 7
abbrev tI:bj:=c9 PV
abbrev CI:Cx:=Cf [("int_divmod",g1),("_divmod_pos",g2)] Ll Pw Lk Pz
abbrev CD(a b:Int):aE:=oq ["a","b"] [int a,int b]
abbrev Vo:bX:=aY 0 (bP PV)
abbrev FP:bX:=aY 0 (pz Vo)
abbrev ES:bX:=aY 0 (pz FP)
theorem im1(a b:Int):bB (CI g1 g2) 6 [] tI (CD a b) Vo=eR (CI g1 g2) 6 [] tI (CD a b) (bif b==0 then fm Vo else pz Vo):=by kernel_rfl
theorem im2(a b:Int):bB (CI g1 g2) 5 [] tI (CD a b) FP=eR (CI g1 g2) 5 [] tI (CD a b) (bif ah (b<0)then fm FP else pz FP):=by kernel_rfl
theorem im3(a b:Int):bB (CI g1 g2) 4 [] tI (CD a b) ES=eR (CI g1 g2) 4 [] tI (CD a b) (bif ah (a<0)then fm ES else pz ES):=by kernel_rfl
theorem im4(a b:Int):bB (CI g1 g2) 4 [] tI (CD a b) (aY 0 (fm FP))=(fS (CI g1 g2) "int_divmod" (b8 [Z (int (-a)),Z (int (-b))]) (b8 [Z (int (-a)),Z (int (-b))])).bind (gN tI (aY 0 (fm FP)) (CD a b)):=by kernel_rfl
theorem im5(a b q r:Int):gN tI (aY 0 (fm FP)) (CD a b) (.tuple [int q,int r])=Z (.next (V1 "r" (int r)::V1 "q" (int q)::CD a b)):=by kernel_rfl
theorem im6(a b q r:Int):bB (CI g1 g2) 4 [] tI (V1 "r" (int r)::V1 "q" (int q)::CD a b) (aY 1 (fm FP))=Z (.ret (.tuple [int q,int (-r)])):=by kernel_rfl
theorem im7(a b:Int):bB (CI g1 g2) 3 [] tI (CD a b) (aY 0 (fm ES))=(fS (CI g1 g2) "int_divmod" (b8 [Z (int (aS a)),Z (int b)]) (b8 [Z (int (aS a)),Z (int b)])).bind (gN tI (aY 0 (fm ES)) (CD a b)):=by kernel_rfl
theorem im8(a b q r:Int):gN tI (aY 0 (fm ES)) (CD a b) (.tuple [int q,int r])=Z (.next (V1 "r" (int r)::V1 "q" (int q)::CD a b)):=by kernel_rfl
theorem im9(a b q r:Int):bB (CI g1 g2) 3 [] tI (V1 "r" (int r)::V1 "q" (int q)::CD a b) (aY 1 (fm ES))=Z (.ret (.tuple [int (aS q),int (b+aS r)])):=by kernel_rfl
theorem af2(a b:Int):bB (CI g1 g2) 3 [] tI (CD a b) (aY 0 (pz ES))=(fS (CI g1 g2) "_divmod_pos" (b8 [Z (int a),Z (int b)]) (b8 [Z (int a),Z (int b)])).map .ret:=by kernel_rfl
end
theorem yG(xs:List Nat):(xs.map dO).map aI=xs.map I:=bI
def HX(ds:List D):Option D:=AQ ds λu1 u2=>kY u1 λa=>kY u2 λn=>bif ah (0<n)&&ah (n<1048576)&&ah (ak (a:Int)<8388608)then Z (bW (kG a n ((ak (a:Int)+n-1)/n)))else ae
def D9(ds:List D):Option D:=AQ ds λu1 u2=>o9 u1 λds=>kY u2 λn=>(pv ds).bind λxs=>bif ah (xs.length<=16777216)&&ah (n*xs.length<=134217728)&&xs.all (λx=>ah (x<2^n))then Z (I (gK n xs))else ae
structure Gq(G:Gd):Prop extends Gr G where
 tabI:∃c P,(c,P)∈G.tabs∧XQ=G.tq P∧vT G "_int2digits" "_int2digits" (iU DO) (bP DO) (c9 DO) c
 De:∃c P,(c,P)∈G.tabs∧X6=G.tq P∧vT G "_digits2int" "_digits2int" (iU JJ) (bP JJ) (c9 JJ) c
 d2:Fn G 2 "_div2n1n"
 d3:Fn G 3 "_div3n2n"
 dp:Fn G 6 "_divmod_pos"
 im:Fn G 7 "int_divmod"
theorem mN:∀xs:List Nat,pv (xs.map I)=Z xs
 |[]=>rfl
 |x::xs=>by
  show(pv (xs.map I)).map (x::·)=_;exact J (mN xs) rfl
theorem MR(g:Gq G):∀ds d,HX ds=Z d->eJ G 42 "_int2digits" ds d:=λds d h=>by
 refine i2 h λu1 u2 h=>lA h λa h=>lA h λn h=>?_;have h0:=(ig h).1;replace h:=(ig h).2;refine qS h (bV g.tabI λc P h1 h2 h3=>?_);have h4:=PY a n (aw (fv (fv h0))) (aw (gx (fv h0))) (aw (gx h0));have:=Vr g.K g.L g.B h1 h2 h3 h4;rw[yG]at this;exact this
theorem F4(g:Gq G):∀ds d,D9 ds=Z d->eJ G 42 "_digits2int" ds d∧∃r,d=.int r:=λds d h=>by
 refine i2 h λu1 u2 h=>sf h λl h=>lA h λn h=>bE h λxs hx h=>?_;have h0:=(ig h).1;replace h:=(ig h).2;refine qS h (J (r9 hx) ?_);refine bV g.De λc P h1 h2 h3=>?_;have hl:xs.length<=fB:=aw (fv (fv h0));have h4:=QQ n xs (λx hx=>aw (a9.mp (gx h0) x hx)) hl (aw (gx (fv h0)));have:=WC g.K g.L g.B h1 h2 h3 (J (au ..) hl) h4;rw[yG]at this;exact⟨this,_,rfl⟩
abbrev CQ:Cx:=CP Qt HX D9
structure Dq(b n:Nat):Prop where
 hb:b<2^n
 Jr:2^n<=2*b
 n2:n<=7990
theorem H0(b n:Nat)(hb:Dq b n)(W0 a:D):∀(ds:List Nat) (o:Option (D×D)) (qs:List Nat) (V:Nat),(∀d∈ds,d<2^n)->gK n qs.reverse=V/b->(∀q∈qs,q<2^n)->qs.length+ds.length<=16777216->
 ∃(o':Option (D×D)) (R5:List Nat),gY (kE 6 (xW 4) sG CQ) (ds.map I) (M6 o (qs.map I) (I (V%b)) W0 (I n) a (I b))=Z (.next (M6 o' (R5.map I) (I ((V*2^(n*ds.length)+gK n ds.reverse)%b)) W0 (I n) a (I b)))∧
  gK n R5.reverse=(V*2^(n*ds.length)+gK n ds.reverse)/b∧(∀q∈R5,q<2^n)∧R5.length=qs.length+ds.length
 |[],o,qs,V,_,h2,h3,_=>by
  refine⟨o,qs,?_,?_,h3,rfl⟩
  ·exact J iy (J (iF ..) (J (oV ..) (J (gU ..) rfl)))
  ·exact J iy (J (iF ..) (J (oV ..) (J (gU ..) h2)))
 |d::ds,o,qs,V,h1,h2,h3,h4=>by
  have hd:=h1 d bf;have hp:0<2^n:=c7 (by decide);have FT:0<b:=by have:=hb.Jr;lia
  have hr:V%b<b:=gE _ FT
  have hA:V%b*2^n+d<b*2^n:=by
   have h5:(V%b+1)*2^n<=b*2^n:=er _ hr;rw[lW,iE]at h5
   lia
  have key:V*2^n+d=(V/b*2^n)*b+(V%b*2^n+d):=by
   have h5:V*2^n=(V/b*b+V%b)*2^n:=aD (·*2^n) (J (cA ..) ((jF V b).symm));rw[lW,fF,cA b,←fF]at h5
   lia
  have ago:(V%b*2^n+d)%b=(V*2^n+d)%b:=by
   exact J key (J (bM (_*b) ..) (J (ko ..) rfl))
  have aiE:gK n (qs++[(V%b*2^n+d)/b]).reverse=(V*2^n+d)/b:=by
   refine J List.reverse_append ?_;show(V%b*2^n+d)/b+2^n*gK n qs.reverse=_;exact J h2 (J key (J (bM (_*b) ..) (J (jO _ _ FT) (J (cA (2^n) ..) rfl))))
  have hq:(V%b*2^n+d)/b<2^n:=by rw[eX FT];exact J (cA (2^n) ..) hA
  rw[bA]at h4
  refine dn (H0 b n hb W0 a ds (Z (I ((V%b*2^n+d)/b),I d)) (qs++[(V%b*2^n+d)/b]) (V*2^n+d) (λx hx=>h1 x (ba _ hx)) aiE (λq VB=>by
   refine jR (ez.mp VB) (λh=>?_) λh=>?_
   ·exact h3 q h
   ·rw[aF]at h;subst h;exact hq) (by refine J aP (J dX ?_);lia)) λo' R5 e e2 e3 e4=>?_
  have Jn:V*2^(n*(d::ds).length)+gK n (d::ds).reverse=(V*2^n+d)*2^(n*ds.length)+gK n ds.reverse:=by
   refine J qq (J (va ..) (J cI (J bA (J (fz ..) (J (gU ..) (J (fU ..) (J (lW ..) (J (fF ..) (J (cA (2^n) ..) ?_)))))))));show _+(_+_*(d+2^n*0))=_;refine J (iF ..) (J (iI ..) (J (cA _ d) ?_))
   lia
  refine⟨o',R5,?_,by exact J Jn e2,e3,by exact J e4 (J aP (J dX (J bA (gk qs.length ds.length))))⟩;refine J Jn (J aR (J iT ?_))
  have step:kE 6 (xW 4) sG CQ (M6 o (qs.map I) (I (V%b)) W0 (I n) a (I b)) (I d)=Z (.next (M6 (Z (I ((V%b*2^n+d)/b),I d)) ((qs++[(V%b*2^n+d)/b]).map I) (I ((V*2^n+d)%b)) W0 (I n) a (I b))):=by
   unfold kE;refine J (dp6 ..) (J (bx ..) (J (show eY (xW 4)=[dpA,aY 1 (eY (xW 4))] by kernel_rfl) ?_));have e7:=dp7 Qt HX D9 o (I d) (qs.map I) (I (V%b)) W0 (I n) a (I b);rw[uw (V%b) n n (iG hr hb.hb) (by have:=hb.n2;exact aj (cL (by assumption) (by assumption)) (by decide)),j1]at e7;rw[show fS CQ "_div2n1n" (b8 [Z (I (V%b*2^n+d)),Z (I b),Z (I n)]) (b8 [Z (I (V%b*2^n+d)),Z (I b),Z (I n)])=Z (.tuple [I ((V%b*2^n+d)/b),I ((V%b*2^n+d)%b)])from iM (ds:=[I (V%b*2^n+d),I b,I n]) rfl (bz ⟨hb.hb,hb.Jr,hA,hb.n2⟩),bx,dp8]at e7;have e9:=dp9 Qt HX D9 (I ((V%b*2^n+d)/b)) (I d) (qs.map I) (I ((V%b*2^n+d)%b)) W0 (I n) a (I b);rw[aq (by refine J (au ..) ?_;show _<=16777216;exact GX h4)]at e9;refine J (aO e7 (aO e9 cY)) ?_;show Z (fb _ _)=_;exact J (ahP ..) (J ago (J bN rfl))
  exact J step e
theorem JN{b:Nat}(h:0<b):Dq b (ak (b:Int))∨7990<ak (b:Int):=by
 have e:ak (b:Int)=b.log2+1:=by
  unfold ak;exact J (bF (by simp;exact mA h)) (J (dR ..) rfl)
 refine J e (jR (Nat.lt_or_ge 7990 (b.log2+1)) (λh1=>?_) λh1=>?_)
 ·exact .inr h1
 ·refine .inl ⟨rJ,?_,h1⟩;exact J (gm ..) (J (cA ..) (fM _ (Nat.log2_self_le (mA h))))
theorem aaK(a b:Nat)(h0:0<b)(hb:ak (b:Int)<=7990)(ha:ak (a:Int)<8388608):eR CQ 7 ["q_digits"] sG (oq ["a","b"] [I a,I b]) (bP QL)=Z (.ret (.tuple [I (a/b),I (a%b)])):=by
 have hq:Dq b (ak (b:Int)):=(JN h0).resolve_right ((λ{a b}=>dH.mpr) hb);have e1:=dp1 Qt HX D9 (I a) b;revert hq e1
 have XT:0<ak (b:Int):=by
  unfold ak;refine J (bF (by simp;exact mA h0)) ?_;lia
 revert XT hb;generalize ak (b:Int)=n;intro hb XT hq e1;obtain⟨m,hm⟩:∃m,m=ak (a:Int):=⟨_,rfl⟩
 have hax:a<2^m:=by
  by_cases h:a=0
  ·subst h;exact c7 (by decide)
  ·have:m=a.log2+1:=by
    refine J hm ?_;unfold ak;exact J (bF (by simp;exact neN h)) (J (dR ..) rfl)
   exact J this rJ
 obtain⟨k,hk⟩:∃k,k=(m+n-1)/n:=⟨_,rfl⟩
 have Qd:m<=n*k:=by
  have:=Kt (m+n-1) XT;rw[←hk,fz,gU]at this;exact aPr this
 have P6:n*k<=m+n-1:=by exact J hk (Xv _ _)
 have Z6:k<=m+n-1:=by exact J hk (Ay _ _)
 rw[←hm]at ha;have SE:k<=16777216:=aj Z6 (aj (lS ..) (aj (cL (cm ha) hb) (by decide)));refine J (show bP QL=[xW 0,xW 1,xW 2,xW 3,xW 4,xW 5,xW 6,xW 7] by kernel_rfl) ?_;refine aO e1 ?_;have e2:=dp2 Qt HX D9 (I a) (I b) (I n)
 rw[show fS CQ "_int2digits" (b8 [Z (I a),Z (I n)]) (b8 [Z (I a),Z (I n)])=Z (bW (kG a n k))from iM (ds:=[I a,I n]) rfl (by
  show(bif ah (0<n)&&ah (n<1048576)&&ah (ak (a:Int)<8388608)then Z (bW (kG a n ((ak (a:Int)+n-1)/n)))else ae)=_;exact rF hm (J (aq XT) (J (aq (by exact aT (by assumption) (by decide))) (J (aq ha) (rF hk rfl)))))]at e2
 refine aO e2 (aO (dp3 ..) (aO (dp4 ..) ?_));have jM:=vK a n k;refine dn (H0 b n hq (bW (kG a n k)) (I a) (kG a n k).reverse ae [] 0 (λd hd=>QM a n k d (fx.mp hd)) (J (Nat.zero_div ..) rfl) (λq h=>nomatch h) (by refine J cI (J jM ?_);show 0+k<=_;exact J (dF ..) SE)) λo qs e5 q1 q2 q3=>?_;rw[Nat.zero_mul,dF,Iw,G4,kL (aH hax (cb (by decide) Qd))]at e5 q1;have e5':=dp5 Qt HX D9 ((kG a n k).map I) (I a) (I b) (I n);rw[←mW]at e5';rw[Nat.zero_mod]at e5;refine aO (e5'.trans e5) ?_;have hql:qs.length=k:=by exact J q3 (J cI (J jM (dF _)))
 have SX:=ahO Qt HX D9 o (qs.map I) (I (a%b)) (bW (kG a n k)) (I n) (I a) (I b);rw[aq (by refine J (au ..) ?_;show _<=16777216;exact J hql SE)]at SX;refine aO SX ?_;have QJ:=ahN Qt HX D9 o (qs.map I).reverse (I (a%b)) (bW (kG a n k)) (I n) (I a) (I b)
 rw[show fS CQ "_digits2int" ae (b8 [Z (.list (qs.map I).reverse),Z (I n)])=Z (I (a/b)) by
  refine Nn (ds:=[.list (qs.map I).reverse,I n]) (λ_=>rfl) rfl ?_;show D9 [.list (qs.map I).reverse,I n]=_;show(pv (qs.map I).reverse).bind _=_;exact rF mW (J (mN ..) (J (bx ..) (J q1 (J (aq (by refine J cI ?_;lia)) (J (aq (by refine J cI (J hql ?_);exact aj P6 (aj (lS ..) (aj (cL (cm ha) hb) (by decide))))) (J (a9.mpr λx hx=>aq (q2 x (fx.mp hx))) rfl))))))]at QJ
 exact aO QJ (cH (ahM ..))
theorem lL(a:Int):a.natAbs<2^ak a:=by
 unfold ak
 split
 ·rename_i h;refine J (show a=0 by simpa using h) ?_;decide
 ·exact rJ
theorem lR{a:Int}{b:Nat}(h:a.natAbs<2^b):ak a<=b:=by
 unfold ak
 split
 ·exact dW _
 ·rename_i h0;have h0:a.natAbs≠0:=λe=>h0 (by rw[Oa.mp e];rfl);exact(J4 h0).mpr h
theorem tw{a b:Int}(h:a.natAbs<=b.natAbs):ak a<=ak b:=lR (aT h (lL b))
open Classical in
def vD(ds:List D):Option D:=AQ ds λu1 u2=>kY u1 λa=>kY u2 λb=>if 0<b∧ak (b:Int)<=7990∧ak (a:Int)<8388608 then Z (.tuple [I (a/b),I (a%b)])else ae
theorem abw(g:Gq G):mw G 42 CQ:=rg g.B (by decide) (zM (λds d e=>(We g.toGr g.d2 g.d3 ds d e).le (by decide)) (zM (MR g) X1)) (λx ds d e=>by
 refine vN e λh1 h2=>J (show x="_digits2int"from aC.mp h1) ?_;refine c8 (F4 g ds d h2) λh3 z1=>bQ z1 λr jE=>?_;subst jE;exact Cm.I1 h3) r8 ox qI
theorem Qo(g:Gq G):∀ds d,vD ds=Z d->eJ G 43 "_divmod_pos" ds d:=λds d h=>by
 refine i2 h λu1 u2 h=>lA h λa h=>lA h λb h=>c8 (sj h) λz1 e=>eP z1 λh0 h1 h2=>?_;subst e;exact g.dp.ok (n:=42) (C:=CQ) (ow:=["q_digits"]) (kk:=7) g.K (abw g) (aaK a b h0 h1 h2) (.inl rfl) (by kernel_rfl) rfl (λ_ _ _=>rt 2 λ_ _=>rfl)
structure Dm(l:Nat)(a b:Int):Prop where
 b0:b≠0
 bp:l<=1->0<b
 ap:l=0->0<=a
 hb:ak b<=7990
 ha:ak a<8388608
open Classical in
def SN(l:Nat)(ds:List D):Option D:=AQ ds λx y=>sH x λa=>sH y λb=>if Dm l a b then Z (.tuple [int (a.fdiv b),int (a.fmod b)])else ae
theorem Ww{a b q r:Int}(hb:0<b)(h1:(aS a).fdiv b=q)(h2:(aS a).fmod b=r):aS q=a.fdiv b∧b+aS r=a.fmod b:=by
 rw[dI _ (mD hb)]at h1⊢;rw[fL _ (mD hb)]at h2⊢;have e:=(iK hb).mp ⟨h1,h2⟩;unfold aS at e⊢;have u:=(iK (a:=a) (b:=b) (q:=-q-1) (r:=b+(-r-1)) hb).mpr ⟨by refine J (ac0 ..) (J (qx ..) (J (J8 ..) ?_));lia,by lia,by lia⟩
 constructor
 ·exact J u.1 rfl
 ·exact J u.2 rfl
theorem ZO(g1:List D->Option D)(l:Nat)(a b:Int)(c:Dm l a b)(hg:∀a' b',0<l->Dm (l-1) a' b'->g1 [int a',int b']=Z (.tuple [int (a'.fdiv b'),int (a'.fmod b')])):eR (CI g1 vD) 7 [] tI (CD a b) (bP PV)=Z (.ret (.tuple [int (a.fdiv b),int (a.fmod b)])):=by
 refine J (show bP PV=[Vo] by kernel_rfl) ?_;have e1:=im1 g1 vD a b;rw[show(b==0)=ag by rw[beq_eq_false_iff_ne];exact c.b0,show(bif ag then fm Vo else pz Vo)=[FP] by kernel_rfl]at e1;refine cH (e1.trans (cH ?_));have e2:=im2 g1 vD a b
 by_cases hb:b<0
 ·rw[aq hb,show(bif af then fm FP else pz FP)=[aY 0 (fm FP),aY 1 (fm FP)] by kernel_rfl]at e2
  have hl:1<l:=by
   apply rI;intro h;have:=c.bp h;lia
  have e4:=im4 g1 vD a b
  rw[show fS (CI g1 vD) "int_divmod" (b8 [Z (int (-a)),Z (int (-b))]) (b8 [Z (int (-a)),Z (int (-b))])=_ from iM (ds:=[int (-a),int (-b)]) rfl (hg (-a) (-b) (xJ hl) ⟨by lia,λ_=>by lia,λh=>by lia,by
   have:=tw (a:=-b) (b:=b) (gS (uR b));have:=c.hb
   exact aj (by assumption) (by assumption),by
   have:=tw (a:=-a) (b:=a) (gS (uR a));have:=c.ha
   lia⟩),bx,im5]at e4
  have e6:=im6 g1 vD a b ((-a).fdiv (-b)) ((-a).fmod (-b));rw[zH,zG,Int.neg_neg]at e6;rw[zH,zG]at e4;exact e2.trans (aO e4 (cH e6))
 ·have FT:0<b:=by have:=c.b0;lia
  rw[bi hb,show(bif ag then fm FP else pz FP)=[ES] by kernel_rfl]at e2;refine e2.trans (cH ?_);have e3:=im3 g1 vD a b
  by_cases ha:a<0
  ·rw[aq ha,show(bif af then fm ES else pz ES)=[aY 0 (fm ES),aY 1 (fm ES)] by kernel_rfl]at e3
   have hl:0<l:=by
    apply pK;intro h;have:=c.ap h;lia
   have e7:=im7 g1 vD a b
   rw[show fS (CI g1 vD) "int_divmod" (b8 [Z (int (aS a)),Z (int b)]) (b8 [Z (int (aS a)),Z (int b)])=_ from iM (ds:=[int (aS a),int b]) rfl (hg (aS a) b hl ⟨c.b0,λ_=>FT,λ_=>by unfold aS;lia,c.hb,by
    have:=tw (a:=aS a) (b:=a) (aNb (by assumption));have:=c.ha
    lia⟩),bx,im8]at e7
   have e9:=im9 g1 vD a b ((aS a).fdiv b) ((aS a).fmod b);refine c8 (Ww (a:=a) FT rfl rfl) λk1 k2=>?_;rw[k1,k2]at e9;exact e3.trans (aO e7 (cH e9))
  ·rw[bi ha,show(bif ag then fm ES else pz ES)=[aY 0 (pz ES)] by kernel_rfl]at e3;refine e3.trans (cH ?_);refine(af2 g1 vD a b).trans ?_;obtain⟨x,rfl⟩:∃x:Nat,a=x:=⟨a.toNat,by lia⟩;obtain⟨y,rfl⟩:∃y:Nat,b=y:=⟨b.toNat,by lia⟩;exact J (show fS (CI g1 vD) "_divmod_pos" (b8 [Z (int (x:Int)),Z (int (y:Int))]) (b8 [Z (int (x:Int)),Z (int (y:Int))])=Z (.tuple [I (x/y),I (x%y)])from iM (ds:=[I x,I y]) rfl (bz ⟨by lia,c.hb,c.ha⟩)) (J (dI _ (aU y)) (J (fL _ (aU y)) (rF (kP ..) (rF (kO ..) rfl))))
theorem Wb(g:Gq G):∀l ds d,SN l ds=Z d->eJ G (44+l) "int_divmod" ds d:=λl=>by
 have fin:∀(g1:List D->Option D) (l:Nat) (n:Nat) (ds:List D) (d:D),43<=n->(∀ds d,g1 ds=Z d->eJ G n "int_divmod" ds d)->(∀a' b',0<l->Dm (l-1) a' b'->g1 [int a',int b']=Z (.tuple [int (a'.fdiv b'),int (a'.fmod b')]))->SN l ds=Z d->eJ G (n+1) "int_divmod" ds d:=λg1 l n ds d hn h1 h2 h=>by
  refine i2 h λx y h=>uz h λa h=>uz h λb h=>?_
  ·refine c8 (sj h) λc e=>?_;subst e;refine g.im.ok (n:=n) (C:=CI g1 vD) (ow:=[]) (kk:=7) g.K (rg g.B (Nat.le_of_add_left_le hn) ?_ oy r8 ox qI) (ZO g1 l a b c h2) (.inl rfl) (by kernel_rfl) rfl (λ_ _ _=>rt 2 λ_ _=>rfl);intro p hp ds d e;simp only[aM,dU,or_false]at hp
   rcases hp with rfl|rfl
   ·exact h1 ds d e
   ·exact(Qo g ds d e).le hn
 induction l with
 |zero=>exact λds d h=>fin (λ_=>ae) 0 43 ds d (aV _) (λ_ _ e=>nomatch e) (λ_ _ h=>absurd h (by decide)) h
 |succ l ih=>exact λds d h=>fin (SN l) (l+1) (44+l) ds d (by lia) ih (λa b _ c=>bz c) h
section
variable(l:Bool){Kf:aL->Prop}{Tf:bq->az->Prop}
abbrev JQ:bX:=dj (bif l then 12 else 10)
abbrev nW:bj:=c9 (JQ l)
abbrev CG(k:Nat):bX:=aY k (bP (JQ l))
noncomputable abbrev Ky(Kf:aL->Prop)(Tf:bq->az->Prop)(key:D->Option D)(kk:Nat):Str×jS:=("key",.fn Kf Tf key kk)
def wa(o:Option D)(h:Bool)(a x lo hi:D)(K:Str×jS):aE:=(match o with
 |none=>[]
 |some m=>[V1 "mid" m])++bif h then[V1 "hi" hi,V1 "a" a,V1 "x" x,V1 "lo" lo,K]else[V1 "a" a,V1 "x" x,V1 "lo" lo,V1 "hi" hi,K]
theorem bi1(a x hi:D)(lo:Int):bB C0 6 [] (nW l) (wa ae ag a x (int lo) hi (Ky Kf Tf key kk)) (CG l 0)=eR C0 6 [] (nW l) (wa ae ag a x (int lo) hi (Ky Kf Tf key kk)) (bif ah (lo<0)then fm (CG l 0)else[]):=by induction l using ax<;>kernel_rfl
theorem bi2(a x lo hi:D):bB C0 6 [] (nW l) (wa ae ag a x lo hi (Ky Kf Tf key kk)) (CG l 1)=eR C0 6 [] (nW l) (wa ae ag a x lo hi (Ky Kf Tf key kk)) (bif Hv hi then fm (CG l 1)else[]):=by induction l using ax<;>kernel_rfl
theorem bi3(a x lo hi:D):bB C0 5 [] (nW l) (wa ae ag a x lo hi (Ky Kf Tf key kk)) (aY 0 (fm (CG l 1)))=(fS C0 "len" (b8 [Z a]) (b8 [Z a])).map λn=>.next (wa ae af a x lo n (Ky Kf Tf key kk)):=by induction l using ax<;>kernel_rfl
theorem bi4(h:Bool)(a x lo hi:D):bB C0 6 [] (nW l) (wa ae h a x lo hi (Ky Kf Tf key kk)) (CG l 2)=eR C0 6 [] (nW l) (wa ae h a x lo hi (Ky Kf Tf key kk)) (pz (CG l 2)):=by induction l using ax<;>induction h using ax<;>kernel_rfl
abbrev JP:bX:=aY 0 (pz (CG l 2))
theorem bi5(h:Bool)(a x lo hi:D):bB C0 5 [] (nW l) (wa ae h a x lo hi (Ky Kf Tf key kk)) (JP l)=Og (λρ=>B6 (ev C0 14) (nW l) ρ 9 (RP (JP l))) (RQ 5 (JP l) [] (nW l) C0) 70 (wa ae h a x lo hi (Ky Kf Tf key kk)):=by induction l using ax<;>induction h using ax<;>kernel_rfl
theorem bi6(o:Option D)(h:Bool)(a x:D)(lo hi:Int):B6 (ev C0 14) (nW l) (wa o h a x (int lo) (int hi) (Ky Kf Tf key kk)) 9 (RP (JP l))=Z (ah (lo<hi)):=by induction l using ax<;>induction h using ax<;>induction o using aB<;>kernel_rfl
theorem bi7(o:Option D)(h:Bool)(a x lo hi:D):bB C0 4 [] (nW l) (wa o h a x lo hi (Ky Kf Tf key kk)) (aY 0 (YB (JP l)))=(b2 .FloorDiv (b2 .Add (Z lo) (Z hi)) (Z (I 2))).map λm=>.next (wa (Z m) h a x lo hi (Ky Kf Tf key kk)):=by induction l using ax<;>induction h using ax<;>induction o using aB<;>kernel_rfl
abbrev Kk:bX:=aY 1 (YB (JP l))
noncomputable def Jd(key:D->Option D)(kk:Nat)(x:Option D):Option D:=bif ah (kk<=6)&&af then x.bind key else ae
theorem bi8(h:Bool)(a x lo hi m:D):bB C0 4 [] (nW l) (wa (Z m) h a x lo hi (Ky Kf Tf key kk)) (Kk l)=(bif l then c2 .Lt (Jd key kk (gh (Z a) (Z m))) (Z x)else c2 .Lt (Z x) (Jd key kk (gh (Z a) (Z m)))).bind λc=>eR C0 4 [] (nW l) (wa (Z m) h a x lo hi (Ky Kf Tf key kk)) (bif c then fm (Kk l)else pz (Kk l)):=by
 induction l using ax<;>induction h using ax<;>unfold Jd<;>kernel_rfl
def biL(k h:Bool)(m a x lo hi:D)(K:Str×jS):aE:=bif k then V1 "lo" lo::V1 "mid" m::(bif h then[V1 "hi" hi,V1 "a" a,V1 "x" x,K]else[V1 "a" a,V1 "x" x,V1 "hi" hi,K])else V1 "hi" hi::V1 "mid" m::(bif h then[V1 "a" a,V1 "x" x,V1 "lo" lo,K]else[V1 "a" a,V1 "x" x,V1 "lo" lo,K])
abbrev abf:bX:=aY 0 (bif l then pz (Kk l)else fm (Kk l))
abbrev abe:bX:=aY 0 (bif l then fm (Kk l)else pz (Kk l))
theorem bi9(h:Bool)(a x lo hi m:D):bB C0 3 [] (nW l) (wa (Z m) h a x lo hi (Ky Kf Tf key kk)) (abf l)=Z (.next (biL ag h m a x lo m (Ky Kf Tf key kk))):=by induction l using ax<;>induction h using ax<;>kernel_rfl
theorem aid(h:Bool)(a x lo hi m:D):bB C0 3 [] (nW l) (wa (Z m) h a x lo hi (Ky Kf Tf key kk)) (abe l)=(b2 .Add (Z m) (Z (I 1))).map λlo=>.next (biL af h m a x lo hi (Ky Kf Tf key kk)):=by induction l using ax<;>induction h using ax<;>kernel_rfl
theorem abg(o:Option D)(k h:Bool)(a x lo hi lo' Mo m:D):fb (wa o h a x lo hi (Ky Kf Tf key kk)) (.next (biL k h m a x lo' Mo (Ky Kf Tf key kk)))=.next (wa (Z m) h a x lo' Mo (Ky Kf Tf key kk)):=by induction h using ax<;>induction k using ax<;>induction o using aB<;>kernel_rfl
theorem aic(o:Option D)(h:Bool)(a x lo hi:D):bB C0 6 [] (nW l) (wa o h a x lo hi (Ky Kf Tf key kk)) (CG l 3)=Z (.ret lo):=by induction l using ax<;>induction h using ax<;>induction o using aB<;>kernel_rfl
end
noncomputable def kI(key:D->Option D)(d:D):Int:=match key d with
 |some (.int k)=>k
 |_=>0
def GB(l:Bool)(key:D->Option D)(w:Int)(d:D):Bool:=bif l then ah (kI key d<w)else !ah (w<kI key d)
structure BiC(l:Bool)(key:D->Option D)(a:List D)(w lo hi:Int):Prop where
 lo0:0<=lo
 hi0:0<=hi
 XU:hi<=a.length
 len:a.length<=60
 ks:∀d∈a,key d=Z (.int (kI key d))
 srt:∀(i:Nat) (h:i<a.length),GB l key w a[i]=ah (i<a.countP (GB l key w))
section
variable(l:Bool){Kf:aL->Prop}{Tf:bq->az->Prop}
theorem e6(o:Option D)(h:Bool)(a x:D)(lo hi:Nat):B6 (ev C0 14) (nW l) (wa o h a x (I lo) (I hi) (Ky Kf Tf key 6)) 9 (RP (JP l))=Z (ah ((lo:Int)<(hi:Int))):=bi6 l o h a x lo hi
theorem cl0{lo hi:Nat}(c:Nat)(h:hi<=lo):max lo (min hi c)=lo:=Tx (aj (oJ _ _) h)
theorem cl1{lo hi c:Nat}(g1:lo<=m)(g2:m<hi)(h:m<c):max (m+1) (min hi c)=max lo (min hi c):=by
 have h3:m+1<=min hi c:=Nat.le_min.mpr ⟨g2,h⟩;exact J (rH h3) (J (rH (aj g1 (gA h3))) rfl)
theorem cl2{hi c:Nat}(lo:Nat)(g2:m<hi)(h:¬m<c):max lo (min m c)=max lo (min hi c):=by
 have h:=cf h;exact J (eI h) (J (eI (aj h (cm g2))) rfl)
theorem U0{lo hi:Nat}(h:lo<hi):lo<=(lo+hi)/2:=(Iu (by decide)).mpr (J (qv ..) (fN (cm h) _))
theorem UZ{lo hi:Nat}(h:lo<hi):(lo+hi)/2<hi:=nY (J (uL ..) (J5 h _))
theorem aaj{lo hi:Nat}(g1:lo<=m)(h:hi-lo<=k+1):hi-(m+1)<=k:=aj (Ks (nq g1) hi) (Nat.pred_le_pred h)
theorem aai{lo hi:Nat}(g1:lo<=m)(g2:m<hi)(h:hi-lo<=k+1):m-lo<=k:=qw (aH (Nat.sub_lt_sub_right g1 g2) h)
theorem ltI{a b:Nat}(h:a<b):(a:Int)<(b:Int):=d9.mpr h
theorem Zn{a b:Nat}(h:¬a<b):¬(a:Int)<(b:Int):=λg=>h (d9.mp g)
theorem Rd(h:Bool)(a:List D)(w:Int)(c:Nat)(hc:c<=a.length)(hl:a.length<=60)(ks:∀d∈a,key d=Z (.int (kI key d)))(srt:∀(i:Nat) (h:i<a.length),GB l key w a[i]=ah (i<c)):∀(k lo hi:Nat) (o:Option D),hi<=a.length->hi-lo<=k->∃(o':Option D) (Mo:D),
 Og (λρ=>B6 (ev C0 14) (nW l) ρ 9 (RP (JP l))) (RQ 5 (JP l) [] (nW l) C0) (k+1) (wa o h (.list a) (int w) (I lo) (I hi) (Ky Kf Tf key 6))=Z (.next (wa o' h (.list a) (int w) (I (max lo (min hi c))) Mo (Ky Kf Tf key 6))):=λk=>by
 induction k with
 |zero=>
  intro lo hi o h1 h2;refine⟨o,I hi,?_⟩;refine J AE ?_;have h:=tU (Nat.le_zero.mp h2);exact J (e6 l ..) (J (bi (Zn (dH.mpr h))) (J (cl0 c h) rfl))
 |succ k ih=>
  intro lo hi o h1 h2
  by_cases jJ:lo<hi
  ·obtain⟨m,hm⟩:∃m,m=(lo+hi)/2:=⟨_,rfl⟩;have g1:lo<=m:=by exact J hm (U0 jJ)
   have g2:m<hi:=by exact J hm (UZ jJ)
   have g3:m<a.length:=aH g2 h1;have e7:=bi7 l (Kf:=Kf) (Tf:=Tf) (key:=key) (kk:=6) o h (.list a) (int w) (I lo) (I hi);rw[j1,FC _ _ (by decide) (by decide),←hm]at e7;have e8:=bi8 l (Kf:=Kf) (Tf:=Tf) (key:=key) (kk:=6) h (.list a) (int w) (I lo) (I hi) (I m)
   have agx:Jd key 6 (gh (Z (.list a)) (Z (I m)))=Z (int (kI key a[m])):=by
    show(xE (.list a) (.int (m:Int))).bind key=_
    have:xE (.list a) (.int (m:Int))=Z a[m]:=by
     show(bif ah (a.length<=fB)then zO a (m:Int)else ae)=_;refine J (aq (aj hl (by decide))) (J (cond_true ..) ?_);unfold zO;exact J (bz (aU m)) (J (bH ..) (J (cR g3) rfl))
    exact J this (J (bx ..) (ks _ (i8 g3)))
   have hp:=srt m g3;unfold GB at hp
   have step:∃h2:D,RQ 5 (JP l) [] (nW l) C0 (wa o h (.list a) (int w) (I lo) (I hi) (Ky Kf Tf key 6))=Z (.next (wa (Z (I m)) h (.list a) (int w) (I (bif ah (m<c)then m+1 else lo)) (I (bif ah (m<c)then hi else m)) (Ky Kf Tf key 6))):=by
    refine⟨.none,?_⟩;unfold RQ;refine J (show YB (JP l)=[aY 0 (YB (JP l)),Kk l] by induction l using ax<;>kernel_rfl) ?_;rw[agx]at e8;have t:(bif l then c2 .Lt (Z (int (kI key a[m]))) (Z (int w))else c2 .Lt (Z (int w)) (Z (int (kI key a[m]))))=Z (bif l then ah (kI key a[m]<w)else ah (w<kI key a[m])):=by induction l using ax<;>rfl
    rw[t,bx]at e8
    cases hd:ah (m<c)with
    |true=>
     have El:=aid l (Kf:=Kf) (Tf:=Tf) (key:=key) (kk:=6) h (.list a) (int w) (I lo) (I hi) (I m);rw[j1]at El;rw[hd]at hp
     have hb:(bif(bif l then ah (kI key a[m]<w)else ah (w<kI key a[m]))then fm (Kk l)else pz (Kk l))=[abe l]:=by
      induction l using ax
      ·simp only[cond_false,cN]at hp⊢;refine J hp ?_;kernel_rfl
      ·simp only[cond_true]at hp⊢;refine J hp ?_;kernel_rfl
     rw[hb]at e8;refine J (aO e7 (aO (e8.trans (aO El cY)) cY)) ?_;show Z (fb _ _)=_;exact J (abg ..) rfl
    |false=>
     have e9:=bi9 l (Kf:=Kf) (Tf:=Tf) (key:=key) (kk:=6) h (.list a) (int w) (I lo) (I hi) (I m);rw[hd]at hp
     have hb:(bif(bif l then ah (kI key a[m]<w)else ah (w<kI key a[m]))then fm (Kk l)else pz (Kk l))=[abf l]:=by
      induction l using ax
      ·simp only[cond_false,Bool.not_eq_false']at hp⊢;refine J hp ?_;kernel_rfl
      ·simp only[cond_true]at hp⊢;refine J hp ?_;kernel_rfl
     rw[hb]at e8;refine J (aO e7 (aO (e8.trans (aO e9 cY)) cY)) ?_;show Z (fb _ _)=_;exact J (abg ..) rfl
   refine bQ step λ_ step=>J AE ?_;refine J (e6 l ..) (J (aq (ltI jJ)) ?_);simp only[step]
   by_cases hd:m<c
   ·refine J (aq hd) (jY (ih (m+1) hi (Z (I m)) h1 (aaj g1 h2)) λo' Mo e=>⟨o',Mo,e.trans ?_⟩);exact J (cl1 g1 g2 hd) rfl
   ·refine J (bi hd) (jY (ih lo m (Z (I m)) (cm g3) (aai g1 g2 h2)) λo' Mo e=>⟨o',Mo,e.trans ?_⟩);exact J (cl2 lo g2 hd) rfl
  ·refine⟨o,I hi,?_⟩;exact J AE (J (e6 l ..) (J (bi (Zn jJ)) (J (cl0 c (cf jJ)) rfl)))
def wX(ds:List D):Option (Int×Int):=Pl ds λx r=>o9 x λa=>Pl r λy r=>sH y λ_=>Y5 (Ol r (Z (0,(a.length:Int)))) (Pl r λz r=>sH z λlo=>Y5 (Ol r (Z (lo,(a.length:Int)))) (ER r λu=>Y5 (S6 u (Z (lo,(a.length:Int)))) (sH u λhi=>Z (lo,hi))))
theorem abd{a:List D}{w lo hi:Int}(c:BiC l key a w lo hi)(h:D)(hh:h=.int hi∨(h=.none∧hi=a.length)):eR C0 7 [] (nW l) (wa ae ag (.list a) (int w) (int lo) h (Ky Kf Tf key 6)) (bP (JQ l))=Z (.ret (int (max lo (min hi (a.countP (GB l key w)))))):=by
 obtain⟨lo,rfl⟩:∃x:Nat,lo=x:=⟨lo.toNat,(cw c.lo0).symm⟩;obtain⟨hi,rfl⟩:∃x:Nat,hi=x:=⟨hi.toNat,(cw c.hi0).symm⟩;have XU:hi<=a.length:=da.mp c.XU;have pP:a.countP (GB l key w)<=a.length:=List.countP_le_length;refine J (show bP (JQ l)=[CG l 0,CG l 1,CG l 2,CG l 3] by induction l using ax<;>kernel_rfl) ?_;have e1:=bi1 l (Kf:=Kf) (Tf:=Tf) (key:=key) (kk:=6) (.list a) (int w) h lo;rw[bi (ky.mpr (aU lo))]at e1;refine aO (e1.trans cY) ?_
 have An:∀k:Bool,eR C0 7 [] (nW l) (wa ae k (.list a) (int w) (I lo) (I hi) (Ky Kf Tf key 6)) [CG l 2,CG l 3]=Z (.ret (I (max lo (min hi (a.countP (GB l key w)))))):=λk=>by
  refine jY (Rd l (Kf:=Kf) (Tf:=Tf) k a w (a.countP (GB l key w)) pP c.len c.ks c.srt 69 lo hi ae XU (aj (lS _ _) (aj XU (aj c.len (by decide))))) λo' Mo e=>?_;have e4:=bi4 l (Kf:=Kf) (Tf:=Tf) (key:=key) (kk:=6) k (.list a) (int w) (I lo) (I hi);rw[show pz (CG l 2)=[JP l] by induction l using ax<;>kernel_rfl]at e4;exact aO (e4.trans (aO ((bi5 l k (.list a) (int w) (I lo) (I hi)).trans e) cY)) (cH (aic l o' k (.list a) (int w) _ Mo))
 have hm:(int (max (lo:Int) (min (hi:Int) ((a.countP (GB l key w):Nat):Int))))=I (max lo (min hi (a.countP (GB l key w)))):=aD aI (clI lo hi _);refine J hm ?_;have e2:=bi2 l (Kf:=Kf) (Tf:=Tf) (key:=key) (kk:=6) (.list a) (int w) (I lo) h
 rcases hh with rfl|⟨rfl,hh⟩
 ·exact aO (e2.trans cY) (An ag)
 ·rw[show(bif Hv PyData.none then fm (CG l 1)else[])=[aY 0 (fm (CG l 1))] by induction l using ax<;>kernel_rfl]at e2;have e3:=bi3 l (Kf:=Kf) (Tf:=Tf) (key:=key) (kk:=6) (.list a) (int w) (I lo) .none
  rw[show fS C0 "len" (b8 [Z (.list a)]) (b8 [Z (.list a)])=Z (I hi) by
   refine J (show I hi=int a.length from aD aI hh) (oE (ds:=[.list a]) ?_ rfl);show(bif("len":Str)==("len":Str)&&ah (a.length<=fB)then Z (aI a.length)else _)=_;exact J (aq (aj c.len (by decide))) rfl]at e3
  exact aO (e2.trans (aO e3 cY)) (An af)
end
theorem Es{lo hi:Int}(h:wX ds=Z (lo,hi)):∃a w h,(ds.getD 0 .none=.list a)∧ds.getD 1 .none=.int w∧ds.getD 2 (.int 0)=.int lo∧ds.getD 3 .none=h∧(h=.int hi∨(h=.none∧hi=a.length))∧2<=ds.length∧ds.length<=4:=by
 refine iC h λx r h=>sf h λa h=>iC h λy r h=>uz h λw h=>iOr h (λh=>i0 h λh=>?_) λh=>iC h λz r h=>uz h λlo' h=>iOr h (λh=>i0 h λh=>?_) λh=>i1 h λu h=>iOr h (λh=>ZM h λh=>?_) λh=>uz h λMo h=>?_
 ·cases h;exact⟨a,w,_,rfl,rfl,rfl,rfl,.inr ⟨rfl,rfl⟩,aV 2,dm 2 2⟩
 ·cases h;exact⟨a,w,_,rfl,rfl,rfl,rfl,.inr ⟨rfl,rfl⟩,km 2,km 3⟩
 ·cases h;exact⟨a,w,_,rfl,rfl,rfl,rfl,.inr ⟨rfl,rfl⟩,(by decide:2<=4),aV 4⟩
 ·cases h;exact⟨a,w,_,rfl,rfl,rfl,rfl,.inl rfl,(by decide:2<=4),aV 4⟩
noncomputable def OC:List D->List D
 |.list a::_=>a
 |_=>[]
noncomputable def GA:List D->Int
 |_:: .int w::_=>w
 |_=>0
open Classical in
def X9(l:Bool)(ds:List D)(key:D->Option D):Option Int:=(wX ds).bind λp=>if BiC l key (OC ds) (GA ds) p.1 p.2 then Z (max p.1 (min p.2 ((OC ds).countP (GB l key (GA ds)))))else ae
def KD(f:Str)(ds:List D)(key:D->Option D):Option Int:=bif f==("bisect_left":Str)then X9 af ds key else bif f==("bisect_right":Str)then X9 ag ds key else ae
structure Gb(G:Gd):Prop extends Gq G where
 bl:vS G "bisect_left" "bisect_left" (iU (dj 12)) (bP (dj 12)) (c9 (dj 12))
 br:vS G "bisect_right" "bisect_right" (iU (dj 10)) (bP (dj 10)) (c9 (dj 10))
 il:vS G "insort_left" "insort_left" (iU (dj 11)) (bP (dj 11)) (c9 (dj 11))
 ir:vS G "insort_right" "insort_right" (iU (dj 9)) (bP (dj 9)) (c9 (dj 9))
theorem NH(g:Gb G)(l:Bool)(fn:vS G x x (iU (JQ l)) (bP (JQ l)) (nW l)){r:Int}(h:X9 l ds key=Z r):vR G 7 x ds key 6 r:=by
 refine bh (d8.mp h) λv1 h1 h=>?_;obtain⟨lo,hi⟩:=v1;refine c8 (sj h) λc e=>?_;subst e;refine g8 (Es h1) λa w hh d0 z1=>dD z1 λd1 d2 d3 hhi z2=>c8 z2 λl1 l2=>?_
 have hA:OC ds=a∧GA ds=w:=by
  rcases ds with _|⟨x0,_|⟨x1,r⟩⟩
  ·simp at l1
  ·simp at l1
  ·have e0:x0=.list a:=d0;have e1:x1=.int w:=d1;subst e0 e1;exact⟨rfl,rfl⟩
 rw[hA.1,hA.2]at c⊢;refine vR.of_body (n:=6) g.K fn (by induction l using ax<;>kernel_rfl) (by induction l using ax<;>kernel_rfl) ⟨l1,l2⟩ λKf Tf env he=>?_;refine sC g.K (Br g.B (aV _)) xS (ke:=14) (kw:=70) 7 [] env (JO ds Kf Tf key 6) _ _ ?_
 exact J he (J (show JO ds Kf Tf key 6=wa ae ag (.list a) (int w) (int lo) hh (Ky Kf Tf key 6) by
  unfold JO;exact J d0 (J d1 (J d2 (J d3 rfl)))) (abd l c hh hhi))
theorem Ti(g:Gb G)(hn:7<=n):∀f ds key r,KD f ds key=Z r->vR G n f ds key 6 r:=λf ds key r h=>by
 have le:∀{f},vR G 7 f ds key 6 r->vR G n f ds key 6 r:=λ⟨f,a,b,c,e⟩=>⟨f,a,b,c,λA s O vs kv Kf Tf mn R=>e A s O vs kv Kf Tf mn (R.le hn)⟩;unfold KD at h
 cases h1:f==("bisect_left":Str)with
 |true=>
  rw[h1]at h;exact J (aC.mp h1) (le (NH g af g.bl h))
 |false=>
  rw[h1]at h
  cases h2:f==("bisect_right":Str)with
  |true=>
   rw[h2]at h;exact J (aC.mp h2) (le (NH g ag g.br h))
  |false=>rw[h2]at h;exact bK h
abbrev CK:Cx:=Cf [] Ll Pw Lk (Mm KD 6 5 E1)
theorem abx(g:Gb G)(hn:7<=n):mw G n CK:=rg g.B (by exact cm (by assumption)) (λp hp=>nomatch hp) oy r8 ox λE hE env ρ e d h=>xn g.K g.L (n1:=5) (ED g.K g.B.w) hE (Ti g hn) h
abbrev Md(l:Bool):bX:=dj (bif l then 11 else 9)
abbrev Jk(l:Bool):bj:=c9 (Md l)
abbrev Xf(l:Bool)(k:Nat):bX:=aY k (bP (Md l))
def inR(xs:List D)(d lo:D)(Kf:aL->Prop)(Tf:bq->az->Prop)(key:D->Option D):aE:=[V1 "lo" lo,("a",.own xs),V1 "x" d,V1 "hi" .none,Ky Kf Tf key 6]
noncomputable def Td(l:Bool):Str:=bif l then "bisect_left"else "bisect_right"
section
variable(l:Bool){Kf:aL->Prop}{Tf:bq->az->Prop}
theorem in1(xs:List D)(d:D):bB CK 6 [] (Jk l) (FL xs d Kf Tf key 6) (Xf l 0)=eR CK 6 [] (Jk l) (FL xs d Kf Tf key 6) (pz (Xf l 0)):=by induction l using ax<;>kernel_rfl
theorem in2(xs:List D)(d:D):bB CK 5 [] (Jk l) (FL xs d Kf Tf key 6) (aY 0 (pz (Xf l 0)))=((b8 [Z (.list xs),Jd key 6 (Z d),Z (int 0),Z .none]).bind λas=>(KD (Td l) as key).map aI).map λlo=>.next (inR xs d lo Kf Tf key):=by induction l using ax<;>kernel_rfl
end
def Ma(l:Bool)(xs:List D)(d:D)(key:D->Option D):Option (List D):=(key d).bind λk=>(KD (Td l) [.list xs,k,int 0,.none] key).map λr=>xs.take r.toNat++d::xs.drop r.toNat
theorem WU{l:Bool}{r:Int}(h:X9 l ds key=Z r):0<=r∧(wX ds=Z (0,((OC ds).length:Int))->r<=(OC ds).length)∧(OC ds).length<=60:=by
 refine bh (d8.mp h) λv1 h1 h=>?_;obtain⟨lo,hi⟩:=v1;refine c8 (sj h) λc e=>?_;subst e;have:=c.lo0;refine⟨kQ this (AA ..),λh2=>?_,c.len⟩;rw[h2]at h1;refine qS h1 ?_;exact Ob.mpr ⟨aU _,Az ..⟩
theorem abr(l:Bool)(ds:List D)(key:D->Option D):KD (Td l) ds key=X9 l ds key:=by induction l using ax<;>rfl
theorem HG(g:Gb G)(l:Bool)(fn:vS G x x (iU (Md l)) (bP (Md l)) (Jk l))(h:Ma l xs d key=Z ys):xu G 8 x xs d key 6 ys:=by
 refine bE h λk hk h=>bh (dM.mp h) λr hr e=>?_;subst e;have VA:=hr;rw[abr]at VA;refine eP (WU VA) λb1 b2' b3=>?_;have b3:xs.length<=60:=b3
 have b2':r<=xs.length:=b2' (by
  induction k using ao<;>first|rfl|(exfalso;exact bK VA))
 refine xu.of_body (n:=7) g.K fn (by induction l using ax<;>kernel_rfl) (by induction l using ax<;>kernel_rfl) λKf Tf=>?_;refine⟨pR (inR xs d (.int r) Kf Tf key) "a" (xs.take r.toNat++d::xs.drop r.toNat),bf ..,λenv he=>?_⟩;have hb:∃p1 p2 p3 p4 p5 p6,bP (Md l)=[Xf l 0,.Expr (.Call (.Attribute (.Name "a" p1) "insert" p2) [.Name "lo" p3,.Name "x" p4] [] p5) p6]∧(p2.endLine==p5.line)=af:=by induction l using ax<;>exact⟨_,_,_,_,_,_,rfl,rfl⟩
 refine fj hb λp1 p2 p3 p4 z1=>mL z1 λp5 p6 hb hp=>J hb ?_
 have e1:bB CK 6 [] (Jk l) (FL xs d Kf Tf key 6) (Xf l 0)=Z (.next (inR xs d (.int r) Kf Tf key)):=by
  refine(in1 l xs d).trans ?_;refine J (show pz (Xf l 0)=[aY 0 (pz (Xf l 0))] by induction l using ax<;>kernel_rfl) ?_;refine aO ((in2 l xs d).trans ?_) cY;exact J (show Jd key 6 (Z d)=Z k from hk) (J (show b8 [Z (.list xs),Z k,Z (int 0),Z .none]=Z [.list xs,k,int 0,.none]from rfl) (J (bx ..) (J hr rfl)))
 have hC:=abx g (aV 7);have jm:env.scope=Jk l:=he;refine mv.cons (vF g.K hC (lP g.K hC 14) xS (sC g.K hC xS 6) (ow:=[]) (J jm e1)) (mv.cons (gj.insert (x:="a") (k:=r) (d:=d) (xs:=xs) (.tail _ (.head _)) ((lP g.K hC 14 env _ _ _ ?_).2 rfl) ((lP g.K hC 14 env _ _ _ ?_).2 rfl) rfl rfl hp (aj b3 (by decide)) b1 (by omega) ?_) mv.nil)
 ·refine J jm ?_;induction l using ax<;>kernel_rfl
 ·refine J jm ?_;induction l using ax<;>kernel_rfl
 ·exact J (cw b1).symm (LL _ (by omega))
def ID(f:Str)(xs:List D)(d:D)(key:D->Option D):Option (List D):=bif f==("insort_left":Str)then Ma af xs d key else bif f==("insort_right":Str)then Ma ag xs d key else ae
theorem abt(g:Gb G)(hn:8<=n):∀f xs d key ys,ID f xs d key=Z ys->xu G n f xs d key 6 ys:=λf xs d key ys h=>by
 have le:∀{f},xu G 8 f xs d key 6 ys->xu G n f xs d key 6 ys:=λ⟨f,a,b,c,e⟩=>⟨f,a,b,c,λA s O l items v kv Kf Tf mn R=>e A s O l items v kv Kf Tf mn (R.le hn)⟩;unfold ID at h
 cases h1:f==("insort_left":Str)with
 |true=>
  rw[h1]at h;exact J (aC.mp h1) (le (HG g af g.il h))
 |false=>
  rw[h1]at h
  cases h2:f==("insort_right":Str)with
  |true=>
   rw[h2]at h;exact J (aC.mp h2) (le (HG g ag g.ir h))
  |false=>rw[h2]at h;exact bK h
noncomputable def bt(x:Int)(i:Nat):Bool:=bif ah (0<=x)then x.toNat.testBit i else !(aS x).toNat.testBit i
theorem kh(x i:Nat):bt x i=x.testBit i:=by unfold bt;exact J (aq (aU x)) (J (bH ..) rfl)
theorem qO{x:Int}(h:0<=x)(i:Nat):bt x i=x.toNat.testBit i:=by unfold bt;exact J (aq h) rfl
theorem sL{x:Int}(h:¬0<=x)(i:Nat):bt x i=!(aS x).toNat.testBit i:=by unfold bt;exact J (bi h) rfl
theorem Rx{x:Int}(h:0<=x):¬0<=aS x:=λg=>absurd (kQ (CA.mp g) (Int.neg_nonpos_of_nonneg h)) (by decide)
theorem Ht{x:Int}(h:¬0<=x):0<=aS x:=CA.mpr (Int.neg_pos_of_neg (Int.not_le.mp h))
theorem JW{x y:Int}(hx:0<=x)(hy:0<=y)(h:x.toNat=y.toNat):x=y:=(cw hx).symm.trans ((aD dO h).trans (cw hy))
theorem Xm{x:Int}(h:¬0<=x):x=aS ((aS x).toNat:Int):=by exact J (cw (Ht h)) (J (bitNot_bitNot ..) rfl)
theorem qP(x:Int)(i:Nat):bt (aS x) i=!bt x i:=by
 by_cases h:0<=x
 ·exact J (qO h ..) (J (sL (Rx h) ..) (J (bitNot_bitNot ..) rfl))
 ·exact J (sL h ..) (J (qO (Ht h) ..) (J (Yx ..) rfl))
theorem sM{x y:Int}(h:∀i,bt x i=bt y i):x=y:=by
 have To:∀x y:Int,0<=x->¬0<=y->¬∀i,bt x i=bt y i:=λx y hx hy h=>by
  have:=h (x.toNat+(aS y).toNat);rw[qO hx,sL hy,mz (aT (bw _ _) vW),mz (aT (dm _ _) vW)]at this
  cases this
 by_cases hx:0<=x<;>by_cases hy:0<=y
 ·exact JW hx hy (eu λi=>by exact rF (qO hx ..) (rF (qO hy ..) (J (h ..) rfl)))
 ·exact absurd h (To x y hx hy)
 ·exact absurd (λi=>(h i).symm) (To y x hy hx)
 ·have:(aS x).toNat=(aS y).toNat:=eu λi=>by
   have:=h i;rw[sL hx,sL hy]at this;exact Bool.not_inj this
  exact J (Xm hx) (J (Xm hy) (J this rfl))
theorem O3(x y:Nat):x-(x&&&y)=x^^^(x&&&y):=by
 have h:(x^^^(x&&&y))&&&(x&&&y)=0:=by
  apply eu;intro i;simp only[lE,lD,jk]
  cases x.testBit i<;>cases y.testBit i<;>rfl
 have h2:(x^^^(x&&&y))|||(x&&&y)=x:=by
  apply eu;intro i;simp only[lE,lD,Cv]
  cases x.testBit i<;>cases y.testBit i<;>rfl
 have:=R7 (x^^^(x&&&y)) (x&&&y);rw[h,h2]at this;exact uO this.symm
theorem sN(x y:Int)(i:Nat):bt (dS x y) i=(bt x i&&bt y i):=by
 have pn:∀x y:Int,0<=x->¬0<=y->bt (dS x y) i=(bt x i&&bt y i):=λx y hx hy=>by
  refine J (bitAnd_pn hx hy) (J (show x-((x.toNat&&&(aS y).toNat:Nat):Int)=((x.toNat-(x.toNat&&&(aS y).toNat):Nat):Int) by
   exact J (q6 Nat.and_le_left) (J (cw hx) rfl)) (J (kh ..) (J (O3 ..) (J (qO hx ..) (J (sL hy ..) (J (lD ..) (J (lE ..) ?_)))))))
  cases x.toNat.testBit i<;>cases(aS y).toNat.testBit i<;>rfl
 by_cases hx:0<=x<;>by_cases hy:0<=y
 ·exact J (bitAnd_pp hx hy) (J (kh ..) (J (lE ..) (J (qO hx ..) (J (qO hy ..) rfl))))
 ·exact pn x y hx hy
 ·exact J (bitAnd_comm ..) (J (pn y x hy hx) (J (XA ..) rfl))
 ·exact J (bitAnd_nn hx hy) (J (qP ..) (J (kh ..) (J (Cv ..) (J (sL hx ..) (J (sL hy ..) (J (Bool.not_or ..) rfl))))))
theorem Nr(x y:Int)(i:Nat):bt (eQ x y) i=(bt x i||bt y i):=by
 refine J (qP ..) (J (sN ..) (J (qP ..) (J (qP ..) ?_)))
 cases bt x i<;>cases bt y i<;>rfl
theorem zj(x y:Int)(i:Nat):bt (bD x y) i=(bt x i^^bt y i):=by
 unfold bD
 have h:dS (eQ x y) (dS x y)=dS x y:=sM λj=>by
  refine J (sN ..) (J (Nr ..) (J (sN ..) ?_));cases bt x j<;>cases bt y j<;>rfl
 have e:=bitAnd_not (eQ x y) (dS x y);rw[h]at e;refine rF e (J (sN ..) ?_);rw[qP,Nr];refine J (sN ..) ?_
 cases bt x i<;>cases bt y i<;>rfl
theorem Hu(x:Int)(k:Nat):aS x/2^k=aS (x/2^k)∧aS x%2^k=2^k-1-x%2^k:=by
 have hp:=fQ k;have h1:=cD x (eb hp);have h2:=cO x hp;have h3:=tV x (2^k);refine(iK hp).mpr ⟨?_,CA.mpr (Int.le_sub_one_of_lt h2),Oc (Int.sub_le_self _ h1) (Int.sub_lt_self _ (by decide))⟩;unfold aS;rw[show∀z:Int,2^k*(-z-1)=-(2^k*z)-2^k from λz=>by exact J (ac0 ..) (J (qx ..) (J (J8 ..) rfl))]
 lia
theorem ef(k:Nat):((2^k:Nat):Int)=2^k:=by push_cast;rfl
theorem mu(x:Int)(k i:Nat):bt (x/2^k) i=bt x (i+k):=by
 have pos:∀x:Nat,bt ((x:Int)/2^k) i=bt x (i+k):=λx=>by
  exact rF (ef ..) (rF (kP ..) (J (kh ..) (J (kh ..) (J (rD ..) rfl))))
 by_cases hx:0<=x
 ·obtain⟨n,rfl⟩:∃n:Nat,x=n:=⟨x.toNat,(cw hx).symm⟩;exact pos n
 ·obtain⟨n,rfl⟩:∃n:Nat,x=aS n:=⟨(aS x).toNat,Xm hx⟩;exact J ((Hu _ k).1 ..) (J (qP ..) (J (qP ..) (J (pos n) rfl)))
theorem zk(x:Int)(k i:Nat):(x%2^k).toNat.testBit i=(ah (i<k)&&bt x i):=by
 by_cases hx:0<=x
 ·obtain⟨n,rfl⟩:∃n:Nat,x=n:=⟨x.toNat,(cw hx).symm⟩;exact rF (ef ..) (rF (kO ..) (J (bH ..) (J (jl ..) (J (kh ..) rfl))))
 ·obtain⟨n,rfl⟩:∃n:Nat,x=aS n:=⟨(aS x).toNat,Xm hx⟩;have hl:n%2^k<2^k:=gE _ (c7 (by decide))
  refine J ((Hu _ k).2 ..) (J (qP ..) (J (kh ..) (rF (ef ..) (rF (kO ..) (J (show(((2^k:Nat):Int)-1-((n%2^k:Nat):Int)).toNat=2^k-(n%2^k+1) by
   exact J (acY ..) (J (jx 1 ..) ((aD Int.toNat (q6 hl).symm).trans (bH _)))) (J (Nat.testBit_two_pow_sub_succ hl ..) (J (jl ..) ?_)))))))
  cases ah (i<k)<;>rfl
theorem Nt(i:Nat):bt (-1) i=af:=by
 exact J (show(-1:Int)=aS ((0:Nat):Int)from rfl) (J (qP ..) (J (kh ..) (J (jk ..) rfl)))
theorem Q6(i:Nat):bt 0 i=ag:=by
 exact J (show(0:Int)=((0:Nat):Int)from rfl) (J (kh ..) (J (jk ..) rfl))
theorem Cg(h:Int)(lo k i:Nat)(hl:lo<2^k):bt (h*2^k+(lo:Int)) i=bif ah (i<k)then lo.testBit i else bt h (i-k):=by
 have hp:=fQ k;have u:=(iK (a:=h*2^k+(lo:Int)) (q:=h) (r:=(lo:Int)) hp).mpr ⟨by exact J (jw ..) (jx (↑lo) (h*2^k)),by exact aU lo,by exact rF (ef ..) ((λ{n m}=>d9.mpr) hl)⟩
 by_cases hi:i<k
 ·refine J (aq hi) ?_;have:=zk (h*2^k+(lo:Int)) k i;rw[u.2,aq hi,bH]at this;exact this.symm
 ·refine J (bi hi) (J (cond_false ..) ?_);have:=mu (h*2^k+(lo:Int)) k (i-k);rw[u.1,show i-k+k=i from eo (cf (by assumption))]at this;exact this.symm
theorem Ly(x:Int)(k:Nat):dS x (2^k-1)=x%2^k:=by
 have h1:=cD x (eb (fQ k))
 refine sM λi=>J (sN ..) ?_;exact J (qO h1 ..) (J (zk ..) (J (show(2:Int)^k-1=((2^k-1:Nat):Int) by
  have:0<2^k:=c7 (by decide);exact rF (ef ..) (aCs this)) (J (kh ..) (J (Nat.testBit_two_pow_sub_one ..) (J (XA ..) rfl)))))
def wI(row:Int)(i:Nat):Nat:=4*(bt row (i+2)).toNat+2*(bt row (i+1)).toNat+(bt row i).toNat
theorem Q5(row:Int)(t i:Nat)(ht:t<8):bt (yg row t) i=(wI row i==t):=by
 refine J (sN ..) (J (sN ..) (J (zj ..) (J (zj ..) (J (zj ..) (J (mu ..) (J (mu ..) ?_))))));unfold wI
 have hs:∀b:Nat,b<2->∀c:Bool,(c^^bt ((b:Nat)-1:Int) i)=(c.toNat==b):=λb hb c=>by
  match b,hb with
  |0,_=>refine J (show(((0:Nat):Int)-1)=-1 from rfl) (J (Nt ..) ?_);induction c using ax<;>rfl
  |1,_=>refine J (show(((1:Nat):Int)-1)=0 from rfl) (J (Q6 ..) ?_);induction c using ax<;>rfl
 refine J (hs _ (by exact J (bS ..) (nY ht)) ..) (J (hs _ (mB nv) ..) (J (hs _ (mB nv) ..) ?_));generalize bt row (i+2)=a;generalize bt row (i+1)=b;generalize bt row i=c;revert t a b c
 decide
theorem Ia(row:Int)(i:Nat):∀(ts:List Nat) (di:Int),(∀t∈ts,t<8)->bt (ts.foldl (λdi t=>eQ di (yg row t)) di) i=(bt di i||ts.contains (wI row i))
 |[],di,_=>by simp
 |t::ts,di,h=>by
  exact J fT (J (Ia row i ts _ λu hu=>h u (ba _ hu)) (J (Nr ..) (J (Q5 row t i (h t bf)) (J wg (J (Bool.or_assoc ..) rfl)))))
theorem YC(row:Int)(i:Nat):wI row i<8:=by
 unfold wI
 cases bt row (i+2)<;>cases bt row (i+1)<;>cases bt row i<;>decide
theorem aip(x:Nat):(x&&&1 !=0)=x.testBit 0:=by
 refine J (Nat.testBit_zero ..) (J (ib ..) ?_);refine jR (pL x) (λh=>?_) λh=>?_<;>rw[h]<;>rfl
theorem kH(r:Nat)(row:Int)(i:Nat):bt (c6 r row) i=r.testBit (wI row i):=by
 have hm:∀w,(AM r).contains w=(ah (w<8)&&(r>>>w&&&1 !=0)):=λw=>by
  unfold AM;rw[cj,eW,cZ,b9];refine J (bG ..) ?_;rw[decide_eq_true_eq]
 exact J (Ia row i (AM r) 0 λt ht=>b9.mp (cZ.mp ht).1) (J (Q6 ..) (J (vY ..) (J (hm ..) (J (aq (YC row i)) (J (aip ..) (J (my ..) (J (iI ..) (J (nz ..) rfl))))))))
abbrev Pu:bX:=dj 78
abbrev zV:bj:=c9 Pu
abbrev I5(k:Nat):bX:=aY k (bP Pu)
section
variable(g1 g2 g3 g4:List D->Option D)
abbrev CN:Cx:=Cf [("int_divmod",g1),("_int2digits",g2),("_digits2int",g3),("_law_plain",g4)] Ll Pw Lk Pz
def Zm(r row sz f:D):aE:=oq ["rule","row","size","factor"] [r,row,sz,f]
def XJ(h l r row sz f:D):aE:=V1 "low" l::V1 "high" h::Zm r row sz f
theorem nxa(r row sz f:D):bB (CN g1 g2 g3 g4) 6 [] zV (Zm r row sz f) (I5 0)=(fS (CN g1 g2 g3 g4) "int_divmod" (b8 [b2 .Mult (Z row) (Z f),b2 .Mult (b2 .Pow (Z (I 2)) (Z sz)) (Z f)]) (b8 [b2 .Mult (Z row) (Z f),b2 .Mult (b2 .Pow (Z (I 2)) (Z sz)) (Z f)])).bind (gN zV (I5 0) (Zm r row sz f)):=by kernel_rfl
theorem nxb(h l r row sz f:D):gN zV (I5 0) (Zm r row sz f) (.tuple [h,l])=Z (.next (XJ h l r row sz f)):=by kernel_rfl
theorem nxc(h l r row sz f:D):bB (CN g1 g2 g3 g4) 6 [] zV (XJ h l r row sz f) (I5 1)=(c2 .NotEq (lI [Z h,Z l]) (lI [b2 .RShift (Z row) (Z sz),b2 .Mult (b2 .BitAnd (Z row) (b2 .Sub (b2 .Pow (Z (I 2)) (Z sz)) (Z (I 1)))) (Z f)])).bind λc=>eR (CN g1 g2 g3 g4) 6 [] zV (XJ h l r row sz f) (bif c then fm (I5 1)else[]):=by kernel_rfl
def nx2(cs h l r row sz f:D):aE:=V1 "cells" cs::XJ h l r row sz f
def nxX(h l sz f:D):Option D:=b2 .Add (b2 .FloorDiv (Z l) (Z f)) (b2 .Mult (b2 .Pow (Z (I 2)) (Z sz)) (b2 .Add (Z (I 4)) (b2 .Mod (Z h) (Z (I 4)))))
theorem nxd(h l r row sz f:D):bB (CN g1 g2 g3 g4) 6 [] zV (XJ h l r row sz f) (I5 2)=(fS (CN g1 g2 g3 g4) "_int2digits" (b8 [nxX h l sz f,Z (I 1)]) (b8 [nxX h l sz f,Z (I 1)])).map λcs=>.next (nx2 cs h l r row sz f):=by kernel_rfl
def nx3(fr cs h l r row sz f:D):aE:=V1 "fresh" fr::nx2 cs h l r row sz f
def nxE(cs r i:D):Option D:=b2 .BitAnd (b2 .RShift (Z r) (b2 .Add (b2 .Add (b2 .Mult (Z (I 4)) (gh (Z cs) (b2 .Add (Z i) (Z (I 2))))) (b2 .Mult (Z (I 2)) (gh (Z cs) (b2 .Add (Z i) (Z (I 1)))))) (gh (Z cs) (Z i)))) (Z (I 1))
def YX(sz:D):Option (List D×Bool×Bool):=match sz with
 |.int b=>yn 0 b 1
 |_=>ae
theorem nxe(cs h l r row f:D)(sz:Int):bB (CN g1 g2 g3 g4) 6 [] zV (nx2 cs h l r row (int sz) f) (I5 3)=((YX (int sz)).bind λq=>Ef (Z q) ag (λxs=>(oQ (λi=>nA (Z af) (nxE cs r i)) xs).map eF)).map λds=>.next (nx3 (.list ds) cs h l r row (int sz) f):=by kernel_rfl
theorem nxf(fr cs h l r row sz f:D):bB (CN g1 g2 g3 g4) 6 [] zV (nx3 fr cs h l r row sz f) (I5 4)=(lI [b2 .Add (fS (CN g1 g2 g3 g4) "_digits2int" (b8 [Z fr,Z (I 1)]) (b8 [Z fr,Z (I 1)])) (b2 .Mult (b2 .Pow (Z (I 2)) (Z sz)) (fS (CN g1 g2 g3 g4) "_law_plain" (b8 [Z r,Z h]) (b8 [Z r,Z h]))),Z fr]).map .ret:=by kernel_rfl
end
theorem GW(a b:Int):ak (a*b)<=ak a+ak b:=lR (by
 refine J (Xz ..) (J (fU ..) ?_);have h1:=lL a;have h2:=lL b;exact Nat.mul_lt_mul'' h1 h2)
theorem yJ(a b:Int)(h:ak a+ak b<=134217728):b2 .Mult (Z (int a)) (Z (int b))=Z (int (a*b)):=by
 show(bif sa a b then Z (aI (a*b))else ae)=_
 have:sa a b=af:=by
  unfold sa;exact J (NF (k:=(ak a:Int)+(ak b:Int)) (Iv rfl rfl h)) (J (TL ..) rfl)
 exact J this rfl
theorem Nz(k:Nat):ak (((2^k:Nat):Int))<=k+1:=jB (Nat.pow_lt_pow_right (by decide) (RL k))
theorem uB(k:Nat)(h:k<1000000):b2 .Pow (Z (I 2)) (Z (I k))=Z (I (2^k)):=by
 show(bif ah (0<=(k:Int))&&ah ((ak ((2:Nat):Int):Int)*(k:Int)<=2^27)then Z (aI (((2:Nat):Int)^(k:Int).toNat))else ae)=_;refine J (show(ak ((2:Nat):Int):Int)=2 from rfl) (J (aq (aU k)) (J (aq (by lia)) (J (bH ..) ?_)));show Z (aI (2^k))=Z (aI ((2^k:Nat):Int));exact J (ef ..) rfl
theorem ym(k:Nat):cc 0 (k:Int) 1=k:=by
 unfold cc;refine J (bz (by decide)) ?_
 split<;>lia
theorem Dt(k:Nat)(h:k<=1000):YX (int (k:Int))=Z ((av k).map I,ag,af):=by
 have hs:ei 0 (k:Int) 1=af:=by
  have fl:∀x:Int,-1000<=x->x<=2000->abT x=af:=λx h1 h2=>by
   have:(2:Int)^63=9223372036854775808:=rfl;refine J this (J (bG ..) (J decide_eq_true_eq (J decide_eq_true_eq ?_)))
   lia
  unfold ei;refine J (ym ..) ?_;rw[fl 0 (by exact sU 1000 0) (by exact Int.zero_le_ofNat 2000),fl k (by exact EN 1000 k) (by lia),fl 1 (by exact sU 1000 1) (by exact Int.le.intro_sub (2000-J2 0) rfl)];exact J (bz (by decide)) (J (fl _ (by exact sU 1000 (k+(1-J2 0))) (by lia)) (J (Bool.or_true ..) rfl))
 have hl:fh 0 (k:Int) 1=(av k).map I:=by
  unfold fh;exact J (ym ..) (J (bH ..) (i9 k))
 show(bif ei 0 (k:Int) 1&&ah (0<=cc 0 (k:Int) 1)then Z (fh 0 (k:Int) 1,ag,af)else ae)=_;exact J hs (J (ym ..) (J hl (J (aq (aU k)) rfl)))
theorem ahg(a b c d:Int):JA (.tuple [.int a,.int b]) (.tuple [.int c,.int d])=Z (a==c&&(b==d&&af)):=by kernel_rfl
theorem Wx(row f:Int)(s:Nat)(hf:f≠0):(row*f).fdiv (2^s*f)=row/2^s∧(row*f).fmod (2^s*f)=row%2^s*f:=by
 have hp:=fQ s
 have pos:∀f:Int,0<f->(row*f).fdiv (2^s*f)=row/2^s∧(row*f).fmod (2^s*f)=row%2^s*f:=λf hf=>by
  have hb:0<2^s*f:=Int.mul_pos hp hf;exact J (dI _ (mD hb)) (J (fL _ (mD hb)) ⟨Int.mul_ediv_mul_of_pos_left _ _ hf,by exact J (jw row ..) (J (jw (2^s) ..) (J (Int.mul_emod_mul_of_pos _ _ hf) (J (jw ..) rfl)))⟩)
 by_cases h:0<f
 ·exact pos f h
 ·have h2:=pos (-f) (by lia);rw[qx,qx,zH,zG,qx]at h2;exact⟨h2.1,Int.neg_inj.mp h2.2⟩
noncomputable def oz(row:Int)(s:Nat):Nat:=(row%2^s).toNat+2^s*(4+(row/2^s%4).toNat)
def iR(r:Nat)(row:Int)(s:Nat):List Nat:=(av s).map λi=>(r>>>(4*(oz row s/2^(i+2)%2)+2*(oz row s/2^(i+1)%2)+oz row s/2^i%2))&&&1
def Hw(r:Nat)(row:Int)(s:Nat):Int:=(gK 1 (iR r row s):Nat)+2^s*c6 r (row/2^s)
structure Nx(row f:Int)(s:Nat):Prop where
 f0:f≠0
 hf:ak f<=7000
 hr:ak row<=4000000
 hs:s<=200
theorem LG(row:Int)(s:Nat):ak ((oz row s:Nat):Int)=s+3:=by
 have hp:0<2^s:=c7 (by decide);have h1:=cD row (eb (fQ s));have h2:=cO row (fQ s);have hl:(row%2^s).toNat<2^s:=by rw[←ef]at h2 h1⊢;exact td row (2^s) hp
 have h4:(row/2^s%4).toNat<4:=zu _ 4 (by decide);generalize hL:(row%2^s).toNat=L at hl;generalize hH:(row/2^s%4).toNat=H at h4;have e:oz row s=L+2^s*(4+H):=by unfold oz;exact J hL (J hH rfl)
 refine J e ?_
 have Oy:2^(s+2)<=L+2^s*(4+H):=by
  rw[fU];exact aj (fM (2^s) (bw 4 H)) (dm _ L)
 have hhi:L+2^s*(4+H)<2^(s+3):=by
  rw[fU];exact aH (Cw hl (fM _ (fN (qw h4) 4))) (gS ((bM ..).trans (abN (2^s) 7).symm))
 have n9:L+2^s*(4+H)≠0:=by
  have:0<2^(s+2):=c7 (by decide);intro h0;rw[h0]at Oy;exact absurd Oy (w9.mpr this)
 unfold ak
 refine J (bF (λh=>n9 (by
  have h:=eq_of_beq h;exact mh h))) (J (dR ..) ?_)
 have:(L+2^s*(4+H)).log2=s+2:=(Ax n9).mpr ⟨Oy,hhi⟩;exact J this rfl
theorem Ce(X s i:Nat)(hi:i<s)(hs:s<=1000):gh (Z (bW (kG X 1 s))) (Z (I i))=Z (I (X/2^i%2)):=by
 show(bif ah (((kG X 1 s).map I).length<=fB)then zO ((kG X 1 s).map I) (i:Int)else ae)=_;refine J (aq (J (au ..) (J (vK ..) (aj hs (by decide))))) (J (cond_true ..) ?_);unfold zO;refine J (bz (aU i)) (J (bH ..) ?_);unfold kG;refine J bI (J bY (J (cR (J aN hi)) (J (Kv ..) ?_)));show Z (I (X/2^(1*i)%2^1))=_;exact J (iE ..) (J (acW ..) rfl)
abbrev W9:Cx:=CN (SN 2) HX D9 sA
theorem yO(r:Nat)(row:Int)(s:Nat):∀x∈iR r row s,x<2^1:=λx hx=>by
 refine bh (cG.mp hx) λi _ jE=>?_;subst jE;exact mB nv
theorem yM(row:Int)(k:Nat)(h:row.natAbs<2^k):row/2^k=0∨row/2^k=-1:=by
 have hp:=fQ k;have hc:=ef k
 by_cases h0:0<=row
 ·exact .inl (Int.ediv_eq_zero_of_lt h0 (by lia))
 ·refine .inr ((iK (a:=row) (q:=-1) (r:=row+2^k) hp).mpr ⟨by lia,by lia,by lia⟩).1
theorem Fp(r:Nat)(row:Int):ak (c6 r row)<=ak row+1:=by
 obtain⟨k,hk⟩:∃k,k=ak row:=⟨_,rfl⟩;have h:=lL row;rw[←hk]at h⊢;have hp:=fQ k;have hc:=ef k
 have key:∃b:Bool,∀i,bt (c6 r row/2^k) i=b:=by
  refine jR (yM row k h) (λe=>?_) λe=>?_
  ·refine⟨r.testBit 0,λi=>?_⟩;have hb:∀j,bt row (j+k)=ag:=λj=>by exact rF (mu ..) (J e (J (Q6 ..) rfl))
   refine J (mu ..) (J (kH ..) ?_);unfold wI;exact J (show i+k+2=i+2+k by exact lT i k 2) (J (show i+k+1=i+1+k by exact lT i k 1) (J (hb ..) (J (hb ..) (J (hb ..) rfl))))
  ·refine⟨r.testBit 7,λi=>?_⟩;have hb:∀j,bt row (j+k)=af:=λj=>by exact rF (mu ..) (J e (J (Nt ..) rfl))
   refine J (mu ..) (J (kH ..) ?_);unfold wI;exact J (show i+k+2=i+2+k by exact lT i k 2) (J (show i+k+1=i+1+k by exact lT i k 1) (J (hb ..) (J (hb ..) (J (hb ..) rfl))))
 refine bQ key λb hb=>?_
 have hd:c6 r row/2^k=0∨c6 r row/2^k=-1:=by
  induction b using ax with
  |false=>exact .inl (sM λi=>by exact J (hb ..) (J (Q6 ..) rfl))
  |true=>exact .inr (sM λi=>by exact J (hb ..) (J (Nt ..) rfl))
 have h3:=tV (c6 r row) (2^k);have h1:=cD (c6 r row) (eb hp);have h2:=cO (c6 r row) hp;exact lR (J (gm ..) (aiu (oK 2 k) h3 h1 h2 hd))
theorem PA(r:Nat)(row f:Int)(s:Nat)(c:Nx row f s):eR W9 7 [] zV (Zm (I r) (int row) (I s) (int f)) (bP Pu)=Z (.ret (.tuple [int (Hw r row s),bW (iR r row s)])):=by
 have hp:=fQ s;have hs:=c.hs;have Jr:=Nz s;have hbf:=c.hf;have hbr:=c.hr;refine c8 (Wx row f s c.f0) λm1 m2=>?_;have SD:=cD row (eb hp);have Z4:=cO row hp;have hlb:ak (row%2^s)<=s:=lR (by rw[←ef]at SD Z4⊢;lia);refine J (show bP Pu=[I5 0,I5 1,I5 2,I5 3,I5 4] by kernel_rfl) ?_;have ea:=nxa (SN 2) HX D9 sA (I r) (int row) (I s) (int f);rw[yJ _ _ (by exact aj (cL (by assumption) (by assumption)) (by decide)),uB s (by exact aT (by assumption) (by decide)),show b2 .Mult (Z (I (2^s))) (Z (int f))=Z (int ((2^s:Nat)*f))from yJ _ _ (by lia),ef]at ea;have hm1:=GW row f;have hm2:=GW (2^s) f;rw[←ef]at hm2
 rw[show fS W9 "int_divmod" (b8 [Z (int (row*f)),Z (int (2^s*f))]) (b8 [Z (int (row*f)),Z (int (2^s*f))])=Z (.tuple [int (row/2^s),int (row%2^s*f)])from iM (ds:=[int (row*f),int (2^s*f)]) rfl (by
  refine iN (bz ⟨Int.mul_ne_zero (eb hp) c.f0,λh=>absurd h (by decide),λh=>absurd h (by decide),by refine rF (ef ..) ?_;lia,by lia⟩) ?_;exact J m1 (J m2 rfl)),bx,nxb]at ea
 refine aO ea ?_;have ec:=nxc (SN 2) HX D9 sA (int (row/2^s)) (int (row%2^s*f)) (I r) (int row) (I s) (int f)
 rw[DU,uB s (by exact aT (by assumption) (by decide)),t8 _ _ (c7 (by decide)),show b2 .BitAnd (Z (int row)) (Z (I (2^s-1)))=Z (int (row%2^s)) by
  show Z (aI (dS row ((2^s-1:Nat):Int)))=_
  exact J (show((2^s-1:Nat):Int)=2^s-1 by
   have:0<2^s:=c7 (by decide);exact rF (ef ..) ((aCs this).symm)) (J (Ly ..) rfl),yJ _ _ (by lia),vc]at ec
 rw[show c2 .NotEq (Z (.tuple [int (row/2^s),int (row%2^s*f)])) (Z (.tuple [int (row/2^s),int (row%2^s*f)]))=(JA (.tuple [int (row/2^s),int (row%2^s*f)]) (.tuple [int (row/2^s),int (row%2^s*f)])).map (!·)from rfl,ahg,beq_self_eq_true,beq_self_eq_true]at ec;replace ec:_=eR W9 6 [] zV (XJ (int (row/2^s)) (int (row%2^s*f)) (I r) (int row) (I s) (int f)) []:=ec;refine aO (ec.trans cY) ?_;have ed:=nxd (SN 2) HX D9 sA (int (row/2^s)) (int (row%2^s*f)) (I r) (int row) (I s) (int f)
 have hX:nxX (int (row/2^s)) (int (row%2^s*f)) (I s) (int f)=Z (I (oz row s)):=by
  unfold nxX
  exact J (show b2 .FloorDiv (Z (int (row%2^s*f))) (Z (int f))=Z (I (row%2^s).toNat) by
   show(bif f !=0&&!bT (row%2^s*f) f then Z (aI ((row%2^s*f).fdiv f))else ae)=_;refine J (qL _ _ (aH (lL f) (cb (by decide) (by exact aj (by assumption) (by decide))))) (J (show(f !=0)=af by rw[bne_iff_ne];exact c.f0) (J (Int.mul_fdiv_cancel _ c.f0) ?_));show Z (aI (row%2^s))=Z (aI ((row%2^s).toNat:Int))
   congr 2;exact tD (cw SD)) (J (uB s (by exact aT (by assumption) (by decide))) (J (show b2 .Mod (Z (int (row/2^s))) (Z (I 4))=Z (I (row/2^s%4).toNat)from nB _ 4 (by decide)) (J (j1 ..) (J (DH _ _ (iG (cQ (zu (row/2^s) 4 (by decide)) 4) (by decide))) (J (j1 ..) rfl)))))
 rw[hX]at ed
 rw[show fS W9 "_int2digits" (b8 [Z (I (oz row s)),Z (I 1)]) (b8 [Z (I (oz row s)),Z (I 1)])=Z (bW (kG (oz row s) 1 (s+3)))from iM (ds:=[I (oz row s),I 1]) rfl (by
  show(bif ah (0<1)&&ah (1<1048576)&&ah (ak ((oz row s:Nat):Int)<8388608)then Z (bW (kG (oz row s) 1 ((ak ((oz row s:Nat):Int)+1-1)/1)))else ae)=_;exact J (LG ..) (J (aq (show s+3<8388608 from aT (ku hs 3) (by decide))) (J (pM ..) (J (uP ..) rfl))))]at ed
 refine aO ed ?_;have ee:=nxe (SN 2) HX D9 sA (bW (kG (oz row s) 1 (s+3))) (int (row/2^s)) (int (row%2^s*f)) (I r) (int row) (int f) s;rw[Dt s (by exact aj (by assumption) (by decide)),bx,F7]at ee
 rw[qz I (λ_=>af) (λi=>I ((r>>>(4*(oz row s/2^(i+2)%2)+2*(oz row s/2^(i+1)%2)+oz row s/2^i%2))&&&1)) (λ_ _=>rfl) λi hi _=>by
  have hi:=b9.mp hi;unfold nxE;refine J (j1 ..) (J (j1 ..) (J (Ce _ _ _ (by lia) (by lia)) (J (Ce _ _ _ (by lia) (by lia)) (J (Ce _ _ _ (by lia) (by lia)) (J (DH _ _ (by lia)) (J (DH _ _ (by lia)) ?_))))));rw[j1,j1];exact J (i7 ..) (J (iQ ..) rfl)]at ee
 rw[u6.mpr λ_ _=>rfl,oA (by refine J (au ..) (J aN ?_);show _<=16777216;exact aj (by assumption) (by decide))]at ee;rw[show(av s).map (λi=>I ((r>>>(4*(oz row s/2^(i+2)%2)+2*(oz row s/2^(i+1)%2)+oz row s/2^i%2))&&&1))=(iR r row s).map I by exact J bI rfl]at ee;refine aO ee (cH ((nxf ..).trans ?_));have SH:(iR r row s).length=s:=by unfold iR;exact J (au ..) (J aN rfl)
 refine J (show fS W9 "_digits2int" (b8 [Z (.list ((iR r row s).map I)),Z (I 1)]) (b8 [Z (.list ((iR r row s).map I)),Z (I 1)])=Z (I (gK 1 (iR r row s)))from iM (ds:=[.list ((iR r row s).map I),I 1]) rfl (by
  show(pv ((iR r row s).map I)).bind _=_;exact J (mN ..) (J (bx ..) (J (aq (by lia)) (J (aq (by lia)) (J (a9.mpr λx hx=>aq (yO r row s x hx)) rfl)))))) (J (show fS W9 "_law_plain" (b8 [Z (I r),Z (int (row/2^s))]) (b8 [Z (I r),Z (int (row/2^s))])=Z (int (c6 r (row/2^s)))from iM (ds:=[I r,int (row/2^s)]) rfl rfl) ?_)
 have hpb:ak (c6 r (row/2^s))<=4000001:=aj (Fp r _) (nq (aj (tw (Int.natAbs_ediv_le_natAbs row (2^s))) c.hr));exact J (show b2 .Pow (Z (I 2)) (Z (int (s:Int)))=Z (I (2^s))from uB s (by exact aT (by assumption) (by decide))) (J (show b2 .Mult (Z (I (2^s))) (Z (int (c6 r (row/2^s))))=Z (int ((2^s:Nat)*c6 r (row/2^s)))from yJ _ _ (by lia)) (J (ef ..) rfl))
open Classical in
def MQ(ds:List D):Option D:=on4 ds λu1 u2 u3 u4=>kY u1 λr=>sH u2 λrow=>kY u3 λs=>sH u4 λf=>if Nx row f s then Z (.tuple [int (Hw r row s),bW (iR r row s)])else ae
structure Gn(G:Gd):Prop extends Gb G where
 pl:Fn G 73 "_law_plain"
 nx:Fn G 78 "_law_next"
theorem MP(g:Gn G):∀ds d,MQ ds=Z d->eJ G 47 "_law_next" ds d:=λds d h=>by
 refine i4 h λu1 u2 u3 u4 h=>lA h λr h=>uz h λrow h=>lA h λs h=>uz h λf h=>c8 (sj h) λc e=>?_;subst e;exact g.nx.ok (n:=46) (C:=W9) (ow:=[]) (kk:=7) g.K (rg g.B (by decide) (zM (Wb g.toGq 2) (zM (λds d e=>(MR g.toGq ds d e).le (by decide)) (zM (λds d e=>(F4 g.toGq ds d e).1.le (by decide)) (zM (λds d e=>(Be g.toGr g.pl ds d e).le (by decide)) X1)))) oy r8 ox qI) (PA r row f s c) (.inl rfl) (by kernel_rfl) rfl (λ_ _ _=>rt 4 λ_ _ _ _=>rfl)
def constOf(x:Str):Int:=((av 60).filterMap λk=>match dj (k+10)with
 |.Assign [.Name y _] (.Constant (.int i) _ _) _=>if y==x then Z i else ae
 |_=>ae).headD 0
def tE:List (Str×Int):=match dj 67 with
 |.Assign _ (.Dict ks vs _) _=>(ks.zip vs).filterMap λp=>match p.1,p.2 with
  |some (.Constant (.str k) _ _),.Name x _=>Z (k,constOf x)
  |_,_=>ae
 |_=>[]
abbrev tH:List (Str×(List D->Option D)):=[("_law_rule",MM),("_law_forms",F2),("_law_twins",F1),("_digits2int",D9),("_law_next",MQ),("_law_plain",sA),("_law_page",MO),("_ellipsis_match",Wa),("_law_before",B2),("ISEOF",V9),("ISTERMINAL",V8),("ISNONTERMINAL",Qq)]
def lwT(x:Str):Option (List (Str×Int)):=bif x==("EXACT_TOKEN_TYPES":Str)then Z tE else ae
noncomputable def Y6(a b:Option D):Option D:=match a with|some d=>Z d|none=>b
def HL(E:bj->aE->aG->Option D)(sc:bj)(ρ:aE)(e:aG):Option D:=Y6 (Y6 (Ml E sc ρ e) (Sz E sc ρ e)) (Mm KD 6 5 E1 E sc ρ e)
abbrev CL:Cx:=Cf tH Ll Pw lwT HL
section
variable(E:bj->aE->aG->Option D)(ac:Str->List D->D->(D->Option D)->Option (List D))
def PS(_:List Str)(sc:bj)(ρ:aE)(st:bX):Option gO:=
 UK st (λe=>wt e λf as ks _=>nh f λf _=>AQ as λn e=>nh n λt _=>ER ks λkw=>UJ kw λk v=>R9 v λparams body zY _=>
  bif je sc&&k==("key":Str)&&oR sc f&&n7 params&&se zY&&nU sc "images"&&!fD e&&!qa ρ e then(ρ.lookup ("images":Str)).bind λb=>Le b λd=>o9 d λds=>(ρ.lookup t).bind λb=>DC b λxs=>
   bif(hU ds).isSome then(E sc ρ e).bind λd=>(ac f xs d (LX E1 zY body ds)).map λys=>.next (pR ρ t ys)else ae else ae) λ_ _ _=>ae
def Mb(ow:List Str)(sc:bj)(ρ:aE)(st:bX):Option gO:=
 UK st (λ_=>ae) λt b o=>(B6 E sc ρ 9 t).bind λc=>kX (PS E ac) ow sc ρ (bif c then b else o)
end
def P8(sc:bj)(ρ:aE)(st:bX):Option gO:=
 Ze st (λts v=>ER ts λt=>Hr t λes _ _=>AQ es λa b=>nh a λx _=>nh b λy _=>Fv v λiw gens scope p=>(ev CL 14 sc ρ (.ListComp iw gens scope p)).bind λd=>o9 d λl=>AQ l λd1 d2=>
  bif g0 sc x&&g0 sc y then Z (.next (vU (vU ρ x (.val d1)) y (.val d2)))else ae)
  λbR iter body o=>Ol o (bif qa ρ iter then ae else yV CL (ev CL 14) (kX (Mb (ev CL 14) ID)) sc ρ bR iter body)
abbrev yD:bX:=dj 80
abbrev cu:bj:=c9 yD
structure Gl(G:Gd):Prop extends Gn G where
 rule:Fn G 72 "_law_rule"
 YI:Fn G 76 "_law_twins"
 before:Fn G 77 "_law_before"
 Pg:Fn G 79 "_law_page"
 ell:Fn G 15 "_ellipsis_match"
 tok:TOk G 48 lwT
 ZH:vT G "law" "law" (iU yD) (bP yD) cu G.lc.1∧("law":Str)++".<locals>."=G.lq
theorem PF(g:Gl G):JV G 48 tH:=zM (λds d e=>(ML g.toGr g.rule ds d e).le (by decide)) (zM (λds d e=>(Jy g.toGr ds d e).le (by decide)) (zM (λds d e=>(Jx g.toGr g.YI ds d e).le (by decide)) (zM (λds d e=>(F4 g.toGq ds d e).1.le (by decide)) (zM (λds d e=>(MP g.toGn ds d e).le (by decide)) (zM (λds d e=>(Be g.toGr g.pl ds d e).le (by decide)) (zM (λds d e=>(MN g.toGr g.Pg ds d e).le (by decide)) (zM (λds d e=>(Qs g.toGr g.ell ds d e).le (by decide)) (zM (λds d e=>(F5 g.toGr g.before ds d e).le (by decide)) (zM (λds d e=>(Qr g.toGr ds d e).le (by decide)) (zM (λds d e=>(Qp g.toGr ds d e).le (by decide)) (zM (λds d e=>(HW g.toGr ds d e).le (by decide)) (X1))))))))))))
theorem DB{a b:Option D}(h:Y6 a b=Z d):a=Z d∨b=Z d:=by
 induction a using aB with
 |none=>exact .inr h|some x=>exact .inl h
theorem NW(g:Gl G):mw G 48 CL:=rg g.B (by decide) (PF g) oy r8 g.tok λE hE env ρ e d h=>by
 refine jR (DB h) (λh=>?_) λh=>?_
 ·refine jR (DB h) (λh=>?_) λh=>?_
  ·exact DW g.toGr E hE env ρ e d h
  ·exact Mn E hE env ρ e d h
 ·exact xn g.K g.L (n1:=5) (ED g.K g.B.w) hE (Ti g.toGb (by decide)) h
theorem PR(g:Gl G){E:bj->aE->aG->Option D}(hE:mT G 48 E){ch:Bool}(h:PS E ID ow env.scope ρ st=Z out):gj G 48 env.scope env ch ρ st out:=by
 refine iEI h (λx pos h=>DV h λf as ks cp h=>sm h λf fp h=>i2 h λn e h=>sm h λt tp h=>i1 h λkw h=>iKw h λk v kp h=>af4 h λparams body zY lp h=>?_) λ_ _ _ _ h=>bK h;refine vN h λh0 h=>iW h0 λh0 a8=>iW h0 λh0 a7=>iW h0 λh0 a6=>iW h0 λh0 a5=>iW h0 λh0 a4=>iW h0 λh0 a3=>iW h0 λa1 h0=>qF (aC.mp h0) ?_;refine bE h λb hl h=>?_;revert hl;refine ZP h λd h=>sf h λds h hl=>bE h λb ht h=>?_;revert ht;exact PX h λxs h ht=>vN h λh1 h=>bQ (aW.mp h1) λis hi=>bE h λd h2 h=>mE h λys h3=>.Vi g.K (aC.mp a3) (mem_of_lookup ht) ((hE env ρ e d h2).2 (tG a8)) (tG a7) (Rv.lam g.K g.L (n1:=5) (ED g.K g.B.w) a1 a4 a5 a6 (mem_of_lookup hl) hi) (abt g.toGb (by decide) _ _ _ _ _ h3)
theorem PT(g:Gl G){E:bj->aE->aG->Option D}(hE:mT G 48 E)(h:Mb E ID ow env.scope ρ st=Z out):gj G 48 env.scope env (!ow.isEmpty) ρ st out:=by
 exact iEI h (λ_ _ h=>bK h) λt b o p h=>bE h λc h1 h2=>.Vp (fe hE 9 h1) (nR (λρ st out h=>PR g hE h) h2)
theorem VH(g:Gl G):Rt G 48 P8:=λenv ρ st out h=>by
 have hE:=lP g.K (NW g) 14;refine iAF h (λts v pos h=>i1 h λt h=>ZQ h λes tk tp h=>i2 h λa b h=>sm h λx p1 h=>sm h λy p2 h=>Su h λiw gens scope p h=>?_) λbR iter body o pos h=>i0 h λh=>?_
 ·exact Q8 h λ_ h=>gj.lift (sD g.K (NW g) hE (λow env ρ ss out h=>nR (λρ st out h=>PT g hE h) h) h)
 ·refine bE h λd he h=>?_;revert he;exact sf h λl h=>i2 h λd1 d2 h he=>Nu h λh1=>.OW ((hE env ρ _ _ he).2 rfl) (fv h1) (gx h1)
abbrev cq(k:Nat):=uE CL (ev CL 14) P8 (ex CL P8 14 70 k) 70
abbrev uq(k:Nat):=ex CL P8 14 70 k
theorem bZ(h:cq k ow sc ρ st=Z (.next ρ'))(h2:uq (k+1) ow sc ρ' ss=Z out):uq (k+1) ow sc ρ (st::ss)=Z out:=by
 show kX (cq k) ow sc ρ (st::ss)=Z out;exact J qc (J h h2)
theorem K0(h:cq k ow sc ρ st=Z (.ret d)):uq (k+1) ow sc ρ (st::ss)=Z (.ret d):=by
 show kX (cq k) ow sc ρ (st::ss)=Z (.ret d);exact J qc (J h rfl)
theorem Dp:uq (k+1) ow sc ρ []=Z (.next ρ):=rfl
section
noncomputable def afl:List String:=["part","end","begin","fits","due","words","text","page","word","empty","highs","lows","u","turned","table","images","twin","told","rows","size","other","one","lost","forms","numbers","signs","marks","many","above","below","shift","factor","more","height","base","deep","n","rule","drawn","script"]
def lwN:List Str:=afl.map aQ
abbrev Vl:=Str->D
def fl(x:Str)(v:Vl)(tb:List D):aE:=(lwN.dropWhile λy=>!(y==x)).map λy=>bif y==("table":Str)then(y,.own tb)else(y,.val (v y))
noncomputable abbrev gX:List Str:=["table","wants"]
abbrev dT(k:Nat):bX:=aY k (bP yD)
variable(v:Vl)(tb:List D)
noncomputable abbrev vs(v:Vl)(x:Str):Option D:=Z (v x)
abbrev dB(f:Str)(a:List (Option D)):Option D:=fS CL f (b8 a) (b8 a)
def drM(s:Option D)(p c:Int):Option D:=b2 .Add (Z (int c)) (dB "sum" [lX (Z (Z p)) (Z (Z 60)) (Z (Z 5)) s])
theorem lw0:cq 6 gX cu (fl "script" v tb) (dT 0)=(zZ ((oQ (λp:Int×Int=>nA (Z af) (drM (vs v "script") p.1 p.2)) [(0,110),(1,76),(2,45),(3,3),(4,5)]).map eF)).map λds=>.next (V1 "drawn" (.list ds)::fl "script" v tb):=by kernel_rfl
def B9(v:Vl)(k:Nat):Option D:=gh (vs v "drawn") (Z (I k))
theorem lw1:cq 6 gX cu (fl "drawn" v tb) (dT 1)=(lI [dB "_law_rule" [B9 v 0],b2 .Add (Z (I 1)) (b2 .Mod (B9 v 1) (Z (I 3))),b2 .FloorDiv (B9 v 2) (Z (I 506))]).bind (gN cu (dT 1) (fl "drawn" v tb)):=by kernel_rfl
theorem afD(a b c:D):gN cu (dT 1) (fl "drawn" v tb) (.tuple [a,b,c])=Z (.next (V1 "deep" c::V1 "n" b::V1 "rule" a::fl "drawn" v tb)):=by kernel_rfl
noncomputable def vC:List (Int×Int×Int):=[(1,1,0),(-1,1,0),(7,1,0),(-2,61,1),(10,9,0),(-3,101,0),(2,2100,1),(3,2700,0)]
theorem lw2:cq 6 gX cu (fl "deep" v tb) (dT 2)=(gh (Z (.tuple (vC.map λp=>.tuple [int p.1,int p.2.1,int p.2.2]))) (b2 .Mod (b2 .FloorDiv (B9 v 1) (Z (I 3))) (Z (I 8)))).bind (gN cu (dT 2) (fl "deep" v tb)):=by kernel_rfl
theorem afs(a b c:D):gN cu (dT 2) (fl "deep" v tb) (.tuple [a,b,c])=Z (.next (V1 "more" c::V1 "height" b::V1 "base" a::fl "deep" v tb)):=by kernel_rfl
theorem lw3:cq 6 gX cu (fl "more" v tb) (dT 3)=(lI [b2 .Add (b2 .Pow (vs v "base") (vs v "height")) (vs v "more"),b2 .Mod (b2 .FloorDiv (B9 v 1) (Z (I 24))) (Z (I 8)),B9 v 4]).bind (gN cu (dT 3) (fl "more" v tb)):=by kernel_rfl
theorem afn(a b c:D):gN cu (dT 3) (fl "more" v tb) (.tuple [a,b,c])=Z (.next (V1 "below" c::V1 "shift" b::V1 "factor" a::fl "more" v tb)):=by kernel_rfl
theorem lw4:cq 6 gX cu (fl "below" v tb) (dT 4)=(lI [b2 .Mult (B9 v 3) (vs v "factor"),b2 .Mult (Z (I 4)) (b2 .Pow (Z (I 2)) (vs v "n"))]).bind (gN cu (dT 4) (fl "below" v tb)):=by kernel_rfl
theorem afm(a b:D):gN cu (dT 4) (fl "below" v tb) (.tuple [a,b])=Z (.next (V1 "many" b::V1 "above" a::fl "below" v tb)):=by kernel_rfl
def nN:List Str:=(tE.map (·.1)).filter λm=>m.length==1&&!(m==(".":Str))
theorem lw5:cq 6 gX cu (fl "many" v tb) (dT 5)=Z (.next (V1 "marks" (.list (nN.map .str))::fl "many" v tb)):=by kernel_rfl
def XK(v:Vl)(i:Option D):Option D:=gh (vs v "marks") i
theorem lw6:cq 6 gX cu (fl "marks" v tb) (dT 6)=(gf [XK v (b2 .Mod (B9 v 2) (Z (I 23))),XK v (b2 .Mod (b2 .Add (b2 .Add (B9 v 2) (Z (I 1))) (b2 .Mod (b2 .FloorDiv (B9 v 2) (Z (I 23))) (Z (I 22)))) (Z (I 23)))]).map λd=>.next (V1 "signs" d::fl "marks" v tb):=by kernel_rfl
def aex(x:Option D):Option D:=match x with
 |some (.str k)=>(tE.lookup k).map .int
 |_=>ae
def Ag(q:Option (List D×Bool×Bool))(t:D->Option Bool)(e:D->Option D):Option (List D):=Ef q ag λxs=>(oQ (λd=>nA (t d) (e d)) xs).map eF
def lQ(q:Option (List D×Bool×Bool))(t:D->Option Bool)(e:D->Option D):Option D:=(Ag q t e).map .list
noncomputable abbrev tt:D->Option Bool:=λ_=>Z af
theorem lw7:cq 6 gX cu (fl "signs" v tb) (dT 7)=(Ag (kf (vs v "signs")) tt λd=>aex (Z d)).map λd=>.next (V1 "numbers" (.list d)::fl "signs" v tb):=by kernel_rfl
theorem lw8:cq 6 gX cu (fl "numbers" v tb) (dT 8)=(dB "_law_forms" [vs v "rule",vs v "numbers"]).map λd=>.next (V1 "forms" d::fl "numbers" v tb):=by kernel_rfl
def kW:Option D:=Z (int (-1))
theorem lw9:cq 6 gX cu (fl "forms" v tb) (dT 9)=(gh (b2 .Add (lQ (kf (vs v "forms")) (λd=>N2 (tO (dB "ISEOF" [gh (Z d) kW]))) λd=>lX (Z ae) (pO kW) (Z ae) (Z d)) (gf [gf []])) (Z (I 0))).map λd=>.next (V1 "lost" d::fl "forms" v tb):=by kernel_rfl
theorem afN:cq 6 gX cu (fl "lost" v tb) (dT 10)=(dB "_law_twins" [vs v "rule"]).bind (gN cu (dT 10) (fl "lost" v tb)):=by kernel_rfl
theorem ZA(a b:D):gN cu (dT 10) (fl "lost" v tb) (.tuple [a,b])=Z (.next (V1 "other" b::V1 "one" a::fl "lost" v tb)):=by kernel_rfl
def orM(x y:Option D):Option D:=x.bind λd=>(Dd d).bind λb=>bif b then Z d else y
theorem afM:cq 6 gX cu (fl "other" v tb) (dT 11)=(lI [b2 .Add (orM (dB "len" [vs v "one"]) (Z (I 6))) (vs v "shift"),gf [b2 .Mult (Z (I 4)) (vs v "above"),b2 .Mult (Z (I 4)) (b2 .BitXor (vs v "above") (b2 .Add (Z (I 1)) (dB "abs" [vs v "below"])))]]).bind (gN cu (dT 11) (fl "other" v tb)):=by kernel_rfl
theorem Zz(a b:D):gN cu (dT 11) (fl "other" v tb) (.tuple [a,b])=Z (.next (V1 "rows" b::V1 "size" a::fl "other" v tb)):=by kernel_rfl
theorem afL(r:D):cq 6 gX cu (V1 "rows" r::fl "size" v tb) (dT 12)=(tO (vs v "one")).bind λc=>uq 6 gX cu (V1 "rows" r::fl "size" v tb) (bif c then fm (dT 12)else[]):=by kernel_rfl
def Uy(v:Vl)(d:D):Option D:=b2 .Add (b2 .LShift (b2 .Add (b2 .LShift (vs v "above") (dB "len" [Z d])) (dB "_digits2int" [lX (Z ae) (Z ae) (pO kW) (Z d),Z (I 1)])) (vs v "shift")) (b2 .Mod (vs v "below") (b2 .Pow (Z (I 2)) (vs v "shift")))
theorem Zy(r:D):cq 5 gX cu (V1 "rows" r::fl "size" v tb) (aY 0 (fm (dT 12)))=(Ag (kf (lI [vs v "one",vs v "other"])) tt (Uy v)).map λd=>.next (V1 "rows" (.list d)::fl "size" v tb):=by kernel_rfl
def KN(v:Vl):Option D:=lQ (kf (vs v "rows")) tt λd=>gh (dB "_law_next" [vs v "rule",Z d,vs v "size",vs v "factor"]) (Z (I 0))
def aem(x:Option D)(f:D->D->Option gO):Option gO:=x.bind λd=>o9 d λl=>AQ l f
theorem Dh{o:gO}(h:P8 sc ρ st=Z o):cq k gX sc ρ st=Z o:=by
 show uE CL (ev CL 14) P8 (ex CL P8 14 70 k) 70 gX sc ρ st=Z o;unfold uE;exact J h rfl
theorem afK:P8 cu (fl "rows" v tb) (dT 13)=aem (KN v) λa b=>Z (.next (V1 "twin" b::V1 "told" a::fl "rows" v tb)):=by kernel_rfl
noncomputable def nD(x:Option Bool):Option D:=x.map .bool
noncomputable def Hq(x y:Option Bool):Option Bool:=x.bind λb=>bif b then Z af else y
def yx:Option D:=gf []
def c14(v:Vl):Option Bool:=Hq (c2 .NotEq (nD (c2 .Eq (vs v "one") yx)) (nD (c2 .Eq (vs v "lost") yx))) (Hq (c2 .NotEq (nD (c2 .Eq (vs v "told") (vs v "twin"))) (nD (c2 .NotEq (vs v "lost") yx)))
 (Hq (c2 .NotEq (gf [vs v "told",vs v "twin"]) (lQ (kf (vs v "rows")) tt λd=>dB "_law_plain" [vs v "rule",Z d])) (Z ag)))
theorem afJ:cq 6 gX cu (fl "twin" v tb) (dT 14)=(c14 v).bind λc=>uq 6 gX cu (fl "twin" v tb) (bif c then fm (dT 14)else[]):=by kernel_rfl
def Fl(x:Option (List D)):Option (List D×Bool×Bool):=match x with
 |some [.int b]=>yn 0 b 1
 |some [.int a,.int b]=>yn a b 1
 |some [.int a,.int b,.int c]=>bif c !=0&&!bT (b-a) c then yn a b c else ae
 |_=>ae
def Vn(v:Vl):Option D:=lQ (Fl (b8 [vs v "many"])) tt λu=>b2 .Mod (dB "_law_plain" [vs v "rule",Z u]) (b2 .Pow (Z (I 2)) (vs v "n"))
def KL(v:Vl)(tb:List D)(wR Bj:List D):Option gO:=match(match dT 15 with
 |.Assign [.Tuple ts _ _] (.Tuple vs _ _) _=>kD gX ts vs
 |_=>ae)with
 |some q=>bif ah (([]:List D).length<=fB)&&ah (wR.length+Bj.length+1<=fB)then(nE (nV cu 3) q.1 wR (fq (fl "twin" v tb))).bind λρ1=>(nE (nV cu 3) q.2.2.2.1 Bj ((q.2.1,.own [])::ρ1.filter λp=>!(p.1==q.2.1))).map .next else ae
 |none=>ae
theorem afI:cq 6 gX cu (fl "twin" v tb) (dT 15)=(b8 [Vn v]).bind λwR=>(b8 [b2 .Mod (b2 .FloorDiv (B9 v 1) (Z (I 192))) (Z (I 2))]).bind λBj=>KL v tb wR Bj:=by kernel_rfl
theorem Zx(im t:D):KL v tb [im] [t]=Z (.next (V1 "turned" t::("table",.own [])::V1 "images" im::fl "twin" v tb)):=by kernel_rfl
def Oz(ρ:aE)(x:D):Option gO:=(nV cu 3 (uD (dT 16)) x ρ).bind λρ1=>(kX (Mb (ev CL 14) ID) [] cu ρ1 (eY (dT 16))).map (fb ρ)
theorem afH:P8 cu (fl "turned" v tb) (dT 16)=Ry (Fl (b8 [vs v "many"])) λds=>gY Oz ds (fl "turned" v tb):=by kernel_rfl
end
section
variable(v:Vl)(tb:List D)
def PM(ds:List D)(d:D):Option D:=match xE (.list ds) d with
 |some (.int i)=>Z (.int i)
 |_=>ae
def DM(im:D)(f:Str)(as:Option (List D)):Option D:=match(Z (jS.val im):Option jS)with
 |some (.val (.list ds))=>bif(hU ds).isSome then as.bind λas=>(KD f as (PM ds)).map .int else ae
 |_=>ae
def Y4(v:Vl):Option D:=b2 .Pow (Z (I 2)) (vs v "n")
def R4(v:Vl):Option (List D×Bool×Bool):=Fl (b8 [Y4 v])
theorem afG:cq 6 gX cu (fl "u" v tb) (dT 17)=(Ag (R4 v) tt λw=>DM (v "images") "bisect_left" (b8 [Z (.list tb),Z w])).map λd=>.next (V1 "lows" (.list d)::fl "u" v tb):=by kernel_rfl
def enM(x:Option (List D)):Option (List D×Bool×Bool):=match x with
 |some [.list ds]=>Z (qd ds,af,ag)
 |some [.tuple ds]=>Z (qd ds,af,ag)
 |_=>ae
def RO(x:Option (List D)):Option (List D×Bool×Bool):=match x with
 |some [.list xs,.list ys]=>Z (oj xs ys,af,ag)
 |_=>ae
def U2(e:aG)(k:Nat)(ρ:aE)(d:D):Option (List D):=match e with
 |.ListComp iw (g::_) scope _=>(nV scope 3 g.target d (Oq scope cu ρ)).bind λρ'=>(vG (B6 (ev CL k) (K4 scope cu) ρ' 9) g.ifs).bind λok=>bif ok then((ue (ev CL k) (K4 scope cu) ρ' iw).map λy=>[y])else Z []
 |_=>ae
def Eo(q:Option (List D×Bool×Bool))(e:aG)(k:Nat)(ρ:aE):Option (List D):=Ef q af λxs=>(oQ (U2 e k ρ) xs).map eF
theorem afF:cq 6 gX cu (fl "lows" v tb) (dT 18)=(Eo (enM (b8 [vs v "lows"])) (asV (dT 18)) 14 (fl "lows" v tb)).map λd=>.next (V1 "highs" (.list d)::fl "lows" v tb):=by kernel_rfl
theorem Zw(w l:D):U2 (asV (dT 18)) 14 (fl "lows" v tb) (.tuple [w,l])=nA (Z af) (DM (v "images") "bisect_right" (b8 [Z (.list tb),Z w,Z l])):=by kernel_rfl
theorem afE:cq 6 gX cu (fl "highs" v tb) (dT 19)=(Ag (R4 v) (λw=>N2 (c2 .Eq (gh (vs v "lows") (Z w)) (gh (vs v "highs") (Z w)))) λw=>Z w).map λd=>.next (V1 "empty" (.list d)::fl "highs" v tb):=by kernel_rfl
def ch2(o1 o2:yd)(x y z:Option D):Option D:=Y6 (x.bind λd1=>y.bind λd2=>(sI o1 d1 d2).bind λc=>bif c then(z.bind λd3=>(sI o2 d2 d3).map .bool)else Z (.bool ag)) ae
noncomputable def Cj(x y:Option Bool):Option Bool:=x.bind λb=>bif b then y else Z ag
abbrev Sq(e:bX):aG:=Hg e
noncomputable def WQ(k:Nat):aG->aG|.BoolOp _ vs _=>(vs.drop k).headD (.Constant .none 0 default)|e=>e
noncomputable def cmL:aG->aG|.Compare l _ _ _=>l|e=>e
def c20(v:Vl)(tb:List D):Option Bool:=Hq (c2 .NotEq (nD (c2 .NotEq (vs v "empty") yx)) (ch2 .Lt .LtE (Z (I 0)) (dB "len" [vs v "lost"]) (vs v "n")))
 (Hq (Cj (c2 .Eq (vs v "lost") yx) (Cj (c2 .NotEq ((Eo (RO (b8 [vs v "lows",vs v "highs"])) (cmL (WQ 1 (WQ 1 (Sq (dT 20))))) 13 (fl "empty" v tb)).map .list) (b2 .Mult (gf [Z (I 4)]) (Y4 v))) (Z af))) (Z ag))
theorem afC:cq 6 gX cu (fl "empty" v tb) (dT 20)=(c20 v tb).bind λc=>uq 6 gX cu (fl "empty" v tb) (bif c then fm (dT 20)else[]):=by kernel_rfl
theorem Zv(a b:D):U2 (cmL (WQ 1 (WQ 1 (Sq (dT 20))))) 13 (fl "empty" v tb) (.tuple [a,b])=nA (Z af) (b2 .Sub (Z b) (Z a)):=by kernel_rfl
def FF(m:Str)(o:Option D)(es:List (Option D)):Option D:=o.bind λd=>(b8 es).bind λds=>Lu m d ds
def emp:Option D:=Z (str "")
def KI(v:Vl):Option D:=orM (lQ (kf (vs v "lost")) tt λx=>FF "index" (vs v "numbers") [Z x]) ((qg (fh 0 4 1) tt λi=>b2 .BitAnd (b2 .RShift (vs v "deep") (Z i)) (Z (I 1))).map .list)
theorem afB:cq 6 gX cu (fl "empty" v tb) (dT 21)=(lI [KI v,dB "_law_page" [vs v "rule",vs v "signs",b2 .Add (vs v "n") (Z (I 2))]]).bind (gN cu (dT 21) (fl "empty" v tb)):=by kernel_rfl
theorem Zu(a b:D):gN cu (dT 21) (fl "empty" v tb) (.tuple [a,b])=Z (.next (V1 "page" b::V1 "word" a::fl "empty" v tb)):=by kernel_rfl
theorem afA:cq 6 gX cu (fl "page" v tb) (dT 22)=(FF "join" emp [lQ (kf (vs v "word")) tt λx=>gh (vs v "signs") (Z x)]).map λd=>.next (V1 "text" d::fl "page" v tb):=by kernel_rfl
def Fb(v:Vl):Option D:=b2 .Add (lQ (R4 v) tt λw=>FF "join" emp [lQ (Fl (b8 [b2 .Sub (vs v "n") (Z (I 1)),kW,kW])) tt λi=>gh (vs v "signs") (b2 .BitAnd (b2 .RShift (Z w) (Z i)) (Z (I 1)))]) (Kb (tO (vs v "lost")) (gf [vs v "text"]) yx)
theorem afz:cq 6 gX cu (fl "text" v tb) (dT 23)=(Fb v).map λd=>.next (V1 "words" d::fl "text" v tb):=by kernel_rfl
def Wq(v:Vl):Option D:=b2 .Add (lQ (R4 v) tt λw=>nD (c2 .NotIn (Z w) (vs v "empty"))) (Kb (tO (vs v "lost")) (gf [Z (.bool ag)]) yx)
theorem afy:cq 6 gX cu (fl "words" v tb) (dT 24)=(Wq v).map λd=>.next (V1 "due" d::fl "words" v tb):=by kernel_rfl
def c25(v:Vl):Option Bool:=c2 .NotEq (dB "str" [lQ (kf (vs v "words")) tt λs=>dB "_ellipsis_match" [b2 .Add (b2 .Add (Z (str jt)) (Z s)) (Z (str jt)),vs v "page"]]) (dB "str" [vs v "due"])
theorem afx:cq 6 gX cu (fl "due" v tb) (dT 25)=(c25 v).bind λc=>uq 6 gX cu (fl "due" v tb) (bif c then fm (dT 25)else[]):=by kernel_rfl
def SK(v:Vl):Option (List D):=Ag (R4 v) tt λw=>lQ (Fl (b8 [vs v "many"])) (λu=>N2 (c2 .Eq (gh (vs v "images") (Z u)) (Z w))) λu=>Z u
theorem afw:cq 6 gX cu (fl "due" v tb) (dT 26)=(SK v).map λd=>.next (V1 "fits" (.list d)::fl "due" v tb):=by kernel_rfl
def c27(v:Vl)(tb:List D):Option Bool:=Hq (c2 .NotEq ((Eo (RO (b8 [vs v "lows",vs v "highs"])) (cmL (WQ 0 (Sq (dT 27)))) 13 (fl "fits" v tb)).map .list) (lQ (kf (vs v "fits")) tt λd=>Kb (tO (vs v "turned")) (lX (Z ae) (Z ae) (pO kW) (Z d)) (Z d)))
 (Hq (c2 .NotEq (b2 .Add (vs v "lows") (gf [vs v "many"])) (b2 .Add (gf [Z (I 0)]) (vs v "highs"))) (Z ag))
theorem afv:cq 6 gX cu (fl "fits" v tb) (dT 27)=(c27 v tb).bind λc=>uq 6 gX cu (fl "fits" v tb) (bif c then fm (dT 27)else[]):=by kernel_rfl
theorem Zt(a b:Int):U2 (cmL (WQ 0 (Sq (dT 27)))) 13 (fl "fits" v tb) (.tuple [int a,int b])=nA (Z af) (rm (.list tb) (Z a) (Z b) ae):=by kernel_rfl
end
section
variable(v:Vl)(tb:List D)
def mn1(v:Vl):Option D:=b2 .Add (vs v "many") (Z (I 1))
theorem afu:cq 6 gX cu (fl "fits" v tb) (dT 28)=(lI [b2 .Mod (B9 v 3) (mn1 v),b2 .Mod (vs v "below") (mn1 v)]).bind (gN cu (dT 28) (fl "fits" v tb)):=by kernel_rfl
theorem Zs(a b:D):gN cu (dT 28) (fl "fits" v tb) (.tuple [a,b])=Z (.next (V1 "end" b::V1 "begin" a::fl "fits" v tb)):=by kernel_rfl
def R6(v:Vl)(tb:List D)(w:D):Option D:=lI [DM (v "images") "bisect_left" (b8 [Z (.list tb),Z w,vs v "begin",vs v "end"]),DM (v "images") "bisect_right" (b8 [Z (.list tb),Z w,vs v "begin",vs v "end"])]
theorem aft:cq 6 gX cu (fl "end" v tb) (dT 29)=(Ag (R4 v) tt (R6 v tb)).map λd=>.next (V1 "part" (.list d)::fl "end" v tb):=by kernel_rfl
noncomputable def cmR:aG->aG|.Compare _ _ (r::_) _=>r|e=>e
def c30(v:Vl)(tb:List D):Option Bool:=c2 .NotEq (vs v "part") ((Eo (RO (b8 [vs v "lows",vs v "highs"])) (cmR (Sq (dT 30))) 13 (fl "part" v tb)).map .list)
theorem afr:cq 6 gX cu (fl "part" v tb) (dT 30)=(c30 v tb).bind λc=>uq 6 gX cu (fl "part" v tb) (bif c then fm (dT 30)else[]):=by kernel_rfl
def Nh(v:Vl)(x:D):Option D:=dB "max" [vs v "begin",dB "min" [vs v "end",Z x]]
theorem Zr(a b:D):U2 (cmR (Sq (dT 30))) 13 (fl "part" v tb) (.tuple [a,b])=nA (Z af) (lI [Nh v a,Nh v b]):=by kernel_rfl
theorem afq:cq 6 gX cu (fl "part" v tb) (dT 31)=(c2 .Gt (dB "len" [vs v "word"]) (Z (I 1))).bind λc=>uq 6 gX cu (fl "part" v tb) (bif c then fm (dT 31)else[]):=by kernel_rfl
abbrev CC(k:Nat):bX:=aY k (fm (dT 31))
def g1:aE:=V1 "cut" (v "cut")::fl "part" v tb
def g2:aE:=V1 "row" (v "row")::g1 v tb
def g3:aE:=V1 "come" (v "come")::g2 v tb
def g4(ws:List D):aE:=("wants",.own ws)::fq (g3 v tb)
def g5(ws:List D)(d:D):aE:=V1 "due" d::("wants",.own ws)::(fq (g3 v tb)).filter λp=>!(p.1==("due":Str))
theorem li0:cq 5 gX cu (fl "part" v tb) (CC 0)=(b2 .Add (Z (I 1)) (b2 .Mod (b2 .FloorDiv (vs v "deep") (Z (I 16))) (b2 .Sub (dB "len" [vs v "word"]) (Z (I 1))))).map λd=>.next (V1 "cut" d::fl "part" v tb):=by kernel_rfl
def Ew(v:Vl)(x:Option D):Option D:=dB "_law_before" [vs v "rule",x]
theorem li1:cq 5 gX cu (g1 v tb) (CC 1)=(Kb (tO (vs v "lost")) (b2 .Add (Ew v (lX (Z ae) (pO (vs v "cut")) (Z ae) (vs v "word"))) (Ew v (lX (pO (vs v "cut")) (Z ae) (Z ae) (vs v "word")))) (Ew v (vs v "word"))).map λd=>.next (V1 "row" d::g1 v tb):=by kernel_rfl
def V0(v:Vl):Option D:=lX (Z ae) (Z ae) (pO kW) (gh (dB "_law_next" [vs v "rule",dB "_digits2int" [lX (Z ae) (Z ae) (pO kW) (vs v "row"),Z (I 1)],b2 .Sub (dB "len" [vs v "row"]) (Z (I 2)),vs v "factor"]) (Z (I 1)))
theorem li2:cq 5 gX cu (g2 v tb) (CC 2)=(FF "join" emp [lQ (kf (V0 v)) tt λx=>gh (vs v "signs") (Z x)]).map λd=>.next (V1 "come" d::g2 v tb):=by kernel_rfl
def uU(a b:Option D)(x:Option D):Option D:=lX (match a with|none=>Z ae|some d=>pO (Z d)) (match b with|none=>Z ae|some d=>pO (Z d)) (Z ae) x
def Ct(xs:List (Option D)):Option D:=match xs with
 |[]=>ae
 |x::r=>r.foldl (λa b=>b2 .Add a b) x
def dt:Option D:=Z (str jt)
def yp:Option D:=Z (I 1)
def TZ(v:Vl):Option (List D):=b8 [Ct [uU ae (vs v "cut") (vs v "text"),dt,uU (vs v "cut") ae (vs v "text")],Ct [dt,vs v "text",dt],vs v "come",uU yp ae (vs v "come"),Ct [vs v "come",dt,uU kW ae (vs v "come")],Ct [dt,uU ae (Z (I 2)) (vs v "come"),dt,uU yp ae (vs v "come"),dt]]
theorem li3:cq 5 gX cu (g3 v tb) (CC 3)=(TZ v).bind λds=>bif ah (ds.length<=fB)then Z (.next (g4 v tb ds))else ae:=by kernel_rfl
def TX(v:Vl):Option D:=gf [Ct [uU yp ae (vs v "come"),dt],Ct [dt,uU ae kW (vs v "come")],Ct [dt,uU (Z (int (-2))) ae (vs v "come"),dt,uU kW ae (vs v "come")]]
def aim(xs:List D)(y:Option D)(f:List D->gO):Option gO:=y.bind λd=>o9 d λys=>bif ah (xs.length+ys.length<=fB)then Z (f (xs++ys))else ae
theorem li4(ws:List D):cq 5 gX cu (g4 v tb ws) (CC 4)=aim ws (TX v) λws=>.next (g4 v tb ws):=by kernel_rfl
def cB(o:yd)(x y:Option D):Option D:=x.bind λa=>y.bind λb=>(sI o a b).map .bool
def Ws(v:Vl):Option D:=gf [Z (.bool af),cB .Eq (vs v "lost") yx,Z (.bool af),Z (.bool ag),Z (.bool ag),Z (.bool ag),(cB .Eq (uU yp ae (vs v "come")) (uU ae kW (vs v "come"))),(cB .Eq (uU yp ae (vs v "come")) (uU ae kW (vs v "come"))),(cB .In (uU (Z (int (-2))) ae (vs v "come")) (uU ae kW (vs v "come")))]
theorem li5(ws:List D):cq 5 gX cu (g4 v tb ws) (CC 5)=(Ws v).map λd=>.next (g5 v tb ws d):=by kernel_rfl
def ci6(v:Vl)(ws:List D)(d:D):Option Bool:=c2 .NotEq (dB "str" [lQ (kf (Z (.list ws))) tt λs=>dB "_ellipsis_match" [Z s,vs v "come"]]) (dB "str" [Z d])
theorem li6(ws:List D)(d:D):cq 5 gX cu (g5 v tb ws d) (CC 6)=(ci6 v ws d).bind λc=>uq 5 gX cu (g5 v tb ws d) (bif c then fm (CC 6)else[]):=by kernel_rfl
def g6(o:Option (List D×D)):aE:=match o with
 |none=>fl "part" v tb
 |some p=>g5 v tb p.1 p.2
def Uj(v:Vl):Option D:=b2 .Add (b2 .Add (lQ (kf (vs v "forms")) tt λf=>gh (Z f) kW) (vs v "numbers")) (gf [Z (I 0),Z (I 255),vs v "above"])
theorem afp(o:Option (List D×D)):cq 6 gX cu (g6 v tb o) (dT 32)=(Uj v).map λd=>.next (V1 "symbols" d::g6 v tb o):=by induction o using aB<;>kernel_rfl
def Wh(s:D):Option D:=(cB .Eq (dB "str" [lQ (kf (Z s)) tt λx=>gf [dB "ISEOF" [Z x],dB "ISTERMINAL" [Z x],dB "ISNONTERMINAL" [Z x]]]) (dB "str" [lQ (kf (Z s)) tt λx=>gf [nD (c2 .Eq (Z x) (Z (I 0))),nD (c2 .Lt (Z x) (Z (I 256))),nD (c2 .Gt (Z x) (Z (I 255)))]]))
theorem afo(o:Option (List D×D))(s:D):cq 6 gX cu (V1 "symbols" s::g6 v tb o) (dT 33)=(Wh s).map .ret:=by induction o using aB<;>kernel_rfl
end
noncomputable def ZE:List Nat:=[3,13,7,13,7,49,15,25,7,27,13,13,7,28,15,1,7,13,15,10,15,25,405,41,7,59,31,26,15,28,1,22,7,27,7,27,13,809,21,21,15,55,15,40,26,1,10,10,7,29,15,1,26,26,45,13,15,72,31,20,1,36,42,10,7,29,7,59,7,19,15,19,15,103,31,1,15,35,31,19,13,13,31,21,15,1,1,22,31,1,1,658,31,28,36,36,15,61,15,68,21,1,1,36,405,1,1,40,45,70,42,20,15,34,31,18,10,10,42,10,1,34,36,18,42,18,10,10,13,13,29,53,27,59,61,1,13,53,13,13,29,16,34,8,27,53,103,41,55,1,1,342,59,1,1,26,72,8,34,8,49,59,19,16,809,1,1,16,25,1,1,8,26,16,10,8,28,16,35,8,1,16,70,8,28,8,28,4,36,4,18,4,13,53,59,1,27,16,68,8,10,41,21,21,1,8,18,4,13,13,1,21,40,8,40,8,26,26,658,10,20,4,18,4,25,1,19,8,21,16,36,4,41,342,22,8,13,8,10,4,1,8,19,4,10,8,20,4,22,8,36,4,10,4,10,2]
noncomputable def ul(c:Nat):List Nat:=(av c.log2).map λi=>c>>>(c.log2-1-i)&&&1
def gZ(r:Nat):List Nat:=ul (ZE.getD r 1)
def Sm(r:Nat):List Nat:=(((js r).filter λf=>f.2==0).map (·.1)).headD []
def Cc(k:Nat):Bool:=(av 32).all λi=>Sm (32*k+i)==gZ (32*k+i)&&(js (32*k+i)).all λf=>ah (f.1.length<=40∧f.2<272)
theorem aa7:Cc 0=af:=by decide+kernel
theorem aa6:Cc 1=af:=by decide+kernel
theorem aa5:Cc 2=af:=by decide+kernel
theorem aa4:Cc 3=af:=by decide+kernel
theorem aa3:Cc 4=af:=by decide+kernel
theorem aa2:Cc 5=af:=by decide+kernel
theorem aa1:Cc 6=af:=by decide+kernel
theorem aa0:Cc 7=af:=by decide+kernel
theorem LH(r:Nat)(h:r<256):Sm r=gZ r∧∀f∈js r,f.1.length<=40∧f.2<272:=by
 have hk:∀k,k<8->Cc k=af:=λk hk=>by
  match k,hk with
  |0,_=>exact aa7|1,_=>exact aa6|2,_=>exact aa5|3,_=>exact aa4|4,_=>exact aa3|5,_=>exact aa2|6,_=>exact aa1|7,_=>exact aa0
 have:=a9.mp (hk (r/32) (by lia)) (r%32) (b9.mpr (by lia));rw[show 32*(r/32)+r%32=r by lia,bG,aC]at this;exact⟨this.1,λf hf=>aw (a9.mp this.2 f hf)⟩
noncomputable def BA:List Nat->List Nat
 |a::b::c::r=>(4*a+2*b+c)::BA (b::c::r)
 |_=>[]
noncomputable def rb(r w:Nat):Nat:=r>>>w&&&1
def Fc(r:Nat)(o t:List Nat):Bool:=o.length==t.length&&ah (2<=o.length)&&ah (o.length<=30)&&o.all (λx=>ah (x<2))&&t.all (λx=>ah (x<2))&&o.take 2==t.take 2&&o.drop (o.length-2)==t.drop (t.length-2)&&(BA o).map (rb r)==(BA t).map (rb r)
def w6(r:Nat)(ps:List TP):Bool:=(av 4).all (λp=>(ps.map (·.1)).contains (p,p))&&ps.all λx=>(oG r x.1.1 x.1.2).all λm=>(m.1&&&3 !=m.2&&&3)&&(ps.map (·.1)).contains (m.1&&&3,m.2&&&3)
def YJ(r:Nat):Bool:=match xf r (av 16) mZ with
 |.inl ps=>(gZ r).isEmpty&&w6 r ps
 |.inr z=>!(gZ r).isEmpty&&Fc r z.1 z.2
theorem WL:(av 256).all YJ=af:=by decide+kernel
noncomputable def Jl(r n u:Nat):Nat:=match n with
 |1=>r>>>(u&&&7)&&&1
 |2=>(r>>>(u&&&7)&&&1)+2*(r>>>(u>>>1&&&7)&&&1)
 |_=>(r>>>(u&&&7)&&&1)+2*(r>>>(u>>>1&&&7)&&&1)+4*(r>>>(u>>>2&&&7)&&&1)
def si(r n:Nat):List Nat:=(av (4*2^n)).map (Jl r n)
def zl(r n:Nat):Bool:=let is:=si r n
 ((av (2^n)).any λw=>is.count w==0)==(ah (0<(gZ r).length)&&ah ((gZ r).length<=n))&&(!(gZ r).isEmpty||(av (2^n)).all λw=>is.count w==4)
theorem Nm:(av 256).all (λr=>zl r 1)=af:=by decide+kernel
theorem Nl:(av 256).all (λr=>zl r 2)=af:=by decide+kernel
theorem Nk:(av 256).all (λr=>zl r 3)=af:=by decide+kernel
noncomputable def o8(n w:Nat):List Nat:=(av n).map λi=>w>>>(n-1-i)&&&1
noncomputable def UG:List Nat->List Nat->Bool
 |[],_=>af
 |_::_,[]=>ag
 |a::as,b::bs=>OM a b&&UG as bs
noncomputable def FO(w:List Nat):List Nat->Bool
 |[]=>UG w []
 |b::bs=>UG w (b::bs)||FO w bs
def qG(r n:Nat):Bool:=(av (2^n)).all (λw=>FO (o8 n w) (pV r (n+2))==((si r n).count w !=0))&&((gZ r).isEmpty||!FO (gZ r) (pV r (n+2)))
theorem QX:(av 256).all (λr=>qG r 1)=af:=by decide+kernel
theorem QW:(av 256).all (λr=>qG r 2)=af:=by decide+kernel
theorem Nj:(av 128).all (λr=>qG r 3)=af:=by decide+kernel
theorem Ni:(av 128).all (λr=>qG (128+r) 3)=af:=by decide+kernel
theorem Fu:∀(w g:List Nat),UG w g=(ah (w.length<=g.length)&&g.take w.length==w)
 |[],g=>rfl|_::_,[]=>rfl
 |a::as,b::bs=>by
  show(OM a b&&UG as bs)=_;refine J (Fu as bs) (J bA (J bA (J uZ (J List.cons_beq_cons (J (show OM a b=(b==a) by rw[cj,aC];exact J Nat.beq_eq ⟨tD,tD⟩) (J (show ah (as.length+1<=bs.length+1)=ah (as.length<=bs.length) by simp) ?_))))))
  cases ah (as.length<=bs.length)<;>cases(b==a)<;>rfl
theorem HI(w:List Nat):∀g:List Nat,FO w g=(av (g.length+1)).any λi=>ah (i+w.length<=g.length)&&(g.drop i).take w.length==w
 |[]=>by
  show UG w []=_;refine J (Fu ..) ?_;simp
 |b::bs=>by
  show(UG w (b::bs)||FO w bs)=_;have e:av ((b::bs).length+1)=0::(av (bs.length+1)).map J2:=rS;refine J (Fu ..) (J (HI w bs) (J e (J CX (J (dF ..) (J j7 (J List.any_map ?_))))))
  congr 1
  refine aD (λf=>List.any (av (bs.length+1)) f) (funext λi=>?_);show _=(ah (i+1+w.length<=bs.length+1)&&((b::bs).drop (i+1)).take w.length==w);refine J List.drop_succ_cons ?_
  congr 1
  rw[cj];refine J decide_eq_true_eq (J decide_eq_true_eq ?_);lia
theorem HJ(w g:List Nat):FO w g=(fw 0 (g.length+1)).any λi=>ah (i+w.length<=g.length)&&(g.drop i).take w.length==w:=by
 exact J (HI ..) (J nH rfl)
theorem DD(p:Nat->Bool)(w hi:Nat):∀(is:List Nat) (fr:Nat),yt p w hi 1 is 1 fr=[]
 |[],fr=>rfl
 |i::is,fr=>by
  exact J Fy (J (show ah (1<1)=ag from rfl) (DD p w hi is fr))
theorem Hs(p:Nat->Bool)(w hi fr:Nat):∀(is:List Nat),(∀i∈is,fr<=i)->yt p w hi 1 is 0 fr=((is.filter λi=>ah (i+w<=hi)&&p i).head?).toList
 |[],_=>rfl
 |i::is,h=>by
  refine J Fy ?_;refine J (show ah (0<1)=af from rfl) (J (aq (h i bf)) ?_);rw[nz,nz]
  cases hc:(ah (i+w<=hi)&&p i)with
  |true=>
   rw[cond_true];exact J (DD ..) (J (lV (by exact hc)) rfl)
  |false=>
   exact J (cond_false ..) (J (Hs p w hi fr is λj hj=>h j (ba _ hj)) (J (rj (by refine J hc ?_;decide)) rfl))
theorem yr(g w:List Nat)(lo hi:Nat):rZ g w lo hi 1=(((fw lo (hi+1-lo)).filter λi=>ah (i+w.length<=hi)&&(g.drop i).take w.length==w).head?).toList:=
 Hs _ _ _ _ _ λi hi=>(xx.mp hi).1
theorem Pn(g:List Nat)(lo hi:Nat)(h:lo<=hi):rZ g [] lo hi 1=[lo]:=by
 exact J (yr ..) (J (show hi+1-lo=(hi-lo)+1 by exact Nat.sub_add_comm h) (J mV (J (lV (by simp[h])) rfl)))
theorem MK(g:List Nat)(k:Nat)(h:k<=g.length):zL.fd g [] (k:Int) (g.length:Int)=k:=by
 show(match rZ g [] (gI g.length (k:Int)) (min (gI g.length (g.length:Int)) g.length) 1 with|k::_=>(k:Int)|[]=>-1)=_
 have e1:∀j:Nat,gI g.length (j:Int)=j:=λj=>by
  unfold gI;exact J (bF (jX j)) (iI j)
 exact J (e1 ..) (J (e1 ..) (J (abO ..) (J (Pn g k g.length h) rfl)))
noncomputable def qt:List Nat:=[2,2,2]
def nL(w:List Nat):Bool:=zL.has (qt++w++qt)&&ah (zL.pl (qt++w++qt)<=1000)&&(zL.sp (qt++w++qt)==[[],w,[]])
theorem MW(w g:List Nat)(hs:nL w=af)(hw:w.length<=900)(hg:g.length<=900):uG zL g (qt++w++qt)=Z (FO w g):=by
 unfold nL at hs;have s1:=fv (fv hs);have s2:=gx (fv hs);have s3:=aC.mp (gx hs);have hl:(qt++w++qt).length=w.length+6:=by simp[qt]
 unfold uG;refine J s1 (J s2 (J s3 (J (show zL.len g=g.length from rfl) (J (show zL.len (qt++w++qt)=w.length+6 from hl) (J (aq (show g.length<=1000 by exact aj (by assumption) (by decide))) (J (aq (show w.length+6<=1000 by lia)) ?_))))))
 have ha:([[],w,[]]:List (List Nat)).all (λx=>ah (zL.len x<=1000))=af:=by
  show(ah (0<=1000)&&(ah (w.length<=1000)&&(ah (0<=1000)&&af)))=af;exact J (aq (show w.length<=1000 by exact aj hw (by decide))) rfl
 refine J ha ?_;show Z (yX zL g [[],w,[]] 0 (g.length:Int))=_;unfold yX;refine J (bi (show ¬((g.length:Int)<0) by exact jX g.length)) (J (cond_false ..) (J (yY ..) ?_));have f0:=MK g 0 (dW _);rw[show((0:Nat):Int)=0 from rfl]at f0;refine J f0 ?_;show Z (bif ah ((0:Int)<0)then ag else vI zL g g.length [w,[]] (0+(0:Nat)))=_;refine J (show ah ((0:Int)<0)=ag from rfl) (J (cond_false ..) (J (yY ..) ?_))
 have hfd:zL.fd g w (0+((0:Nat):Int)) (g.length:Int)=match rZ g w 0 g.length 1 with|k::_=>(k:Int)|[]=>-1:=by
  show(match rZ g w (gI g.length (0+((0:Nat):Int))) (min (gI g.length (g.length:Int)) g.length) 1 with|k::_=>(k:Int)|[]=>-1)=_
  have e1:∀j:Nat,gI g.length (j:Int)=j:=λj=>by
   unfold gI;exact J (bF (jX j)) (iI j)
  have e2:=e1 0;exact J (show(0:Int)+((0:Nat):Int)=((0:Nat):Int)from rfl) (J e2 (J (e1 ..) (J (abO ..) rfl)))
 refine J hfd (J (yr ..) (J (HJ ..) ?_));show Z _=Z _
 congr 1
 refine J (show g.length+1-0=g.length+1 from rfl) ?_
 cases hf:(fw 0 (g.length+1)).filter λi=>ah (i+w.length<=g.length)&&(g.drop i).take w.length==w with
 |nil=>
  show(bif ah ((-1:Int)<0)then ag else _)=_;refine J (show ah ((-1:Int)<0)=af from rfl) (J (cond_true ..) ?_)
  symm
  rw[xy];intro i hi hc;exact E4.mp hf i hi hc
 |cons k ks=>
  have hk:=cZ.mp (show k∈(fw 0 (g.length+1)).filter _ by exact J hf bf);have SE:k+w.length<=g.length:=aw (fv hk.2);show(bif ah ((k:Int)<0)then ag else vI zL g g.length [[]] ((k:Int)+(w.length:Nat)))=_;refine J (bi (jX k)) (J (cond_false ..) (J (yY ..) (J (show(k:Int)+((w.length:Nat):Int)=((k+w.length:Nat):Int) by exact KE k w.length) (J (MK g _ SE) (J (bi (jX (k+w.length))) (J (cond_false ..) ?_))))));show af=_
  symm
  rw[yc];exact⟨k,hk.1,hk.2⟩
noncomputable def YL:List Nat:=[3215585,3227843,1646701,1642609,1650787,26547989,26552021,26555957,26560101,26564189,2691257,2695353,1773683,1777767,53025833,53030057,53034153,53038217,53046433,53050529,53054625,3621081,2633892,1908857,1912947,2957501,2961585,2965681,4727080,4731176,4735268,2764974,2769070,3875059,3879143,462873,987195,6758791,6762887,6766999,6771099,2302107,2310283,1249371,1445982,1454174,2039927,2044025,43129234,43133842,43137746,43149906,43153990,43158092,2035815,2039923,1847414,2367644,2371740,991291,4001997,4006117,4464932,4469012,4473108,2363572,2375830,26547733,26551829,26555925,26560069,26564165,26568273,26572369,2637988,2953373,2957477,2961593,2965683,4596006,4608286,987187,991289,2035831,2039931,2044027,2756794,2760890,2232466,2236562,2756762,2760882,2764966,2769068,3870955,3883243,4002029,4006125,4010225,4014321,3477701,1904741,1908849,1912945,2240646,2244748,3481805,3485913,3490003,6754759,6758807,6762903,6767003,6771097,3608775,3612871,3616979,3621083,22418902,22422998,22426998,22431094,22435166,1712238,4722984,4727064,4731184,4735276,4739366,2232498,2236570,2240654,2244750,3215553,3219649,3223745,3227841,3875043,3879139,53026345,53029929,53034025,53038249,53042329,53046441,53050537,53054627,1716332,1060932,1056844,2298003,2302091,2306187,2310281,1052760,1056840,4591910,4595990,4600078,4604178,4608284,1839204,1839220,1843316,1847412,3477733,3481797,3485905,3490001,3870923,3875051,3879147,3883241,1773667,1777763,1781865,4460900,4464948,4469004,4473112,4477204,2695345,2699437,2703523,1388625,1380445,1384537,1187910,1192012,856113,860209,1384541,2625688,2629808,2625720,2629816,2633900,2637990,1708130,1712226,1708146,1712230,1716334,43129746,43133714,43137618,43141746,43145842,43149914,43153998,43158094,1314892,1319000,1183834,1187918,1192014,1642593,1646689,1650785,1257545,1380429,1384529,1388627,1052744,1056836,1060934,2367628,2371736,2691225,2695329,2699425,2703521,22418646,22422806,22426902,22431046,22435142,22439262,22443358,1450078,532516,856121,860211,1249355,1253451,1257547,528428,1314908,1319004,1323094,1445966,1450066,1454172,528420,532518,2363540,2367636,2371732,2375828,659494,663596,266262,659502,663598]
noncomputable def jK(l:List Nat):Nat:=l.foldl (λa b=>2*a+b) 1
def uf(r:Nat)(row:List Nat):List Nat:=(BA row).map (rb r)
def wi(text:List Nat)(cut:Nat)(iu:List Nat):List (List Nat):=[text.take cut++qt++text.drop cut,qt++text++qt,iu,iu.drop 1,iu++qt++iu.drop (iu.length-1),qt++iu.take 2++qt++iu.drop 1++qt,iu.drop 1++qt,qt++iu.dropLast,qt++iu.drop (iu.length-2)++qt++iu.drop (iu.length-1)]
def Ca(FH:Bool)(iu:List Nat):List Bool:=[af,!FH,af,ag,ag,ag,iu.drop 1==iu.dropLast,iu.drop 1==iu.dropLast,FO (iu.drop (iu.length-2)) iu.dropLast]
def wOk(FH:Bool)(text:List Nat)(cut:Nat)(iu:List Nat):Bool:=(wi text cut iu).map (λw=>uG zL iu w)==(Ca FH iu).map Z
theorem WK:((av 16).all λw=>(av 3).all λc=>wOk ag ((av 4).map λi=>w>>>i&&&1) (c+1) ((av 4).map λi=>w>>>i&&&1))=af:=by decide+kernel
def RT(k:Nat):Bool:=wOk af (ul (k/65536)) (k/4096%16) (ul (k%4096))
theorem QV:YL.all RT=af:=by decide+kernel
noncomputable def w4(w:Nat):List Nat:=(av 4).map λi=>w>>>i&&&1
def Ci(r:Nat):Bool:=if(gZ r).isEmpty then(av 16).all λw=>(ii r (w4 w)).elim ag λrow=>row.length==6&&row.all (λx=>ah (x<2))&&uf r row==w4 w
 else(av ((gZ r).length-1)).all λc=>(ii r ((gZ r).take (c+1))).elim ag λa=>(ii r ((gZ r).drop (c+1))).elim ag λb=>(a++b).all (λx=>ah (x<2))&&(a++b).length==(gZ r).length+4&&YL.contains (jK (gZ r)*65536+(c+1)*4096+jK (uf r (a++b)))
theorem Q1:(av 64).all Ci=af:=by decide+kernel
theorem Q0:(av 64).all (λr=>Ci (64+r))=af:=by decide+kernel
theorem QZ:(av 64).all (λr=>Ci (128+r))=af:=by decide+kernel
theorem QY:(av 64).all (λr=>Ci (192+r))=af:=by decide+kernel
theorem gs{f:Nat->Bool}(h:(av n).all f=af)(r:Nat)(hr:r<n):f r=af:=a9.mp h r (b9.mpr hr)
theorem abk(r:Nat)(h:r<256):Ci r=af:=by
 by_cases h0:r<64
 ·exact gs Q1 r h0
 ·by_cases h1:r<128
  ·have:=gs (f:=λr=>Ci (64+r)) Q0 (r-64) (eN (cf h0) h1);rwa[iJ (cf h0)]at this
  ·by_cases h2:r<192
   ·have:=gs (f:=λr=>Ci (128+r)) QZ (r-128) (eN (cf h1) h2);rwa[iJ (cf h1)]at this
   ·have:=gs (f:=λr=>Ci (192+r)) QY (r-192) (eN (cf h2) h);rwa[iJ (cf h2)]at this
theorem Pe(r n:Nat)(h:r<256)(hn:n=1∨n=2∨n=3):qG r n=af:=by
 rcases hn with rfl|rfl|rfl
 ·exact gs (f:=λr=>qG r 1) QX r h
 ·exact gs (f:=λr=>qG r 2) QW r h
 ·by_cases h0:r<128
  ·exact gs (f:=λr=>qG r 3) Nj r h0
  ·have:=gs (f:=λr=>qG (128+r) 3) Ni (r-128) (eN (cf h0) h);rwa[iJ (cf h0)]at this
theorem WR(r n:Nat)(h:r<256)(hn:n=1∨n=2∨n=3):zl r n=af:=by
 rcases hn with rfl|rfl|rfl
 ·exact gs (f:=λr=>zl r 1) Nm r h
 ·exact gs (f:=λr=>zl r 2) Nl r h
 ·exact gs (f:=λr=>zl r 3) Nk r h
theorem JK:(av 256).all (λr=>nL (gZ r))=af:=by decide+kernel
theorem Gp:([1,2,3].all λn=>(av 8).all λw=>nL (o8 n w))=af:=by decide+kernel
theorem BF(x k:Nat):x/2^k%2=(x.testBit k).toNat:=(Nat.toNat_testBit x k).symm
theorem ng(r w:Nat):r>>>w&&&1=(r.testBit w).toNat:=by
 exact J (ib ..) (J (bS ..) (J (BF ..) rfl))
theorem xP:∀(xs:List Nat) (i:Nat),(∀x∈xs,x<2)->(gK 1 xs).testBit i=(xs.getD i 0==1)
 |[],i,_=>by
  show(0:Nat).testBit i=_;exact J (jk ..) rfl
 |x::xs,i,h=>by
  have hx:=h x bf;show(x+2^1*gK 1 xs).testBit i=_;refine J (bM ..) (J (oU _ (hx) ..) ?_)
  cases i with
  |zero=>
   refine J (bz (by decide)) ?_
   match x,hx with
   |0,_=>rfl|1,_=>rfl
  |succ i=>
   exact J (bF (by lia)) (J (pM ..) (J (xP xs i λy hy=>h y (ba _ hy)) rfl))
theorem BU(row:Int)(s i:Nat)(hi:i<s+2):(oz row s).testBit i=bt row i:=by
 have hp:=fQ s;have h1:=cD row (eb hp);have h2:=cO row hp;have hl:(row%2^s).toNat<2^s:=by rw[←ef];exact zu row (2^s) (c7 (by decide))
 unfold oz;refine J (bM ..) (J (oU _ hl ..) ?_)
 by_cases h:i<s
 ·exact J (bz h) (J (zk ..) (J (aq h) (J (nz ..) rfl)))
 ·refine J (bF h) ?_;have h4:(row/2^s%4).toNat<2^2:=zu _ 4 (by decide);refine J (show 4+(row/2^s%4).toNat=2^2*1+(row/2^s%4).toNat from rfl) (J (oU _ h4 ..) (J (bz (eN (cf h) hi)) ?_));have:=zk (row/2^s) 2 (i-s);rw[aq (show i-s<2 from eN (cf h) hi),nz,mu,show i-s+s=i from eo (cf h)]at this;exact this
theorem D4(r:Nat)(row:Int)(s:Nat):iR r row s=(av s).map λi=>(r.testBit (wI row i)).toNat:=by
 apply dx;intro i hi;have hi:=b9.mp hi;exact J (BF ..) (J (BF ..) (J (BF ..) (J (BU _ _ _ (by lia)) (J (BU _ _ _ (by lia)) (J (BU _ _ _ (by lia)) (J (ng ..) rfl))))))
theorem Fz(r:Nat)(row:Int)(s:Nat):Hw r row s=c6 r row:=by
 refine sM λi=>?_
 have hl:gK 1 (iR r row s)<2^s:=by
  have:=qy 1 (iR r row s) (yO r row s);rw[show(iR r row s).length=s by exact J (au ..) (J aN rfl),iE]at this;exact this
 unfold Hw;refine J (jx ..) (J (jw ..) (J (Cg _ _ _ _ hl) ?_))
 by_cases h:i<s
 ·refine J (aq h) (J (cond_true ..) (J (xP _ _ (yO r row s)) (J (D4 ..) (J (kH ..) (J dr (J bY (J (i6 h) ?_)))))));show((r.testBit (wI row i)).toNat==1)=_
  cases r.testBit (wI row i)<;>rfl
 ·refine J (bi h) (J (cond_false ..) (J (kH ..) (J (kH ..) ?_)));unfold wI;exact J (mu ..) (J (mu ..) (J (mu ..) (J (show i-s+2+s=i+2 by lia) (J (show i-s+1+s=i+1 by lia) (J (show i-s+s=i from eo (cf h)) rfl)))))
theorem Bz:∀(o:List Nat) (k:Nat),k+2<o.length->(BA o)[k]?=Z (4*o.getD k 0+2*o.getD (k+1) 0+o.getD (k+2) 0)
 |[],k,h=>by simp at h
 |[_],k,h=>by simp at h
 |[_,_],k,h=>by have h:k+2<2:=h;lia
 |a::b::c::r,0,_=>rfl
 |a::b::c::r,k+1,h=>by
  have:=Bz (b::c::r) k (by simpa using h);exact this
def mm(above:Int)(o:List Nat)(sh:Nat)(lo:Nat):Int:=(above*2^o.length+(gK 1 o.reverse:Nat))*2^sh+(lo:Nat)
theorem BL(above:Int)(o:List Nat)(sh lo i:Nat)(ho:∀x∈o,x<2)(hl:lo<2^sh):bt (mm above o sh lo) i=bif ah (i<sh)then lo.testBit i else bif ah (i-sh<o.length)then(o.reverse.getD (i-sh) 0==1)else bt above (i-sh-o.length):=by
 have hu:gK 1 o.reverse<2^o.length:=by
  have:=qy 1 o.reverse λx hx=>ho x (fx.mp hx);rw[cI,iE]at this;exact this
 exact J (Cg _ _ _ _ hl) (J (Cg _ _ _ _ hu) (J (xP _ _ λx hx=>ho x (fx.mp hx)) rfl))
theorem BM(o:List Nat)(j:Nat)(h:j<o.length):o.reverse.getD j 0=o.getD (o.length-1-j) 0:=by
 exact J dr (J dr (J (mU h) rfl))
theorem NN(x:Nat)(h:x<2):(x==1).toNat=x:=by
 match x,h with
 |0,_=>rfl|1,_=>rfl
theorem HQ{o:List Nat}(h:∀x∈o,x<2)(k:Nat):o.getD k 0<2:=by
 refine J dr ?_
 cases hk:o[k]? with
 |none=>decide
 |some x=>exact h x (j5 hk)
theorem O0{o t:List Nat}(h:o.take m=t.take m)(hk:k<m):o.getD k 0=t.getD k 0:=by
 have:=aD (λl=>l[k]?) h;rw[CW hk,CW hk]at this;exact J dr (J dr (J this rfl))
theorem QK{o t:List Nat}(h:o.drop m=t.drop m)(hk:m<=k):o.getD k 0=t.getD k 0:=by
 have:=aD (λl=>l[k-m]?) h;rw[pd,pd,show m+(k-m)=k from oP (by assumption)]at this;exact J dr (J dr (J this rfl))
theorem abB(k m d e:Nat)(h:d+e=2):k+3+m-1-(m+d)=k+e:=by
 refine J (nX ..) (uO ?_);refine J (show 3=d+e+1 from aD (·+1) h.symm) ?_;simp only[dA,bM,Nat.add_left_comm]
theorem IH(r:Nat)(o t:List Nat)(h:Fc r o t=af)(above:Int)(sh lo:Nat)(hl:lo<2^sh):c6 r (mm above o sh lo)=c6 r (mm above t sh lo):=by
 unfold Fc at h;simp only[bG,aC,decide_eq_true_eq,a9]at h;refine c8 h λz ZU=>c8 z λz VR=>c8 z λz ZW=>c8 z λz ht=>c8 z λz ho=>c8 z λz h30=>c8 z λjM h2=>?_;have bo:=λi=>BL above o sh lo i ho hl;have bt':=λi=>BL above t sh lo i ht hl;rw[←jM]at VR
 have same:∀i,i<sh+2∨sh+o.length<=i+2->bt (mm above o sh lo) i=bt (mm above t sh lo) i:=λi hi=>by
  refine J (bo ..) (J (bt' ..) (rF jM ?_))
  by_cases h1:i<sh
  ·exact J (aq h1) rfl
  ·refine J (bi h1) (J (cond_false ..) ?_);rw[cond_false]
   by_cases h3:i-sh<o.length
   ·refine J (aq h3) (J (cond_true ..) (J (cond_true ..) (J (BM _ _ h3) (J (BM _ _ (rF jM h3)) (rF jM (J (nX ..) ?_))))));have hs:=cf h1;refine jR hi (λh4=>?_) λh4=>?_
    ·exact J (QK VR (Ks (by exact J (bM ..) (eN hs h4)) _)) rfl
    ·exact J (O0 ZW (aT (uM (Nat.le_of_add_le_add_left (a:=sh) (show sh+o.length<=sh+(i-sh+2) by exact rF (dA ..) (J (iJ hs) h4))) (1+(i-sh))) (by refine J (bM 1 ..) (J (Nat.add_sub_add_left ..) ?_);decide))) rfl
   ·exact J (bi h3) rfl
 refine sM λi=>J (kH ..) ?_;refine J (kH ..) ?_
 by_cases P9:sh<=i∧i+2<sh+o.length
 ·refine bQ (rK P9.1) λj jE=>?_;subst jE;have hj:j+2<o.length:=qp P9.2;refine bQ (rK (show j+3<=o.length from hj)) λm hm=>?_;have hm:o.length=m+3+j:=hm.trans ((bM _ _).trans (J (bM j ..) ((dA ..).symm)))
  have cell:∀(z:List Nat),(∀x∈z,x<2)->z.length=o.length->∀d e,d+e=2->(bt (mm above z sh lo) (sh+(j+d))).toNat=z.getD (m+e) 0:=λz hz Ot d e hd=>by
   have jJ:j+d<z.length:=by exact J Ot (aT (fN (hd▸bw d e) j) hj)
   exact J (BL above z sh lo _ hz hl) (J (bi (dH.mpr (bw _ _))) (J (cond_false ..) (J (eh ..) (J (aq jJ) (J (cond_true ..) (J (BM _ _ jJ) (J (NN _ (HQ hz _)) (J Ot (J hm (J (abB m j d e hd) rfl))))))))))
  have w:∀(z:List Nat),(∀x∈z,x<2)->z.length=o.length->(BA z)[m]?=Z (wI (mm above z sh lo) (sh+j)):=λz hz Ot=>by
   refine J (Bz _ _ (show m+2<z.length by exact J Ot (J hm (J (dA ..) (cQ (aH (by decide) (bw 3 j)) m))))) ?_;show _=Z (4*(bt (mm above z sh lo) (sh+(j+2))).toNat+2*(bt (mm above z sh lo) (sh+(j+1))).toNat+(bt (mm above z sh lo) (sh+(j+0))).toNat);exact J (cell z hz Ot 2 0 rfl) (J (cell z hz Ot 1 1 rfl) (J (cell z hz Ot 0 2 rfl) rfl))
  have e:=aD (λl=>l[m]?) ZU;rw[bY,bY,w o ho rfl,w t ht jM.symm]at e;have e:Z (rb r (wI (mm above o sh lo) (sh+j)))=Z (rb r (wI (mm above t sh lo) (sh+j))):=e;rw[lg]at e;unfold rb at e;rw[ng,ng]at e;revert e
  cases r.testBit (wI (mm above o sh lo) (sh+j))<;>cases r.testBit (wI (mm above t sh lo) (sh+j))<;>intro e<;>first|rfl|cases e
 ·have al:∀d,d<=2->bt (mm above o sh lo) (i+d)=bt (mm above t sh lo) (i+d):=λd hd=>by
   refine same _ ?_
   by_cases g:sh<=i
   ·exact .inr (aj (cf λg2=>P9 ⟨g,g2⟩) (ku (bw i d) 2))
   ·exact .inl (Cw (rI g) hd)
  have:wI (mm above o sh lo) i=wI (mm above t sh lo) i:=by
   unfold wI;exact J (show bt (mm above o sh lo) i=bt (mm above t sh lo) i from al 0 (by decide)) (J (al 1 (by decide)) (J (al 2 (by decide)) rfl))
  exact J this rfl
theorem xr{r:Nat}(h:w6 r ps=af)(p:Nat)(hp:p<4):(p,p)∈ps.map (·.1):=by
 exact eW.mp (a9.mp (fv h) p (b9.mpr hp))
theorem xq{r:Nat}(h:w6 r ps=af){p q t:Nat}(hp:(p,q)∈ps.map (·.1))(ht:t/2=p)(hu:u/2=q)(hn:t≠u)(hb:r>>>t&&&1=r>>>u&&&1):t&&&3≠u&&&3∧(t&&&3,u&&&3)∈ps.map (·.1):=by
 refine bh (cG.mp hp) λx hx e=>?_;have h2:=a9.mp (gx h) x hx;rw[show x.1.1=p by exact J e rfl,show x.1.2=q by exact J e rfl]at h2
 have hm:(t,u)∈oG r p q:=by
  unfold oG;rw[x9];refine⟨_,cG.mpr ⟨t,?_,rfl⟩,cG.mpr ⟨u,cZ.mpr ⟨?_,?_⟩,rfl⟩⟩
  ·rw[aM,aF];lia
  ·rw[aM,aF];lia
  ·refine J (bG ..) ?_;rw[bne_iff_ne,aC];exact⟨hn,hb⟩
 have h3:=a9.mp h2 (t,u) hm;exact⟨bne_iff_ne.mp (fv h3),eW.mp (gx h3)⟩
def OG(x:Int)(i:Nat):Nat:=2*(bt x (i+1)).toNat+(bt x i).toNat
theorem KV(x:Int)(i:Nat):OG x i<4:=by
 unfold OG
 cases bt x (i+1)<;>cases bt x i<;>decide
theorem RB(x:Int)(i:Nat):wI x i/2=OG x (i+1):=by
 unfold wI OG;have:(bt x i).toNat<2:=Bool.toNat_lt _;refine J (show i+1+1=i+2 from rfl) ?_;rw[show 4*(bt x (i+2)).toNat+2*(bt x (i+1)).toNat=2*(2*(bt x (i+2)).toNat+(bt x (i+1)).toNat) by rw[fz,←fF]];exact aDb this
theorem RC(x:Int)(i:Nat):wI x i&&&3=OG x i:=by
 unfold wI OG
 cases bt x (i+2)<;>cases bt x (i+1)<;>cases bt x i<;>decide
theorem II{r:Nat}(h:w6 r ps=af)(x y:Int)(K:Nat)(top:∀i,K<=i->bt x i=bt y i)(Yh:∀i,i<2->bt x i=bt y i)(e:c6 r x=c6 r y):x=y:=by
 have hb:∀i,r>>>wI x i&&&1=r>>>wI y i&&&1:=λi=>by
  have:=aD (λz=>bt z i) e;rw[kH,kH]at this;exact J (ng ..) (J (ng ..) (J this rfl))
 have A:∀j i,K<=i+j->(OG x i,OG y i)∈ps.map (·.1):=λj=>by
  induction j with
  |zero=>
   intro i hi;exact J (show OG x i=OG y i by unfold OG;exact J (top i (by exact uN (by assumption))) (J (top (i+1) (by lia)) rfl)) (xr h _ (KV _ _))
  |succ j ih=>
   intro i hi
   by_cases hw:wI x i=wI y i
   ·exact rF (RC x ..) (J hw (J (RC ..) (xr h _ (KV _ _))))
   ·have:=(xq h (ih (i+1) (by lia)) (RB x i) (RB y i) hw (hb i)).2;rwa[RC,RC]at this
 have B:∀i,OG x i=OG y i->OG x (i+1)=OG y (i+1):=λi hi=>by
  by_cases hw:wI x i=wI y i
  ·exact rF (RB ..) (rF (RB ..) (J hw rfl))
  ·have:=(xq h (A K (i+1) (by lia)) (RB x i) (RB y i) hw (hb i)).1;rw[RC,RC]at this;exact absurd hi this
 have aa:∀i,OG x i=OG y i:=λi=>by
  induction i with
  |zero=>unfold OG;exact J (Yh 0 (by decide)) (J (Yh 1 (by decide)) rfl)
  |succ i ih=>exact B i ih
 refine sM λi=>?_;have:=aa i;unfold OG at this;revert this
 cases bt x (i+1)<;>cases bt y (i+1)<;>cases bt x i<;>cases bt y i<;>decide
theorem xX(a:Int)(i:Nat):bt (4*a) i=bif ah (i<2)then ag else bt a (i-2):=by
 have:=Cg a 0 2 i (by decide);rw[show a*2^2+((0:Nat):Int)=4*a by lia,jk]at this;exact this
theorem IT{r:Nat}(h:w6 r ps=af)(a:Int)(m:Nat)(hm:0<m):c6 r (4*a)≠c6 r (4*bD a (m:Int)):=λe=>by
 have hx:∀i,bt (bD a (m:Int)) i=(bt a i^^m.testBit i):=λi=>by exact J (zj ..) (J (kh ..) rfl)
 have:=II h (4*a) (4*bD a (m:Int)) (m+2) (λi hi=>by
  exact J (xX ..) (J (xX ..) (J (hx ..) (J (mz (aH vW (cb (by decide) (by exact Nat.le_sub_of_add_le (by assumption))))) (J (TJ ..) rfl))))) (λi hi=>by exact J (xX ..) (J (xX ..) (J (aq hi) rfl))) e
 have e2:a=bD a (m:Int):=by lia
 have:m=0:=eu λi=>by
  have:=aD (λz=>bt z i) e2;simp only[hx]at this;refine J (jk ..) ?_;revert this
  cases bt a i<;>cases m.testBit i<;>decide
 lia
theorem rU:∀o:List Nat,(BA o).length=o.length-2
 |[]=>rfl|[_]=>rfl|[_,_]=>rfl
 |a::b::c::r=>by
  show(BA (b::c::r)).length+1=_;refine J (rU (b::c::r)) ?_;simp
theorem FW(r:Nat)(row:List Nat)(h:∀x∈row,x<2):(iR r ((gK 1 row.reverse:Nat):Int) (row.length-2)).reverse=(BA row).map (rb r):=by
 have hr:∀x∈row.reverse,x<2:=λx hx=>h x (fx.mp hx);refine J (D4 ..) (N8 λk=>?_)
 by_cases hk:k+2<row.length
 ·have hb:∀j,j<row.length->(bt ((gK 1 row.reverse:Nat):Int) j).toNat=row.getD (row.length-1-j) 0:=λj hj=>by
   exact J (kh ..) (J (xP _ _ hr) (J (BM _ _ hj) (J (NN _ (HQ h _)) rfl)))
  refine bQ (rK (show k+3<=row.length from hk)) λm hm=>?_
  have e0:row.length-2-1-k=m:=by
   exact J hm (J (nX ..) (J (nX ..) (J (bM 1 ..) (J (bM 2 ..) (eh (k+3) m)))))
  have e1:∀d,d<3->m+d<row.length:=λd hd=>by
   exact J hm (J (bM _ m) (cQ (aH hd (dm 3 k)) m))
  have e2:∀d e,d+e=2->row.length-1-(m+d)=k+e:=λd e h=>by
   exact J hm (abB k m d e h)
  refine J (mU (J (au ..) (J aN (J3 hk))) ..) (J (au ..) (J aN (J bY (J bY (J (Bz _ _ hk) (J e0 (J (i6 (J3 (e1 2 (by decide)))) ?_)))))));unfold rb;refine J (gw ..) (J (gw ..) (J (ng ..) ?_));show Z (r.testBit (4*(bt ((gK 1 row.reverse:Nat):Int) (m+2)).toNat+2*(bt ((gK 1 row.reverse:Nat):Int) (m+1)).toNat+(bt ((gK 1 row.reverse:Nat):Int) (m+0)).toNat)).toNat=_;exact J (hb _ (e1 2 (by decide))) (J (hb _ (e1 1 (by decide))) (J (hb _ (e1 0 (by decide))) (J (e2 2 0 rfl) (J (e2 1 1 rfl) (J (e2 0 2 rfl) rfl)))))
 ·have h2:row.length-2<=k:=uN (cf hk);exact J (tB (J cI (J (au ..) (J aN h2))) ..) (J (tB (J (au ..) (J (rU ..) h2)) ..) rfl)
section
noncomputable def kg(f:Nat->Nat)(t:Bool)(k w:Nat):List Nat:=bif t then((av k).filter λu=>f u==w).reverse else(av k).filter λu=>f u==w
def ly(f:Nat->Nat)(t:Bool)(k w:Nat):List Nat:=((av w).map (kg f t k)).flatten
def BH(f:Nat->Nat)(t:Bool)(k w W:Nat):List Nat:=((fw (w+1) (W-w-1)).map (kg f t k)).flatten
theorem Dw{w:Nat}(h:w<W):av W=av w++(w::fw (w+1) (W-w-1)):=by
 refine rF mV (J nH (J nH ?_));have:=List.range'_append_1 (s:=0) (m:=w) (n:=W-w-1+1);rw[dF]at this;refine J this ?_;congr 1;exact aSw h
variable(f:Nat->Nat)(t:Bool)
theorem mj(k:Nat){w:Nat}(h:w<W):ly f t k W=ly f t k w++(kg f t k w++BH f t k w W):=by
 unfold ly BH;exact J (Dw h) (J bN (J J6 (J aR (J d6 rfl))))
theorem te{w:Nat}:u∈kg f t k w↔u<k∧f u=w:=by
 unfold kg
 induction t using ax<;>simp
theorem yB{w:Nat}(h:u∈ly f t k w):u<k∧f u<w:=by
 unfold ly at h;refine bh (x9.mp h) λ_ h1 h2=>bh (cG.mp h1) λj hj jE=>?_;subst jE;exact⟨((te f t).mp h2).1,((te f t).mp h2).2▸b9.mp hj⟩
theorem DJ{w:Nat}(h:u∈BH f t k w W):u<k∧w<f u:=by
 unfold BH at h;refine bh (x9.mp h) λ_ h1 h2=>bh (cG.mp h1) λj hj sE=>?_;subst sE;exact⟨((te f t).mp h2).1,((te f t).mp h2).2▸(xx.mp hj).1⟩
theorem vB(k w:Nat):kg f t (k+1) w=if f k=w then(bif t then k::kg f t k w else kg f t k w++[k])else kg f t k w:=by
 unfold kg;refine J sR (J (List.filter_append ..) ?_)
 by_cases h:f k=w
 ·refine J (bz h) (J (lV (by simpa using h)) ?_)
  induction t using ax<;>simp
 ·refine J (bF h) (J (rj (by simpa using h)) ?_)
  induction t using ax<;>simp
theorem AI{w:Nat}(h:w<=f k):ly f t (k+1) w=ly f t k w:=by
 unfold ly
 congr 1
 refine dx λj hj=>?_;have:=b9.mp hj;exact J (vB ..) (J (bF (by lia)) rfl)
theorem AH{w:Nat}(h:f k<=w):BH f t (k+1) w W=BH f t k w W:=by
 unfold BH
 congr 1
 refine dx λj hj=>?_;have:=xx.mp hj;exact J (vB ..) (J (bF (by lia)) rfl)
theorem sY(W:Nat)(hf:∀u,f u<W):∀k,(ly f t k W).length=k
 |0=>by
  unfold ly
  have:∀l:List Nat,(l.map (kg f t 0)).flatten=[]:=λl=>by
   induction l with
   |nil=>rfl|cons a l ih=>refine J aR (J d6 (J ih ?_));unfold kg;induction t using ax<;>rfl
  exact J (this ..) rfl
 |k+1=>by
  have ih:=sY W hf k;rw[mj f t k (hf k)]at ih;refine J (mj f t (k+1) (hf k)) (J (AI f t (aV _)) (J (AH f t (aV _)) (J (vB ..) (J (bz rfl) ?_))));simp only[aP]at ih⊢
  induction t using ax
  ·simp only[cond_false,aP,bA,iy]at ih⊢;lia
  ·simp only[cond_true,bA]at ih⊢;lia
def Rw(k w:Nat):Nat:=(ly f t k w).length+bif t then 0 else(kg f t k w).length
theorem O1(k:Nat)(h:f k<W):(ly f t k W).take (Rw f t k (f k))++k::(ly f t k W).drop (Rw f t k (f k))=ly f t (k+1) W:=by
 refine J (mj f t k h) (J (mj f t (k+1) h) (J (AI f t (aV _)) (J (AH f t (aV _)) (J (vB ..) (J (bz rfl) ?_)))));unfold Rw
 induction t using ax with
 |true=>exact J (cond_true ..) (J (cond_true ..) (J (iI ..) (J Bw (J Bx rfl))))
 |false=>
  refine J (cond_false ..) (J (cond_false ..) (rF (jP ..) (rF aP (J Bw (J Bx ?_)))));simp
noncomputable def Y1(l:Bool)(w u:Nat):Bool:=bif l then ah (f u<w)else !ah (w<f u)
theorem NG(l:Bool){X Y:List Nat}{w:Nat}(hk:∀u∈X++Y,key (I u)=Z (I (f u)))(hX:∀u∈X,Y1 f l w u=af)(hY:∀u∈Y,Y1 f l w u=ag)(jM:(X++Y).length<=60){lo hi:Nat}(hd:wX ds=Z ((lo:Int),(hi:Int)))(hA:OC ds=(X++Y).map I)(hW:GA ds=(w:Int))(h2:hi<=(X++Y).length):KD (Td l) ds key=Z ((max lo (min hi X.length):Nat):Int):=by
 have hkI:∀u∈X++Y,kI key (I u)=(f u:Int):=λu hu=>by
  unfold kI;exact J (hk u hu) rfl
 have hp:∀u∈X++Y,GB l key (w:Int) (I u)=Y1 f l w u:=λu hu=>by
  unfold GB Y1;refine J (hkI u hu) ?_
  induction l using ax
  ·show(!ah ((w:Int)<(f u:Int)))=!ah (w<f u)
   congr 1
   rw[cj];exact J decide_eq_true_eq (J decide_eq_true_eq d9)
  ·show ah ((f u:Int)<(w:Int))=ah (f u<w);rw[cj];exact J decide_eq_true_eq (J decide_eq_true_eq d9)
 have cX:∀aa:List Nat,(∀u∈aa,u∈X++Y)->∀b:Bool,(∀u∈aa,Y1 f l w u=b)->(aa.map I).countP (GB l key (w:Int))=bif b then aa.length else 0:=λaa hs b hb=>by
  induction aa with
  |nil=>induction b using ax<;>rfl
  |cons z aa ih=>
   have e:=(hp z (hs z bf)).trans (hb z bf);have ih:=ih (λu hu=>hs u (ba _ hu)) λu hu=>hb u (ba _ hu);refine J aR ?_
   induction b using ax with
   |true=>exact J (List.countP_cons_of_pos e) (J ih rfl)|false=>exact J (List.countP_cons_of_neg (by refine J e ?_;decide)) (J ih rfl)
 have hc:((X++Y).map I).countP (GB l key (w:Int))=X.length:=by
  exact J bN (J List.countP_append (J (cX X (λu hu=>j6 _ hu) af hX) (J (cX Y (λu hu=>jG _ hu) ag hY) rfl)))
 refine J (abr ..) ?_;unfold X9;refine J hd (J (bx ..) ?_)
 have c:BiC l key (OC ds) (GA ds) (lo:Int) (hi:Int):=by
  refine J hA (J hW ?_);refine⟨by exact aU lo,by exact aU hi,by exact J (au ..) ((λ{m n}=>da.mpr) h2),by exact J (au ..) ((λ{i₁ i₂}=>w8.mp) jM),λd hd=>?_,λi h=>?_⟩
  ·refine bh (cG.mp hd) λu hu qe=>?_;subst qe;exact J (hkI u hu) (J (hk u hu) rfl)
  ·refine J hc (J (List.getElem_map ..) ?_);rw[au]at h
   by_cases hi:i<X.length
   ·exact J (hp _ (i8 h)) (J (List.getElem_append_left hi) (J (aq hi) (hX _ (i8 hi))))
   ·exact J (hp _ (i8 h)) (J (List.getElem_append_right (cf hi)) (J (bi hi) (hY _ (i8 _))))
 refine J (bz c) (J hA (J hW (J hc ?_)))
 congr 1;exact aMM ..
end
section
variable(v:Vl)(tb:List D)
def fu(v:Vl)(x:D)(tb:List D):aE:=V1 "u" x::fl "turned" v tb
def fuT(v:Vl)(x:D)(ys:List D):aE:=("table",.own ys)::(fu v x []).filter λp=>L8 p.2&&!(p.1==("table":Str))
abbrev zX:bX:=aY 0 (eY (dT 16))
theorem ag9(x:D):nV cu 3 (uD (dT 16)) x (fl "turned" v tb)=Z (fu v x tb):=by kernel_rfl
theorem ag8(x y:D):nV cu 3 (uD (dT 16)) x (fu v y tb)=Z (fu v x tb):=by kernel_rfl
theorem ag7(x:D):Mb (ev CL 14) ID [] cu (fu v x tb) zX=(tO (vs v "turned")).bind λc=>kX (PS (ev CL 14) ID) [] cu (fu v x tb) (bif c then fm zX else pz zX):=by kernel_rfl
theorem ag6(c:Bool)(x:D)(ds:List D):(PS (ev CL 14) ID [] cu (fu (λy=>bif y==("images":Str)then .list ds else v y) x tb) (aY 0 (bif c then fm zX else pz zX)))=bif(hU ds).isSome then(ID (bif c then "insort_left"else "insort_right") tb x (PM ds)).map λys=>.next (fuT (λy=>bif y==("images":Str)then .list ds else v y) x ys)else ae:=by induction c using ax<;>kernel_rfl
theorem ag5(x:D)(ys:List D):fb (fl "turned" v tb) (.next (fuT v x ys))=.next (fu v x ys):=by kernel_rfl
theorem ag4(x y:D)(ys:List D):fb (fu v y tb) (.next (fuT v x ys))=.next (fu v x ys):=by kernel_rfl
end
theorem Um(a b:Nat):qZ (a:Int) (b:Int) 1=fw a (b-a):=by
 unfold qZ;simp only[show((1:Int)>0)from by decide,if_true]
 have hc:(if(a:Int)<b then((b:Int)-a+1-1)/1 else 0).toNat=b-a:=by
  refine J (xN ..) ?_
  by_cases h:(a:Int)<b
  ·rw[bz h,xa];exact Yu b a
  ·rw[bF h];exact(Iq (da.mp (ky.mp h))).symm
 refine J hc (J List.range'_eq_map_range ?_);apply dx;intro k _;exact(aD (λz=>((a:Int)+z).toNat) (acZ _)).trans (bH (a+k))
theorem QU(n:Nat)(i:Int):clipAt n i<=n:=by unfold clipAt;split<;>exact aCl (Int.min_le_right ..)
theorem He(lo hi:Option Int)(n:Nat):mf lo hi 1 n=fw (lo.elim 0 (clipAt n)) (hi.elim n (clipAt n)-lo.elim 0 (clipAt n)):=by
 refine rF (Um ..) ?_;have h:∀i:Int,max 0 (min (if i<0 then i+(n:Int)else i) (n:Int))=(clipAt n i:Int):=λi=>by unfold clipAt;split<;>exact aTn _
 unfold mf;simp only[show((1:Int)>0)from by decide,if_true]
 congr 1
 ·induction lo using aB with
  |none=>rfl|some i=>exact h i
 ·induction hi using aB with
  |none=>rfl|some i=>exact h i
theorem ur(l:List Nat):∀(k a:Nat),(fw a k).filterMap (l[·]?)=(l.drop a).take k
 |0,a=>by simp
 |k+1,a=>by
  refine J mV (J kT ?_)
  cases h:l[a]? with
  |none=>
   have hl:=kM.mp h;show pe _ _=_;refine J (ur l k (a+1)) (J (cS (fK hl)) (J (cS hl) ?_));simp
  |some x=>
   have hl:=(cK.mp h);obtain⟨h1,h2⟩:=hl;refine J (io h1) (J uZ (J h2 ?_));show x::pe _ _=_;exact J (ur l k (a+1)) rfl
theorem Ur(f:Nat->Nat)(l:List Nat)(lo hi:Option Int):xG (S f l) lo hi ae=S f (rk l lo hi):=by
 unfold xG rk;refine J (show(ae:Option Int).getD 1=1 from rfl) (J (He ..) (J (kJ ..) ?_));show oI _=oI _
 congr 2
 refine J lr (J lu ?_);show pe (λi=>((l.map f).toArray)[i]?) _=_;refine rF (ur ..) ?_
 congr 1
 funext i
 exact J List.getElem?_toArray rfl
theorem Us(f:Nat->Nat)(l:List Nat)(lo hi:Option Int)(h:l.length<=fB):rm (.str (S f l)) lo hi ae=Z (.str (S f (rk l lo hi))):=by
 show(bif !((ae:Option Int).getD 1==0)&&ah ((xG (S f l) lo hi ae).length<=fB)&&(!((ae:Option Int).getD 1==1&&(mf lo hi ((ae:Option Int).getD 1) (S f l).length).length==(S f l).length)||xG (S f l) lo hi ae==S f l)then Z (gT (xG (S f l) lo hi ae))else ae)=_;refine J (Ur ..) (J (show(ae:Option Int).getD 1=1 from rfl) (J (He ..) (J (kJ ..) (J (kJ ..) (J List.length_range' ?_)))))
 have EY:(rk l lo hi).length<=l.length:=by
  exact J gW (J cJ (aj (nr ..) (lS ..)))
 refine J (aq (aj EY h)) ?_
 have hid:(!((1:Int)==1&&(hi.elim l.length (clipAt l.length)-lo.elim 0 (clipAt l.length))==l.length)||S f (rk l lo hi)==S f l)=af:=by
  by_cases e:hi.elim l.length (clipAt l.length)-lo.elim 0 (clipAt l.length)=l.length
  ·have:rk l lo hi=l:=by
    unfold rk
    have hb:hi.elim l.length (clipAt l.length)<=l.length:=by
     induction hi using aB with
     |none=>exact aV _|some i=>exact QU _ _
    generalize hi.elim l.length (clipAt l.length)=b at e hb;generalize lo.elim 0 (clipAt l.length)=a at e;refine J e ?_
    rcases Nat.eq_zero_or_pos a with rfl|ha
    ·simp
    ·have hl:l.length=0:=by lia
     refine J (lU.mp hl) ?_;simp
   refine J this ?_;simp
  ·exact J (show((hi.elim l.length (clipAt l.length)-lo.elim 0 (clipAt l.length))==l.length)=ag from beq_eq_false_iff_ne.mpr e) rfl
 exact J hid rfl
theorem abq(f:Nat->Nat)(x y:List Nat):S f x++S f y=S f (x++y):=by
 show oI _=oI _
 congr 1
 refine J bN ?_;simp[S]
theorem yk(f:Nat->Nat)(x y:List Nat)(h:x.length+y.length<=fB):b2 .Add (Z (str (S f x))) (Z (str (S f y)))=Z (str (S f (x++y))):=by
 show(bif ah ((S f x).length+(S f y).length<=fB)then Z (gT (S f x++S f y))else ae)=_;exact J (kJ ..) (J (kJ ..) (J (aq h) (J (abq ..) rfl)))
theorem aiC(f:Nat->Nat)(hf:∀a b,f a=f b->a=b)(x y:List Nat):sI .Eq (str (S f x)) (str (S f y))=Z (x==y):=by
 show Z (S f x==S f y)=_
 congr 1
 refine rF (BQ hf x y) ?_;rw[cj,aC,aC];exact⟨λh=>aD Str.cps h,λh=>aD oI h⟩
theorem ae0(f:Nat->Nat)(hf:∀a b,f a=f b->a=b)(x y:List Nat):sI .In (str (S f y)) (str (S f x))=Z (FO y x):=by
 show Z (iB (S f x) (S f y))=_
 congr 1
 show(!(dz (S f x) (S f y) 0 (S f x).length 1).isEmpty)=_;refine J (Ez hf ..) (J (kJ ..) (J (yr ..) (J (HJ ..) (J (xK ..) ?_))))
 cases h:(fw 0 (x.length+1)).filter λi=>ah (i+y.length<=x.length)&&(x.drop i).take y.length==y with
 |nil=>
  symm
  refine J (show(!(([]:List Nat).head?.toList).isEmpty)=ag from rfl) ?_;rw[xy];intro i hi hc;exact E4.mp h i hi hc
 |cons k ks=>
  have hk:=cZ.mp (show k∈(fw 0 (x.length+1)).filter _ by exact J h bf)
  symm
  refine J (show(!((k::ks).head?.toList).isEmpty)=af from rfl) ?_;rw[yc];exact⟨k,hk.1,hk.2⟩
theorem Dg(f:Nat->Nat):∀ls:List Nat,w5 (ls.map λl=>.str (S f [l]))=Z (ls.map λl=>S f [l])
 |[]=>rfl
 |l::ls=>by
  show(w5 (ls.map λl=>.str (S f [l]))).map _=_;exact J (Dg f ls) rfl
theorem UQ:((aQ ""):Str).cps=#[]:=by kernel_rfl
theorem HP(f:Nat->Nat):∀(r:List Nat) (di:Array Nat),(r.map λl=>S f [l]).foldl (λdi p=>di++((aQ ""):Str).cps++p.cps) di=di++(r.map f).toArray
 |[],di=>by simp
 |l::r,di=>by
  refine J aR (J fT (J (HP f r ..) (J UQ ?_)));show di++#[]++#[f l]++(r.map f).toArray=_;simp
theorem VW(f:Nat->Nat)(ls:List Nat):CJ (aQ "") (ls.map λl=>S f [l])=S f ls:=by
 induction ls using aA with
 |nil=>kernel_rfl
 |cons l r=>
  show oI (Kw _ (S f [l]).cps (r.map λl=>S f [l]))=_;refine J (HP ..) ?_;show oI (#[f l]++(r.map f).toArray)=oI _
  congr 1
  simp
theorem MF(f:Nat->Nat):∀(ls:List Nat) (k:Nat),(ls.map λl=>S f [l]).foldl (λa p=>a+p.length+(aQ "").length) k=k+ls.length
 |[],k=>rfl
 |l::ls,k=>by
  refine J aR (J fT (J (MF f ls ..) ?_));show k+1+0+ls.length=_;exact J bA (gk k ls.length)
theorem U9(f:Nat->Nat)(ls:List Nat)(h:ls.length<=1000):FF "join" emp [Z (.list (ls.map λl=>.str (S f [l])))]=Z (.str (S f ls)):=by
 show((w5 (ls.map λl=>.str (S f [l]))).bind λxs=>bif("join":Str)==("join":Str)&&!EZ (xs.toArray.foldl (·+·.length+(aQ "").length) 0)&&ah ((CJ (aQ "") xs).length<=fB)then Z (gT (CJ (aQ "") xs))else ae)=_;refine J (Dg ..) (J (bx ..) (J (VW ..) (J (kJ ..) (J (aq (aj h (by decide))) (J (List.foldl_toArray ..) (J (MF ..) (J (dF ..) ?_)))))))
 have:EZ ls.length=ag:=by
  unfold EZ l9;rw[decide_eq_false_iff_not];lia
 exact J this rfl
section
variable(f:Nat->Nat)(t:Bool)
def uI(k w:Nat)(l:Bool):Nat:=(ly f t k w).length+bif l then 0 else(kg f t k w).length
theorem Nc(hf:∀u,f u<W)(k w:Nat)(hw:w<W)(l:Bool):uI f t k w l<=k:=by
 have:=sY f t W hf k;rw[mj f t k hw]at this;simp only[aP]at this;unfold uI
 induction l using ax
 ·simp only[cond_false];lia
 ·simp only[cond_true];exact Tz this
theorem L3(hf:∀u,f u<W)(l:Bool){w:Nat}(hw:w<W)(hk:∀u,u<k->key (I u)=Z (I (f u)))(jM:k<=60){lo hi:Nat}(hd:wX ds=Z ((lo:Int),(hi:Int)))(hA:OC ds=(ly f t k W).map I)(hW:GA ds=(w:Int))(h2:hi<=k):KD (Td l) ds key=Z ((max lo (min hi (uI f t k w l)):Nat):Int):=by
 have hl:=sY f t W hf k;have DY:∀u∈ly f t k W,u<k:=λu hu=>(yB f t hu).1;rw[mj f t k hw]at hl hA DY
 induction l using ax with
 |true=>
  rw[NG f af (X:=ly f t k w) (Y:=kg f t k w++BH f t k w W) (w:=w) (λu hu=>hk u (DY u hu)) (λu hu=>aq (yB f t hu).2) (λu hu=>?_) (le_of_eq_of_le hl jM) hd hA hW (le_of_le_of_eq h2 (_root_.id (tD hl)))]
  ·rfl
  ·refine bi ?_
   rcases ez.mp hu with h|h
   ·have:=((te f t).mp h).2;lia
   ·have:=(DJ f t h).2;lia
 |false=>
  rw[←jP]at hl hA DY;rw[NG f ag (X:=ly f t k w++kg f t k w) (Y:=BH f t k w W) (w:=w) (λu hu=>hk u (DY u hu)) (λu hu=>?_) (λu hu=>?_) (by lia) hd hA hW (by lia)]
  ·exact J aP rfl
  ·show(!ah (w<f u))=af;rw[bi];rfl
   rcases ez.mp hu with h|h
   ·have:=(yB f t h).2;lia
   ·have:=((te f t).mp h).2;lia
  ·show(!ah (w<f u))=ag;exact J (aq (DJ f t hu).2) rfl
theorem Vq(hf:∀u,f u<W)(hk:∀u,u<k+1->key (I u)=Z (I (f u)))(jM:k<=60):ID (bif t then "insort_left"else "insort_right") ((ly f t k W).map I) (I k) key=Z ((ly f t (k+1) W).map I):=by
 have e:ID (bif t then "insort_left"else "insort_right") ((ly f t k W).map I) (I k) key=Ma t ((ly f t k W).map I) (I k) key:=by induction t using ax<;>rfl
 refine J e ?_;unfold Ma;have hl:=sY f t W hf k;have hc:=Nc f t hf k (f k) (hf k) t
 refine J (hk k (RL k)) (J (bx ..) (J (L3 f t hf t (lo:=0) (hi:=k) (hf k) (λu hu=>hk u (OK hu)) jM (by
  show Z ((0:Int),(((ly f t k W).map I).length:Int))=_;exact J (au ..) (J hl rfl)) rfl rfl (aV _)) ?_))
 refine aD Z ?_;show x8 (((max 0 (min k (uI f t k (f k) t)):Nat):Int)).toNat ((ly f t k W).map I)++I k::ya (((max 0 (min k (uI f t k (f k) t)):Nat):Int)).toNat ((ly f t k W).map I)=_
 exact J (bH ..) (J (show max 0 (min k (uI f t k (f k) t))=Rw f t k (f k) by
  show _=uI f t k (f k) t
  lia) (rF (O1 f t k (hf k)) (J bN (J aR (J lr (J lu rfl))))))
end
theorem HY{S:List Str->bj->aE->bX->Option gO}(h:S ow sc ρ st=Z (.next ρ')):kX S ow sc ρ [st]=Z (.next ρ'):=by
 exact J qc (J h rfl)
section
variable{v:Vl}{is:List Nat}{tn:Nat}(hi:v "images"=bW is)(ht:v "turned"=I tn)
include hi ht
theorem SJ{x:D}{tb:List D}(h:ID (bif tn !=0 then "insort_left"else "insort_right") tb x (PM (is.map I))=Z ys):kX (Mb (ev CL 14) ID) [] cu (fu v x tb) (eY (dT 16))=Z (.next (fuT v x ys)):=by
 have hv:(λy=>bif y==("images":Str)then bJ (is.map I)else v y)=v:=by
  funext y
  cases hy:y==("images":Str)with
  |false=>rfl|true=>exact J (aC.mp hy) hi.symm
 refine J (show eY (dT 16)=[zX] by kernel_rfl) ?_;refine HY ((ag7 v tb x).trans ?_);refine J (show vs v "turned"=Z (I tn)from aD Z ht) (J (mH ..) (J (bx ..) ?_));have e:=ag6 v tb (tn !=0) x (is.map I);rw[hv,h]at e
 have hn:(hU (is.map I)).isSome=af:=by
  have:∀l:List Nat,(hU (l.map I)).isSome=af:=λl=>by
   induction l with
   |nil=>rfl
   |cons a l ih=>
    refine bQ (aW.mp ih) λx hx=>?_;show((hU (l.map I)).map _).isSome=af;exact J hx rfl
  exact this is
 rw[hn]at e;exact J (show(bif tn !=0 then fm zX else pz zX)=[aY 0 (bif tn !=0 then fm zX else pz zX)] by cases(tn !=0)<;>kernel_rfl) (HY e)
theorem ahb{x:D}{tb:List D}(h:ID (bif tn !=0 then "insort_left"else "insort_right") tb x (PM (is.map I))=Z ys):Oz (fl "turned" v tb) x=Z (.next (fu v x ys)):=by
 unfold Oz;exact J (ag9 ..) (J (bx ..) (J (SJ hi ht h) (aD Z (ag5 v tb x ys))))
theorem aha{x y:D}{tb:List D}(h:ID (bif tn !=0 then "insort_left"else "insort_right") tb x (PM (is.map I))=Z ys):Oz (fu v y tb) x=Z (.next (fu v x ys)):=by
 unfold Oz;exact J (ag8 ..) (J (bx ..) (J (SJ hi ht h) (aD Z (ag4 v tb x y ys))))
theorem HU(T:Nat->List D):∀(j k:Nat) (y:D),(∀i,k<=i->i<k+j->ID (bif tn !=0 then "insort_left"else "insort_right") (T i) (I i) (PM (is.map I))=Z (T (i+1)))->gY Oz ((fw k j).map I) (fu v y (T k))=Z (.next (fu v (if j=0 then y else I (k+j-1)) (T (k+j))))
 |0,k,y,_=>rfl
 |j+1,k,y,h=>by
  refine J mV (J aR (J iT (J (aha hi ht (h k (aV _) (by lia))) ?_)));show gY Oz _ _=_;refine J (HU T j (k+1) (I k) λi h1 h2=>h i (by exact cm (by assumption)) (by lia)) ?_;rw[bF (zD j)];refine J (show k+1+j=k+(j+1) by lia) ?_
  by_cases hj:j=0
  ·subst hj;rfl
  ·exact J (bF hj) rfl
theorem V4(T:Nat->List D)(M:Nat)(hM:0<M)(h:∀i,i<M->ID (bif tn !=0 then "insort_left"else "insort_right") (T i) (I i) (PM (is.map I))=Z (T (i+1))):gY Oz ((av M).map I) (fl "turned" v (T 0))=Z (.next (fu v (I (M-1)) (T M))):=by
 obtain⟨m,rfl⟩:∃m,M=m+1:=⟨M-1,by exact(eo (by assumption)).symm⟩;refine J nH (J mV (J aR (J iT (J (ahb hi ht (h 0 hM)) ?_))));show gY Oz _ _=_;refine J (HU hi ht T m 1 (I 0) λi h1 h2=>h i (by lia)) (J (bM 1 m) ?_)
 by_cases hj:m=0
 ·subst hj;rfl
 ·exact J (bF hj) rfl
end
section
structure Pm where
 d0:Int
 d1:Int
 d2:Int
 d3:Int
 d4:Int
variable(p:Pm)
def rP:Nat:=Hj p.d0
noncomputable def nP:Nat:=1+(p.d1%3).toNat
noncomputable def za:Int:=p.d2/506
def Ba:Int×Int×Int:=vC.getD (p.d1/3%8).toNat (1,1,0)
def yU:Int:=(Ba p).1^(Ba p).2.1.toNat+(Ba p).2.2
noncomputable def AJ:Nat:=(p.d1/24%8).toNat
def tJ:Int:=p.d3*yU p
def gF:Nat:=4*2^nP p
noncomputable def Sl:Nat:=(p.d2%23).toNat
noncomputable def Sk:Nat:=((p.d2+1+((p.d2/23%22).toNat:Int))%23).toNat
noncomputable def xt:List Nat:=[33,37,38,40,41,42,43,44,45,47,58,59,60,61,62,64,91,93,94,123,124,125,126]
def Hb:List Nat:=xt.map λc=>match tE.lookup ⟨#[c]⟩with|some i=>i.toNat|none=>0
def aa9(i:Nat):Bool:=ah (xt.getD i 0<1000)&&xt.getD i 0 !=46&&nN[i]?==Z ⟨#[xt.getD i 0]⟩&&tE.lookup ⟨#[xt.getD i 0]⟩==Z ((Hb.getD i 0:Nat):Int)&&ah (Hb.getD i 0<255)&&ah (0<Hb.getD i 0)&&(av 23).all λj=>i==j||(xt.getD i 0 !=xt.getD j 0&&Hb.getD i 0 !=Hb.getD j 0)
theorem aa8:(av 23).all aa9=af:=by decide+kernel
theorem UY:nN.length=23:=by decide+kernel
noncomputable def chF(a b:Nat):Nat->Nat
 |0=>a
 |1=>b
 |2=>46
 |k+3=>k+1000
def gP:Nat->Nat:=chF (xt.getD (Sl p) 0) (xt.getD (Sk p) 0)
def mG:Nat:=Hb.getD (Sl p) 0
def mF:Nat:=Hb.getD (Sk p) 0
theorem UX(d:Int)(t:Nat)(h:t<22):d%23≠(d+1+(t:Int))%23:=λe=>by
 rw[Yw,jx d]at e;have e:=(Int.emod_add_cancel_right (m:=0) (n:=23) (k:=1+(t:Int)) d).mp (J (Int.zero_add ..) e);rw[Int.emod_eq_of_lt (a:=1+(t:Int)) (b:=23) (Int.add_nonneg (by decide) (aU t)) (Int.add_lt_add_left (d9.mpr h) 1),jx]at e;exact Nat.noConfusion (mh (show dO 0=dO (t+1)from e))
theorem m01:Sl p<23∧Sk p<23∧Sl p≠Sk p:=
 ⟨td _ 23 (by decide),td _ 23 (by decide),λe=>UX p.d2 _ (td (p.d2/23) 22 (by decide)) ((cw (cD _ (by decide))).symm.trans ((aD dO e).trans (cw (cD _ (by decide)))))⟩
structure aiA(i:Nat):Prop where
 lt:xt.getD i 0<1000
 dot:xt.getD i 0≠46
 mrk:nN[i]?=Z ⟨#[xt.getD i 0]⟩
 tk:tE.lookup ⟨#[xt.getD i 0]⟩=Z ((Hb.getD i 0:Nat):Int)
 tl:Hb.getD i 0<255
 t0:0<Hb.getD i 0
 ne:∀j,j<23->i≠j->xt.getD i 0≠xt.getD j 0∧Hb.getD i 0≠Hb.getD j 0
theorem zf(h:i<23):aiA i:=by
 have:=gs aa8 i h;unfold aa9 at this;simp only[bG,decide_eq_true_eq,bne_iff_ne,aC]at this;refine c8 this λz1 h7=>c8 z1 λz2 h6=>c8 z2 λz3 h5=>c8 z3 λz4 h4=>c8 z4 λz5 h3=>c8 z5 λh1 h2=>⟨h1,h2,h3,h4,h5,h6,λj hj n9=>?_⟩;have:=gs (f:=λj=>i==j||(xt.getD i 0 !=xt.getD j 0&&Hb.getD i 0 !=Hb.getD j 0)) h7 j hj;rw[show(i==j)=ag from beq_eq_false_iff_ne.mpr n9,vY]at this;exact⟨bne_iff_ne.mp (fv this),bne_iff_ne.mp (gx this)⟩
theorem Mx:∀a b,gP p a=gP p b->a=b:=by
 refine eP (m01 p) λh0 h1 hn=>?_;have c0:=zf h0;have c1:=zf h1;have l0:=c0.lt;have l1:=c1.lt;have d0:=c0.dot;have d1:=c1.dot;have n9:=(c0.ne _ h1 hn).1;intro a b;unfold gP
 match a,b with
 |0,0=>intro _;rfl
 |0,1=>intro h;exact absurd h n9
 |0,2=>intro h;exact absurd h d0
 |0,k+3=>intro(h:xt.getD (Sl p) 0=k+1000);rw[h]at l0;exact absurd (dm 1000 k) (w9.mpr l0)
 |1,0=>intro h;exact absurd h.symm n9
 |1,1=>intro _;rfl
 |1,2=>intro h;exact absurd h d1
 |1,k+3=>intro(h:xt.getD (Sk p) 0=k+1000);rw[h]at l1;exact absurd (dm 1000 k) (w9.mpr l1)
 |2,0=>intro h;exact absurd h.symm d0
 |2,1=>intro h;exact absurd h.symm d1
 |2,2=>intro _;rfl
 |2,k+3=>intro(h:46=k+1000);have g:=dm 1000 k;rw[←h]at g;exact absurd g (by decide)
 |k+3,0=>intro(h:k+1000=xt.getD (Sl p) 0);rw[←h]at l0;exact absurd (dm 1000 k) (w9.mpr l0)
 |k+3,1=>intro(h:k+1000=xt.getD (Sk p) 0);rw[←h]at l1;exact absurd (dm 1000 k) (w9.mpr l1)
 |k+3,2=>intro(h:k+1000=46);have g:=dm 1000 k;rw[h]at g;exact absurd g (by decide)
 |k+3,j+3=>intro(h:k+1000=j+1000);exact aD (·+3) (Nat.add_right_cancel h)
theorem Yz(a b:Nat)(ls:List Nat)(h:∀x∈ls,x<2):tW a b ls=S (chF a b) ls:=by
 unfold tW S
 congr 2
 refine dx λx hx=>?_
 match x,h x hx with
 |0,_=>rfl|1,_=>rfl
end
section
variable(p:Pm)
abbrev tF:List Nat:=(mY (rP p)).1
abbrev Ka:List Nat:=(mY (rP p)).2
def Om:Nat:=(p.d4%2^AJ p).toNat
def Ui:Nat:=(if(tF p).length=0 then 6 else(tF p).length)+AJ p
def zJ:Int:=if(tF p).length=0 then 4*tJ p else mm (tJ p) (tF p) (AJ p) (Om p)
def zI:Int:=if(tF p).length=0 then 4*bD (tJ p) ((1+p.d4.natAbs:Nat):Int)else mm (tJ p) (Ka p) (AJ p) (Om p)
noncomputable def XE:Nat:=(p.d1/192%2).toNat
abbrev j2:List Nat:=gZ (rP p)
abbrev fP:Nat->Nat:=Jl (rP p) (nP p)
abbrev tP:Bool:=XE p !=0
abbrev WP:Nat:=2^nP p
def sX(k:Nat):List Nat:=ly (fP p) (tP p) k (WP p)
def lz(w:Nat):Nat:=uI (fP p) (tP p) (gF p) w af
def so(w:Nat):Nat:=uI (fP p) (tP p) (gF p) w ag
def EV:List Nat:=(av (WP p)).filter λw=>lz p w==so p w
def iY:List Nat:=if(j2 p).isEmpty then w4 (za p%16).toNat else j2 p
def XB:List (List Nat):=(av (WP p)).map (o8 (nP p))++if(j2 p).isEmpty then[]else[iY p]
def Wt:List Bool:=(av (WP p)).map (λw=>!(EV p).contains w)++if(j2 p).isEmpty then[]else[ag]
def Aj:Nat:=(p.d3%((gF p+1:Nat):Int)).toNat
def zN:Nat:=(p.d4%((gF p+1:Nat):Int)).toNat
def qN:Nat:=1+(za p/16%(((iY p).length-1:Nat):Int)).toNat
def zU:List Nat:=if(j2 p).isEmpty then(ii (rP p) (iY p)).getD []else(ii (rP p) ((iY p).take (qN p))).getD []++(ii (rP p) ((iY p).drop (qN p))).getD []
def gi:List Nat:=uf (rP p) (zU p)
abbrev gp(p:Pm)(l:List Nat):D:=.str (S (gP p) l)
structure VV(v:Vl)(p:Pm):Prop where
 drawn:v "drawn"=.list [int p.d0,int p.d1,int p.d2,int p.d3,int p.d4]
 rule:v "rule"=I (rP p)
 n:v "n"=I (nP p)
 Wz:v "deep"=int (za p)
 base:v "base"=int (Ba p).1
 Mq:v "height"=int (Ba p).2.1
 more:v "more"=int (Ba p).2.2
 FZ:v "factor"=int (yU p)
 shift:v "shift"=I (AJ p)
 below:v "below"=int p.d4
 above:v "above"=int (tJ p)
 many:v "many"=I (gF p)
 marks:v "marks"=.list (nN.map .str)
 signs:v "signs"=.list [gp p [0],gp p [1]]
 xR:v "numbers"=bW [mG p,mF p]
 D6:v "forms"=.list ((js (rP p)).map (eD (mG p) (mF p)))
 FH:v "lost"=bW ((j2 p).map (sg (mG p) (mF p)))
 one:v "one"=bW (tF p)
 other:v "other"=bW (Ka p)
 size:v "size"=I (Ui p)
 rows:v "rows"=.list [int (zJ p),int (zI p)]
 told:v "told"=int (c6 (rP p) (zJ p))
 twin:v "twin"=int (c6 (rP p) (zI p))
 BZ:v "images"=bW (si (rP p) (nP p))
 turned:v "turned"=I (XE p)
 u:v "u"=I (gF p-1)
 lows:v "lows"=bW ((av (WP p)).map (lz p))
 highs:v "highs"=bW ((av (WP p)).map (so p))
 empty:v "empty"=bW (EV p)
 word:v "word"=bW (iY p)
 Pg:v "page"=gp p (pV (rP p) (nP p+2))
 text:v "text"=gp p (iY p)
 words:v "words"=.list ((XB p).map (gp p))
 due:v "due"=.list ((Wt p).map .bool)
 fits:v "fits"=.list ((av (WP p)).map λw=>bW (kg (fP p) ag (gF p) w))
 begin:v "begin"=I (Aj p)
 fin:v "end"=I (zN p)
 part:v "part"=.list ((av (WP p)).map λw=>.tuple [I (max (Aj p) (min (zN p) (lz p w))),I (max (Aj p) (min (zN p) (so p w)))])
 cut:v "cut"=I (qN p)
 row:v "row"=bW (zU p)
 iu:v "come"=gp p (gi p)
structure Bd(p:Pm):Prop where
 d3:ak p.d3<=1048600
 d4:ak p.d4<=1048600
theorem O8:(av 1024).all (λm=>ah (Hi m<256))=af:=by decide+kernel
theorem wq:rP p<256:=aw (gs (f:=λm=>ah (Hi m<256)) O8 (p.d0%1024).toNat (by lia))
end
theorem Qh:tH.lookup ("_law_rule":Str)=Z MM:=by kernel_rfl
theorem MA:tH.lookup ("_law_forms":Str)=Z F2:=by kernel_rfl
theorem Mz:tH.lookup ("_law_twins":Str)=Z F1:=by kernel_rfl
theorem aak:tH.lookup ("_digits2int":Str)=Z D9:=by kernel_rfl
theorem Qj:tH.lookup ("_law_next":Str)=Z MQ:=by kernel_rfl
theorem D3:tH.lookup ("_law_plain":Str)=Z sA:=by kernel_rfl
theorem Qi:tH.lookup ("_law_page":Str)=Z MO:=by kernel_rfl
theorem VZ:tH.lookup ("_ellipsis_match":Str)=Z Wa:=by kernel_rfl
theorem Jv:tH.lookup ("_law_before":Str)=Z B2:=by kernel_rfl
theorem MB:tH.lookup ("ISEOF":Str)=Z V9:=by kernel_rfl
theorem VX:tH.lookup ("ISTERMINAL":Str)=Z V8:=by kernel_rfl
theorem VY:tH.lookup ("ISNONTERMINAL":Str)=Z Qq:=by kernel_rfl
theorem cF{f:Str}{g:List D->Option D}{a:List (Option D)}(hl:tH.lookup f=Z g)(ha:b8 a=Z ds)(h:g ds=Z d):dB f a=Z d:=iM ha (by
 show(tH.lookup f).bind (λf=>f ds)=_;exact J hl h)
theorem ja(p:Pm):nP p=1∨nP p=2∨nP p=3:=aT3 _ (zu p.d1 3 (by decide))
theorem dw(p:Pm){v:Vl}(h:VV v p):B9 v 0=Z (int p.d0)∧B9 v 1=Z (int p.d1)∧B9 v 2=Z (int p.d2)∧B9 v 3=Z (int p.d3)∧B9 v 4=Z (int p.d4):=by
 unfold B9 vs;exact J h.drawn ⟨rfl,rfl,rfl,rfl,rfl⟩
theorem Sh(v:Vl)(p:Pm)(h:VV v p)(hi:i<23):XK v (Z (I i))=Z (.str ⟨#[xt.getD i 0]⟩):=by
 unfold XK vs;refine J h.marks ?_;show(bif ah ((nN.map gT).length<=fB)then zO (nN.map .str) (i:Int)else ae)=_;refine J (au ..) (J UY ?_);show zO (nN.map .str) (i:Int)=_;unfold zO;exact J (bz (aU i)) (J (bH ..) (J bY (J ((zf hi).mrk ..) rfl)))
section
variable{v:Vl}{p:Pm}(h:VV v p)
include h
theorem st1(tb:List D):cq 6 gX cu (fl "drawn" v tb) (dT 1)=Z (.next (fl "deep" v tb)):=by
 refine(lw1 v tb).trans (dD (dw p h) λe0 e1 e2 _ _=>J e0 ?_);refine J e1 (J e2 (J (cF Qh (ds:=[int p.d0]) rfl rfl) (J (nB _ 3 (by decide)) (J (j1 ..) (J (sk _ 506 (by decide) (by decide)) ?_)))));show gN cu (dT 1) (fl "drawn" v tb) (.tuple [I (rP p),I (nP p),int (za p)])=_;refine J (afD ..) (rF h.rule (rF h.n (rF h.Wz ?_)))
 kernel_rfl
theorem Oi(tb:List D):cq 6 gX cu (fl "deep" v tb) (dT 2)=Z (.next (fl "more" v tb)):=by
 refine(lw2 v tb).trans (dD (dw p h) λ_ e1 _ _ _=>J e1 ?_);refine J (sk _ 3 (by decide) (by decide)) (J (nB _ 8 (by decide)) ?_)
 have hs:gh (Z (.tuple (vC.map λp=>.tuple [int p.1,int p.2.1,int p.2.2]))) (Z (I (p.d1/3%8).toNat))=Z (.tuple [int (Ba p).1,int (Ba p).2.1,int (Ba p).2.2]):=by
  have jJ:(p.d1/3%8).toNat<8:=by exact zu _ 8 (by decide)
  unfold Ba;revert jJ;generalize(p.d1/3%8).toNat=k;intro hk
  match k,hk with
  |0,_=>rfl|1,_=>rfl|2,_=>rfl|3,_=>rfl|4,_=>rfl|5,_=>rfl|6,_=>rfl|7,_=>rfl
 refine J (show(p.d1/((3:Nat):Int)%((8:Nat):Int))=p.d1/3%8 from rfl) (J hs (J (bx ..) (J (afs ..) (rF h.base (rF h.Mq (rF h.more ?_))))))
 kernel_rfl
theorem RZ(tb:List D):cq 6 gX cu (fl "more" v tb) (dT 3)=Z (.next (fl "below" v tb)):=by
 refine(lw3 v tb).trans (dD (dw p h) λ_ e1 _ _ e4=>?_)
 have hp:b2 .Pow (vs v "base") (vs v "height")=Z (int ((Ba p).1^(Ba p).2.1.toNat)):=by
  unfold vs;refine J h.base (J h.Mq ?_);have jJ:(p.d1/3%8).toNat<8:=by exact zu _ 8 (by decide)
  unfold Ba;revert jJ;generalize(p.d1/3%8).toNat=k;intro hk
  have hb:(ah (0<=(vC.getD k (1,1,0)).2.1)&&ah ((ak (vC.getD k (1,1,0)).1:Int)*(vC.getD k (1,1,0)).2.1<=2^27))=af:=by
   match k,hk with
   |0,_=>decide+kernel
   |1,_=>decide+kernel
   |2,_=>decide+kernel
   |3,_=>decide+kernel
   |4,_=>decide+kernel
   |5,_=>decide+kernel
   |6,_=>decide+kernel
   |7,_=>decide+kernel
  show(bif ah (0<=(vC.getD k (1,1,0)).2.1)&&ah ((ak (vC.getD k (1,1,0)).1:Int)*(vC.getD k (1,1,0)).2.1<=2^27)then Z (aI ((vC.getD k (1,1,0)).1^(vC.getD k (1,1,0)).2.1.toNat))else ae)=_;exact J hb rfl
 refine J hp (J e1 (J e4 (J (show vs v "more"=Z (int (Ba p).2.2)from aD Z h.more) (J (sk _ 24 (by decide) (by decide)) (J (nB _ 8 (by decide)) ?_)))));show gN cu (dT 3) (fl "more" v tb) (.tuple [int (yU p),I (AJ p),int p.d4])=_;refine J (afn ..) (rF h.FZ (rF h.shift (rF h.below ?_)))
 kernel_rfl
end
theorem RH{a b:Int}(h:ak a<=k)(h2:ak b<=k):ak (a+b)<=k+1:=lR (by
 have h3:a.natAbs<2^k:=aH (lL a) (cb (by decide) h);have h4:b.natAbs<2^k:=aH (lL b) (cb (by decide) h2);exact J (gm ..) (J (qv ..) (aT (mC a b) (Cy h3 h4))))
theorem zm(a:Int)(k:Nat):ak (a*2^k)<=ak a+k:=lR (by
 exact J (Xz ..) (rF (ef ..) (J (dR ..) (J (fU ..) (Nat.mul_lt_mul_of_pos_right (lL a) (c7 (by decide)))))))
theorem Sr(a:Int)(k:Nat)(h:ak a+k<=134217728):b2 .LShift (Z (int a)) (Z (I k))=Z (int (a*2^k)):=by
 show(bif ah (0<=(k:Int))&&ah ((ak a:Int)+(k:Int)<=2^27)then Z (aI (a*2^(k:Int).toNat))else ae)=_;exact J (aq (aU k)) (J (aq (Iv rfl rfl h)) (J (bH ..) rfl))
theorem Ny{a:Int}(h:ak a<=k)(hm:m<2^k):ak (bD a (m:Int))<=k+1:=by
 have hp:=fQ k;have hc:=ef k;have ha:a.natAbs<2^k:=aH (lL a) (cb (by decide) h)
 have hq:bD a (m:Int)/2^k=a/2^k:=sM λi=>by
  exact J (mu ..) (J (mu ..) (J (zj ..) (J (kh ..) (J (mz (aH hm (cb (by decide) (dm k i)))) (J (TJ ..) rfl)))))
 have h3:=tV (bD a (m:Int)) (2^k);have h1:=cD (bD a (m:Int)) (eb hp);have h2:=cO (bD a (m:Int)) hp;refine lR ?_;rw[hq]at h3
 have VB:(2^k*(a/2^k)).natAbs<=2^k:=by
  refine jR (yM a k ha) (λe2=>?_) λe2=>?_<;>rw[e2]<;>first|(exact J (Int.mul_zero ..) (dW _))|(exact J (qx ..) (J (J8 ..) (J (uR ..) (rF hc (J (dR ..) (aV _))))))
 exact rF h3 (J (gm ..) (J (qv ..) (aT (mC _ _) (Nat.add_lt_add_of_le_of_lt VB (d9.mp (J (Int.natAbs_of_nonneg h1) (J hc h2)))))))
theorem pw7:(2:Nat)^6999+2^6999=2^7000:=rF (uL ..) (rF Yp rfl)
noncomputable def SM(q:Int×Int×Int):Bool:=Nat.blt (q.1.natAbs^q.2.1.toNat) (2^6999)&&Nat.blt q.2.2.natAbs 2&&!OM (q.1.natAbs^q.2.1.toNat) q.2.2.natAbs
theorem V6:vC.all SM=af:=by decide+kernel
theorem F0(p:Pm):yU p≠0∧ak (yU p)<=7000:=by
 have hm:Ba p∈vC:=by
  unfold Ba;exact J dr (J (cR (show(p.d1/3%8).toNat<vC.length by exact td _ 8 (by decide))) (i8 _))
 have:=a9.mp V6 _ hm;unfold SM at this;unfold yU;revert this;generalize Ba p=q;intro this;have h1:=Nat.blt_eq.mp (fv (fv this));have h2:=Nat.blt_eq.mp (gx (fv this))
 have h3:q.1.natAbs^q.2.1.toNat≠q.2.2.natAbs:=λe=>by
  have h4:=gx this;rw[e,Nat.beq_refl]at h4;exact ff h4
 rw[←Int.natAbs_pow]at h1 h3;generalize q.1^q.2.1.toNat=z at h1 h3;refine⟨λe=>h3 (rF (Int.neg_eq_of_add_eq_zero e) (J (uR ..) rfl)),lR ?_⟩;refine rF pw7 ?_;have:1<2^6999:=Nat.one_lt_two_pow (by decide);exact aT (mC _ _) (Cy h1 (aH h2 this))
theorem KW(p:Pm):AJ p<8:=td _ 8 (by decide)
theorem Lx(p:Pm):gF p=8∨gF p=16∨gF p=32:=by
 unfold gF;refine x6 (ja p) (λh=>?_) (λh=>?_) λh=>?_<;>rw[h]<;>decide
theorem vP(p:Pm)(b:Bd p):ak (tJ p)<=1056000:=by
 exact aj (GW p.d3 (yU p)) (aj (cL b.d3 (F0 p).2) (by decide))
theorem tu(g:α->D){xs:List α}{t:D->Option Bool}{e:D->Option D}(q:α->Bool)(k:α->D)(ht:∀x∈xs,t (g x)=Z (q x))(he:∀x∈xs,q x=af->e (g x)=Z (k x))(hz:xs.length<=1000):Ag (Z (xs.map g,ag,c)) t e=Z ((xs.filter q).map k):=by
 unfold Ag Ef;refine J (bx ..) ?_;show zZ ((oQ (λd=>nA (t d) (e d)) (xs.map g)).map eF)=_;exact J (qz g q k ht he) (oA (aj (J (au ..) (eV _ _)) (aj hz (by decide))))
theorem mQ(g:α->D){xs:List α}{e:D->Option D}(k:α->D)(he:∀x∈xs,e (g x)=Z (k x))(hz:xs.length<=1000):Ag (Z (xs.map g,ag,c)) tt e=Z (xs.map k):=by
 refine J (tu g (λ_=>af) k (λ_ _=>rfl) (λx hx _=>he x hx) hz) ?_
 congr 2
 exact u6.mpr λ_ _=>rfl
theorem Hm(h:k<=1000):Fl (b8 [Z (I k)])=Z ((av k).map I,ag,af):=Dt k h
theorem vm(ds:List D):kf (Z (.list ds))=Z (ds,ag,af):=rfl
theorem ZF(h:ds.length<=1000):dB "len" [Z (.list ds)]=Z (I ds.length):=oE (show qk "len" [.list ds]=_ by
 show(bif("len":Str)==("len":Str)&&ah (ds.length<=fB)then Z (aI ds.length)else _)=_;exact J (aq (aj h (by decide))) rfl) rfl
theorem YY(h:ds.length<=1000):lX (Z ae) (Z ae) (pO kW) (Z (.list ds))=Z (.list ds.reverse):=Hf ds (aj h (by decide))
theorem abm(h:ds.length<=1000)(i:Nat):gh (Z (.list ds)) (Z (I i))=ds[i]?:=by
 show(bif ah (ds.length<=fB)then zO ds (i:Int)else ae)=_;refine J (aq (aj h (by decide))) (J (cond_true ..) ?_);unfold zO;exact J (bz (aU i)) (J (bH ..) rfl)
theorem YK(h:ds.length<=1000):tO (Z (.list ds))=Z (!ds.isEmpty):=by
 show(bif ah (ds.length<=fB)then Z (!ds.isEmpty)else ae)=_;exact J (aq (aj h (by decide))) rfl
theorem aaT{xs:List Nat}(h:xs.length<=1000)(h2:∀x∈xs,x<2):dB "_digits2int" [Z (bW xs),Z (I 1)]=Z (I (gK 1 xs)):=cF aak (ds:=[bW xs,I 1]) rfl (by
 show(pv (xs.map I)).bind _=_;exact J (mN ..) (J (bx ..) (J (aq (by exact aj (by assumption) (by decide))) (J (aq (by omega)) (J (a9.mpr λx hx=>aq (h2 x hx)) rfl)))))
theorem wF(r:Nat):(js r).length<=40:=by
 have:∀(ts:List Nat) (fs:List qW) (m:Nat),UL fs m->UL (ts.foldl (iS r) fs) (m+ts.length):=λts=>by
  induction ts with
  |nil=>intro fs m h;exact h
  |cons t ts ih=>
   intro fs m h;have:=ih (iS r fs t) (m+1) (yq h);exact J fT (J bA (J (show m+(ts.length+1)=m+1+ts.length by exact tD (gk m ts.length)) this))
 have h:=(this (av 32) [([],271)] 0 ⟨λf hf=>by exact J (aF.mp hf) (aV _),aV _⟩).2;rw[aN]at h;unfold js;lia
theorem C8(r:Nat)(h:r<256):((mY r).1.length=0∧(mY r).2=[]∧gZ r=[]∧∃ps,w6 r ps=af)∨(0<(mY r).1.length∧gZ r≠[]∧Fc r (mY r).1 (mY r).2=af):=by
 have:=gs WL r h;unfold YJ at this;unfold mY;generalize xf r (av 16) mZ=o at this⊢
 induction o using Sum.casesOn with
 |inl ps=>exact .inl ⟨rfl,rfl,rh.mp (fv this),ps,gx this⟩
 |inr z=>
  refine .inr ⟨?_,?_,gx this⟩
  ·have:=gx this;unfold Fc at this;simp only[bG,decide_eq_true_eq]at this;exact aH (by decide) this.1.1.1.1.1.1.2
  ·have:=fv this;intro e2;rw[e2]at this;exact ff this
structure aiw(r:Nat)(o t:List Nat):Prop where
 len:o.length=t.length
 l2:2<=o.length
 XM:o.length<=30
 ho:∀x∈o,x<2
 ht:∀x∈t,x<2
theorem vb{r:Nat}{o t:List Nat}(h:Fc r o t=af):aiw r o t:=by
 unfold Fc at h;simp only[bG,aC,decide_eq_true_eq,a9]at h;exact c8 h λz1 ZU=>c8 z1 λz2 VR=>c8 z2 λz3 ZW=>c8 z3 λz4 ht=>c8 z4 λz5 ho=>c8 z5 λz6 h30=>c8 z6 λjM h2=>⟨jM,h2,h30,ho,ht⟩
section
variable{v:Vl}{p:Pm}(h:VV v p)
include h
theorem st4(b:Bd p)(tb:List D):cq 6 gX cu (fl "below" v tb) (dT 4)=Z (.next (fl "many" v tb)):=by
 refine(lw4 v tb).trans (dD (dw p h) λ_ _ _ e3 _=>?_);have hb:=b.d3;have hf:=(F0 p).2
 have hp:b2 .Mult (Z (I 4)) (b2 .Pow (Z (I 2)) (vs v "n"))=Z (I (gF p)):=by
  refine J (show vs v "n"=Z (I (nP p))from aD Z h.n) ?_;unfold gF;refine x6 (ja p) (λe=>?_) (λe=>?_) λe=>?_<;>rw[e]<;>kernel_rfl
 refine J hp (J e3 (J (show vs v "factor"=Z (int (yU p))from aD Z h.FZ) (J (yJ _ _ (by exact aj (cL (by assumption) (by assumption)) (by decide))) ?_)));show gN cu (dT 4) (fl "below" v tb) (.tuple [int (tJ p),I (gF p)])=_;refine J (afm ..) (rF h.above (rF h.many ?_))
 kernel_rfl
theorem st5(tb:List D):cq 6 gX cu (fl "many" v tb) (dT 5)=Z (.next (fl "marks" v tb)):=by
 refine(lw5 v tb).trans (rF h.marks ?_)
 kernel_rfl
theorem st6(tb:List D):cq 6 gX cu (fl "marks" v tb) (dT 6)=Z (.next (fl "signs" v tb)):=by
 refine(lw6 v tb).trans (dD (dw p h) λ_ _ e2 _ _=>eP (m01 p) λl0 l1 _=>J e2 ?_);refine J (sk _ 23 (by decide) (by decide)) (J (nB _ 22 (by decide)) (J (show b2 .Add (Z (int p.d2)) (Z (I 1))=Z (int (p.d2+1))from rfl) (J (show b2 .Add (Z (int (p.d2+1))) (Z (I (p.d2/((23:Nat):Int)%((22:Nat):Int)).toNat))=Z (int (p.d2+1+((p.d2/23%22).toNat:Int)))from rfl) (J (nB _ 23 (by decide)) (J (nB _ 23 (by decide)) ?_)))));refine J (show XK v (Z (I (p.d2%((23:Nat):Int)).toNat))=Z (gp p [0])from Sh v p h l0) (J (show XK v (Z (I ((p.d2+1+((p.d2/23%22).toNat:Int))%((23:Nat):Int)).toNat))=Z (gp p [1])from Sh v p h l1) ?_);show Z (gO.next (V1 "signs" (.list [gp p [0],gp p [1]])::fl "marks" v tb))=_;refine rF h.signs ?_
 kernel_rfl
theorem st7(tb:List D):cq 6 gX cu (fl "signs" v tb) (dT 7)=Z (.next (fl "numbers" v tb)):=by
 refine(lw7 v tb).trans (eP (m01 p) λl0 l1 _=>?_);rw[show vs v "signs"=Z (.list ([0,1].map λl=>gp p [l]))from aD Z h.signs,vm,mQ (λl=>gp p [l]) (λl=>I (if l=0 then mG p else mF p)) (λl hl=>?_) (by decide)]
 ·show Z (gO.next (V1 "numbers" (bW [mG p,mF p])::fl "signs" v tb))=_;refine rF h.xR ?_
  kernel_rfl
 ·have hl:l=0∨l=1:=by simpa using hl
  rcases hl with rfl|rfl
  ·show(tE.lookup ⟨#[xt.getD (Sl p) 0]⟩).map aI=_;exact J ((zf l0).tk ..) rfl
  ·show(tE.lookup ⟨#[xt.getD (Sk p) 0]⟩).map aI=_;exact J ((zf l1).tk ..) rfl
theorem st8(tb:List D):cq 6 gX cu (fl "numbers" v tb) (dT 8)=Z (.next (fl "forms" v tb)):=by
 refine(lw8 v tb).trans (J (cF MA (ds:=[I (rP p),bW [mG p,mF p]]) (d:=.list ((js (rP p)).map (eD (mG p) (mF p)))) (by unfold vs;exact J h.rule (J h.xR rfl)) rfl) (rF h.D6 ?_))
 kernel_rfl
theorem st9(tb:List D):cq 6 gX cu (fl "forms" v tb) (dT 9)=Z (.next (fl "lost" v tb)):=by
 refine(lw9 v tb).trans (c8 (LH (rP p) (wq p)) λhl hf=>?_);have SH:=wF (rP p);unfold lQ;rw[show vs v "forms"=Z (.list ((js (rP p)).map (eD (mG p) (mF p))))from aD Z h.D6,vm,tu (eD (mG p) (mF p)) (λf=>f.2==0) (λf=>bW (f.1.map (sg (mG p) (mF p)))) (λf hx=>?_) (λf hx _=>?_) (by lia)]
 ·have EY:((js (rP p)).filter λf=>f.2==0).length<=40:=aj (eV _ _) SH
  have hv:v "lost"=bW ((((js (rP p)).filter λf=>f.2==0).map (·.1)).headD []|>.map (sg (mG p) (mF p))):=by
   refine J h.FH ?_;show bW ((gZ (rP p)).map _)=_;exact rF hl rfl
  revert EY hv;generalize((js (rP p)).filter λf=>f.2==0)=L;intro EY hv
  have hA:b2 .Add ((Z (L.map λf=>bW (f.1.map (sg (mG p) (mF p))))).map bJ) (gf [gf []])=Z (.list ((L.map λf=>bW (f.1.map (sg (mG p) (mF p))))++[bW []])):=by
   show(bif ah ((L.map λf=>bW (f.1.map (sg (mG p) (mF p)))).length+1<=fB)then Z (bJ (_++[bW []]))else ae)=_;exact J (aq (by refine J (au ..) ?_;show _+1<=16777216;lia)) rfl
  refine J hA (J (abm (by refine J aP (J (au ..) ?_);show _+1<=1000;lia) ..) (J (show((L.map λf=>bW (f.1.map (sg (mG p) (mF p))))++[bW []])[0]?=Z (v "lost") by
   refine J hv ?_
   induction L using aA<;>rfl) ?_))
  kernel_rfl
 ·have:=(hf f hx).1;exact J (show gh (Z (eD (mG p) (mF p) f)) kW=Z (I f.2)from tr _ _ f (by lia)) (J (cF MB (ds:=[I f.2]) (d:=.bool (((f.2:Nat):Int)==0)) rfl rfl) (J (Hc ..) (J (lN ..) (aD Z (by rw[cj,aC,aC];exact Int.ofNat_eq_zero)))))
 ·have:=(hf f hx).1;show rm (eD (mG p) (mF p) f) ae (Z (-1)) ae=_;unfold eD;exact J bN (Dj _ _ (by refine J (au ..) (J (au ..) ?_);show _+1<=16777216;lia))
theorem aeW(tb:List D):cq 6 gX cu (fl "lost" v tb) (dT 10)=Z (.next (fl "other" v tb)):=by
 refine(afN v tb).trans (J (cF Mz (ds:=[I (rP p)]) (d:=q9 (mY (rP p))) (by unfold vs;exact J h.rule rfl) rfl) ?_);show gN cu (dT 10) (fl "lost" v tb) (.tuple [bW (tF p),bW (Ka p)])=_;refine J (ZA ..) (rF h.one (rF h.other ?_))
 kernel_rfl
end
def Ro(k:Nat)(d:D):Prop:=d.canLay0=af∧d.depth<=k
theorem Lf:∀{ds:List D},(∀d∈ds,Ro k d)->ik ds=af∧lb ds<=k
 |[],_=>⟨rfl,dW _⟩
 |d::ds,h=>by
  refine c8 (Lf λx hx=>h x (ba _ hx)) λa b=>c8 (h d bf) λc e=>?_;unfold ik lb;exact J a (J c ⟨rfl,Nat.max_le.mpr ⟨e,b⟩⟩)
theorem Zg(h:∀d∈ds,Ro k d):Ro (k+1) (.list ds):=by
 refine c8 (Lf h) λa b=>⟨?_,?_⟩
 ·exact a
 ·unfold CS;exact ku b 1
theorem ae9(h:∀d∈ds,Ro k d):Ro (k+1) (.tuple ds):=by
 refine c8 (Lf h) λa b=>⟨?_,?_⟩
 ·exact a
 ·unfold CS;exact ku b 1
theorem Zh(i:Int):Ro 0 (int i):=⟨rfl,aV _⟩
theorem okN(xs:List Nat):Ro 1 (bW xs):=Zg λd hd=>by
 refine bh (cG.mp hd) λx _ qe=>?_;subst qe;exact Zh _
theorem MU(h:Ro k d)(hk:k<=90):JA d d=Z af:=by
 unfold JA;exact J h.1 (J (aq (aj h.2 hk)) (J (PySem.SeqAt.eqv_refl d h.1) rfl))
theorem vr(h:Ro k (.list ds))(hk:k<=90):c2 .NotEq (Z (.list ds)) (Z (.list ds))=Z ag:=by
 show(JA (.list ds) (.list ds)).map (!·)=_;exact J (MU h hk) rfl
theorem zz(xs:List Nat):c2 .Eq (Z (bW xs)) yx=Z xs.isEmpty:=by
 show JA (bW xs) (.list [])=_;unfold JA;refine J ((okN xs).1 ..) (J (aq (aj (okN xs).2 (by decide))) ?_)
 induction xs using aA<;>rfl
theorem N0(xs:List Nat):c2 .NotEq (Z (bW xs)) yx=Z (!xs.isEmpty):=by
 show(JA (bW xs) (.list [])).map (!·)=_;exact J (show JA (bW xs) (.list [])=_ from zz xs) rfl
theorem Yl(a b:Bool):c2 .NotEq (nD (Z a)) (nD (Z b))=Z (a !=b):=by induction a using ax<;>induction b using ax<;>rfl
theorem LK(p:Pm):Om p<2^AJ p:=by
 have:=fQ (AJ p);have h1:=cD p.d4 (eb this);have h2:=cO p.d4 this;have:=ef (AJ p);unfold Om;exact(λ{n} {z} h=>(kN h).mpr) h1 h2
section
variable(p:Pm)(b:Bd p)
include b
theorem Ds(o:List Nat)(ho:o.length<=30)(hb:∀x∈o,x<2):ak (mm (tJ p) o (AJ p) (Om p))<=1057000:=by
 have h1:=vP p b;have h2:=KW p;have h3:=LK p
 have hu:gK 1 o.reverse<2^o.length:=by
  have:=qy 1 o.reverse λx hx=>hb x (fx.mp hx);rw[cI,iE]at this;exact this
 have a1:ak (tJ p*2^o.length)<=1056030:=aj (zm _ _) (by exact aj (cL (by assumption) (by assumption)) (by decide));have a2:ak ((gK 1 o.reverse:Nat):Int)<=1056030:=aj (jB hu) (by exact aj (by assumption) (by decide));have a3:=RH a1 a2;have a4:ak ((tJ p*2^o.length+((gK 1 o.reverse:Nat):Int))*2^AJ p)<=1056100:=aj (zm _ _) (by lia);have a5:ak ((Om p:Nat):Int)<=1056100:=aj (jB h3) (by lia);exact aj (RH a4 a5) (by decide)
theorem Bc(a:Int)(ha:ak a<=1056010):ak (4*a)<=1057000:=aj (GW 4 a) (by
 have:ak 4=3:=by decide+kernel
 lia)
theorem C7:ak (bD (tJ p) ((1+p.d4.natAbs:Nat):Int))<=1056010:=by
 have h1:=vP p b;have h4:p.d4.natAbs<2^1048600:=aH (lL _) (cb (by decide) b.d4)
 have:1+p.d4.natAbs<2^1056002:=by
  have e:2^1048600+2^1048600<=2^1056002:=by
   exact rF (uL ..) (rF Yp (cb (by decide) (by decide)))
  have e2:0<2^1048600:=c7 (by decide);revert h4 e e2;generalize 2^1048600=z;generalize 2^1056002=w;intro h4 e e2
  lia
 exact aj (Ny (aj h1 (by decide)) this) (by decide)
theorem TN:ak (zJ p)<=1057000∧ak (zI p)<=1057000:=by
 unfold zJ zI;refine jR (C8 (rP p) (wq p)) (λz=>c8 z λh1 _=>?_) λz=>eP z λh1 _ h3=>?_
 ·exact J (bz h1) (J (bz h1) ⟨Bc p b _ (aj (vP p b) (by decide)),Bc p b _ (C7 p b)⟩)
 ·refine J (bF (fI h1)) (J (bF (fI h1)) ?_);have t:=vb h3;exact⟨Ds p b _ t.XM t.ho,Ds p b _ (aj (gS t.len.symm) t.XM) t.ht⟩
theorem YO:Ui p<=40:=by
 have h2:=KW p;unfold Ui;refine jR (C8 (rP p) (wq p)) (λz=>c8 z λh1 _=>?_) λz=>eP z λh1 _ h3=>?_
 ·refine J (bz h1) ?_;lia
 ·refine J (bF (fI h1)) ?_;have:(tF p).length<=30:=(vb h3).XM
  lia
end
theorem iV(g:α->D){xs:List α}{e:D->Option D}(k:α->D)(he:∀x∈xs,e (g x)=Z (k x))(hz:xs.length<=1000):lQ (Z (xs.map g,ag,c)) tt e=Z (.list (xs.map k)):=by
 unfold lQ;exact J (mQ g k he hz) rfl
theorem A1{xs:List Nat}(h:xs.length<=1000):dB "len" [Z (bW xs)]=Z (I xs.length):=by
 have:=ZF (ds:=xs.map I) (J (au ..) h);rw[au]at this;exact this
theorem Ha{xs:List Nat}(h:xs.length<=1000):tO (Z (bW xs))=Z (!xs.isEmpty):=by
 have:=YK (ds:=xs.map I) (J (au ..) h);rw[mX]at this;exact this
theorem Hn{xs:List Nat}(h:xs.length<=1000):lX (Z ae) (Z ae) (pO kW) (Z (bW xs))=Z (bW xs.reverse):=by
 have:=YY (ds:=xs.map I) (J (au ..) h);rw[←mW]at this;exact this
theorem WY{xs:List Nat}(h:xs.length<=1000)(i:Nat):gh (Z (bW xs)) (Z (I i))=xs[i]?.map I:=by
 have:=abm (ds:=xs.map I) (J (au ..) h) i;rw[bY]at this;exact this
theorem Tc:ak ((4:Nat):Int)=3:=by decide+kernel
theorem pX{c:Option Bool}{B:List bX}(h:cq (k+1) gX sc ρ st=c.bind λc=>uq (k+1) gX sc ρ (bif c then B else[]))(hc:c=Z ag):cq (k+1) gX sc ρ st=Z (.next ρ):=by
 exact J h (J hc rfl)
def XH(p:Pm):D:=.list [int (4*tJ p),int (4*bD (tJ p) ((1+p.d4.natAbs:Nat):Int))]
section
variable{v:Vl}{p:Pm}(h:VV v p)(b:Bd p)
include h b
theorem aeV(tb:List D):cq 6 gX cu (fl "other" v tb) (dT 11)=Z (.next (V1 "rows" (XH p)::fl "size" v tb)):=by
 refine(afM v tb).trans ?_;have hab:=vP p b;have hx:=C7 p b;refine J (show vs v "one"=Z (bW (tF p))from aD Z h.one) (J (show vs v "shift"=Z (I (AJ p))from aD Z h.shift) (J (show vs v "above"=Z (int (tJ p))from aD Z h.above) (J (show vs v "below"=Z (int p.d4)from aD Z h.below) ?_)))
 have hl:(tF p).length<=30:=by
  refine jR (C8 (rP p) (wq p)) (λz=>c8 z λh1 _=>?_) λz=>eP z λh1 _ h3=>?_
  ·exact aj (gS h1) (by decide)
  ·exact(vb h3).XM
 have hs:b2 .Add (orM (dB "len" [Z (bW (tF p))]) (Z (I 6))) (Z (I (AJ p)))=Z (I (Ui p)):=by
  refine J (A1 (by exact aj hl (by decide))) ?_
  have:orM (Z (I (tF p).length)) (Z (I 6))=Z (I (if(tF p).length=0 then 6 else(tF p).length)):=by
   show((Z ((((tF p).length:Nat):Int) !=0)).bind λc=>bif c then Z (I (tF p).length)else Z (I 6))=_
   by_cases e:(tF p).length=0
   ·exact J (bz e) (J e rfl)
   ·exact J (bF e) (J (show((((tF p).length:Nat):Int) !=0)=af by rw[bne_iff_ne];exact(λ{n}=>Int.ofNat_ne_zero.mpr) e) rfl)
  exact J this (J (j1 ..) rfl)
 have ha:dB "abs" [Z (int p.d4)]=Z (I p.d4.natAbs):=oE (show qk "abs" [int p.d4]=_ by
  show Z (aI (if p.d4<0 then-p.d4 else p.d4))=Z (aI (p.d4.natAbs:Int))
  congr 2
  split<;>lia) rfl
 refine J hs (J ha (J (j1 ..) (J (show b2 .Mult (Z (I 4)) (Z (int (tJ p)))=Z (int (4*tJ p))from yJ _ _ (by refine J Tc ?_;lia)) (J (show b2 .BitXor (Z (int (tJ p))) (Z (I (1+p.d4.natAbs)))=Z (int (bD (tJ p) ((1+p.d4.natAbs:Nat):Int)))from rfl) (J (show b2 .Mult (Z (I 4)) (Z (int (bD (tJ p) ((1+p.d4.natAbs:Nat):Int))))=Z (int (4*bD (tJ p) ((1+p.d4.natAbs:Nat):Int)))from yJ _ _ (by refine J Tc ?_;lia)) ?_)))));show gN cu (dT 11) (fl "other" v tb) (.tuple [I (Ui p),XH p])=_;refine J (Zz ..) (rF h.size ?_)
 kernel_rfl
theorem R3(o:List Nat)(ho:o.length<=30)(hb:∀x∈o,x<2):Uy v (bW o)=Z (int (mm (tJ p) o (AJ p) (Om p))):=by
 have h1:=vP p b;have h2:=KW p;have h3:=LK p
 have hu:gK 1 o.reverse<2^o.length:=by
  have:=qy 1 o.reverse λx hx=>hb x (fx.mp hx);rw[cI,iE]at this;exact this
 have a1:ak (tJ p*2^o.length)<=1056030:=aj (zm _ _) (by exact aj (cL (by assumption) (by assumption)) (by decide));have a2:ak ((gK 1 o.reverse:Nat):Int)<=1056030:=aj (jB hu) (by exact aj (by assumption) (by decide));have a3:=RH a1 a2;unfold Uy;exact J (show vs v "shift"=Z (I (AJ p))from aD Z h.shift) (J (show vs v "above"=Z (int (tJ p))from aD Z h.above) (J (show vs v "below"=Z (int p.d4)from aD Z h.below) (J (A1 (by exact aj (by assumption) (by decide))) (J (Sr _ _ (by exact aj (cL (by assumption) (by assumption)) (by decide))) (J (Hn (by exact aj (by assumption) (by decide))) (J (aaT (xs:=o.reverse) (by refine J cI ?_;exact aj (by assumption) (by decide)) (λx hx=>hb x (fx.mp hx))) (J (show b2 .Add (Z (int (tJ p*2^o.length))) (Z (I (gK 1 o.reverse)))=Z (int (tJ p*2^o.length+((gK 1 o.reverse:Nat):Int)))from rfl) (J (Sr _ _ (by lia)) (J (uB _ (by exact aj (by assumption) (by decide))) (J (nB _ _ (fI (c7 (by decide)))) (J (ef ..) rfl)))))))))))
theorem aeU(tb:List D):cq 6 gX cu (V1 "rows" (XH p)::fl "size" v tb) (dT 12)=Z (.next (fl "rows" v tb)):=by
 refine(afL v tb (XH p)).trans (J (show vs v "one"=Z (bW (tF p))from aD Z h.one) ?_);refine jR (C8 (rP p) (wq p)) (λz=>c8 z λh1 _=>?_) λz=>eP z λh1 _ h3=>?_
 ·refine J (Ha (aj (gS h1) (by decide))) (J (show(tF p).isEmpty=af from rh.mpr (lU.mp h1)) ?_);show Z (gO.next _)=_
  have e:v "rows"=XH p:=by
   refine J h.rows ?_;unfold zJ zI;exact J (bz h1) (J (bz h1) rfl)
  refine rF e ?_
  kernel_rfl
 ·have t:=vb h3;have hl:(tF p).length<=30:=t.XM;have o6:(Ka p).length<=30:=aj (gS t.len.symm) t.XM
  refine J (Ha (by exact aj hl (by decide))) (J (show(tF p).isEmpty=ag by
   rw[eK];intro e;exact fI h1 (aD qr e)) (J (bx ..) (J (show(bif !ag then fm (dT 12)else[])=[aY 0 (fm (dT 12))] by kernel_rfl) ?_)))
  refine bZ ?_ Dp;refine(Zy v tb (XH p)).trans (J (show vs v "one"=Z (bW (tF p))from aD Z h.one) (J (show vs v "other"=Z (bW (Ka p))from aD Z h.other) (J (vc ..) ?_)));rw[show kf (Z (.tuple [bW (tF p),bW (Ka p)]))=Z ([tF p,Ka p].map bW,ag,af)from rfl,mQ (xs:=[tF p,Ka p]) bW (λo=>int (mm (tJ p) o (AJ p) (Om p))) (λo ho=>?_) (show 2<=1000 by decide)]
  ·have e:v "rows"=.list ([tF p,Ka p].map λo=>int (mm (tJ p) o (AJ p) (Om p))):=by
    refine J h.rows ?_;unfold zJ zI;exact J (bF (fI h1)) (J (bF (fI h1)) rfl)
   show Z (gO.next (V1 "rows" (.list ([tF p,Ka p].map λo=>int (mm (tJ p) o (AJ p) (Om p))))::fl "size" v tb))=_;refine rF e ?_
   kernel_rfl
  ·have ho:o=tF p∨o=Ka p:=by simpa using ho
   rcases ho with rfl|rfl
   ·exact R3 h b _ hl t.ho
   ·exact R3 h b _ o6 t.ht
theorem Lo(row:Int)(hb:ak row<=4000000)(s:Nat)(hs:s<=200):dB "_law_next" [vs v "rule",Z (int row),Z (I s),vs v "factor"]=Z (.tuple [int (c6 (rP p) row),bW (iR (rP p) row s)]):=by
 refine cF Qj (ds:=[I (rP p),int row,I s,int (yU p)]) (by unfold vs;exact J h.rule (J h.FZ rfl)) ?_;have hf:=F0 p;exact(bz (show Nx row (yU p) s from⟨hf.1,hf.2,hb,hs⟩)).trans (J (Fz ..) rfl)
theorem aeT(tb:List D):cq 6 gX cu (fl "rows" v tb) (dT 13)=Z (.next (fl "twin" v tb)):=by
 refine Dh ((afK v tb).trans ?_);have hx:=TN p b
 have e:KN v=Z (.list [v "told",v "twin"]):=by
  unfold KN;rw[show vs v "rows"=Z (.list ([zJ p,zI p].map int))from aD Z h.rows,vm,iV (xs:=[zJ p,zI p]) int (λx=>int (c6 (rP p) x)) (λx hxm=>?_) (show 2<=1000 by decide),h.told,h.twin]
  ·rfl
  ·have hxm:x=zJ p∨x=zI p:=by simpa using hxm
   have hxb:ak x<=4000000:=by
    rcases hxm with rfl|rfl<;>lia
   exact J (show vs v "size"=Z (I (Ui p))from aD Z h.size) (J (Lo h b x hxb _ (aj (YO p b) (by decide))) rfl)
 refine J e ?_;show Z (gO.next (V1 "twin" (v "twin")::V1 "told" (v "told")::fl "rows" v tb))=_
 kernel_rfl
theorem aeS(tb:List D):cq 6 gX cu (fl "twin" v tb) (dT 14)=Z (.next (fl "twin" v tb)):=by
 refine pX (afJ v tb) ?_;unfold c14;refine J (show vs v "one"=Z (bW (tF p))from aD Z h.one) (J (show vs v "lost"=Z (bW ((j2 p).map (sg (mG p) (mF p))))from aD Z h.FH) (J (show vs v "told"=Z (int (c6 (rP p) (zJ p)))from aD Z h.told) (J (show vs v "twin"=Z (int (c6 (rP p) (zI p)))from aD Z h.twin) (J (zz ..) (J (zz ..) (J (N0 ..) (J (Yl ..) (J (show c2 .Eq (Z (int (c6 (rP p) (zJ p)))) (Z (int (c6 (rP p) (zI p))))=Z (c6 (rP p) (zJ p)==c6 (rP p) (zI p))from rfl) (J (Yl ..) ?_)))))))))
 have h3:c2 .NotEq (gf [Z (int (c6 (rP p) (zJ p))),Z (int (c6 (rP p) (zI p)))]) (lQ (kf (vs v "rows")) tt λd=>dB "_law_plain" [vs v "rule",Z d])=Z ag:=by
  exact J (show vs v "rows"=Z (.list ([zJ p,zI p].map int))from aD Z h.rows) (J (vm ..) (J (iV (xs:=[zJ p,zI p]) int (λx=>int (c6 (rP p) x)) (λx _=>cF D3 (a:=[vs v "rule",Z (int x)]) (ds:=[I (rP p),int x]) (by unfold vs;exact J h.rule rfl) rfl) (show 2<=1000 by decide)) (vr (k:=1) (Zg λd hd=>by
   refine bh (cG.mp (show d∈[zJ p,zI p].map λx=>int (c6 (rP p) x)from hd)) λx _ jE=>?_;subst jE;exact Zh _) (by decide))))
 refine J h3 ?_
 rcases C8 (rP p) (wq p)with⟨h1,_,h4,ps,h5⟩|⟨h1,h4,h5⟩
 ·have e1:(tF p).isEmpty=af:=rh.mpr (lU.mp h1);have e2:((j2 p).map (sg (mG p) (mF p))).isEmpty=af:=by exact J (show j2 p=[]from h4) rfl
  have e3:(c6 (rP p) (zJ p)==c6 (rP p) (zI p))=ag:=by
   rw[beq_eq_false_iff_ne];unfold zJ zI;exact J (bz h1) (J (bz h1) (IT h5 _ _ (Nat.pos_of_neZero (1+p.d4.natAbs))))
  exact J e1 (J e2 (J e3 rfl))
 ·have e1:(tF p).isEmpty=ag:=by
   rw[eK];intro e;exact fI h1 (aD qr e)
  have e2:((j2 p).map (sg (mG p) (mF p))).isEmpty=ag:=by
   rw[eK];intro e;exact h4 (List.map_eq_nil_iff.mp e)
  have e3:(c6 (rP p) (zJ p)==c6 (rP p) (zI p))=af:=by
   rw[aC];unfold zJ zI;exact J (bF (fI h1)) (J (bF (fI h1)) (IH _ _ _ h5 _ _ _ (LK p)))
  exact J e1 (J e2 (J e3 rfl))
end
theorem aio(u:Nat):u&&&7=4*(u.testBit 2).toNat+2*(u.testBit 1).toNat+(u.testBit 0).toNat:=by
 have h:u&&&7=u%8:=nu u 3
 have e:∀i,i<3->u.testBit i=(u%8).testBit i:=λi hi=>by
  exact J (show 8=2^3 from rfl) (J (jl ..) (J (aq hi) (J (nz ..) rfl)))
 refine J h (J (e 0 (by decide)) (J (e 1 (by decide)) (J (e 2 (by decide)) ?_)));have hl:u%8<8:=gE _ (by decide);revert hl;generalize u%8=x;revert x
 decide
theorem T1(u i:Nat):wI (u:Int) i=u>>>i&&&7:=by
 unfold wI;exact J (aio ..) (J (kh ..) (J (kh ..) (J (kh ..) (J (my ..) (J (my ..) (J (my ..) (J (bM i 2) (J (bM i 1) (J (iI ..) rfl)))))))))
theorem afO(x:Nat)(h:x<8):x=(x.testBit 0).toNat+2*(x.testBit 1).toNat+4*(x.testBit 2).toNat:=by
 revert x
 decide
theorem Me(r n u:Nat)(hn:n=1∨n=2∨n=3):(c6 r (u:Int)%((2^n:Nat):Int)).toNat=Jl r n u:=by
 refine J (ef ..) ?_;have hb:∀i,(c6 r (u:Int)%2^n).toNat.testBit i=(ah (i<n)&&r.testBit (u>>>i&&&7)):=λi=>by exact J (zk ..) (J (kH ..) (J (T1 ..) rfl))
 have hl:(c6 r (u:Int)%2^n).toNat<8:=by
  have h1:=cD (c6 r (u:Int)) (eb (fQ n));have h2:=cO (c6 r (u:Int)) (fQ n)
  rcases hn with rfl|rfl|rfl<;>lia
 refine J (afO _ hl) (J (hb ..) (J (hb ..) (J (hb ..) ?_)));unfold Jl
 rcases hn with rfl|rfl|rfl
 ·refine J (ng ..) ?_;simp
 ·show _=(r>>>(u&&&7)&&&1)+2*(r>>>(u>>>1&&&7)&&&1);refine J (ng ..) (J (ng ..) ?_);simp
 ·show _=(r>>>(u&&&7)&&&1)+2*(r>>>(u>>>1&&&7)&&&1)+4*(r>>>(u>>>2&&&7)&&&1);refine J (ng ..) (J (ng ..) (J (ng ..) ?_));simp
theorem Vm(r n:Nat)(hn:n=1∨n=2∨n=3)(u:Nat):Jl r n u<2^n:=by
 refine rF (Me r n u hn) ?_;have h1:=cD (c6 r (u:Int)) (show((2^n:Nat):Int)≠0 by exact J (ef ..) (eb (fQ n)));have h2:=cO (c6 r (u:Int)) (show(0:Int)<((2^n:Nat):Int) by exact J (ef ..) (fQ n));exact(λ{n} {z} h=>(kN h).mpr) h1 h2
theorem vM(g:α->D){xs:List α}{c1 c2:Bool}(k:α->D)(he:∀x∈xs,U2 e kk ρ (g x)=Z [k x])(hz:xs.length<=1000):Eo (Z (xs.map g,c1,c2)) e kk ρ=Z (xs.map k):=by
 unfold Eo Ef;refine J (bx ..) (J (show((!(xs.map g,c1,c2).2.1||true)&&af)=af by induction c1 using ax<;>rfl) ?_);show zZ ((oQ (U2 e kk ρ) (xs.map g)).map eF)=_;refine J (ww g (λx=>[k x]) he) ?_
 have:(xs.map λx=>[k x]).flatten=xs.map k:=by
  clear he hz
  induction xs with
  |nil=>rfl|cons x xs ih=>exact J aR (J d6 (J ih rfl))
 exact J this (oA (J (au ..) (aj hz (by decide))))
theorem Cr(W:Nat)(f g:Nat->D):oj ((av W).map f) ((av W).map g)=(av W).map λw=>.tuple [f w,g w]:=by
 unfold oj;exact J List.zip_map' (J bI rfl)
theorem MV(W:Nat)(f:Nat->D):qd ((av W).map f)=(av W).map λw=>.tuple [I w,f w]:=by
 refine N8 λi=>J bY ?_;refine J IA (J bY (J bY ?_))
 by_cases h:i<W
 ·exact J (i6 h) (J (dF ..) rfl)
 ·exact J (tB (by refine J aN ?_;lia)) rfl
section
variable(p:Pm)
theorem D8(u:Nat):fP p u<WP p:=Vm _ _ (ja p) u
theorem la:WP p<=8:=by
 unfold WP;refine x6 (ja p) (λe=>?_) (λe=>?_) λe=>?_<;>rw[e]<;>decide
theorem BE:(sX p (gF p)).length=gF p:=sY _ _ _ (D8 p) _
theorem AX:gF p<=32:=by refine x6 (Lx p) (λe=>?_) (λe=>?_) λe=>?_<;>lia
theorem HA{w:Nat}(hw:w<WP p):lz p w<=so p w∧so p w<=gF p:=by
 refine⟨?_,Nc _ _ (D8 p) _ _ hw _⟩;unfold lz so uI;simp only[cond_true,cond_false];lia
abbrev ZI:D->Option D:=PM ((si (rP p) (nP p)).map I)
theorem Sp(u:Nat)(hu:u<gF p):ZI p (I u)=Z (I (fP p u)):=by
 have hm:=AX p;have hl:(si (rP p) (nP p)).length=gF p:=by exact J (au ..) (J aN rfl)
 have:xE (.list ((si (rP p) (nP p)).map I)) (I u)=Z (I (fP p u)):=by
  have e:=WY (xs:=si (rP p) (nP p)) (by lia) u;exact e.trans (J bY (J (show(av (4*2^nP p))[u]?=Z u from i6 hu) rfl))
 unfold ZI PM;exact J this rfl
end
theorem Jh(xs:List Nat):(hU (xs.map I)).isSome=af:=J (wz ..) rfl
section
variable{v:Vl}{p:Pm}(h:VV v p)
include h
theorem L0(l:Bool){w lo hi:Nat}(hw:w<WP p)(hd:wX ds=Z ((lo:Int),(hi:Int)))(hA:OC ds=(sX p (gF p)).map I)(hW:GA ds=(w:Int))(h2:hi<=gF p):DM (v "images") (Td l) (Z ds)=Z (I (max lo (min hi (uI (fP p) (tP p) (gF p) w l)))):=by
 have hm:=AX p;refine J h.BZ ?_;show(bif(hU ((si (rP p) (nP p)).map I)).isSome then(KD (Td l) ds (ZI p)).map aI else ae)=_;exact J (Jh ..) (J (L3 (fP p) (tP p) (D8 p) l (key:=ZI p) hw (λu hu=>Sp p u hu) (by lia) hd hA hW h2) rfl)
theorem aeR(tb:List D):cq 6 gX cu (fl "twin" v tb) (dT 15)=Z (.next (fl "turned" v [])):=by
 refine(afI v tb).trans (dD (dw p h) λ_ e1 _ _ _=>?_);have hm:=AX p
 have hp:b2 .Pow (Z (I 2)) (vs v "n")=Z (I (WP p)):=by
  exact J (show vs v "n"=Z (I (nP p))from aD Z h.n) (uB _ (by refine x6 (ja p) (λe=>?_) (λe=>?_) λe=>?_<;>rw[e]<;>decide))
 have hi:Vn v=Z (v "images"):=by
  unfold Vn;rw[show vs v "many"=Z (I (gF p))from aD Z h.many,Hm (by lia),iV I (λu=>I (Jl (rP p) (nP p) u)) (λu hu=>?_) (by refine J aN ?_;lia),h.BZ]
  ·unfold si bW gF;exact J bI rfl
  ·exact J hp (J (cF D3 (a:=[vs v "rule",Z (I u)]) (ds:=[I (rP p),I u]) (d:=int (c6 (rP p) (u:Int))) (by unfold vs;exact J h.rule rfl) rfl) (J (nB _ _ (fI (c7 (by decide)))) (J (Me _ _ _ (ja p)) rfl)))
 have ht:b2 .Mod (b2 .FloorDiv (B9 v 1) (Z (I 192))) (Z (I 2))=Z (v "turned"):=by
  exact J e1 (J (sk _ 192 (by decide) (by decide)) (J (nB _ 2 (by decide)) (J h.turned rfl)))
 refine J hi (J ht ?_);show KL v tb [v "images"] [v "turned"]=_;refine J (Zx ..) ?_
 kernel_rfl
theorem aeQ:cq 6 gX cu (fl "turned" v []) (dT 16)=Z (.next (fl "u" v ((sX p (gF p)).map I))):=by
 refine Dh ((afH v []).trans ?_);have hm:=AX p;refine J (show vs v "many"=Z (I (gF p))from aD Z h.many) (J (Hm (by lia)) ?_);show gY Oz ((av (gF p)).map I) (fl "turned" v [])=_
 have h0:(sX p 0).map I=[]:=by
  have:=sY (fP p) (tP p) (WP p) (D8 p) 0;unfold sX;exact J (lU.mp this) rfl
 have:=V4 (is:=si (rP p) (nP p)) h.BZ h.turned (λk=>(sX p k).map I) (gF p) (by refine x6 (Lx p) (λe=>?_) (λe=>?_) λe=>?_<;>exact Ir e) λi hi=>Vq (fP p) (tP p) (D8 p) (key:=ZI p) (λu hu=>Sp p u (aH hu hi)) (by lia);rw[h0]at this;refine J this (rF h.u ?_)
 kernel_rfl
theorem IV:R4 v=Z ((av (WP p)).map I,ag,af):=by
 have hw:=la p;unfold R4 Y4;exact J (show vs v "n"=Z (I (nP p))from aD Z h.n) (J (uB _ (by refine x6 (ja p) (λe=>?_) (λe=>?_) λe=>?_<;>rw[e]<;>decide)) (J (Hm (aj hw (by decide))) rfl))
theorem aeP:cq 6 gX cu (fl "u" v ((sX p (gF p)).map I)) (dT 17)=Z (.next (fl "lows" v ((sX p (gF p)).map I))):=by
 refine(afG v _).trans ?_;have hw:=la p;rw[IV h,mQ I (λw=>I (lz p w)) (λw FQ=>?_) (by refine J aN ?_;lia)]
 ·have e:v "lows"=.list ((av (WP p)).map λw=>I (lz p w)):=by
   refine J h.lows ?_;unfold bW;exact J bI rfl
  show Z (gO.next (V1 "lows" (.list ((av (WP p)).map λw=>I (lz p w)))::fl "u" v ((sX p (gF p)).map I)))=_;refine rF e ?_
  kernel_rfl
 ·have xl:=b9.mp FQ
  have e:=L0 h af (ds:=[.list ((sX p (gF p)).map I),I w]) (lo:=0) (hi:=gF p) xl (by
   show Z ((0:Int),(((sX p (gF p)).map I).length:Int))=_;exact J (au ..) (J (BE ..) rfl)) rfl rfl (aV _)
  refine e.trans ?_;have:=HA p xl
  have e2:max 0 (min (gF p) (uI (fP p) (tP p) (gF p) w af))=lz p w:=by
   show max 0 (min (gF p) (lz p w))=_
   lia
  exact J e2 rfl
theorem aeO:cq 6 gX cu (fl "lows" v ((sX p (gF p)).map I)) (dT 18)=Z (.next (fl "highs" v ((sX p (gF p)).map I))):=by
 refine(afF v _).trans ?_;have hw:=la p
 have el:v "lows"=.list ((av (WP p)).map λw=>I (lz p w)):=by
  refine J h.lows ?_;unfold bW;exact J bI rfl
 rw[show enM (b8 [vs v "lows"])=Z (qd ((av (WP p)).map λw=>I (lz p w)),af,ag) by unfold vs;exact J el rfl,MV,vM (λw=>.tuple [I w,I (lz p w)]) (λw=>I (so p w)) (λw FQ=>?_) (by refine J aN ?_;lia)]
 ·have e:v "highs"=.list ((av (WP p)).map λw=>I (so p w)):=by
   refine J h.highs ?_;unfold bW;exact J bI rfl
  show Z (gO.next (V1 "highs" (.list ((av (WP p)).map λw=>I (so p w)))::fl "lows" v ((sX p (gF p)).map I)))=_;refine rF e ?_
  kernel_rfl
 ·have xl:=b9.mp FQ
  have e:=L0 h ag (ds:=[.list ((sX p (gF p)).map I),I w,I (lz p w)]) (lo:=lz p w) (hi:=gF p) xl (by
   show Z ((lz p w:Int),(((sX p (gF p)).map I).length:Int))=_;exact J (au ..) (J (BE ..) rfl)) rfl rfl (aV _)
  have:=HA p xl
  have e2:max (lz p w) (min (gF p) (uI (fP p) (tP p) (gF p) w ag))=so p w:=by
   exact(aD (max _) (eI this.2)).trans (rH this.1)
  rw[e2]at e;refine(Zw v _ (I w) (I (lz p w))).trans ?_;show nA (Z af) (DM (v "images") (Td ag) (Z [.list ((sX p (gF p)).map I),I w,I (lz p w)]))=_;exact J e rfl
end
theorem Qn(f:Nat->Nat)(t:Bool)(k w:Nat):(kg f t k w).length=((av k).map f).count w:=by
 refine J List.count_eq_countP (J List.countP_map (J List.countP_eq_length_filter ?_))
 induction t using ax
 ·rfl
 ·show(List.reverse _).length=_;exact J cI rfl
theorem AP(r k:Nat):(∀x∈pV r k,x<2)∧(pV r k).length=k-2+(2^k-1):=by
 have:∀(ts:List Nat) (x:Ye),(∀y∈x.1,y<2)->(∀y∈(ts.foldl (λx _=>ka r k x) x).1,y<2)∧(ts.foldl (λx _=>ka r k x) x).1.length=x.1.length+ts.length:=λts=>by
  induction ts with
  |nil=>intro x h;exact⟨h,rfl⟩
  |cons t ts ih=>
   intro x h
   have:=ih (ka r k x) (λy hy=>by
    refine jR (ez.mp (show y∈x.1++[_]from hy)) (λh1=>?_) λh1=>?_
    ·exact h y h1
    ·exact J (aF.mp h1) (kS _))
   refine J fT ⟨this.1,this.2.trans ?_⟩
   exact J (show(ka r k x).1.length=x.1.length+1 by
    show(x.1++[_]).length=_;exact J aP rfl) (J bA (gk x.fst.length ts.length))
 have h:=this (av (2^k-1)) (BO r k) λy hy=>by
  exact J ((List.mem_replicate.mp hy).2 ..) (kS _)
 refine⟨h.1,h.2.trans ?_⟩;refine J aN ?_;show(cz _ _).length+_=_;exact J eU rfl
theorem LI:(av 256).all (λr=>ah ((gZ r).length<=20))=af:=by decide+kernel
theorem G2(c:Nat):∀x∈ul c,x<2:=λx hx=>by
 refine bh (cG.mp hx) λi _ jE=>?_;subst jE;exact kS _
theorem YD(w:Nat):∀x∈w4 w,x<2:=λx hx=>by
 refine bh (cG.mp hx) λi _ sE=>?_;subst sE;exact kS _
theorem abb(n w:Nat):∀x∈o8 n w,x<2:=λx hx=>by
 refine bh (cG.mp hx) λi _ qe=>?_;subst qe;exact kS _
section
variable(p:Pm)
theorem BR:(j2 p).length<=20:=aw (gs (f:=λr=>ah ((gZ r).length<=20)) LI _ (wq p))
theorem RR:∀x∈iY p,x<2:=by
 unfold iY
 split
 ·exact YD _
 ·exact G2 _
theorem um:(iY p).length<=20:=by
 have:=BR p;unfold iY
 split
 ·exact J (au ..) (J aN (Nat.le_of_ble_eq_true rfl))
 ·exact this
def ctP(w:Nat):Nat:=(si (rP p) (nP p)).count w
theorem SF(w:Nat):so p w=lz p w+ctP p w:=by
 unfold so lz uI ctP si;refine J (Qn ..) ?_;simp only[cond_true,cond_false,iI];rfl
theorem Ge(w:Nat):(lz p w==so p w)=(ctP p w==0):=by
 refine J (SF ..) ?_;rw[cj,aC,aC];exact Nat.left_eq_add
theorem Wi{w:Nat}(hw:w<WP p):(EV p).contains w=(ctP p w==0):=by
 unfold EV;rw[cj,eW,cZ,b9];refine J (Ge ..) ?_;exact⟨λh=>h.2,λh=>⟨hw,h⟩⟩
theorem WS:(!(EV p).isEmpty)=(ah (0<(j2 p).length)&&ah ((j2 p).length<=nP p))∧(j2 p=[]->∀w,w<WP p->ctP p w=4):=by
 have:=WR (rP p) (nP p) (wq p) (ja p);have h1:=aC.mp (fv this);have h2:=gx this;refine⟨?_,λe w hw=>?_⟩
 ·refine rF h1 ?_;rw[cj];refine J (cN ..) ?_;rw[eK,yc]
  constructor
  ·intro h;refine bQ (List.exists_mem_of_ne_nil _ h) λw hw=>?_;have:=cZ.mp hw;exact⟨w,this.1,(Ge p w).symm.trans this.2⟩
  ·intro⟨w,h3,h4⟩ h5;have:w∈EV p:=cZ.mpr ⟨h3,(Ge p w).trans h4⟩;rw[h5]at this;cases this
 ·rw[show gZ (rP p)=[]from e]at h2;exact aC.mp (gs (f:=λw=>(si (rP p) (nP p)).count w==4) h2 w hw)
end
section
variable{v:Vl}{p:Pm}(h:VV v p)
include h
theorem los:vs v "lost"=Z (bW ((j2 p).map (sg (mG p) (mF p)))):=aD Z h.FH
theorem BV:tO (vs v "lost")=Z (!(j2 p).isEmpty):=by
 have:=BR p;exact J (los h) (J (Ha (by refine J (au ..) ?_;exact aj (by assumption) (by decide))) (J mX rfl))
theorem aeN(tb:List D):cq 6 gX cu (fl "highs" v tb) (dT 19)=Z (.next (fl "empty" v tb)):=by
 refine(afE v tb).trans ?_;have hw:=la p
 have g1:∀(x:Str) (c:Nat->Nat),v x=bW ((av (WP p)).map c)->∀w,w<WP p->gh (vs v x) (Z (I w))=Z (I (c w)):=λx c e w xl=>by
  unfold vs;exact J e (J (WY (by refine J (au ..) (J aN ?_);exact aj (la p) (by decide)) ..) (J bY (J (i6 xl) rfl)))
 rw[IV h,tu I (λw=>lz p w==so p w) I (λw FQ=>?_) (λ_ _ _=>rfl) (by refine J aN ?_;exact aj (la p) (by decide))]
 ·show Z (gO.next (V1 "empty" (bW (EV p))::fl "highs" v tb))=_;refine rF h.empty ?_
  kernel_rfl
 ·have xl:=b9.mp FQ;exact J (g1 _ _ h.lows w xl) (J (g1 _ _ h.highs w xl) (J (FD ..) (J (lN ..) rfl)))
theorem aeM(tb:List D):cq 6 gX cu (fl "empty" v tb) (dT 20)=Z (.next (fl "empty" v tb)):=by
 refine pX (afC v tb) ?_;have hw:=la p;have hl:=BR p;refine c8 (WS p) λb1 b2'=>?_;unfold c20;refine J (show vs v "empty"=Z (bW (EV p))from aD Z h.empty) (J (N0 ..) (J (los h) (J (A1 (by refine J (au ..) ?_;exact aj hl (by decide))) (J (au ..) (J (show vs v "n"=Z (I (nP p))from aD Z h.n) ?_)))))
 have hc:ch2 .Lt .LtE (Z (I 0)) (Z (I (j2 p).length)) (Z (I (nP p)))=nD (Z (ah (0<(j2 p).length)&&ah ((j2 p).length<=nP p))):=by
  show Y6 ((Z (ah (((0:Nat):Int)<(((j2 p).length:Nat):Int)))).bind λc=>bif c then(Z (ah ((((j2 p).length:Nat):Int)<=((nP p:Nat):Int)))).map ji else Z (.bool ag)) ae=_;refine J (show ah (((0:Nat):Int)<(((j2 p).length:Nat):Int))=ah (0<(j2 p).length) by rw[cj];exact J decide_eq_true_eq (J decide_eq_true_eq d9)) (J (show ah ((((j2 p).length:Nat):Int)<=((nP p:Nat):Int))=ah ((j2 p).length<=nP p) by rw[cj];exact J decide_eq_true_eq (J decide_eq_true_eq da)) ?_)
  cases ah (0<(j2 p).length)<;>rfl
 refine J hc (J (Yl ..) (J b1 (J (bne_self_eq_false ..) (J (zz ..) (J mX ?_)))));show Hq (Cj (Z (j2 p).isEmpty) _) (Z ag)=_
 cases he:(j2 p).isEmpty with
 |false=>rfl
 |true=>
  have he:=rh.mp he
  have el:∀(x:Str) (c:Nat->Nat),v x=bW ((av (WP p)).map c)->v x=.list ((av (WP p)).map λw=>I (c w)):=λx c e=>by
   refine J e ?_;unfold bW;exact J bI rfl
  rw[show RO (b8 [vs v "lows",vs v "highs"])=Z (oj ((av (WP p)).map λw=>I (lz p w)) ((av (WP p)).map λw=>I (so p w)),af,ag) by unfold vs;exact J (el _ _ h.lows) (J (el _ _ h.highs) rfl),Cr,vM (λw=>.tuple [I (lz p w),I (so p w)]) (λ_=>I 4) (λw FQ=>?_) (by refine J aN ?_;exact aj (la p) (by decide))]
  ·have hm:b2 .Mult (gf [Z (I 4)]) (Y4 v)=Z (.list ((av (WP p)).map λ_=>I 4)):=by
    unfold Y4 WP;refine J (show vs v "n"=Z (I (nP p))from aD Z h.n) ?_;refine x6 (ja p) (λe=>?_) (λe=>?_) λe=>?_<;>rw[e]<;>kernel_rfl
   exact J hm (J (show(Z ((av (WP p)).map λ_=>I 4)).map bJ=Z (.list ((av (WP p)).map λ_=>I 4))from rfl) (J (vr (k:=1) (Zg λd hd=>by
    refine bh (cG.mp hd) λ_ _ wQ=>?_;subst wQ;exact Zh _) (by decide)) rfl))
  ·have xl:=b9.mp FQ;exact(Zv v tb (I (lz p w)) (I (so p w))).trans (J (t8 _ _ (HA p xl).1) (J (SF ..) (J (b2' he w xl) (J (eh ..) rfl))))
end
structure Yd(k:Nat)(d:D):Prop where
 s:d.showable=af
 n:d.hasDict=ag
 l:d.shown.length<=k
 d:d.depth<=5
theorem KX:∀{ds:List D},(∀d∈ds,Yd k d)->Io ds=af∧J0 ds=ag∧((rC ds).map (·.length)).sum<=k*ds.length∧(rC ds).length=ds.length∧lb ds<=5
 |[],_=>⟨rfl,rfl,aV _,rfl,dW _⟩
 |d::ds,h=>by
  refine dD (KX λx hx=>h x (ba _ hx)) λa b c e f=>?_;have g:=h d bf;unfold Io J0 rC lb;refine J a (J b (J g.s (J g.n ?_)));refine⟨rfl,rfl,?_,?_,Nat.max_le.mpr ⟨g.d,f⟩⟩
  ·refine J aR (J CU (J bA (J (abN ..) ?_)));have:=g.l
   lia
  ·exact J bA (J bA (J e rfl))
theorem YU(h:∀d∈ds,Yd k d):(bJ ds).showable=af∧(bJ ds).hasDict=ag∧(bJ ds).shown.length<=(k+2)*ds.length+3∧(bJ ds).depth<=6:=by
 refine dD (KX h) λa b c e f=>⟨?_,?_,?_,?_⟩
 ·exact a
 ·exact b
 ·unfold PyData.shown;have:=listText_len_le (rC ds);rw[e]at this;refine J (lW ..) ?_
  lia
 ·unfold CS;exact nq f
theorem O7(b:Bool):Yd 5 (.bool b):=by
 refine⟨rfl,rfl,?_,dW _⟩
 induction b using ax<;>decide+kernel
theorem KQ(h:∀d∈ds,Yd k d)(hk:k<=100)(hl:ds.length<=1000):dB "str" [Z (.list ds)]=Z (.str (bJ ds).shown):=by
 refine oE (show qk "str" [.list ds]=_ from ?_) rfl;refine mM (YU h) λa b c e=>?_;show(bif("str":Str)==("len":Str)&&ah (ds.length<=fB)then Z (aI ds.length)else bif("str":Str)==("sum":Str)then(hU ds).map λxs=>.int xs.sum else bif("str":Str)==("str":Str)&&(bJ ds).showable&&!(bJ ds).hasDict&&ah ((bJ ds).depth<=60)&&ah ((bJ ds).shown.length<=fB)then Z (.str (bJ ds).shown)else ae)=_
 exact J (show(("str":Str)==("len":Str))=ag by kernel_rfl) (J (show(("str":Str)==("sum":Str))=ag by kernel_rfl) (J (show(("str":Str)==("str":Str))=af by kernel_rfl) (J a (J b (J (aq (aj e (by decide))) (J (aq (show(bJ ds).shown.length<=fB by
  have:(k+2)*ds.length<=102*1000:=Xu (by lia) hl;show _<=16777216
  lia)) rfl))))))
theorem ne_str(x:Str):c2 .NotEq (Z (str x)) (Z (str x))=Z ag:=by
 show Z (x.cps.toList !=x.cps.toList)=_;exact J (bne_self_eq_false ..) rfl
theorem yj(bs:List Bool):∀d∈bs.map ji,Yd 5 d:=λd hd=>by
 refine bh (cG.mp hd) λb _ jE=>?_;subst jE;exact O7 b
theorem gP2(p:Pm):gP p 2=46:=rfl
theorem SU(p:Pm)(w g:List Nat){b:Bool}(hb:uG zL g w=Z b):dB "_ellipsis_match" [Z (gp p w),Z (gp p g)]=Z (.bool b):=cF VZ (ds:=[gp p w,gp p g]) rfl (by
 show(Qz (S (gP p) w) (S (gP p) g)).map ji=_;exact J (Wm (Mx p) (gP2 p) ..) (J hb rfl))
theorem SY(p:Pm):(Z (str jt):Option D)=Z (gp p qt):=by
 exact J (Ck (f:=gP p) (gP2 p)) rfl
section
variable{v:Vl}{p:Pm}(h:VV v p)
include h
theorem Fi{l:Nat}(hl:l<2):gh (vs v "signs") (Z (I l))=Z (gp p [l]):=by
 unfold vs;refine J h.signs ?_
 match l,hl with
 |0,_=>rfl|1,_=>rfl
theorem FK{q:Option (List D×Bool×Bool)}{ls:List Nat}(hq:q=Z (ls.map I,ag,c))(hl:∀x∈ls,x<2)(hz:ls.length<=1000):FF "join" emp [lQ q tt λx=>gh (vs v "signs") (Z x)]=Z (gp p ls):=by
 exact J hq (J (iV I (λl=>gp p [l]) (λx hx=>Fi h (hl x hx)) hz) (U9 (gP p) ls hz))
theorem TR:KI v=Z (bW (iY p)):=by
 unfold KI;have hl:=BR p;refine eP (m01 p) λl0 l1 n9=>?_;have c0:=zf l0;have c1:=zf l1;have t01:mG p≠mF p:=(c0.ne _ l1 n9).2
 have h1:lQ (kf (vs v "lost")) tt (λx=>FF "index" (vs v "numbers") [Z x])=Z (bW (j2 p)):=by
  rw[los h,show kf (Z (bW ((j2 p).map (sg (mG p) (mF p)))))=Z ((j2 p).map λl=>I (sg (mG p) (mF p) l),ag,af) by
   show Z (((j2 p).map _).map I,ag,af)=_;exact J bI rfl,iV (λl=>I (sg (mG p) (mF p) l)) I (λl hlm=>?_) (by exact aj hl (by decide))]
  ·rfl
  have o6:=G2 _ l hlm
  have hly:nG (.list [I (mG p),I (mF p)])=af:=by
   have w:∀a:Nat,a<255->jv (I a)<=8:=λa ha=>by
    have:=jB (a:=a) (b:=8) (OK ha);exact this
   have w0:=w _ c0.tl;have w1:=w _ c1.tl;have w0:jv (I (mG p))<=8:=w0;have w1:jv (I (mF p))<=8:=w1;unfold nG
   have hw:jv (.list [I (mG p),I (mF p)])<=2^20:=by
    show jv (I (mG p))+1+(jv (I (mF p))+1+0)<=1048576
    lia
   exact J (aq hw) rfl
  unfold vs;refine J h.xR ?_;show(bif("index":Str)==("index":Str)&&([((mG p:Nat):Int),((mF p:Nat):Int)]:List Int).contains ((sg (mG p) (mF p) l:Nat):Int)&&nG (.list [I (mG p),I (mF p)])then Z (aI (([((mG p:Nat):Int),((mF p:Nat):Int)]:List Int).idxOf ((sg (mG p) (mF p) l:Nat):Int):Nat))else ae)=_;refine J hly ?_
  match l,o6 with
  |0,_=>
   show(bif("index":Str)==("index":Str)&&([((mG p:Nat):Int),((mF p:Nat):Int)]:List Int).contains ((mG p:Nat):Int)&&af then Z (aI (([((mG p:Nat):Int),((mF p:Nat):Int)]:List Int).idxOf ((mG p:Nat):Int):Nat))else ae)=_;refine J Iz (J (show([((mG p:Nat):Int),((mF p:Nat):Int)]:List Int).contains ((mG p:Nat):Int)=af by simp) ?_)
   kernel_rfl
  |1,_=>
   show(bif("index":Str)==("index":Str)&&([((mG p:Nat):Int),((mF p:Nat):Int)]:List Int).contains ((mF p:Nat):Int)&&af then Z (aI (([((mG p:Nat):Int),((mF p:Nat):Int)]:List Int).idxOf ((mF p:Nat):Int):Nat))else ae)=_;refine J List.idxOf_cons (J (show(((mG p:Nat):Int)==((mF p:Nat):Int))=ag from beq_eq_false_iff_ne.mpr (Nat.ToInt.of_diseq rfl rfl t01)) ?_);rw[cond_false];refine J Iz (J (show([((mG p:Nat):Int),((mF p:Nat):Int)]:List Int).contains ((mF p:Nat):Int)=af by simp) ?_)
   kernel_rfl
 refine J h1 ?_;show((tO (Z (bW (j2 p)))).bind λb=>bif b then Z (bW (j2 p))else _)=_;refine J (Ha (by exact aj hl (by decide))) (J (bx ..) ?_);unfold iY
 cases he:(j2 p).isEmpty with
 |false=>exact J (bF (by decide)) rfl
 |true=>
  refine J (bz rfl) ?_;show(qg (fh 0 4 1) tt λi=>b2 .BitAnd (b2 .RShift (vs v "deep") (Z i)) (Z (I 1))).map bJ=_;rw[show fh 0 4 1=(av 4).map I from i9 4,vL I (λi=>I ((za p%16).toNat>>>i&&&1)) (λi hi=>?_) (by decide)]
  ·unfold w4 bW;exact J bI rfl
  ·refine J (show vs v "deep"=Z (int (za p))from aD Z h.Wz) (J (DU ..) (J (Ss ..) ?_))
   congr 2
   refine J (bS ..) (J (ib ..) ?_);have e:=Hz (za p) (2^i) 2 (2^(3-i)) 16 (Tw i) (by decide) ((by decide:∀i<4,2^i*(2*2^(3-i))=16) i (b9.mp hi));rw[oK]at e;exact e
end
theorem vx(c:Bool)(x y:Option D):Kb (Z c) x y=bif c then x else y:=rfl
theorem Bs(h:xs.length+ys.length<=1000):b2 .Add (Z (.list xs)) (Z (.list ys))=Z (.list (xs++ys)):=by
 show(bif ah (xs.length+ys.length<=fB)then Z (bJ (xs++ys))else ae)=_;exact J (aq (aj h (by decide))) rfl
section
variable{v:Vl}{p:Pm}(h:VV v p)
include h
theorem aeL(tb:List D):cq 6 gX cu (fl "empty" v tb) (dT 21)=Z (.next (fl "page" v tb)):=by
 refine(afB v tb).trans ?_;have hk:nP p+2=3∨nP p+2=4∨nP p+2=5:=by have:=ja p;lia
 have hp:dB "_law_page" [vs v "rule",vs v "signs",b2 .Add (vs v "n") (Z (I 2))]=Z (v "page"):=by
  refine J (show vs v "n"=Z (I (nP p))from aD Z h.n) (J (j1 ..) ?_);refine cF Qi (ds:=[I (rP p),.list [gp p [0],gp p [1]],I (nP p+2)]) (by unfold vs;exact J h.rule (J h.signs rfl)) ?_;show(bif nP p+2==3||nP p+2==4||nP p+2==5 then Z (gT (tW (xt.getD (Sl p) 0) (xt.getD (Sk p) 0) (pV (rP p) (nP p+2))))else ae)=_;refine J (Yz _ _ _ (AP _ _).1) (J h.Pg ?_);refine x6 hk (λe=>?_) (λe=>?_) λe=>?_<;>rw[e]<;>rfl
 refine J (TR h) (J hp (rF h.word ?_));show gN cu (dT 21) (fl "empty" v tb) (.tuple [v "word",v "page"])=_;refine J (Zu ..) ?_
 kernel_rfl
theorem aeK(tb:List D):cq 6 gX cu (fl "page" v tb) (dT 22)=Z (.next (fl "text" v tb)):=by
 refine(afA v tb).trans ?_;have:=um p;refine J (FK h (q:=kf (vs v "word")) (ls:=iY p) (c:=af) (by unfold vs;exact J h.word rfl) (RR p) (by exact aj (um p) (by decide))) (rF h.text ?_)
 kernel_rfl
theorem aeJ(tb:List D):cq 6 gX cu (fl "text" v tb) (dT 23)=Z (.next (fl "words" v tb)):=by
 refine(afz v tb).trans ?_;have hw:=la p
 have hr:Fl (b8 [b2 .Sub (vs v "n") (Z (I 1)),kW,kW])=Z ((av (nP p)).map λi=>I (nP p-1-i),ag,af):=by
  refine J (show vs v "n"=Z (I (nP p))from aD Z h.n) ?_;refine x6 (ja p) (λe=>?_) (λe=>?_) λe=>?_<;>rw[e]<;>kernel_rfl
 have e:Fb v=Z (v "words"):=by
  unfold Fb;rw[IV h,iV I (λw=>gp p (o8 (nP p) w)) (λw _=>?_) (by refine J aN ?_;exact aj (la p) (by decide)),BV h,vx,h.words]
  ·unfold XB
   cases he:(j2 p).isEmpty with
   |true=>
    show b2 .Add (Z (.list _)) (Z (.list []))=_;exact J (Bs (by refine J (au ..) (J aN ?_);show WP p+0<=1000;exact aj (la p) (by decide))) (J (bz rfl) (J (jC ..) (J (jC ..) (J bI rfl))))
   |false=>
    show b2 .Add (Z (.list _)) (Z (.list [v "text"]))=_;exact J (Bs (by refine J (au ..) (J aN ?_);show WP p+1<=1000;exact fH (aT (la p) (by decide)))) (J (bF (by decide)) (J bN (J bI (J h.text rfl))))
  ·have hj:=FK h (q:=Z (((av (nP p)).map λi=>w>>>(nP p-1-i)&&&1).map I,ag,af)) (ls:=o8 (nP p) w) rfl (abb _ _) (by refine J (au ..) (J aN ?_);have:=ja p;lia);refine iN ?_ hj
   congr 2
   refine J hr ?_;unfold lQ;rw[mQ (λi=>I (nP p-1-i)) (λi=>gp p [w>>>(nP p-1-i)&&&1]) (λi _=>?_) (by refine J aN ?_;have:=ja p;lia),bI];refine tD ((aD (Ip bJ) (mQ (xs:=av (nP p)) (e:=λx=>gh (vs v "signs") (Z x)) (c:=af) (λi=>I (w>>>(nP p-1-i)&&&1)) (λi=>gp p [w>>>(nP p-1-i)&&&1]) (λi _=>Fi h (kS _)) (by refine J aN ?_;have:=ja p;lia))))
   ·exact J (i7 ..) (J (iQ ..) (J (Fi h (kS _)) rfl))
 refine J e ?_
 kernel_rfl
theorem aeI(tb:List D):cq 6 gX cu (fl "words" v tb) (dT 24)=Z (.next (fl "due" v tb)):=by
 refine(afy v tb).trans ?_;have hw:=la p
 have e:Wq v=Z (v "due"):=by
  unfold Wq;rw[IV h,iV I (λw=>.bool (!(EV p).contains w)) (λw _=>?_) (by refine J aN ?_;exact aj (la p) (by decide)),BV h,vx,h.due]
  ·unfold Wt
   cases he:(j2 p).isEmpty with
   |true=>
    show b2 .Add (Z (.list _)) (Z (.list []))=_;exact J (Bs (by refine J (au ..) (J aN ?_);show WP p+0<=1000;exact aj (la p) (by decide))) (J (bz rfl) (J (jC ..) (J (jC ..) (J bI rfl))))
   |false=>
    show b2 .Add (Z (.list _)) (Z (.list [.bool ag]))=_;exact J (Bs (by refine J (au ..) (J aN ?_);show WP p+1<=1000;exact fH (aT (la p) (by decide)))) (J (bF (by decide)) (J bN (J bI rfl)))
  ·have:=UU w (EV p);unfold vs;refine J h.empty ?_;show nD ((Ik (I w) ((EV p).map I)).map (!·))=_;exact J (show Ik (I w) ((EV p).map I)=_ from this) rfl
 refine J e ?_
 kernel_rfl
theorem aeH(tb:List D):cq 6 gX cu (fl "due" v tb) (dT 25)=Z (.next (fl "due" v tb)):=by
 refine pX (afx v tb) ?_;have hw:=la p;have hn:=ja p;have hpg:=Pe (rP p) (nP p) (wq p) hn;have hp1:=fv hpg;have hp2:=gx hpg
 have VC:(pV (rP p) (nP p+2)).length<=900:=by
  refine J ((AP _ _).2 ..) ?_;refine x6 hn (λe=>?_) (λe=>?_) λe=>?_<;>rw[e]<;>decide
 have key:∀w:List Nat,nL w=af->w.length<=900->∀b,FO w (pV (rP p) (nP p+2))=b->dB "_ellipsis_match" [b2 .Add (b2 .Add (Z (str jt)) (Z (gp p w))) (Z (str jt)),vs v "page"]=Z (.bool b):=λw hs hl b hb=>by
  exact J (SY p) (J (yk _ _ _ (by show 3+w.length<=16777216;lia)) (J (yk _ _ _ (by refine J aP ?_;show 3+w.length+3<=16777216;lia)) (J (show vs v "page"=Z (gp p (pV (rP p) (nP p+2)))from aD Z h.Pg) (SU p _ _ ((MW w _ hs hl VC).trans (aD Z hb))))))
 have e:lQ (kf (vs v "words")) tt (λs=>dB "_ellipsis_match" [b2 .Add (b2 .Add (Z (str jt)) (Z s)) (Z (str jt)),vs v "page"])=Z (.list ((Wt p).map .bool)):=by
  have split:∀w,w<WP p->nL (o8 (nP p) w)=af:=λw xl=>by
   have h1:=a9.mp Gp (nP p) (by refine x6 hn (λe=>?_) (λe=>?_) λe=>?_<;>rw[e]<;>decide);exact gs (f:=λw=>nL (o8 (nP p) w)) h1 w (aH xl hw)
  have one:∀w,w<WP p->dB "_ellipsis_match" [b2 .Add (b2 .Add (Z (str jt)) (Z (gp p (o8 (nP p) w)))) (Z (str jt)),vs v "page"]=Z (.bool (!(EV p).contains w)):=λw xl=>by
   refine key _ (split w xl) (by refine J (au ..) (J aN ?_);lia) _ ?_;have h1:=gs (f:=λw=>FO (o8 (nP p) w) (pV (rP p) (nP p+2))==((si (rP p) (nP p)).count w !=0)) hp1 w xl;exact J (aC.mp h1) (J (Wi p xl) rfl)
  have hws:(XB p).map (gp p)=((av (WP p)).map λw=>(af,w)).map (λq:Bool×Nat=>gp p (o8 (nP p) q.2))++(if(j2 p).isEmpty then[]else[(ag,0)]:List (Bool×Nat)).map (λ_=>gp p (iY p)):=by
   refine J bN (J bI (J bI ?_))
   congr 1
   cases(j2 p).isEmpty<;>rfl
  have qb:(XB p).map (gp p)=(((av (WP p)).map λw=>(af,w))++(if(j2 p).isEmpty then[]else[(ag,0)]:List (Bool×Nat))).map λq=>gp p (if q.1 then o8 (nP p) q.2 else iY p):=by
   refine J hws (J bN (J bI (J bI ?_)))
   congr 1
   cases(j2 p).isEmpty<;>rfl
  have aiG:∀q∈(((av (WP p)).map λw=>(af,w))++(if(j2 p).isEmpty then[]else[(ag,0)]:List (Bool×Nat))),dB "_ellipsis_match" [b2 .Add (b2 .Add (Z (str jt)) (Z (gp p (if q.1 then o8 (nP p) q.2 else iY p)))) (Z (str jt)),vs v "page"]=Z (.bool (if q.1 then !(EV p).contains q.2 else ag)):=λq hq=>by
   refine jR (ez.mp hq) (λh1=>?_) λh1=>?_
   ·refine bh (cG.mp h1) λw FQ jE=>?_;subst jE;exact one w (b9.mp FQ)
   ·cases he:(j2 p).isEmpty with
    |true=>rw[he]at h1;cases h1
    |false=>
     rw[he]at h1;have hq:q=(ag,0):=by simpa using h1
     refine J hq ?_;have Jm:iY p=j2 p:=by unfold iY;exact J he rfl
     rw[show(gZ (rP p)).isEmpty=ag from he,vY]at hp2;refine key _ ?_ (by have:=um p;exact aj this (by decide)) _ ?_
     ·show nL (iY p)=af;exact J Jm (gs (f:=λr=>nL (gZ r)) JK _ (wq p))
     ·show FO (iY p) _=_;exact J Jm (cN _|>.mp hp2)
  rw[show vs v "words"=Z (.list ((XB p).map (gp p)))from aD Z h.words,vm,qb,iV (λq:Bool×Nat=>gp p (if q.1 then o8 (nP p) q.2 else iY p)) (λq=>.bool (if q.1 then !(EV p).contains q.2 else ag)) aiG ?_]
  ·skip
   refine J bN (J bN (J bI (J bI ?_)))
   cases(j2 p).isEmpty<;>rfl
  ·refine J aP (J (au ..) (J aN ?_))
   cases(j2 p).isEmpty
   ·show WP p+1<=1000;exact fH (aT (la p) (by decide))
   ·show WP p+0<=1000;exact aj (la p) (by decide)
 unfold c25
 exact J e (J (show vs v "due"=Z (.list ((Wt p).map .bool))from aD Z h.due) (J (KQ (yj (Wt p)) (by decide) (by
  refine J (au ..) ?_;unfold Wt;refine J aP (J (au ..) (J aN ?_))
  cases(j2 p).isEmpty
  ·show WP p+1<=1000;exact fH (aT (la p) (by decide))
  ·show WP p+0<=1000;exact aj (la p) (by decide))) (J (ne_str ..) rfl)))
end
theorem vt(W:Nat)(c:Nat->Nat):bW ((av W).map c)=.list ((av W).map λw=>I (c w)):=by
 unfold bW;exact J bI rfl
theorem Sj(a b:Nat):dB "max" [Z (I a),Z (I b)]=Z (I (max a b)):=oE (show qk "max" [I a,I b]=_ by
 show Z (aI (if((b:Nat):Int)>((a:Nat):Int)then(b:Int)else(a:Int)))=Z (aI ((max a b:Nat):Int))
 congr 2
 split<;>lia) rfl
theorem Si(a b:Nat):dB "min" [Z (I a),Z (I b)]=Z (I (min a b)):=oE (show qk "min" [I a,I b]=_ by
 show Z (aI (if((b:Nat):Int)<((a:Nat):Int)then(b:Int)else(a:Int)))=Z (aI ((min a b:Nat):Int))
 congr 2
 split<;>lia) rfl
section
variable(p:Pm)
theorem PH(w:Nat):lz p (w+1)=so p w:=by
 unfold lz so uI ly;refine J sR (J bN (J J6 (J aP ?_)));simp only[cond_true,cond_false,aR,kB,d6,ON,jC,iI]
theorem PG:lz p 0=0:=rfl
theorem PI:lz p (WP p)=gF p:=by
 have:=BE p;exact this
theorem Ue{w:Nat}(hw:w<WP p):((sX p (gF p)).drop (lz p w)).take (so p w-lz p w)=kg (fP p) (tP p) (gF p) w:=by
 have e:sX p (gF p)=_:=mj (fP p) (tP p) (gF p) hw;have e1:lz p w=(ly (fP p) (tP p) (gF p) w).length:=rfl;have e2:so p w=(ly (fP p) (tP p) (gF p) w).length+(kg (fP p) (tP p) (gF p) w).length:=rfl;exact J e (J e2 (J e1 (J (eh ..) (J Bx (J Bw rfl)))))
end
section
variable{v:Vl}{p:Pm}(h:VV v p)
include h
theorem aeG(tb:List D):cq 6 gX cu (fl "due" v tb) (dT 26)=Z (.next (fl "fits" v tb)):=by
 refine(afw v tb).trans ?_;have hw:=la p;have hm:=AX p
 have hi:∀u,u<gF p->gh (vs v "images") (Z (I u))=Z (I (fP p u)):=λu hu=>by
  unfold vs;refine J h.BZ (J (WY (by unfold si;exact J (au ..) (J aN (aj hm (by decide)))) ..) ?_);unfold si;exact J bY (J (show(av (4*2^nP p))[u]?=Z u from i6 hu) rfl)
 unfold SK;rw[IV h,mQ I (λw=>bW (kg (fP p) ag (gF p) w)) (λw _=>?_) (by refine J aN ?_;exact aj (la p) (by decide))]
 ·show Z (gO.next (V1 "fits" (.list ((av (WP p)).map λw=>bW (kg (fP p) ag (gF p) w)))::fl "due" v tb))=_;refine rF h.fits ?_
  kernel_rfl
 ·refine J (show vs v "many"=Z (I (gF p))from aD Z h.many) (J (Hm (by exact aj (by assumption) (by decide))) ?_);unfold lQ;exact J (tu I (λu=>fP p u==w) I (λu hu=>by exact J (hi u (b9.mp hu)) (J (FD ..) (J (lN ..) rfl))) (λ_ _ _=>rfl) (by refine J aN ?_;exact aj (by assumption) (by decide))) rfl
theorem aeF:cq 6 gX cu (fl "fits" v ((sX p (gF p)).map I)) (dT 27)=Z (.next (fl "fits" v ((sX p (gF p)).map I))):=by
 refine pX (afv v _) ?_;have hw:=la p;have hm:=AX p
 have e1:Eo (RO (b8 [vs v "lows",vs v "highs"])) (cmL (WQ 0 (Sq (dT 27)))) 13 (fl "fits" v ((sX p (gF p)).map I))=Z ((av (WP p)).map λw=>bW (kg (fP p) (tP p) (gF p) w)):=by
  refine J (show RO (b8 [vs v "lows",vs v "highs"])=Z (oj ((av (WP p)).map λw=>I (lz p w)) ((av (WP p)).map λw=>I (so p w)),af,ag) by unfold vs;exact J h.lows (J h.highs (J (vt ..) (J (vt ..) rfl)))) (J (Cr ..) ?_);refine vM (λw=>.tuple [I (lz p w),I (so p w)]) (λw=>bW (kg (fP p) (tP p) (gF p) w)) (λw FQ=>?_) (by refine J aN ?_;exact aj (la p) (by decide));have xl:=b9.mp FQ;refine(Zt v ((sX p (gF p)).map I) (lz p w) (so p w)).trans ?_;have hl:=HA p xl;exact J (BJ _ _ _ (J (au ..) (J (BE ..) (aj hm (by decide)))) hl.1) (rF lu (rF lr (J (Ue p xl) rfl)))
 have e2:lQ (kf (vs v "fits")) tt (λd=>Kb (tO (vs v "turned")) (lX (Z ae) (Z ae) (pO kW) (Z d)) (Z d))=Z (.list ((av (WP p)).map λw=>bW (kg (fP p) (tP p) (gF p) w))):=by
  refine J (show vs v "fits"=Z (.list ((av (WP p)).map λw=>bW (kg (fP p) ag (gF p) w)))from aD Z h.fits) (J (vm ..) ?_);refine iV (λw=>bW (kg (fP p) ag (gF p) w)) (λw=>bW (kg (fP p) (tP p) (gF p) w)) (λw FQ=>?_) (by refine J aN ?_;exact aj (la p) (by decide))
  have SH:(kg (fP p) ag (gF p) w).length<=32:=by
   show((av (gF p)).filter _).length<=32;exact aj (eV _ _) (J aN hm)
  refine J (show vs v "turned"=Z (I (XE p))from aD Z h.turned) (J (mH ..) (J (vx ..) (J (Hn (by exact aj (by assumption) (by decide))) ?_)));show _=Z (bW (kg (fP p) (XE p !=0) (gF p) w))
  cases(XE p !=0)<;>rfl
 have e3:c2 .NotEq (b2 .Add (vs v "lows") (gf [vs v "many"])) (b2 .Add (gf [Z (I 0)]) (vs v "highs"))=Z ag:=by
  have e4:(av (WP p)).map (lz p)++[gF p]=0::(av (WP p)).map (so p):=by
   have e5:(av (WP p)).map (lz p)++[gF p]=(av (WP p+1)).map (lz p):=by
    exact J sR (J bN (rF (PI ..) rfl))
   refine J e5 (J rS (J aR (J (PG ..) (J bI ?_))))
   congr 1
   exact dx λw _=>PH p w
  exact J (show vs v "lows"=Z (bW ((av (WP p)).map (lz p)))from aD Z h.lows) (J (show vs v "highs"=Z (bW ((av (WP p)).map (so p)))from aD Z h.highs) (J (show vs v "many"=Z (I (gF p))from aD Z h.many) (J (show gf [Z (I (gF p))]=Z (bW [gF p])from rfl) (J (show gf [Z (I 0)]=Z (bW [0])from rfl) (J (mI _ _ (by refine J (au ..) (J aN ?_);show WP p+1<=16777216;exact fH (aT (la p) (by decide)))) (J (mI _ _ (by refine J (au ..) (J aN ?_);show 1+WP p<=16777216;lia)) (J e4 (vr (okN _) (by decide)))))))))
 unfold c27
 exact J e1 (J e2 (J e3 (J (show(Z ((av (WP p)).map λw=>bW (kg (fP p) (tP p) (gF p) w))).map bJ=Z (.list ((av (WP p)).map λw=>bW (kg (fP p) (tP p) (gF p) w)))from rfl) (J (vr (k:=2) (Zg λd hd=>by
  refine bh (cG.mp hd) λ_ _ jE=>?_;subst jE;exact okN _) (by decide)) rfl))))
theorem aeE(tb:List D):cq 6 gX cu (fl "fits" v tb) (dT 28)=Z (.next (fl "end" v tb)):=by
 refine(afu v tb).trans (dD (dw p h) λ_ _ _ e3 _=>?_);unfold mn1;refine J e3 (J (show vs v "many"=Z (I (gF p))from aD Z h.many) (J (j1 ..) (J (show vs v "below"=Z (int p.d4)from aD Z h.below) (J (nB _ _ (zD _)) (J (nB _ _ (zD _)) ?_)))));show gN cu (dT 28) (fl "fits" v tb) (.tuple [I (Aj p),I (zN p)])=_;refine J (Zs ..) (rF h.begin (rF h.fin ?_))
 kernel_rfl
theorem aeD:cq 6 gX cu (fl "end" v ((sX p (gF p)).map I)) (dT 29)=Z (.next (fl "part" v ((sX p (gF p)).map I))):=by
 refine(aft v _).trans ?_;have hw:=la p
 have hen:zN p<=gF p:=by
  have h1:=cD p.d4 (show((gF p+1:Nat):Int)≠0 by exact RI ((λ{x y}=>bi_ine.mp) rfl));have h2:=cO p.d4 (show(0:Int)<((gF p+1:Nat):Int) by exact N9 (gF p));exact qw ((kN h1).mpr h2)
 rw[IV h,mQ I (λw=>.tuple [I (max (Aj p) (min (zN p) (lz p w))),I (max (Aj p) (min (zN p) (so p w)))]) (λw FQ=>?_) (by refine J aN ?_;exact aj (la p) (by decide))]
 ·show Z (gO.next (V1 "part" (.list ((av (WP p)).map λw=>.tuple [I (max (Aj p) (min (zN p) (lz p w))),I (max (Aj p) (min (zN p) (so p w)))]))::fl "end" v ((sX p (gF p)).map I)))=_;refine rF h.part ?_
  kernel_rfl
 ·have xl:=b9.mp FQ;have key:=λl=>L0 h l (ds:=[.list ((sX p (gF p)).map I),I w,I (Aj p),I (zN p)]) (lo:=Aj p) (hi:=zN p) xl rfl rfl rfl hen;unfold R6;refine J (show b8 [Z (.list ((sX p (gF p)).map I)),Z (I w),vs v "begin",vs v "end"]=Z [.list ((sX p (gF p)).map I),I w,I (Aj p),I (zN p)] by unfold vs;exact J h.begin (J h.fin rfl)) ?_;have k1:=key af;have k2:=key ag;exact J (show DM (v "images") "bisect_left" (Z [.list ((sX p (gF p)).map I),I w,I (Aj p),I (zN p)])=_ from k1) (J (show DM (v "images") "bisect_right" (Z [.list ((sX p (gF p)).map I),I w,I (Aj p),I (zN p)])=_ from k2) (J (vc ..) rfl))
theorem aeC(tb:List D):cq 6 gX cu (fl "part" v tb) (dT 30)=Z (.next (fl "part" v tb)):=by
 refine pX (afr v tb) ?_;have hw:=la p
 have e1:Eo (RO (b8 [vs v "lows",vs v "highs"])) (cmR (Sq (dT 30))) 13 (fl "part" v tb)=Z ((av (WP p)).map λw=>.tuple [I (max (Aj p) (min (zN p) (lz p w))),I (max (Aj p) (min (zN p) (so p w)))]):=by
  refine J (show RO (b8 [vs v "lows",vs v "highs"])=Z (oj ((av (WP p)).map λw=>I (lz p w)) ((av (WP p)).map λw=>I (so p w)),af,ag) by unfold vs;exact J h.lows (J h.highs (J (vt ..) (J (vt ..) rfl)))) (J (Cr ..) ?_);refine vM (λw=>.tuple [I (lz p w),I (so p w)]) _ (λw FQ=>?_) (by refine J aN ?_;exact aj (la p) (by decide));refine(Zr v tb (I (lz p w)) (I (so p w))).trans ?_;unfold Nh;exact J (show vs v "begin"=Z (I (Aj p))from aD Z h.begin) (J (show vs v "end"=Z (I (zN p))from aD Z h.fin) (J (Si ..) (J (Sj ..) (J (Si ..) (J (Sj ..) (J (vc ..) rfl))))))
 unfold c30
 exact J e1 (J (show vs v "part"=Z (.list ((av (WP p)).map λw=>.tuple [I (max (Aj p) (min (zN p) (lz p w))),I (max (Aj p) (min (zN p) (so p w)))]))from aD Z h.part) (vr (k:=2) (Zg λd hd=>by
  refine bh (cG.mp hd) λ_ _ sE=>?_;subst sE
  exact ae9 λe he=>by
   rcases aM.mp he with rfl|he
   ·exact Zh _
   ·exact J (aF.mp he) (Zh _)) (by decide)))
end
theorem Nf(l:List Nat)(b:Nat):jK (l++[b])=2*jK l+b:=by unfold jK;exact J List.foldl_append rfl
theorem Nd:∀l:List Nat,0<jK l:=λl=>by
 have:∀(l:List Nat) (c:Nat),0<c->0<l.foldl (λa b=>2*a+b) c:=λl=>by
  induction l with
  |nil=>intro c h;exact h
  |cons a l ih=>intro c h;exact ih (2*c+a) (by lia)
 exact this l 1 (by decide)
theorem NY{P:List Nat->Prop}(h0:P [])(h1:∀l b,P l->P (l++[b]))(l:List Nat):P l:=by
 have:∀l:List Nat,P l.reverse:=λl=>by
  induction l with
  |nil=>exact h0|cons a l ih=>exact J qq (h1 _ _ ih)
 have:=this l.reverse;rwa[Iw]at this
theorem LJ(c b:Nat)(hc:0<c)(hb:b<2):(2*c+b).log2=c.log2+1:=by
 have h:=(Ax (show c≠0 by exact mA hc)).mp (rfl:c.log2=c.log2);refine(Ax (show 2*c+b≠0 by lia)).mpr ⟨?_,?_⟩
 ·refine J (gm ..) ?_;lia
 ·refine J (gm ..) ?_;lia
theorem AC(l:List Nat):(∀x∈l,x<2)->ul (jK l)=l∧jK l<2^(l.length+1):=by
 refine NY (P:=λl=>(∀x∈l,x<2)->ul (jK l)=l∧jK l<2^(l.length+1)) (λ_=>⟨rfl,by decide⟩) (λl b ih h=>?_) l;have hb:=h b (jG _ (aF.mpr rfl));refine c8 (ih λx hx=>h x (j6 _ hx)) λi1 i2=>J (Nf ..) ?_;refine⟨?_,?_⟩
 ·unfold ul at i1⊢;refine J (LJ _ _ (Nd l) hb) (J sR (J bN ?_))
  congr 1
  ·refine iN (dx λi hi=>?_) i1;have hi:=b9.mp hi;exact J (show(jK l).log2+1-1-i=1+((jK l).log2-1-i)from aLg (by assumption)) (J (Nat.shiftRight_add ..) (J (show(2*jK l+b)>>>1=jK l by exact J (bS ..) (aDb (by assumption))) rfl))
  ·show[(2*jK l+b)>>>((jK l).log2+1-1-(jK l).log2)&&&1]=[b];refine J (show(jK l).log2+1-1-(jK l).log2=0 by exact Nat.sub_self ((jK l).log2+1-1)) (J Nat.shiftRight_zero (J (ib ..) ?_))
   congr 1
   exact aMb (by assumption)
 ·refine J aP (J dX (J (gm ..) ?_));exact aLb (by assumption) (by assumption)
theorem Jb:(av 256).all (λr=>ah ((gZ r).length<=9))=af:=by decide+kernel
structure aiy(p:Pm):Prop where
 bit:∀x∈zU p,x<2
 l2:2<=(zU p).length
 Oo:(zU p).length<=20
 w:wOk (!(j2 p).isEmpty) (iY p) (qN p) (gi p)=af
 be:(j2 p).isEmpty=af->ii (rP p) (iY p)=Z (zU p)
 bl:(j2 p).isEmpty=ag->∃a b,ii (rP p) ((iY p).take (qN p))=Z a∧ii (rP p) ((iY p).drop (qN p))=Z b∧zU p=a++b
theorem OX(a u c:Nat)(hu:u<16)(hc:c<4096):(a*65536+u*4096+c)/65536=a∧(a*65536+u*4096+c)/4096%16=u∧(a*65536+u*4096+c)%4096=c:=by
 have e:a*65536+u*4096+c=c+(u+a*16)*4096:=by
  show a*(16*4096)+u*4096+c=_;exact rF (fF ..) (rF (lW ..) (J (bM ..) (J (bM (a*16) ..) rfl)))
 have e2:(a*65536+u*4096+c)/4096=u+a*16:=by
  exact J e (J (jO _ _ (by decide)) (J (zE hc) (J (dF ..) rfl)))
 refine⟨?_,?_,?_⟩
 ·show(a*65536+u*4096+c)/(4096*16)=a;exact rF (sQ ..) (J e2 (J (jO _ _ (by decide)) (J (zE hu) (J (dF ..) rfl))))
 ·exact J e2 (J (ko ..) (J (kL hu) rfl))
 ·exact J e (J (ko ..) (J (kL hc) rfl))
theorem Hh(p:Pm)(h1:1<(iY p).length):aiy p:=by
 have hb:=abk (rP p) (wq p);unfold Ci at hb
 cases he:(j2 p).isEmpty with
 |true=>
  rw[bz (show(gZ (rP p)).isEmpty=af from he)]at hb;have Jm:iY p=w4 (za p%16).toNat:=by unfold iY;exact J (bz he) rfl
  have hw:=gs hb (za p%16).toNat (zu _ 16 (by decide));rw[←Jm]at hw
  cases VS:ii (rP p) (iY p)with
  |none=>rw[VS]at hw;exact ff hw
  |some row=>
   rw[VS]at hw;have Mk:zU p=row:=by unfold zU;exact J (bz he) (J VS rfl)
   have hl:row.length=6:=aC.mp (fv (fv hw));have hc:uf (rP p) row=iY p:=aC.mp (gx hw);refine⟨λx hx=>?_,by refine J Mk (J hl ?_);decide,by refine J Mk (J hl ?_);decide,?_,(λ_=>by exact J Mk VS),λh=>by rw[he]at h;cases h⟩
   ·rw[Mk]at hx;exact aw (a9.mp (gx (fv hw)) x hx)
   ·have h4:=gs (gs WK (za p%16).toNat (zu _ 16 (by decide))) (za p/16%3).toNat (zu _ 3 (by decide))
    have VN:qN p=(za p/16%3).toNat+1:=by
     unfold qN;refine J Jm ?_;show 1+(za p/16%3).toNat=_;exact bM 1 (za p/16%3).toNat
    have ET:gi p=iY p:=by unfold gi;exact J Mk (J hc rfl)
    exact J ET (J VN (J Jm (J he h4)))
 |false=>
  rw[bF (by refine J (show(gZ (rP p)).isEmpty=ag from he) ?_;decide)]at hb;have Jm:iY p=j2 p:=by unfold iY;exact J (bF (by refine J he ?_;decide)) rfl
  have h9:(j2 p).length<=9:=aw (gs (f:=λr=>ah ((gZ r).length<=9)) Jb _ (wq p));rw[Jm]at h1;have hcp:(((iY p).length-1:Nat):Int)≠0:=by refine J Jm ?_;lia
  have hc1:=cD (za p/16) hcp;have VP:=cO (za p/16) (show(0:Int)<(((iY p).length-1:Nat):Int) by refine J Jm ?_;lia)
  have VN:(za p/16%(((iY p).length-1:Nat):Int)).toNat<(j2 p).length-1:=by
   rw[Jm]at hc1 VP⊢;exact(λ{n} {z} h=>(kN h).mpr) hc1 VP
  have Kd:qN p=(za p/16%(((iY p).length-1:Nat):Int)).toNat+1:=by unfold qN;exact bM 1 (za p/16%↑((iY p).length-1)).toNat
  have hw:=gs hb _ VN;rw[←Kd]at hw;have aga:gZ (rP p)=iY p:=Jm.symm;rw[aga]at hw
  cases ha:ii (rP p) ((iY p).take (qN p))with
  |none=>rw[ha]at hw;exact ff hw
  |some a=>
   cases xo:ii (rP p) ((iY p).drop (qN p))with
   |none=>rw[ha,xo]at hw;exact ff hw
   |some b=>
    rw[ha,xo]at hw;have Mk:zU p=a++b:=by unfold zU;exact J (bF (by refine J he ?_;decide)) (J ha (J xo rfl))
    have hl:(a++b).length=(iY p).length+4:=aC.mp (gx (fv hw));have agN:∀x∈a++b,x<2:=λx hx=>aw (a9.mp (fv (fv hw)) x hx);have P0:=a9.mp QV _ (eW.mp (gx hw));rw[Jm]at hl;refine⟨by exact J Mk agN,by exact J Mk (J hl (fK h1)),by refine J Mk (J hl ?_);lia,?_,(λh=>by rw[he]at h;exact ff h),λ_=>⟨a,b,by first|rfl|exact ha,by first|rfl|exact xo,Mk⟩⟩;have ET:gi p=uf (rP p) (a++b):=by unfold gi;exact J Mk rfl
    rw[←ET]at P0
    have hcb:∀x∈gi p,x<2:=λx hx=>by
     unfold gi uf at hx;refine bh (cG.mp hx) λy _ jE=>?_;subst jE;exact kS _
    have pP:(gi p).length<=11:=by
     refine J ET ?_;unfold uf;refine J (au ..) (J (rU ..) (J hl ?_));lia
    refine c8 (AC (iY p) (RR p)) λw1 _=>c8 (AC (gi p) hcb) λc1 c2=>?_;have c3:jK (gi p)<4096:=aH c2 (show 2^((gi p).length+1)<=2^12 from cb (by decide) (nq pP));unfold RT at P0;have c4:qN p<16:=by exact J Kd (aT (aj VN (uM h9 1)) (by decide))
    refine eP (OX (jK (iY p)) (qN p) (jK (gi p)) c4 c3) λd1 d2 d3=>?_;rw[d1,d2,d3,w1,c1]at P0;exact J he P0
theorem Wu{xs:List Nat}(h:xs.length<=1000)(k:Nat):lX (Z (Z (k:Int))) (Z ae) (Z ae) (Z (bW xs))=Z (bW (xs.drop k)):=by
 show rm (.list (xs.map I)) (Z (k:Int)) ae ae=_;refine J (sZ _ _ _ (J (au ..) (aj h (by decide)))) ?_;show Z (bJ (((xs.map I).drop (clipAt (xs.map I).length (k:Int))).take ((xs.map I).length-clipAt (xs.map I).length (k:Int))))=Z (bJ ((xs.drop k).map I))
 congr 2
 refine J (qi ..) (J (au ..) (J lu ?_));refine jR (iH k xs.length) (λh1=>?_) λh1=>?_
 ·exact J (dG h1) (J (cE (J cJ (J (au ..) (aV _)))) rfl)
 ·exact J (eI h1) (J (cS (J (au ..) (aV _))) (J (cS (J (au ..) h1)) (J Xw rfl)))
theorem Ug{xs:List Nat}(h:xs.length<=1000)(k:Nat):lX (Z ae) (Z (Z (k:Int))) (Z ae) (Z (bW xs))=Z (bW (xs.take k)):=by
 show rm (.list (xs.map I)) ae (Z (k:Int)) ae=_;refine J (sZ _ _ _ (J (au ..) (aj h (by decide)))) ?_;show Z (bJ (((xs.map I).drop 0).take (clipAt (xs.map I).length (k:Int)-0)))=Z (bJ ((xs.take k).map I))
 congr 2
 refine J (qi ..) (J (au ..) (J lr (J j7 (J (xK ..) ?_))));refine jR (iH k xs.length) (λh1=>?_) λh1=>?_
 ·exact J (dG h1) rfl
 ·exact J (eI h1) (J (cE (J (au ..) (aV _))) (J (cE (J (au ..) h1)) rfl))
theorem O6{p:Pm}{l:List Nat}(h:l.length<=1000)(lo hi:Option Int):rm (gp p l) lo hi ae=Z (gp p (rk l lo hi)):=Us (gP p) l lo hi (aj h (by decide))
theorem Ng(n k:Nat)(hk:0<k):clipAt n (-(k:Int))=n-k:=by
 unfold clipAt;refine J (bz (Int.neg_neg_of_pos (d9.mpr hk))) (J (jx ..) ?_);refine(iH k n).elim (λh=>?_) λh=>?_
 ·exact J (show(n:Int)+-(k:Int)=((n-k:Nat):Int)from(q6 h).symm) (J (WJ ..) (J (dG (lS _ _)) rfl))
 ·exact J (Iq h) (J (TG (show min ((n:Int)+-(k:Int)) (n:Int)<=0 from kQ (Az _ _) (Int.sub_nonpos_of_le (da.mpr h)))) rfl)
theorem vh(l:List Nat)(k:Nat):rk l (Z (k:Int)) ae=l.drop k:=by
 show(l.drop (clipAt l.length (k:Int))).take (l.length-clipAt l.length (k:Int))=_;refine J (qi ..) (jR (iH k l.length) (λh1=>?_) λh1=>?_)
 ·exact J (dG h1) (J (cE (J cJ (aV _))) rfl)
 ·exact J (eI h1) (J (cS (aV _)) (J (cS h1) (J Xw rfl)))
theorem Dl(l:List Nat)(k:Nat):rk l ae (Z (k:Int))=l.take k:=by
 show(l.drop 0).take (clipAt l.length (k:Int)-0)=_;refine J (qi ..) (J j7 (J (xK ..) ?_));refine jR (iH k l.length) (λh1=>?_) λh1=>?_
 ·exact J (dG h1) rfl
 ·exact J (eI h1) (J (cE (aV _)) (J (cE h1) rfl))
theorem vg(l:List Nat)(k:Nat)(hk:0<k):rk l (Z (-(k:Int))) ae=l.drop (l.length-k):=by
 show(l.drop (clipAt l.length (-(k:Int)))).take (l.length-clipAt l.length (-(k:Int)))=_;exact J (Ng _ _ hk) (J (cE (J cJ (aV _))) rfl)
theorem Dn(l:List Nat):rk l ae (Z (-1))=l.dropLast:=by
 show(l.drop 0).take (clipAt l.length (-1)-0)=_;exact J (H8 ..) (J j7 (J (xK ..) (J List.dropLast_eq_take rfl)))
section
variable{v:Vl}{p:Pm}(h:VV v p)
include h
theorem TU:vs v "word"=Z (bW (iY p)):=aD Z h.word
theorem si0(tb:List D)(h1:1<(iY p).length):cq 5 gX cu (fl "part" v tb) (CC 0)=Z (.next (g1 v tb)):=by
 refine(li0 v tb).trans ?_;have hl:=um p;refine J (TU h) (J (A1 (by exact aj hl (by decide))) (J (t8 _ _ (Nat.one_le_of_lt h1)) (J (show vs v "deep"=Z (int (za p))from aD Z h.Wz) (J (sk _ 16 (by decide) (by decide)) (J (nB _ _ (show(iY p).length-1≠0 by exact(λ{n m}=>Nat.sub_ne_zero_iff_lt.mpr) h1)) (J (j1 ..) ?_))))));show Z (gO.next (V1 "cut" (I (qN p))::fl "part" v tb))=_;exact rF h.cut rfl
theorem NM{ls:List Nat}(h1:0<ls.length)(h2:ls.length<100){x:List Nat}(hx:ii (rP p) ls=Z x):Ew v (Z (bW ls))=Z (bW x):=by
 unfold Ew;refine cF Jv (ds:=[I (rP p),bW ls]) (by unfold vs;exact J h.rule rfl) ?_;show(pv (ls.map I)).bind (λls=>bif !ls.isEmpty&&ah (ls.length<100)then(ii (rP p) ls).map bW else ae)=_;exact J (mN ..) (J (bx ..) (J (aq h2) (J (show ls.isEmpty=ag by rw[eK];intro e;rw[e]at h1;exact eA _ h1) (J hx rfl))))
theorem si1(tb:List D)(h1:1<(iY p).length):cq 5 gX cu (g1 v tb) (CC 1)=Z (.next (g2 v tb)):=by
 refine(li1 v tb).trans ?_;have hl:=um p;have R:=Hh p h1
 have e:Kb (tO (vs v "lost")) (b2 .Add (Ew v (lX (Z ae) (pO (vs v "cut")) (Z ae) (vs v "word"))) (Ew v (lX (pO (vs v "cut")) (Z ae) (Z ae) (vs v "word")))) (Ew v (vs v "word"))=Z (v "row"):=by
  refine J (BV h) (J (vx ..) (J (TU h) (J (show pO (vs v "cut")=Z (Z ((qN p:Nat):Int)) by unfold vs;exact J h.cut rfl) (J h.row ?_))))
  cases he:(j2 p).isEmpty with
  |true=>exact NM h (xJ h1) (aT hl (by decide)) (R.be he)
  |false=>
   refine bV (R.bl he) λa b ha hb hr=>?_;have hcp:(((iY p).length-1:Nat):Int)≠0:=eb (oL.mpr (jU h1));have hc1:=cD (za p/16) hcp;have VP:=cO (za p/16) (show(0:Int)<(((iY p).length-1:Nat):Int)from oL.mpr (jU h1))
   have VN:1<=qN p∧qN p<(iY p).length:=by
    unfold qN;rw[bM];exact aTl hc1 VP
   show b2 .Add _ _=_;refine J (Ug (by exact aj hl (by decide)) ..) (J (Wu (by exact aj hl (by decide)) ..) (J (NM h (J gW (Nat.lt_min.mpr ⟨VN.1,xJ h1⟩)) (J gW (aT (nr ..) (aT hl (by decide)))) ha) (J (NM h (J cJ (jU VN.2)) (J cJ (aT (lS ..) (aT hl (by decide)))) hb) (J hr ?_))));have:=R.Oo;rw[hr,aP]at this;exact mI _ _ (by show _<=16777216;exact aj (by assumption) (by decide))
 exact J e rfl
theorem si2(b:Bd p)(tb:List D)(h1:1<(iY p).length):cq 5 gX cu (g2 v tb) (CC 2)=Z (.next (g3 v tb)):=by
 refine(li2 v tb).trans ?_;have R:=Hh p h1;have l2:=R.l2;have Oo:=R.Oo;have ZZ:∀x∈(zU p).reverse,x<2:=λx hx=>R.bit x (fx.mp hx)
 have hu:gK 1 (zU p).reverse<2^(zU p).length:=by
  have:=qy 1 (zU p).reverse ZZ;rw[cI,iE]at this;exact this
 have hf:V0 v=Z (bW (gi p)):=by
  unfold V0;refine J (show vs v "row"=Z (bW (zU p))from aD Z h.row) (J (Hn (by exact aj Oo (by decide))) (J (aaT (by refine J cI ?_;exact aj Oo (by decide)) ZZ) (J (A1 (by exact aj Oo (by decide))) (J (t8 _ _ l2) (J (show Z (I (gK 1 (zU p).reverse))=Z (int ((gK 1 (zU p).reverse:Nat):Int))from rfl) (J (Lo h b _ (aj (jB hu) (by exact aj Oo (by decide))) _ (by lia)) ?_))))));show lX (Z ae) (Z ae) (pO kW) (Z (bW (iR (rP p) ((gK 1 (zU p).reverse:Nat):Int) ((zU p).length-2))))=_;exact J (Hn (by unfold iR;exact J (au ..) (J aN (NR (aj Oo (by decide)))))) (J (FW _ _ R.bit) rfl)
 refine J hf (J (show kf (Z (bW (gi p)))=Z ((gi p).map I,ag,af)from rfl) (J (FK h (ls:=gi p) rfl (λx hx=>by
  unfold gi uf at hx;refine bh (cG.mp hx) λy _ jE=>?_;subst jE;exact kS _) (by unfold gi uf;exact J (au ..) (J (rU ..) (NR (aj Oo (by decide)))))) ?_))
 show Z (gO.next (V1 "come" (gp p (gi p))::g2 v tb))=_;exact rF h.iu rfl
end
theorem q8(p:Pm){l:List Nat}(h:l.length<=1000){x y:Option D}(a b:Option Int)(hx:x=a.map int)(hy:y=b.map int):uU x y (Z (gp p l))=Z (gp p (rk l a b)):=by
 subst hx hy;rw[show uU (a.map int) (b.map int) (Z (gp p l))=rm (gp p l) a b ae by induction a using aB<;>induction b using aB<;>rfl];exact O6 h a b
theorem sA2(p:Pm){a b:List Nat}(ha:a.length<=100)(hb:b.length<=100):b2 .Add (Z (gp p a)) (Z (gp p b))=Z (gp p (a++b)):=yk _ _ _ (aj (cL ha hb) (by decide))
theorem YW(p:Pm){a b c:List Nat}(ha:a.length<=100)(hb:b.length<=100)(hc:c.length<=100):b2 .Add (b2 .Add (Z (gp p a)) (Z (gp p b))) (Z (gp p c))=Z (gp p (a++b++c)):=by
 rw[sA2 p ha hb];exact yk _ _ _ (by rw[aP];exact aj (cL (cL ha hb) hc) (by decide))
theorem sA5(p:Pm){a b c d e:List Nat}(ha:a.length<=100)(hb:b.length<=100)(hc:c.length<=100)(hd:d.length<=100)(he:e.length<=100):b2 .Add (b2 .Add (b2 .Add (b2 .Add (Z (gp p a)) (Z (gp p b))) (Z (gp p c))) (Z (gp p d))) (Z (gp p e))=Z (gp p (a++b++c++d++e)):=by
 rw[YW p ha hb hc,show b2 .Add (Z (gp p (a++b++c))) (Z (gp p d))=Z (gp p (a++b++c++d))from yk _ _ _ (by rw[aP,aP];show _<=16777216;lia)];exact yk _ _ _ (by rw[aP,aP,aP];show _<=16777216;lia)
theorem sA4(p:Pm){a b c d:List Nat}(ha:a.length<=100)(hb:b.length<=100)(hc:c.length<=100)(hd:d.length<=100):b2 .Add (b2 .Add (b2 .Add (Z (gp p a)) (Z (gp p b))) (Z (gp p c))) (Z (gp p d))=Z (gp p (a++b++c++d)):=by
 rw[YW p ha hb hc];exact yk _ _ _ (by rw[aP,aP];show _<=16777216;lia)
theorem sF:qt.length<=100:=by decide
theorem aaI(p:Pm):dt=Z (gp p qt):=SY p
def T2(text:List Nat)(cut:Nat)(iu:List Nat):List (List Nat):=[text.take cut++qt++text.drop cut,qt++text++qt,iu,iu.drop 1,iu++qt++iu.drop (iu.length-1),qt++iu.take 2++qt++iu.drop 1++qt]
def XC(iu:List Nat):List (List Nat):=[iu.drop 1++qt,qt++iu.dropLast,qt++iu.drop (iu.length-2)++qt++iu.drop (iu.length-1)]
section
variable{v:Vl}{p:Pm}(h:VV v p)
include h
theorem xI:vs v "come"=Z (gp p (gi p)):=aD Z h.iu
theorem TY(hc:(gi p).length<=20):TZ v=Z ((T2 (iY p) (qN p) (gi p)).map (gp p)):=by
 have hl:=um p;have hd:qt.length=3:=rfl;have ht:vs v "text"=Z (gp p (iY p)):=aD Z h.text;have Z9:vs v "cut"=(Z ((qN p:Nat):Int)).map int:=aD Z h.cut
 have e1:uU ae (vs v "cut") (vs v "text")=Z (gp p ((iY p).take (qN p))):=by
  rw[ht];exact(q8 p (l:=iY p) (x:=ae) (y:=(vs v "cut")) (aj hl (by decide)) ae (Z ((qN p:Nat):Int)) rfl Z9).trans (by rw[Dl])
 have e2:uU (vs v "cut") ae (vs v "text")=Z (gp p ((iY p).drop (qN p))):=by
  rw[ht];exact(q8 p (l:=iY p) (x:=(vs v "cut")) (y:=ae) (aj hl (by decide)) (Z ((qN p:Nat):Int)) ae Z9 rfl).trans (by rw[vh])
 have e3:uU yp ae (vs v "come")=Z (gp p ((gi p).drop 1)):=by
  rw[xI h];exact(q8 p (l:=gi p) (x:=yp) (y:=ae) (aj hc (by decide)) (Z ((1:Nat):Int)) ae rfl rfl).trans (by rw[vh])
 have e4:uU kW ae (vs v "come")=Z (gp p ((gi p).drop ((gi p).length-1))):=by
  rw[xI h];exact(q8 p (l:=gi p) (x:=kW) (y:=ae) (aj hc (by decide)) (Z (-((1:Nat):Int))) ae rfl rfl).trans (by rw[vg _ _ (by decide)])
 have e5:uU ae (Z (I 2)) (vs v "come")=Z (gp p ((gi p).take 2)):=by
  rw[xI h];exact(q8 p (l:=gi p) (x:=ae) (y:=(Z (I 2))) (aj hc (by decide)) ae (Z ((2:Nat):Int)) rfl rfl).trans (by rw[Dl])
 unfold TZ Ct;simp only[fT,TC];rw[e1,e2,e3,e4,e5,ht,xI h,aaI p];have lw:(iY p).length<=100:=aj hl (by decide);have lc:(gi p).length<=100:=aj hc (by decide);have l1:((iY p).take (qN p)).length<=100:=aj (Iy ..) lw;have l2:((iY p).drop (qN p)).length<=100:=by rw[cJ];exact NR lw
 have l3:((gi p).drop 1).length<=100:=by rw[cJ];exact NR (aj hc (by decide))
 have l4:((gi p).drop ((gi p).length-1)).length<=100:=by rw[cJ];exact NR (aj hc (by decide))
 have l5:((gi p).take 2).length<=100:=aj (Iy ..) lc;rw[YW p l1 sF l2,YW p sF lw sF,YW p lc sF l4,sA5 p sF l5 sF l3 sF]
 rfl
theorem TV(hc:(gi p).length<=20):TX v=Z (.list ((XC (gi p)).map (gp p))):=by
 have hd:qt.length=3:=rfl
 have e3:uU yp ae (vs v "come")=Z (gp p ((gi p).drop 1)):=by
  rw[xI h];exact(q8 p (l:=gi p) (x:=yp) (y:=ae) (aj hc (by decide)) (Z ((1:Nat):Int)) ae rfl rfl).trans (by rw[vh])
 have e4:uU kW ae (vs v "come")=Z (gp p ((gi p).drop ((gi p).length-1))):=by
  rw[xI h];exact(q8 p (l:=gi p) (x:=kW) (y:=ae) (aj hc (by decide)) (Z (-((1:Nat):Int))) ae rfl rfl).trans (by rw[vg _ _ (by decide)])
 have e6:uU (Z (int (-2))) ae (vs v "come")=Z (gp p ((gi p).drop ((gi p).length-2))):=by
  rw[xI h];exact(q8 p (l:=gi p) (x:=(Z (int (-2)))) (y:=ae) (aj hc (by decide)) (Z (-((2:Nat):Int))) ae rfl rfl).trans (by rw[vg _ _ (by decide)])
 have e7:uU ae kW (vs v "come")=Z (gp p (gi p).dropLast):=by
  rw[xI h];exact(q8 p (l:=gi p) (x:=ae) (y:=kW) (aj hc (by decide)) ae (Z (-1)) rfl rfl).trans (by rw[Dn])
 unfold TX Ct;simp only[fT,TC];rw[e3,e4,e6,e7,aaI p];have l3:((gi p).drop 1).length<=100:=by rw[cJ];exact NR (aj hc (by decide))
 have l4:((gi p).drop ((gi p).length-1)).length<=100:=by rw[cJ];exact NR (aj hc (by decide))
 have l6:((gi p).drop ((gi p).length-2)).length<=100:=by rw[cJ];exact NR (aj hc (by decide))
 have l7:((gi p).dropLast).length<=100:=by rw[List.length_dropLast];exact NR (aj hc (by decide))
 rw[sA2 p l3 sF,sA2 p sF l7,sA4 p sF l6 sF l4]
 rfl
theorem Wr(hc:(gi p).length<=20):Ws v=Z (.list ((Ca (!(j2 p).isEmpty) (gi p)).map .bool)):=by
 have e3:uU yp ae (vs v "come")=Z (gp p ((gi p).drop 1)):=by
  rw[xI h];exact(q8 p (l:=gi p) (x:=yp) (y:=ae) (aj hc (by decide)) (Z ((1:Nat):Int)) ae rfl rfl).trans (by rw[vh])
 have e6:uU (Z (int (-2))) ae (vs v "come")=Z (gp p ((gi p).drop ((gi p).length-2))):=by
  rw[xI h];exact(q8 p (l:=gi p) (x:=(Z (int (-2)))) (y:=ae) (aj hc (by decide)) (Z (-((2:Nat):Int))) ae rfl rfl).trans (by rw[vg _ _ (by decide)])
 have e7:uU ae kW (vs v "come")=Z (gp p (gi p).dropLast):=by
  rw[xI h];exact(q8 p (l:=gi p) (x:=ae) (y:=kW) (aj hc (by decide)) ae (Z (-1)) rfl rfl).trans (by rw[Dn])
 unfold Ws;rw[e3,e6,e7]
 have c1:cB .Eq (Z (gp p ((gi p).drop 1))) (Z (gp p (gi p).dropLast))=Z (.bool ((gi p).drop 1==(gi p).dropLast)):=by
  show(sI .Eq (str (S (gP p) _)) (str (S (gP p) _))).map ji=_;rw[aiC (gP p) (Mx p)];rfl
 have c2':cB .In (Z (gp p ((gi p).drop ((gi p).length-2)))) (Z (gp p (gi p).dropLast))=Z (.bool (FO ((gi p).drop ((gi p).length-2)) (gi p).dropLast)):=by
  show(sI .In (str (S (gP p) _)) (str (S (gP p) _))).map ji=_;rw[ae0 (gP p) (Mx p)];rfl
 have c3:cB .Eq (vs v "lost") yx=Z (.bool (!!(j2 p).isEmpty)):=by
  rw[los h,Yx];have:=zz ((j2 p).map (sg (mG p) (mF p)));rw[mX]at this;show(sI .Eq (bW ((j2 p).map (sg (mG p) (mF p)))) (.list [])).map ji=_;rw[show sI .Eq (bW ((j2 p).map (sg (mG p) (mF p)))) (.list [])=_ from this];rfl
 rw[c1,c2',c3]
 rfl
theorem WI(h1:1<(iY p).length):(gi p).length<=20:=by
 have:=(Hh p h1).Oo;unfold gi uf;rw[au,rU];exact NR (aj (by assumption) (by decide))
theorem aaZ(h1:1<(iY p).length):ci6 v ((T2 (iY p) (qN p) (gi p)).map (gp p)++(XC (gi p)).map (gp p)) (.list ((Ca (!(j2 p).isEmpty) (gi p)).map .bool))=Z ag:=by
 have R:=Hh p h1;have hw:=aC.mp (show((wi (iY p) (qN p) (gi p)).map (λw=>uG zL (gi p) w)==(Ca (!(j2 p).isEmpty) (gi p)).map Z)=af from R.w)
 have hk:∀w∈wi (iY p) (qN p) (gi p),uG zL (gi p) w=Z ((uG zL (gi p) w).getD ag):=λw hm=>by
  have:uG zL (gi p) w∈(Ca (!(j2 p).isEmpty) (gi p)).map Z:=by rw[←hw];exact cG.mpr ⟨w,hm,rfl⟩
  refine bh (cG.mp this) λb _ e=>?_;rw[←e];rfl
 have hd:(wi (iY p) (qN p) (gi p)).map (λw=>ji ((uG zL (gi p) w).getD ag))=(Ca (!(j2 p).isEmpty) (gi p)).map .bool:=by
  have:=aD (ui λx:Option Bool=>ji (x.getD ag)) hw;rw[bI,bI]at this;exact this
 unfold ci6
 rw[show(T2 (iY p) (qN p) (gi p)).map (gp p)++(XC (gi p)).map (gp p)=(wi (iY p) (qN p) (gi p)).map (gp p)from rfl,vm,iV (xs:=wi (iY p) (qN p) (gi p)) (gp p) (λw=>ji ((uG zL (gi p) w).getD ag)) (λw hm=>by
  rw[xI h];exact SU p w (gi p) (hk w hm)) (show 9<=1000 by decide),hd,KQ (yj (Ca (!(j2 p).isEmpty) (gi p))) (by decide) (show 9<=1000 by decide),ne_str]
theorem aeB(b:Bd p)(tb:List D):∃o,cq 6 gX cu (fl "part" v tb) (dT 31)=Z (.next (g6 v tb o)):=by
 have hl:=um p;have e:=afq v tb
 rw[TU h,A1 (by exact aj hl (by decide)),show c2 .Gt (Z (I (iY p).length)) (Z (I 1))=Z (ah (1<(iY p).length)) by
  show Z (ah (((1:Nat):Int)<(((iY p).length:Nat):Int)))=_
  congr 1
  rw[cj,decide_eq_true_eq,decide_eq_true_eq];exact d9,bx]at e
 by_cases h1:1<(iY p).length
 ·rw[aq h1]at e;have hc:=WI h h1;refine⟨Z ((T2 (iY p) (qN p) (gi p)).map (gp p)++(XC (gi p)).map (gp p),.list ((Ca (!(j2 p).isEmpty) (gi p)).map .bool)),e.trans ?_⟩;rw[show(bif af then fm (dT 31)else[])=[CC 0,CC 1,CC 2,CC 3,CC 4,CC 5,CC 6] by kernel_rfl];have s3:=li3 v tb;rw[TY h hc,bx]at s3;have s4:=li4 v tb ((T2 (iY p) (qN p) (gi p)).map (gp p));rw[TV h hc]at s4;have s5:=li5 v tb ((T2 (iY p) (qN p) (gi p)).map (gp p)++(XC (gi p)).map (gp p));rw[Wr h hc]at s5;have s6:=pX (li6 v tb ((T2 (iY p) (qN p) (gi p)).map (gp p)++(XC (gi p)).map (gp p)) (.list ((Ca (!(j2 p).isEmpty) (gi p)).map .bool))) (aaZ h h1);exact bZ (si0 h tb h1) (bZ (si1 h tb h1) (bZ (si2 h b tb h1) (bZ s3 (bZ s4 (bZ s5 (bZ s6 Dp))))))
 ·rw[bi h1]at e;exact⟨ae,e⟩
end
def J9(p:Pm):List Int:=(js (rP p)).map (λf=>(f.2:Int))++[((mG p:Nat):Int),((mF p:Nat):Int)]++[0,255,tJ p]
noncomputable def T9(x:Int):D:=.list [.bool (x==0),.bool (ah (x<256)),.bool (ah (255<x))]
theorem Uu(x:Int):Yd 24 (T9 x):=by
 exact mM (YU (k:=5) (ds:=[.bool (x==0),.bool (ah (x<256)),.bool (ah (255<x))]) (yj [x==0,ah (x<256),ah (255<x)])) λa b c _=>⟨a,b,c,show 1<=5 by decide⟩
section
variable{v:Vl}{p:Pm}(h:VV v p)
include h
theorem YQ:Uj v=Z (.list ((J9 p).map int)):=by
 have hf:=wF (rP p);have hb:=(LH (rP p) (wq p)).2;unfold Uj;rw[show vs v "forms"=Z (.list ((js (rP p)).map (eD (mG p) (mF p))))from aD Z h.D6,vm,iV (e:=λf=>gh (Z f) kW) (eD (mG p) (mF p)) (λf=>I f.2) (λf hm=>tr _ _ f (by have:=(hb f hm).1;lia)) (by lia),show vs v "numbers"=Z (.list [I (mG p),I (mF p)])from aD Z h.xR,show vs v "above"=Z (int (tJ p))from aD Z h.above,Bs (by rw[au];show _+2<=1000;lia),show gf [Z (I 0),Z (I 255),Z (int (tJ p))]=Z (.list [I 0,I 255,int (tJ p)])from rfl,Bs (by rw[aP,au];show _+2+3<=1000;lia)];unfold J9;rw[bN,bN,bI]
 rfl
theorem Uk:(J9 p).length<=45:=by
 have hf:=wF (rP p);unfold J9;rw[aP,aP,au];show _+2+3<=45
 lia
theorem aay:Wh (.list ((J9 p).map int))=Z (.bool af):=by
 have hl:=Uk h;unfold Wh;rw[vm]
 have e1:lQ (Z ((J9 p).map int,ag,af)) tt (λx=>gf [dB "ISEOF" [Z x],dB "ISTERMINAL" [Z x],dB "ISNONTERMINAL" [Z x]])=Z (.list ((J9 p).map T9)):=iV int T9 (λx _=>by
  rw[cF MB (ds:=[int x]) (d:=.bool (x==0)) rfl rfl,cF VX (ds:=[int x]) (d:=.bool (ah (x<256))) rfl rfl,cF VY (ds:=[int x]) (d:=.bool (ah (256<=x))) rfl rfl,show ah (256<=x)=ah (255<x) by rw[cj,decide_eq_true_eq,decide_eq_true_eq];exact Eq.to_iff rfl]
  rfl) (by lia)
 have e2:lQ (Z ((J9 p).map int,ag,af)) tt (λx=>gf [nD (c2 .Eq (Z x) (Z (I 0))),nD (c2 .Lt (Z x) (Z (I 256))),nD (c2 .Gt (Z x) (Z (I 255)))])=Z (.list ((J9 p).map T9)):=iV int T9 (λx _=>rfl) (by lia)
 rw[e1,e2,KQ (k:=24) (λd hd=>by
  refine bh (cG.mp hd) λx _ jE=>?_;subst jE;exact Uu x) (by decide) (by rw[au];lia)]
 show Z (ji ((bJ ((J9 p).map T9)).shown==(bJ ((J9 p).map T9)).shown))=_;rw[beq_self_eq_true]
theorem PK(b:Bd p)(s0:cq 6 gX cu (fl "script" v []) (dT 0)=Z (.next (fl "drawn" v []))):uq 7 gX cu (fl "script" v []) (bP yD)=Z (.ret (.bool af)):=by
 refine bQ (aeB h b ((sX p (gF p)).map I)) λo s31=>?_;have s32:=afp v ((sX p (gF p)).map I) o;rw[YQ h]at s32;have s33:=afo v ((sX p (gF p)).map I) o (.list ((J9 p).map int));rw[aay h]at s33;rw[show bP yD=[dT 0,dT 1,dT 2,dT 3,dT 4,dT 5,dT 6,dT 7,dT 8,dT 9,dT 10,dT 11,dT 12,dT 13,dT 14,dT 15,dT 16,dT 17,dT 18,dT 19,dT 20,dT 21,dT 22,dT 23,dT 24,dT 25,dT 26,dT 27,dT 28,dT 29,dT 30,dT 31,dT 32,dT 33] by kernel_rfl];exact bZ s0 (bZ (st1 h _) (bZ (Oi h _) (bZ (RZ h _) (bZ (st4 h b _) (bZ (st5 h _) (bZ (st6 h _) (bZ (st7 h _) (bZ (st8 h _) (bZ (st9 h _) (bZ (aeW h _) (bZ (aeV h b _) (bZ (aeU h b _) (bZ (aeT h b _) (bZ (aeS h b _) (bZ (aeR h _) (bZ (aeQ h) (bZ (aeP h) (bZ (aeO h) (bZ (aeN h _) (bZ (aeM h _) (bZ (aeL h _) (bZ (aeK h _) (bZ (aeJ h _) (bZ (aeI h _) (bZ (aeH h _) (bZ (aeG h _) (bZ (aeF h) (bZ (aeE h _) (bZ (aeD h) (bZ (aeC h _) (bZ s31 (bZ s32 (K0 s33)))))))))))))))))))))))))))))))))
end
noncomputable def pick(sc:List Int)(k:Int):List Int:=(qZ (iZ (Z k) (Z 60) (Z 5) sc.length).1 (iZ (Z k) (Z 60) (Z 5) sc.length).2.1 (iZ (Z k) (Z 60) (Z 5) sc.length).2.2).filterMap (sc[·]?)
theorem UD(sc:List Int)(k:Int)(h:sc.length<=1000):lX (Z (Z k)) (Z (Z 60)) (Z (Z 5)) (Z (.list (sc.map int)))=Z (.list ((pick sc k).map int)):=by
 show(bif ah ((sc.map int).length<=fB)&&!((Z 5:Option Int)==Z 0)then Z (bJ (Dk (sc.map int) (Z k) (Z 60) (Z 5)))else ae)=_;refine J (aq (J (au ..) (aj h (by decide)))) ?_;show Z (bJ (Dk (sc.map int) (Z k) (Z 60) (Z 5)))=_
 congr 2
 unfold Dk pick;refine J (au ..) (J List.map_filterMap ?_)
 congr 1
 funext i
 exact J bY rfl
theorem DR:∀xs:List Int,hU (xs.map int)=Z xs
 |[]=>rfl
 |x::xs=>by
  show(hU (xs.map int)).map _=_;exact J (DR xs) rfl
def KZ(sc:List Int):Pm:=⟨110+(pick sc 0).sum,76+(pick sc 1).sum,45+(pick sc 2).sum,3+(pick sc 3).sum,5+(pick sc 4).sum⟩
theorem aaJ(sc:List Int)(h:sc.length<=1000)(k c:Int):drM (Z (.list (sc.map int))) k c=Z (int (c+(pick sc k).sum)):=by
 unfold drM
 exact J (UD sc k h) (J (show dB "sum" [Z (.list ((pick sc k).map int))]=Z (int (pick sc k).sum)from oE (show qk "sum" [.list ((pick sc k).map int)]=_ by
  show(bif("sum":Str)==("len":Str)&&ah (((pick sc k).map int).length<=fB)then Z (aI ((pick sc k).map int).length)else bif("sum":Str)==("sum":Str)then(hU ((pick sc k).map int)).map λxs=>.int xs.sum else bif("sum":Str)==("str":Str)&&(bJ ((pick sc k).map int)).showable&&!(bJ ((pick sc k).map int)).hasDict&&ah ((bJ ((pick sc k).map int)).depth<=60)&&ah ((bJ ((pick sc k).map int)).shown.length<=fB)then Z (.str (bJ ((pick sc k).map int)).shown)else ae)=_;exact J (show(("sum":Str)==("len":Str))=ag by kernel_rfl) (J (show(("sum":Str)==("sum":Str))=af by kernel_rfl) (J (DR ..) rfl))) rfl) rfl)
theorem st0{v:Vl}{sc:List Int}(hs:v "script"=.list (sc.map int))(hl:sc.length<=1000)(h:VV v (KZ sc))(tb:List D):cq 6 gX cu (fl "script" v tb) (dT 0)=Z (.next (fl "drawn" v tb)):=by
 refine(lw0 v tb).trans (J (show vs v "script"=Z (.list (sc.map int))from aD Z hs) (J (pZ (g:=λq:Int×Int=>[int (q.2+(pick sc q.1).sum)]) λq _=>by refine J (aaJ sc hl ..) ?_;rfl) ?_));show Z (gO.next (V1 "drawn" (.list [int (KZ sc).d0,int (KZ sc).d1,int (KZ sc).d2,int (KZ sc).d3,int (KZ sc).d4])::fl "script" v tb))=_;refine rF h.drawn ?_
 kernel_rfl
theorem Ij(B:Nat):∀xs:List Int,(∀x∈xs,x.natAbs<B)->xs.sum.natAbs<=xs.length*B
 |[],_=>dW _
 |x::xs,h=>by
  have h1:=h x bf;have h2:=Ij B xs λy hy=>h y (ba _ hy);refine J CU (J bA (J (kK ..) ?_));have:=mC x xs.sum
  lia
theorem K8(sc:List Int)(k:Nat):(pick sc k).length<=60:=by
 have b1:0<=(iZ (Z (k:Int)) (Z 60) (Z 5) sc.length).1:=AA _ _
 have b2:(iZ (Z (k:Int)) (Z 60) (Z 5) sc.length).2.1<=60:=by
  show max 0 (min (if(60:Int)<0 then 60+(sc.length:Int)else 60) (sc.length:Int))<=60;exact J (bF (by decide)) (Ob.mpr ⟨by decide,Az ..⟩)
 have b3:(iZ (Z (k:Int)) (Z 60) (Z 5) sc.length).2.2=5:=rfl;refine aj (List.length_filterMap_le _ _) (J b3 ?_);revert b1 b2;generalize(iZ (Z (k:Int)) (Z 60) (Z 5) sc.length).1=a;generalize(iZ (Z (k:Int)) (Z 60) (Z 5) sc.length).2.1=b;intro b1 b2;refine J (au ..) (J aN (J (bz (by decide)) ?_))
 split<;>lia
theorem K7(sc:List Int)(k:Int):∀x∈pick sc k,x∈sc:=λx hx=>by
 exact bh (Ku.mp hx) λi _ h=>j5 h
theorem AN(sc:List Int)(h:∀x∈sc,ak x<=1048576)(k:Nat)(c:Nat)(hc:c<200):ak ((c:Int)+(pick sc k).sum)<=1048600:=by
 have h1:=Ij (2^1048576) (pick sc k) λx hx=>aH (lL x) (cb (by decide) (h x (K7 sc k x hx)));have h2:=K8 sc k;have h3:(pick sc k).sum.natAbs<=60*2^1048576:=aj h1 (er _ h2);refine lR ?_;have h4:(2:Nat)^1048600=2^24*2^1048576:=by exact rF (fU ..) rfl
 refine J h4 ?_;have h5:1<=2^1048576:=c7 (by decide);revert h3 h5;generalize 2^1048576=z;intro h3 h5;have h6:=mC (c:Int) (pick sc k).sum;rw[dR]at h6
 lia
theorem YV(sc:List Int)(h:∀x∈sc,ak x<=1048576):Bd (KZ sc):=⟨AN sc h 3 3 (by decide),AN sc h 4 5 (by decide)⟩
def aed(sc:List Int)(p:Pm):List (String×D):=[("script",.list (sc.map int)),("drawn",.list [int p.d0,int p.d1,int p.d2,int p.d3,int p.d4]),("rule",I (rP p)),("n",I (nP p)),("deep",int (za p)),("base",int (Ba p).1),("height",int (Ba p).2.1),("more",int (Ba p).2.2),("factor",int (yU p)),("shift",I (AJ p)),("below",int p.d4),("above",int (tJ p)),("many",I (gF p)),("marks",.list (nN.map .str)),("signs",.list [gp p [0],gp p [1]]),("numbers",bW [mG p,mF p]),("forms",.list ((js (rP p)).map (eD (mG p) (mF p)))),("lost",bW ((j2 p).map (sg (mG p) (mF p)))),("one",bW (tF p)),("other",bW (Ka p)),("size",I (Ui p)),("rows",.list [int (zJ p),int (zI p)]),("told",int (c6 (rP p) (zJ p))),("twin",int (c6 (rP p) (zI p))),("images",bW (si (rP p) (nP p))),("turned",I (XE p)),("u",I (gF p-1)),("lows",bW ((av (WP p)).map (lz p))),("highs",bW ((av (WP p)).map (so p))),("empty",bW (EV p)),("word",bW (iY p)),("page",gp p (pV (rP p) (nP p+2))),("text",gp p (iY p)),("words",.list ((XB p).map (gp p))),("due",.list ((Wt p).map .bool)),("fits",.list ((av (WP p)).map λw=>bW (kg (fP p) ag (gF p) w))),("begin",I (Aj p)),("end",I (zN p)),("part",.list ((av (WP p)).map λw=>.tuple [I (max (Aj p) (min (zN p) (lz p w))),I (max (Aj p) (min (zN p) (so p w)))])),("cut",I (qN p)),("row",bW (zU p)),("come",gp p (gi p))]
def vOf(sc:List Int)(p:Pm):Vl:=λx=>(((aed sc p).map λq=>(aQ q.1,q.2)).lookup x).getD .none
theorem YG(sc:List Int)(p:Pm):VV (vOf sc p) p:=by constructor<;>kernel_rfl
theorem PL(sc:List Int)(hl:sc.length<=1000)(hb:∀x∈sc,ak x<=1048576):uq 7 gX cu (oq ["script"] [.list (sc.map int)]) (bP yD)=Z (.ret (.bool af)):=by
 have h:=YG sc (KZ sc);have hs:vOf sc (KZ sc) "script"=.list (sc.map int):=by kernel_rfl
 have:=PK h (YV sc hb) (st0 hs hl h []);rw[show fl "script" (vOf sc (KZ sc)) []=oq ["script"] [vOf sc (KZ sc) "script"] by kernel_rfl,hs]at this;exact this
theorem U7(g:Gl G)(sc:List Int)(hl:sc.length<=1000)(hb:∀x∈sc,ak x<=1048576):eJ G 49 "law" [.list (sc.map int)] (.bool af):=by
 refine eJ.vn (n:=48) (ch:=af) (xs:=["script"]) (out:=.ret (.bool af)) g.K g.ZH.1 (by kernel_rfl) (λ_=>⟨rfl,g.ZH.2⟩) rfl (λ_ _ _=>rt 1 λ_=>rfl) (.inl rfl) λenv jm ET Sw=>?_
 ·exact sC g.K (NW g) (VH g) (ke:=14) (kw:=70) 7 gX env (oq ["script"] [.list (sc.map int)]) _ _ (J jm (PL sc hl hb))
noncomputable def Jt(h:bq)(x:Str):Option aL:=match h.nsMap bO x with
 |some (.ref a)=>Z a
 |_=>ae
def Qg(h:bq)(x:Str):Option Aw:=(Jt h x).bind h.get?
def Ju(h:bq)(x:Str):Option AB:=match Qg h x with
 |some o=>(match o.data with
  |.func fd=>Z fd
  |_=>ae)
 |none=>ae
def nC(h:bq)(x:Str):Option (aL×Aw×Array az):=match Ju h x with
 |some fd=>(match fd.code with
  |.ref c=>(match h.get? c with
   |some oc=>(match oc.data with
    |.fields vs=>Z (c,oc,vs)
    |_=>ae)
   |none=>ae)
  |_=>ae)
 |none=>ae
noncomputable def uA(x:Str):Option az->Bool
 |some (.str y _)=>y==x
 |_=>ag
noncomputable def wG:List (String×Nat):=[("_div2n1n",2),("_div3n2n",3),("_int2digits",4),("_digits2int",5),("_divmod_pos",6),("int_divmod",7),("_ellipsis_match",15),("ISTERMINAL",68),("ISNONTERMINAL",69),("ISEOF",70),("_law_rule",72),("_law_plain",73),("_law_led",74),("_law_forms",75),("_law_twins",76),("_law_before",77),("_law_next",78),("_law_page",79),("law",80)]
noncomputable def yS:List (String×Nat):=[("insort_right",9),("bisect_right",10),("insort_left",11),("bisect_left",12)]
def rd(h:bq)(x:Str):Bool:=match nC h x with
 |some q=>uA x q.2.2[1]?
 |none=>ag
def Cu(h:bq)(x:Str):Bool:=match Ju h x with
 |some fd=>(match fd.defaults,fd.kwdefaults with
  |.none,.none=>af
  |_,_=>ag)
 |none=>ag
def Rb(h:bq)(x:Str):Bool:=match Ju h x with
 |some fd=>(match fd.defaults with
  |.ref T=>(match h.get? T with
   |some o=>(match o.data with
    |.seq vs _=>(match vs.toList with
     |[.int 0 _,.none]=>af
     |_=>ag)
    |_=>ag)
   |none=>ag)
  |_=>ag)
 |none=>ag
def qM(h:bq)(x:Str):Option (aL×aL):=match nC h x with
 |some q=>(match(q.2.2[11]?:Option az)with
  |some (.ref P)=>bif(q.2.1.cls==.type "code")&&(match q.2.2.getD 18 .none,q.2.2.getD 7 .none,q.2.2.getD 9 .none,q.2.2.getD 10 .none with
   |.str _ _,.int _ _,.bool _,.int _ _=>af
   |_,_,_,_=>ag)then Z (q.1,P)else ae
  |_=>ae)
 |none=>ae
noncomputable def RY:List String:=["_int2digits","_digits2int","law"]
def tZ(h:bq):List (aL×aL):=RY.filterMap λx=>qM h (aQ x)
def GD(h:bq):Bool:=(tZ h).length==3&&(tZ h).all λq=>q.2 !=cStatics&&(tZ h).all λr=>q.1 !=r.2&&(q.2 !=r.2||q.1==r.1)
def yN(h:bq)(x:Str):Option (Aw×List xA):=match Qg h x with
 |some o=>(match o.data with
  |.dict es _=>Z (o,es.toList)
  |_=>ae)
 |none=>ae
noncomputable def B8:List xA->List (Str×Int)->Bool
 |[],[]=>af
 |e::es,p::ps=>uA p.1 (Z e.key)&&(match e.val with|.int i _=>i==p.2|_=>ag)&&B8 es ps
 |_,_=>ag
def aaW(h:bq):Bool:=(match h.nsMap bO "NT_OFFSET"with|some (.int i _)=>i==256|_=>ag)&&(match h.nsMap bO "ENDMARKER"with|some (.int i _)=>i==0|_=>ag)&&(match h.nsMap bO "_DIV_LIMIT"with|some (.int i _)=>i==4000|_=>ag)&&uA "..." (h.nsMap bO "ELLIPSIS_MARKER")&&(match Jt h "EXACT_TOKEN_TYPES"with|some a=>!(a==Xj)|none=>ag)
noncomputable def Nw:List String:=["range","reversed","enumerate","zip","list","len","sum","str","abs","max","min","divmod"]
def Ub(h:bq):Bool:=h.isNs bO&&(wG.all λq=>rd h (aQ q.1)&&Cu h (aQ q.1))&&(yS.all λq=>rd h (aQ q.1)&&Rb h (aQ q.1))&&GD h&&(match yN h "EXACT_TOKEN_TYPES"with|some q=>q.1.cls==.type "dict"&&q.1.dict.isNone&&q.1.slots.size==0&&B8 q.2 tE|none=>ag)&&aaW h&&Nw.all λx=>(h.nsMap bO (aQ x)).isNone
noncomputable def X2(fd:AB):AB:={fd with pyModule:=.none,code:=.none,doc:=.none,defaults:=.none,kwdefaults:=.none}
def fdE(x:Str)(k:Nat):AB:=docDef x (iU (dj k)) (bP (dj k)) (c9 (dj k)) .none .none .none
abbrev NU:=Bool×List (Option AB)×List (Option Aw)×List Int
def rV(h:bq):NU:=(Ub h,(wG++yS).map (λq=>(Ju h (aQ q.1)).map X2),(tZ h).map (λq=>h.get? q.2),match yN h "EXACT_TOKEN_TYPES"with|some q=>q.2.map (·.hash)|none=>[])
def qA(w:pQ):NU:=(af,(wG++yS).map (λq=>Z (fdE (aQ q.1) q.2)),[Z {cls:=.none,data:=.fields #[]},Z {cls:=.none,data:=.fields #[]},Z {cls:=.none,data:=.fields #[]}],tE.map λp=>Yn w p.1)
def qV:Program:=PySem.W.view pw [80]
noncomputable def yE:List Str:=(["_DIV_LIMIT","_div2n1n","_div3n2n","_int2digits","_digits2int","_divmod_pos","int_divmod","insort_right","bisect_right","insort_left","bisect_left","ELLIPSIS_MARKER","_ellipsis_match","ENDMARKER","LPAR","RPAR","LSQB","RSQB","COLON","COMMA","SEMI","PLUS","MINUS","STAR","SLASH","VBAR","AMPER","LESS","GREATER","EQUAL","DOT","PERCENT","LBRACE","RBRACE","EQEQUAL","NOTEQUAL","LESSEQUAL","GREATEREQUAL","TILDE","CIRCUMFLEX","LEFTSHIFT","RIGHTSHIFT","DOUBLESTAR","PLUSEQUAL","MINEQUAL","STAREQUAL","SLASHEQUAL","PERCENTEQUAL","AMPEREQUAL","VBAREQUAL","CIRCUMFLEXEQUAL","LEFTSHIFTEQUAL","RIGHTSHIFTEQUAL","DOUBLESTAREQUAL","DOUBLESLASH","DOUBLESLASHEQUAL","AT","ATEQUAL","RARROW","ELLIPSIS","COLONEQUAL","EXCLAMATION","NT_OFFSET","EXACT_TOKEN_TYPES","ISTERMINAL","ISNONTERMINAL","ISEOF","_law_rule","_law_plain","_law_led","_law_forms","_law_twins","_law_before","_law_next","_law_page"]:List String).map aQ
noncomputable def NV:Nat:=4580
def fo(w:pQ):Option aK:=
 (acL rA (opening pw) w NV (rR (opening pw)).1 (rR (opening pw)).2).bind (acJ pw)
theorem aam(w:pQ):fencedOpening treeTable pw w NV=fo w:=by
 unfold fencedOpening fo;rw[rB,acQ,acN,acO]
def tfW(w:pQ)(s₀:aK):Option aK:=
 match s₀.heap.isNs bO&&s₀.gens.size==0 with
 |true=>(acK rA pw w s₀.heap.objs.size (s₀.heap.nsMap bO "__annotations__") NV s₀ (topStub pw)).bind λs₁=>match staticsOk (acF pw.main.body) s₀.heap s₁.heap&&namesBound pw s₁.heap&&gensDone s₁&&laidKept s₀.heap s₁.heap with
  |true=>Z s₁
  |false=>ae
 |false=>ae
theorem RW(w:pQ)(s₀:aK):topFrom treeTable pw w NV s₀=tfW w s₀:=by
 unfold topFrom tfW;rw[rB,acP];rfl
noncomputable abbrev XtV:aK->Bool:=λs=>recOk [] s
def seV(s:aK):=(acI qV yE (acF pw.main.body) XtV af s,rV s.heap)
theorem t1(w:pQ):(fo w).map (λs₀=>(tfW (w.withFollow "special-get-raises" ag) s₀).map seV)=Z (Z (openGood qV yE,qA (w.withFollow "special-get-raises" ag))):=by kernel_rfl
theorem t2(w:pQ):(fo w).map (λs₀=>(tfW (w.withFollow "special-get-raises" af) s₀).map seV)=Z (Z (openGood qV yE,qA (w.withFollow "special-get-raises" af))):=by kernel_rfl
theorem ZG:LeftO pw qV yE XtV (λs=>rV s.heap) qA NV:=LeftO.of_split "special-get-raises" λw=>by
 rw[aam,acM];have h1:=t1 w;have h2:=t2 w
 cases hf:fo w with
 |none=>rw[hf]at h1;cases h1
 |some s₀=>
  rw[hf]at h1 h2;rw[gw,RW,RW];rw[gw,lg]at h1 h2;unfold seV at h1 h2;rw[h1,h2]
noncomputable abbrev wo:Aw:={cls:=.none,data:=.fields #[]}
theorem My{h:bq}(e:Ju h x=Z fd):∃a o,h.nsMap bO x=Z (.ref a)∧h.get? a=Z o∧o.data=.func fd:=by
 unfold Ju Qg Jt at e
 cases h1:h.nsMap bO x with
 |none=>rw[h1]at e;exact bK e
 |some v=>
  rw[h1]at e
  induction v using dk with
  |ref a=>
   have e:(match(h.get? a)with|some o=>(match o.data with|.func fd=>Z fd|_=>ae)|none=>ae)=Z fd:=e
   cases h2:h.get? a with
   |none=>rw[h2]at e;exact bK e
   |some o=>
    rw[h2]at e;have e:(match o.data with|.func fd=>Z fd|_=>ae)=Z fd:=e
    cases h3:o.data with
    |func f=>rw[h3]at e;refine qS e ?_;exact⟨a,o,rfl,h2,h3⟩
    |_=>rw[h3]at e;exact bK e
  |_=>exact bK e
theorem oD{h:bq}{q:aL×Aw×Array az}(e:nC h x=Z q):∃fd,Ju h x=Z fd∧fd.code=.ref q.1∧h.get? q.1=Z q.2.1∧q.2.1.data=.fields q.2.2:=by
 unfold nC at e
 cases h1:Ju h x with
 |none=>rw[h1]at e;exact bK e
 |some fd=>
  rw[h1]at e;have e:(match fd.code with|.ref c=>(match h.get? c with|some oc=>(match oc.data with|.fields vs=>Z (c,oc,vs)|_=>ae)|none=>ae)|_=>ae)=Z q:=e
  cases h2:fd.code with
  |ref c=>
   rw[h2]at e;have e:(match h.get? c with|some oc=>(match oc.data with|.fields vs=>Z (c,oc,vs)|_=>ae)|none=>ae)=Z q:=e
   cases h3:h.get? c with
   |none=>rw[h3]at e;exact bK e
   |some oc=>
    rw[h3]at e;have e:(match oc.data with|.fields vs=>Z (c,oc,vs)|_=>ae)=Z q:=e
    cases h4:oc.data with
    |fields vs=>rw[h4]at e;refine qS e ?_;exact⟨fd,rfl,h2,h3,h4⟩
    |_=>rw[h4]at e;exact bK e
  |_=>rw[h2]at e;exact bK e
theorem oB{v:Option az}(e:uA x v=af):∃t,v=Z (.str x t):=by
 induction v using aB with
 |none=>exact ff e
 |some v=>
  induction v using dk with
  |str y t=>exact⟨t,by exact J (aC.mp (show(y==x)=af from e)) rfl⟩
  |_=>exact ff e
theorem Js{h:bq}(e:qM h x=Z q):∃oc vs f tf fl tg b i ti,nC h x=Z (q.1,oc,vs)∧vs[11]?=Z (.ref q.2)∧oc.cls=.type "code"∧vs.getD 18 .none=.str f tf∧vs.getD 7 .none=.int fl tg∧vs.getD 9 .none=.bool b∧vs.getD 10 .none=.int i ti:=by
 unfold qM at e
 cases h1:nC h x with
 |none=>rw[h1]at e;exact bK e
 |some c=>
  rw[h1]at e;obtain⟨c,oc,vs⟩:=c;have e:(match(vs[11]?:Option az)with|some (.ref P)=>bif(oc.cls==.type "code")&&(match vs.getD 18 .none,vs.getD 7 .none,vs.getD 9 .none,vs.getD 10 .none with|.str _ _,.int _ _,.bool _,.int _ _=>af|_,_,_,_=>ag)then Z (c,P)else ae|_=>ae)=Z q:=e
  cases h2:(vs[11]?:Option az)with
  |none=>rw[h2]at e;exact bK e
  |some v=>
   rw[h2]at e
   induction v using dk with
   |ref P=>
    have e:(bif(oc.cls==.type "code")&&(match vs.getD 18 .none,vs.getD 7 .none,vs.getD 9 .none,vs.getD 10 .none with|.str _ _,.int _ _,.bool _,.int _ _=>af|_,_,_,_=>ag)then Z (c,P)else ae)=Z q:=e;have e1:=(ig e).1;replace e:=(ig e).2;refine qS e ?_;have e2:=gx e1
    cases h18:vs.getD 18 .none with
    |str f tf=>
     rw[h18]at e2
     cases h7:vs.getD 7 .none with
     |int fl tg=>
      rw[h7]at e2
      cases h9:vs.getD 9 .none with
      |bool b=>
       rw[h9]at e2
       cases h10:vs.getD 10 .none with
       |int i ti=>exact⟨oc,vs,f,tf,fl,tg,b,i,ti,rfl,h2,aC.mp (fv e1),h18,h7,h9,h10⟩
       |_=>rw[h10]at e2;exact ff e2
      |_=>rw[h9]at e2;exact ff e2
     |_=>rw[h7]at e2;exact ff e2
    |_=>rw[h18]at e2;exact ff e2
   |_=>exact bK e
section
variable{w:pQ}{h0:bq}(Y:rV h0=qA w)
include Y
theorem Po:Ub h0=af:=aD Prod.fst Y
theorem Zj{q:String×Nat}(hq:q∈wG++yS):(Ju h0 (aQ q.1)).map X2=Z (fdE (aQ q.1) q.2):=by
 have e:(wG++yS).map (λq=>(Ju h0 (aQ q.1)).map X2)=(wG++yS).map (λq=>Z (fdE (aQ q.1) q.2)):=aD (λx:NU=>x.2.1) Y;exact List.map_inj_left.mp e q hq
theorem UM:(tZ h0).map (λq=>h0.get? q.2)=[Z wo,Z wo,Z wo]:=aD (λx:NU=>x.2.2.1) Y
theorem ot:h0.isNs bO=af∧(∀q∈wG,rd h0 (aQ q.1)=af∧Cu h0 (aQ q.1)=af)∧(∀q∈yS,rd h0 (aQ q.1)=af∧Rb h0 (aQ q.1)=af)∧GD h0=af∧(match yN h0 "EXACT_TOKEN_TYPES"with|some q=>q.1.cls==.type "dict"&&q.1.dict.isNone&&q.1.slots.size==0&&B8 q.2 tE|none=>ag)=af∧aaW h0=af∧∀x∈Nw,h0.nsMap bO (aQ x)=ae:=by
 have e:=Po Y;unfold Ub at e;have e1:=fv e;have e2:=fv e1;have e3:=fv e2;have e4:=fv e3;have e5:=fv e4;have e6:=fv e5;refine⟨e6,λq hq=>?_,λq hq=>?_,gx e3,gx e2,gx e1,λx hx=>?_⟩
 ·have:=a9.mp (gx e5) q hq;exact⟨fv this,gx this⟩
 ·have:=a9.mp (gx e4) q hq;exact⟨fv this,gx this⟩
 ·exact pb.mp (a9.mp (gx e) x hx)
theorem MG{q:String×Nat}(hq:q∈wG++yS):∃fa o fd c oc vs t,h0.nsMap bO (aQ q.1)=Z (.ref fa)∧h0.get? fa=Z o∧o.data=.func fd∧Ju h0 (aQ q.1)=Z fd∧X2 fd=fdE (aQ q.1) q.2∧fd.code=.ref c∧h0.get? c=Z oc∧oc.data=.fields vs∧vs[1]?=Z (.str (aQ q.1) t):=by
 refine mM (ot Y) λ_ p1 p2 _=>?_
 have hc:rd h0 (aQ q.1)=af:=by
  refine jR (ez.mp hq) (λh=>?_) λh=>?_
  ·exact(p1 q h).1
  ·exact(p2 q h).1
 have hf:=Zj Y hq;refine bh (dM.mp hf) λfd e1 e2=>bV (My e1) λfa o g1 g2 g3=>?_;unfold rd at hc
 cases hg:nC h0 (aQ q.1)with
 |none=>rw[hg]at hc;exact ff hc
 |some c=>
  rw[hg]at hc;refine bQ (oB (show uA (aQ q.1) c.2.2[1]?=af from hc)) λt ht=>iP (oD hg) λfd' f1 f2 f3 f4=>?_;rw[e1]at f1;cases f1;exact⟨fa,o,fd,c.1,c.2.1,c.2.2,t,g1,g2,g3,e1,e2,f2,f3,f4,ht⟩
theorem KP:∃q1 q2 q3,qM h0 "_int2digits"=Z q1∧qM h0 "_digits2int"=Z q2∧qM h0 "law"=Z q3∧tZ h0=[q1,q2,q3]∧h0.get? q1.2=Z wo∧h0.get? q2.2=Z wo∧h0.get? q3.2=Z wo:=by
 have e:=UM Y
 have hl:(tZ h0).length=3:=by
  have:=aD qr e;rw[au]at this;exact this
 have hd:tZ h0=((qM h0 "_int2digits").toList++(qM h0 "_digits2int").toList++(qM h0 "law").toList):=by
  unfold tZ RY;simp only[kT,KA]
  cases qM h0 (aQ "_int2digits")<;>cases qM h0 (aQ "_digits2int")<;>cases qM h0 (aQ "law")<;>rfl
 cases h1:qM h0 "_int2digits"with
 |none=>
  rw[hd,h1]at hl
  cases h2:qM h0 "_digits2int"<;>cases h3:qM h0 "law"<;>(rw[h2,h3]at hl;cases hl)
 |some q1=>
  cases h2:qM h0 "_digits2int"with
  |none=>
   rw[hd,h1,h2]at hl
   cases h3:qM h0 "law"<;>(rw[h3]at hl;cases hl)
  |some q2=>
   cases h3:qM h0 "law"with
   |none=>rw[hd,h1,h2,h3]at hl;cases hl
   |some q3=>
    rw[h1,h2,h3]at hd;have hd:tZ h0=[q1,q2,q3]:=hd;rw[hd]at e;have e:[h0.get? q1.2,h0.get? q2.2,h0.get? q3.2]=[Z wo,Z wo,Z wo]:=e
    injection e with e1 e
    injection e with e2 e
    injection e with e3 e
    exact⟨q1,q2,q3,rfl,rfl,rfl,hd,e1,e2,e3⟩
end
theorem Bh(w:pQ):∀{es:List xA} {th:List (Str×Int)},B8 es th=af->∃kv:List (Str×az),Pairs (strKind pw w) es kv∧kv.map (·.1)=th.map (·.1)∧(∀(i:Nat) (k:Str) (x:az),kv[i]?=Z (k,x)->∃j,th[i]?=Z (k,j))∧∀k j,th.lookup k=Z j->∃t,valueAt kv k=Z (.int j t)
 |[],[],_=>⟨[],.nil,rfl,(λ_ _ _ e=>nomatch e),λ_ _ e=>nomatch e⟩
 |e::es,p::ps,h=>by
  have h:(uA p.1 (Z e.key)&&(match e.val with|.int i _=>i==p.2|_=>ag)&&B8 es ps)=af:=h;refine bQ (oB (fv (fv h))) λt ht=>?_;have hv:=gx (fv h);refine iP (Bh w (gx h)) λkv h1 h2 h3 h4=>?_
  cases Jn:e.val with
  |int i u=>
   rw[Jn]at hv;have hi:i=p.2:=aC.mp hv;refine⟨(p.1,e.val)::kv,.cons (J (j4 ht) (Xk _ _ _ _)) rfl h1,by exact J aR (J aR (J h2 rfl)),λn k x hn=>?_,λk j hk=>?_⟩
   ·induction n using nZ with
    |zero=>
     have hn:Z (p.1,e.val)=Z (k,x):=hn
     cases hn
     exact⟨p.2,rfl⟩
    |succ n=>exact h3 n k x hn
   ·obtain⟨a,b⟩:=p;rw[gV]at hk;unfold valueAt;refine J List.find?_cons ?_
    by_cases hka:a=k
    ·subst hka;rw[beq_self_eq_true]at hk;refine qS hk ⟨u,?_⟩;exact J (show ah ((a,e.val).1=a)=af from aq rfl) (J Jn (J hi rfl))
    ·rw[show(k==a)=ag from beq_eq_false_iff_ne.mpr λh=>hka h.symm]at hk;exact J (show ah ((a,e.val).1=k)=ag from bi hka) (h4 k j hk)
  |_=>rw[Jn]at hv;exact ff hv
 |[],_::_,h=>nomatch h
 |_::_,[],h=>nomatch h
theorem Uh{a:aL}{o:Aw}{es:Array xA}{ep:Nat}{th:List (Str×Int)}(ho:G.H.get? a=Z o)(hx:o.ExactDict)(hd:o.data=.dict es ep)(hks:KeysOf (strKind pw G.w) es)(he:B8 es.toList th=af)(hn:(th.map (·.1)).Nodup)(hs:(a==Xj)=ag)(hsz:th.length<=1000)(nt:¬G.Tb a):Ig G n a th:=by
 refine iP (Bh G.w he) λkv h1 h2 h3 h4=>?_
 have jM:kv.length=th.length:=by
  have:=aD qr h2;rwa[au,au]at this
 have at_:∀h:bq,G.Wd h->h.DictAt (strKind pw G.w) a kv ep:=λh W=>⟨o,es,W.keep _ _ ho nt,hx,hd,hks,h1,by exact J h2 hn⟩;refine⟨λs s1 O A R x al=>?_,λs O v2 k i dh slice W al r hk A R=>?_⟩
 ·have XY:=at_ s1.heap x.wd;refine wpAny_pyIter_dict (knd:=strKind pw G.w) hs XY ?_;have jJ:a≠s1.heap.objs.size:=du XY.lt_size;have nt1:=nt
  refine⟨x.trans (Gd.Kx.of x.wd (bL _)),s1.heap.objs.size,[s1.heap.objs.size,a],[s1.heap.objs.size],λ_ _=>True,λi h=>h.IsKeyIter s1.heap.objs.size a i kv.length ep∧h.DictAt (strKind pw G.w) a kv ep,s1.heap,rfl,s9 _ _,x.ex,
   λb hb=>?_,λb hb=>?_,(λhs b hb=>by exact ff hs),⟨⟨_,bc _ rfl,rfl,rfl⟩,XY.push _⟩,λO' h1' h2' h3'=>⟨?_,trivial⟩⟩
  ·exact J (aF.mp hb) ⟨fR s1.heap,x.wd.sz⟩
  ·rcases aM.mp hb with rfl|hb
   ·exact⟨_,bc _ rfl,.inr (.inl ⟨_,rfl⟩)⟩
   ·exact J (aF.mp hb) ⟨_,bL _ _ _ (x.wd.keep _ _ ho nt),.inr (.inr (aZ ho))⟩
  ·have wk:=Wk.pW (G:=G) (O:=O') (xs:=th.map λp=>gT p.1) (Src:=λ_=>True) (λA hA=>Walks.dictKeys (prog:=pw) (w:=G.w) (knd:=strKind pw G.w) hA s1.heap.objs.size a jJ kv ep) (J (au ..) jM) (λb hb=>?_) (λ_ _ _ _=>trivial) h2' ?_ ?_ ?_
   ·exact wk
   ·rcases aM.mp hb with rfl|hb
    ·exact x.wd.pY (fR s1.heap)
    ·exact J (aF.mp hb) nt
   ·rintro i h ⟨⟨o,e,hc,_⟩,_⟩ b hb;exact J (aF.mp hb) ⟨o,e,.cls hc⟩
   ·rintro i h ⟨⟨o,e,hc,_⟩,_⟩;exact⟨o,_,e,hc,by decide⟩
   ·rintro i v h d ⟨k,y,e1,e2⟩ _ hd
    refine bQ (h3 i k y e1) λj e3=>?_;rw[bY,e3]at hd;refine qS hd (bQ (Value.isStrOf_shape e2) λt qe=>?_);subst qe;exact⟨t,rfl⟩
 ·refine bQ r.str λt wQ=>?_;subst wQ;refine bQ (h4 k i hk) λu hu=>?_;have XY:=at_ s.heap W;refine mi XY.dictOf.typeIs slot_dict_getitem.lookup (wpAny_getItem_of (Xk _ _ _ _) XY.dictOf.mapOf hu ?_);exact⟨Gd.Kx.tok W,⟨u,rfl⟩⟩
theorem AF:∀(k:Nat) (h:bq),h.objs.size<=k->(∃b o,h.get? b=Z o)->∃H:bq,(∀b,H.get? b=h.get? b)∧∃k o,H.objs.size=k+1∧H.get? k=Z o
 |0,h,hk,⟨b,o,e⟩=>absurd (aH (aZ e) hk) (Nat.not_lt_zero _)
 |k+1,h,hk,hx=>by
  refine jY hx λb o e=>?_;have jJ:(b:Nat)<h.objs.size:=aZ e;have agn:0<h.objs.size:=aT (dW _) jJ
  cases hl:h.get? (h.objs.size-1)with
  |some o'=>exact⟨h,λ_=>rfl,h.objs.size-1,o',(eo agn).symm,hl⟩
  |none=>
   have hg:∀c:Nat,({h with objs:=h.objs.pop}:bq).get? c=h.get? c:=λc=>by
    by_cases hc:c<h.objs.size-1
    ·unfold Heap.get?;exact J Array.getElem?_pop (J (bz hc) rfl)
    ·have h1:({h with objs:=h.objs.pop}:bq).get? c=ae:=cU (J RN (cf hc));refine J h1 ?_
     by_cases VP:c=h.objs.size-1
     ·exact J VP (J hl rfl)
     ·exact(cU (show h.objs.size<=c from OL (N7 (cf hc) (RI VP)))).symm
   exact bh (AF k {h with objs:=h.objs.pop} (J RN (uN hk)) ⟨b,o,(hg b).trans e⟩) λH e1 e2=>⟨H,λc=>(e1 c).trans (hg c),e2⟩
noncomputable def Ua(P1 P2:aL)(P:aL):Str:=if P=P1 then "_int2digits.<locals>.inner"else if P=P2 then "_digits2int.<locals>.inner"else "law.<locals>.<lambda>"
theorem Li{h0 H:bq}{a:aL}{m:Str->Option az}(hi:h0.isNs a=af)(le:∀b o,h0.get? b=Z o->H.get? b=Z o)(g:H.Ns a m)(x:Str):m x=h0.nsMap a x:=by
 refine ou g λo es ep e1 e2 _ e3=>ou (Heap.Ns.of_isNs hi) λo' es' ep' f1 f2 _ f3=>?_;have:=le _ _ f1;rw[e1]at this
 cases this
 rw[e2]at f2
 cases f2
 exact rF (e3 ..) (J (f3 ..) rfl)
theorem aas{c:aL}(h1:X2 fd=fdE x k)(h2:fd.code=.ref c)(h3:fd.defaults=.none)(h4:fd.kwdefaults=.none):fd=docDef x (iU (dj k)) (bP (dj k)) (c9 (dj k)) fd.pyModule (.ref c) fd.doc:=by
 refine iN (show fd={X2 fd with pyModule:=fd.pyModule,code:=fd.code,doc:=fd.doc,defaults:=fd.defaults,kwdefaults:=fd.kwdefaults}from rfl) (J h1 (J h2 (J h3 (J h4 ?_))))
 rfl
theorem Fo{h:bq}(e:Ju h x=Z fd)(hp:Cu h x=af):fd.defaults=.none∧fd.kwdefaults=.none:=by
 unfold Cu at hp;rw[e]at hp;have hp:(match fd.defaults,fd.kwdefaults with|.none,.none=>af|_,_=>ag)=af:=hp;generalize fd.defaults=a at hp⊢;generalize fd.kwdefaults=b at hp⊢
 induction a using dk with
 |none=>induction b using dk with
  |none=>exact⟨rfl,rfl⟩
  |_=>exact ff hp
 |_=>exact ff hp
theorem NB{h:bq}(e:Ju h x=Z fd)(hp:Rb h x=af):∃T o t n,fd.defaults=.ref T∧h.get? T=Z o∧o.data=.seq #[.int 0 t,.none] n:=by
 unfold Rb at hp;rw[e]at hp;have hp:(match fd.defaults with|.ref T=>(match h.get? T with|some o=>(match o.data with|.seq vs _=>(match vs.toList with|[.int 0 _,.none]=>af|_=>ag)|_=>ag)|none=>ag)|_=>ag)=af:=hp;generalize fd.defaults=a at hp⊢
 induction a using dk with
 |ref T=>
  have hp:(match h.get? T with|some o=>(match o.data with|.seq vs _=>(match vs.toList with|[.int 0 _,.none]=>af|_=>ag)|_=>ag)|none=>ag)=af:=hp;generalize h2:h.get? T=q at hp
  induction q using aB with
  |none=>exact ff hp
  |some o=>
   have hp:(match o.data with|.seq vs _=>(match vs.toList with|[.int 0 _,.none]=>af|_=>ag)|_=>ag)=af:=hp;generalize h3:o.data=w at hp
   induction w using CO with
   |seq vs n=>
    have hl:∃t,vs.toList=[.int 0 t,.none]:=by
     have hp:(match vs.toList with|[.int 0 _,.none]=>af|_=>ag)=af:=hp;generalize vs.toList=l at hp
     induction l using aA with
     |nil=>exact ff hp
     |cons v l=>induction v using dk with
      |int i t=>induction i using uS with
       |ofNat m=>induction m using nZ with
        |zero=>induction l using aA with
         |nil=>exact ff hp
         |cons v l=>induction v using dk with
          |none=>induction l using aA with
           |nil=>exact⟨t,rfl⟩
           |cons=>exact ff hp
          |_=>exact ff hp
        |succ=>exact ff hp
       |negSucc=>exact ff hp
      |_=>exact ff hp
    exact bQ hl λt hl=>⟨T,o,t,n,rfl,h2,h3.trans (aD (λz=>TH z n) (Oe.mp hl))⟩
   |_=>exact ff hp
 |_=>exact ff hp
theorem HC(w:pQ):∀{es:List xA} {th:List (Str×Int)},B8 es th=af->es.map (·.hash)=th.map (λp=>Yn w p.1)->∀e∈es,∃k,(strKind pw w).is k e.key=af∧e.hash=(strKind pw w).hash k
 |[],_,_,_=>λ_ h=>nomatch h
 |e::es,p::ps,h,hh=>by
  have h:(uA p.1 (Z e.key)&&(match e.val with|.int i _=>i==p.2|_=>ag)&&B8 es ps)=af:=h;refine bQ (oB (fv (fv h))) λt ht=>?_;rw[aR,aR]at hh
  injection hh with h1 h2
  intro e' he'
  rcases aM.mp he' with rfl|he'
  ·exact⟨p.1,by exact J (j4 ht) (Xk _ _ _ _),h1⟩
  ·exact HC w (gx h) h2 e' he'
 |_::_,[],h,_=>nomatch h
theorem IJ:(tE.map (·.1)).Nodup:=by decide+kernel
theorem OZ:tE.length<=1000:=by decide+kernel
theorem FV{h:bq}{q:Aw×List xA}(e:yN h x=Z q):∃a es ep,h.nsMap bO x=Z (.ref a)∧Jt h x=Z a∧h.get? a=Z q.1∧q.1.data=.dict es ep∧q.2=es.toList:=by
 unfold yN Qg Jt at e;unfold Jt
 cases h1:h.nsMap bO x with
 |none=>rw[h1]at e;exact bK e
 |some v=>
  rw[h1]at e
  induction v using dk with
  |ref a=>
   have e:(match h.get? a with|some o=>(match o.data with|.dict es _=>Z (o,es.toList)|_=>ae)|none=>ae)=Z q:=e
   cases h2:h.get? a with
   |none=>rw[h2]at e;exact bK e
   |some o=>
    rw[h2]at e;have e:(match o.data with|.dict es _=>Z (o,es.toList)|_=>ae)=Z q:=e
    cases h3:o.data with
    |dict es ep=>rw[h3]at e;refine qS e ?_;exact⟨a,es,ep,rfl,rfl,h2,h3,rfl⟩
    |_=>rw[h3]at e;exact bK e
  |_=>exact bK e
theorem Lq:(wG++yS).all (λq=>!(aQ q.1==("__debug__":Str)))=af:=by decide+kernel
theorem yH{v:Option az}{j:Int}(e:(match v with|some (.int i _)=>i==j|_=>ag)=af):∃t,v=Z (.int j t):=by
 induction v using aB with
 |none=>exact ff e
 |some v=>
  induction v using dk with
  |int i t=>exact⟨t,by exact J (aC.mp (show(i==j)=af from e)) rfl⟩
  |_=>exact ff e
section
variable{w:pQ}{h0 H:bq}{mg mb:Str->Option az}(Y:rV h0=qA w)(le:∀b o,h0.get? b=Z o->H.get? b=Z o)(hg:H.Ns bO mg)
include Y le hg
theorem DI(x:Str):mg x=h0.nsMap bO x:=Li (ot Y).1 le hg x
def gdV(w:pQ)(H:bq)(mg mb:Str->Option az)(q1 q2 q3:aL×aL):Gd:=⟨w,H,mg,mb,[q1,q2,q3],Ua q1.2 q2.2,q3,"law.<locals>."⟩
end
section
variable{h0 H:bq}(le:∀b o,h0.get? b=Z o->H.get? b=Z o)
include le
theorem BG(e:qM h0 x=Z q)(ho:h0.get? q.2=Z wo)(n9:q.1≠q.2):H.IsCode q.1 q.2 #[]∧H.TableAt q.1 q.2 #[]∧∃oc vs,nC h0 x=Z (q.1,oc,vs)∧h0.get? q.1=Z oc:=by
 refine fj (Js e) λoc vs f tf z1=>fj z1 λfl tg b i z2=>iP z2 λti e1 e2 e3 z3=>mM z3 λe4 e5 e6 e7=>iP (oD e1) λfd g1 g2 g3 g4=>?_;have g3:h0.get? q.1=Z oc:=g3;have g4:oc.data=.fields vs:=g4;refine⟨⟨oc,vs,f,tf,fl,tg,b,i,ti,wo,le _ _ g3,g4,?_,e4,e5,e6,e7,le _ _ ho,rfl,trivial,n9⟩,⟨⟨oc,vs,le _ _ g3,e3,g4,e2⟩,le _ _ ho⟩,oc,vs,e1,g3⟩;exact J Array.getD_eq_getD_getElem? (J e2 rfl)
end
theorem Bl{h:bq}{c:aL}{oc:Aw}{vs:Array az}(e:nC h x=Z (c,oc,vs))(ct:rd h x=af):∃t,vs[1]?=Z (.str x t):=by
 unfold rd at ct;rw[e]at ct;exact oB ct
theorem wV{h:bq}{c:aL}{oc oc':Aw}{vs ma:Array az}(ex:nC h x=Z (c,oc,vs))(ey:nC h y=Z (c,oc',ma))(cx:rd h x=af)(cy:rd h y=af):x=y:=by
 refine iP (oD ex) λ_ _ _ g3 g4=>iP (oD ey) λ_ _ _ f3 f4=>?_;have g3:h.get? c=Z oc:=g3;have f3:h.get? c=Z oc':=f3;rw[g3]at f3
 cases f3
 have g4:oc.data=.fields vs:=g4;have f4:oc.data=.fields ma:=f4;rw[g4]at f4
 cases f4
 refine bQ (Bl ex cx) λt ht=>bQ (Bl ey cy) λu hu=>?_;rw[ht]at hu
 injection hu with hu
 injection hu
section
variable{w:pQ}{h0 H:bq}{mg mb:Str->Option az}(Y:rV h0=qA w)(le:∀b o,h0.get? b=Z o->H.get? b=Z o)(hg:H.Ns bO mg)
variable(eH:G.H=H)(eg:G.mg=mg)(nt:∀b o,H.get? b=Z o->o.data≠ .fields #[]->¬G.Tb b)
include Y le hg eH eg nt
theorem fnc{q:String×Nat}(hq:q∈wG):∃c oc vs,nC h0 (aQ q.1)=Z (c,oc,vs)∧vT G (aQ q.1) (aQ q.1) (iU (dj q.2)) (bP (dj q.2)) (c9 (dj q.2)) c:=by
 refine eP (ot Y) λ_ p1 _=>fj (MG Y (j6 _ hq)) λfa o fd c z1=>g8 z1 λoc vs t f1 z2=>dD z2 λf2 f3 f4 f5 z3=>mM z3 λf6 f7 f8 f9=>c8 (Fo f4 (p1 q hq).2) λd1 d2=>?_
 have hc:∃r,nC h0 (aQ q.1)=Z r:=by
  have:=(p1 q hq).1;unfold rd at this
  cases e:nC h0 (aQ q.1)with
  |none=>rw[e]at this;exact ff this
  |some r=>exact⟨r,rfl⟩
 refine bQ hc λv1 hc=>?_;obtain⟨c',oc',ma⟩:=v1;refine iP (oD hc) λfd' g1 g2 g3 g4=>?_;rw[f4]at g1
 cases g1
 rw[f6]at g2;have g2:oN c=.ref c':=g2
 cases g2
 have g3:h0.get? c=Z oc':=g3;rw[f7]at g3
 cases g3
 refine⟨c,oc,ma,hc,?_,fa,o,fd.pyModule,fd.doc,?_,?_,nt _ _ (le _ _ f2) (J f3 (λh=>by cases h)),?_,oc,vs,t,?_,nt _ _ (le _ _ f7) ?_,f8,f9⟩
 ·have:=a9.mp Lq q (j6 _ hq);exact cN _|>.mp this
 ·exact J eg (J (DI Y le hg ..) (J f1 rfl))
 ·exact J eH (le _ _ f2)
 ·exact J f3 (rF (aas f5 f6 d1 d2) rfl)
 ·exact J eH (le _ _ f7)
 ·refine J f8 ?_;intro h
  injection h with h
  rw[h]at f9;exact bK f9
theorem fnd{q:String×Nat}(hq:q∈yS):vS G (aQ q.1) (aQ q.1) (iU (dj q.2)) (bP (dj q.2)) (c9 (dj q.2)):=by
 refine mM (ot Y) λ_ _ p2 _=>fj (MG Y (jG _ hq)) λfa o fd c z1=>g8 z1 λoc vs t f1 z2=>dD z2 λf2 f3 f4 f5 z3=>mM z3 λf6 f7 f8 f9=>fj (NB f4 (p2 q hq).2) λT oT t0 nT z1=>eP z1 λb1 b2 b3=>⟨?_,fa,o,fd,c,oc,vs,t,T,oT,t0,nT,?_,?_,nt _ _ (le _ _ f2) (J f3 (λh=>by cases h)),f3,aD FuncData.params f5,aD FuncData.body f5,aD FuncData.scope f5,aD FuncData.qualname f5,aD FuncData.globals f5,aD FuncData.builtins f5,aD FuncData.closure f5,f6,?_,nt _ _ (le _ _ f7) ?_,f8,f9,b1,?_,nt _ _ (le _ _ b2) (J b3 (λh=>by cases h)),b3⟩
 ·have:=a9.mp Lq q (jG _ hq);exact cN _|>.mp this
 ·exact J eg (J (DI Y le hg ..) (J f1 rfl))
 ·exact J eH (le _ _ f2)
 ·exact J eH (le _ _ f7)
 ·refine J f8 ?_;intro h
  injection h with h
  rw[h]at f9;exact bK f9
 ·exact J eH (le _ _ b2)
theorem WH:Tg G Vt:=by
 refine dD (ot Y) λ_ _ _ _ z1=>eP z1 λ_ p5 _=>?_;have P7:=DI Y le hg;have c1:=fv p5;have c2:=fv c1;have c3:=fv c2;have c4:=fv c3;refine bQ (yH (show(match h0.nsMap bO "NT_OFFSET"with|some (.int i _)=>i==256|_=>ag)=af from c4)) λt1 e1=>bQ (yH (show(match h0.nsMap bO "ENDMARKER"with|some (.int i _)=>i==0|_=>ag)=af from gx c3)) λt2 e2=>bQ (yH (show(match h0.nsMap bO "_DIV_LIMIT"with|some (.int i _)=>i==4000|_=>ag)=af from gx c2)) λt3 e3=>bQ (oB (gx c1)) λt4 e4=>?_;rw[←P7]at e1 e2 e3 e4;intro x d hx;unfold Vt at hx
 cases h1:x==("NT_OFFSET":Str)with
 |true=>
  rw[h1]at hx;refine J (aC.mp h1) (qS hx ?_);exact⟨_,⟨by decide+kernel,.inl (J eg e1)⟩,λh O=>⟨t1,rfl⟩⟩
 |false=>
  rw[h1]at hx
  cases h2:x==("ENDMARKER":Str)with
  |true=>
   rw[h2]at hx;refine J (aC.mp h2) (qS hx ?_);exact⟨_,⟨by decide+kernel,.inl (J eg e2)⟩,λh O=>⟨t2,rfl⟩⟩
  |false=>
   rw[h2]at hx
   cases h3:x==("ELLIPSIS_MARKER":Str)with
   |true=>
    rw[h3]at hx;refine J (aC.mp h3) (qS hx ?_);exact⟨_,⟨by decide+kernel,.inl (J eg e4)⟩,λh O=>⟨t4,rfl⟩⟩
   |false=>
    rw[h3]at hx
    cases h4:x==("_DIV_LIMIT":Str)with
    |true=>
     rw[h4]at hx;refine J (aC.mp h4) (qS hx ?_);exact⟨_,⟨by decide+kernel,.inl (J eg e3)⟩,λh O=>⟨t3,rfl⟩⟩
    |false=>rw[h4]at hx;exact bK hx
theorem Uc(ew:G.w=w):TOk G 48 lwT:=by
 refine dD (ot Y) λ_ _ _ _ z1=>eP z1 λp4 p5 _=>?_;have P7:=DI Y le hg;intro x th hx;unfold lwT at hx
 cases h1:x==("EXACT_TOKEN_TYPES":Str)with
 |false=>rw[h1]at hx;exact bK hx
 |true=>
  rw[h1]at hx;refine qS hx (J (aC.mp h1) ?_)
  cases hd:yN h0 "EXACT_TOKEN_TYPES"with
  |none=>rw[hd]at p4;exact ff p4
  |some q=>
   rw[hd]at p4;have p4:(q.1.cls==.type "dict"&&q.1.dict.isNone&&q.1.slots.size==0&&B8 q.2 tE)=af:=p4;refine g8 (FV hd) λa es ep d1 z1=>mM z1 λd2 d3 d4 d5=>?_
   have hash:q.2.map (·.hash)=tE.map (λp=>Yn w p.1):=by
    have:=aD (λx:NU=>x.2.2.2) Y;have:(match yN h0 "EXACT_TOKEN_TYPES"with|some q=>q.2.map (·.hash)|none=>[])=tE.map (λp=>Yn w p.1):=this;rw[hd]at this;exact this
   have hs:(a==Xj)=ag:=by
    have:=gx p5;rw[d2]at this;exact cN _|>.mp this
   rw[d5]at p4 hash;refine⟨a,⟨by decide+kernel,.inl (J eg (J (P7 ..) (J d1 rfl)))⟩,Uh (G:=G) (o:=q.1) (es:=es) (ep:=ep) (J eH (le _ _ d3)) ⟨aC.mp (fv (fv (fv p4))),pb.mp (gx (fv (fv p4))),?_⟩ d4 ?_ (gx p4) IJ hs OZ (nt _ _ (le _ _ d3) (J d4 (λh=>by cases h)))⟩
   ·exact xO (aC.mp (gx (fv p4)))
   ·refine J ew ?_;intro e he;exact HC w (gx p4) hash e (Array.mem_toList_iff.mpr he)
end
section
variable{w:pQ}{h0 H:bq}{mg mb:Str->Option az}(Y:rV h0=qA w)(le:∀b o,h0.get? b=Z o->H.get? b=Z o)(last:∃k o,H.objs.size=k+1∧H.get? k=Z o)(hg:H.Ns bO mg)(hb:H.Ns dK mb)(hn:H.NoLimit)(hu:∀x:Str,x≠"__name__"->mb x=Ar x)
 (hm:∃bm ob,mg "__builtins__"=Z (.ref bm)∧bm≠dK∧H.get? bm=Z ob∧ob.cls=.type "module"∧ob.dict=Z dK∧ob.data=.plain)
include Y le last hg hb hn hu hm
theorem aah:∃G:Gd,G.w=w∧G.H=H∧G.mg=mg∧Gl G∧G.Wd H:=by
 refine g8 (KP Y) λq1 q2 q3 t1 z1=>dD z1 λt2 t3 hl o1 z2=>c8 z2 λo2 o3=>dD (ot Y) λ_ p1 _ p3 z1=>eP z1 λ_ _ p6=>?_;have P7:=DI Y le hg;unfold GD at p3;rw[hl]at p3
 have ap:∀q∈[q1,q2,q3],q.2≠cStatics∧∀r∈[q1,q2,q3],q.1≠r.2∧(q.2=r.2->q.1=r.1):=λq hq=>by
  have h1:=a9.mp (gx p3) q hq;refine⟨bne_iff_ne.mp (fv h1),λr hr=>?_⟩;have h2:=a9.mp (gx h1) r hr;refine⟨bne_iff_ne.mp (fv h2),λe=>?_⟩;have h3:=gx h2;rw[e,bne_self_eq_false,vY]at h3;exact aC.mp h3
 have m1:q1∈[q1,q2,q3]:=bf ..;have m2:q2∈[q1,q2,q3]:=ba _ bf;have m3:q3∈[q1,q2,q3]:=ba _ (ba _ bf);refine eP (BG le t1 o1 ((ap q1 m1).2 q1 m1).1) λic1 ta1 z1=>mL z1 λoc1 vs1 g1 k1=>eP (BG le t2 o2 ((ap q2 m2).2 q2 m2).1) λic2 ta2 z1=>mL z1 λoc2 vs2 g2' k2=>eP (BG le t3 o3 ((ap q3 m3).2 q3 m3).1) λic3 ta3 z1=>mL z1 λoc3 vs3 g3' k3=>?_;have ct:∀q∈wG,rd h0 (aQ q.1)=af:=λq hq=>(p1 q hq).1;have c1:=ct ("_int2digits",4) (by decide);have c2:=ct ("_digits2int",5) (by decide);have c3:=ct ("law",80) (by decide)
 have n12:q1.2≠q2.2:=λe=>by
  have e1:=((ap q1 m1).2 q2 m2).2 e;rw[e1]at g1;exact absurd (wV g1 g2' c1 c2) (by decide+kernel)
 have n13:q1.2≠q3.2:=λe=>by
  have e1:=((ap q1 m1).2 q3 m3).2 e;rw[e1]at g1;exact absurd (wV g1 g3' c1 c3) (by decide+kernel)
 have n23:q2.2≠q3.2:=λe=>by
  have e1:=((ap q2 m2).2 q3 m3).2 e;rw[e1]at g2';exact absurd (wV g2' g3' c2 c3) (by decide+kernel)
 obtain⟨G,hG⟩:∃G,G=gdV w H mg mb q1 q2 q3:=⟨_,rfl⟩;have eH:G.H=H:=by exact J hG rfl
 have eg:G.mg=mg:=by exact J hG rfl
 have em:G.mb=mb:=by exact J hG rfl
 have ew:G.w=w:=by exact J hG rfl
 have et:G.tabs=[q1,q2,q3]:=by exact J hG rfl
 have Rj:∀{P:aL×aL->Prop},P q1->P q2->P q3->∀q∈G.tabs,P q:=λa b c q hq=>by
  rw[et]at hq
  rcases aM.mp hq with rfl|hq
  ·exact a
  ·rcases aM.mp hq with rfl|hq
   ·exact b
   ·exact J (aF.mp hq) c
 have tbo:∀b,G.Tb b->H.get? b=Z wo:=λb ⟨q,hq,e⟩=>by
  exact J e (Rj (P:=λq=>H.get? q.2=Z wo) (le _ _ o1) (le _ _ o2) (le _ _ o3) q hq)
 have nt:∀b o,H.get? b=Z o->o.data≠ .fields #[]->¬G.Tb b:=λb o e hd ht=>by
  have:=tbo b ht;rw[e]at this
  cases this
  exact hd rfl
 have Sf:∀a m,H.Ns a m->¬G.Tb a:=λa m ⟨o,es,ep,e,hd,_⟩=>nt _ _ e (J hd (λh=>by cases h))
 have F:∀{q:String×Nat},q∈wG->Fn G q.2 (aQ q.1):=λhq=>by
  exact g8 (fnc Y le hg eH eg nt hq) λc _ _ _ f=>⟨c,f⟩
 have Kl:∀x∈Nw,∀f,aQ x≠"__name__"->(aQ x==("__debug__":Str))=ag->Ar (aQ x)=Z f->EX G (aQ x) f:=λx hx f h1 h2 h3=>⟨h2,.inr ⟨by exact J eg (J (P7 ..) (p6 x hx)),by exact J em (J (hu _ h1) (J h3 rfl))⟩⟩
 have ty:∀{x:String} {q:aL×aL} {oc:Aw} {vs:Array az} {k:Nat},nC h0 (aQ x)=Z (q.1,oc,vs)->(x,k)∈wG->vT G (aQ x) (aQ x) (iU (dj k)) (bP (dj k)) (c9 (dj k)) q.1:=λ{x q oc vs k} e hq=>by
  refine g8 (fnc Y le hg eH eg nt hq) λc _ _ e2 f=>?_;rw[show nC h0 (aQ (x,k).1)=_ from e]at e2
  cases e2
  exact f
 have K:l8 G:=⟨by exact J eH (J eg hg),by exact J eH (J em hb),Sf _ _ hg,Sf _ _ hb,λht=>by
  exact bh ht λq hq e=>(ap q (et▸hq)).1 e.symm,by exact J eH hn,by exact J em hu⟩
 have L:oH G:=by
  refine⟨λq hq r hr=>?_,?_,by exact J et (J hG m3),?_⟩
  ·rw[et]at hq hr;refine⟨((ap q hq).2 r hr).1,λe=>?_⟩;exact Prod.ext (((ap q hq).2 r hr).2 e) e
  ·exact dn hm λbm ob b1 b2 b3 z1=>eP z1 λb4 b5 b6=>⟨bm,ob,by exact J eg b1,b2,nt _ _ b3 (J b6 (λh=>by cases h)),by exact J eH b3,b4,b5,b6⟩
  ·refine J hG ?_;show Ua q1.2 q2.2 q3.2=("law.<locals>.":Str)++"<lambda>";unfold Ua;refine J (bF n13.symm) (J (bF n23.symm) ?_)
   kernel_rfl
 have B:Bi G:=by
  refine⟨⟨Kl "range" (by decide) _ (by decide+kernel) (by decide+kernel) (by kernel_rfl),Kl "reversed" (by decide) _ (by decide+kernel) (by decide+kernel) (by kernel_rfl),Kl "enumerate" (by decide) _ (by decide+kernel) (by decide+kernel) (by kernel_rfl),Kl "zip" (by decide) _ (by decide+kernel) (by decide+kernel) (by kernel_rfl)⟩,λx hx=>?_,Kl "list" (by decide) _ (by decide+kernel) (by decide+kernel) (by kernel_rfl)⟩;have hx:=eW.mp hx;unfold qj at hx;simp only[aM,dU,or_false]at hx
  rcases hx with rfl|rfl|rfl|rfl|rfl|rfl|rfl
  ·exact Kl "len" (by decide) _ (by decide+kernel) (by decide+kernel) (by kernel_rfl)
  ·exact Kl "sum" (by decide) _ (by decide+kernel) (by decide+kernel) (by kernel_rfl)
  ·exact Kl "str" (by decide) _ (by decide+kernel) (by decide+kernel) (by kernel_rfl)
  ·exact Kl "abs" (by decide) _ (by decide+kernel) (by decide+kernel) (by kernel_rfl)
  ·exact Kl "max" (by decide) _ (by decide+kernel) (by decide+kernel) (by kernel_rfl)
  ·exact Kl "min" (by decide) _ (by decide+kernel) (by decide+kernel) (by kernel_rfl)
  ·exact Kl "divmod" (by decide) _ (by decide+kernel) (by decide+kernel) (by kernel_rfl)
 have D:=λ{q:String×Nat} (hq:q∈yS)=>fnd Y le hg eH eg nt hq;have gr:Gr G:=⟨K,L,B,WH Y le hg eH eg nt,F (q:=("ISTERMINAL",68)) (by decide),F (q:=("ISNONTERMINAL",69)) (by decide),F (q:=("ISEOF",70)) (by decide),F (q:=("_law_led",74)) (by decide),F (q:=("_law_forms",75)) (by decide)⟩;have gq:Gq G:=⟨gr,⟨q1.1,q1.2,by exact J et m1,by refine J hG ?_;show _=Ua q1.2 q2.2 q1.2;unfold Ua;exact J (bz rfl) rfl,ty (k:=4) g1 (by decide)⟩,⟨q2.1,q2.2,by exact J et m2,by refine J hG ?_;show _=Ua q1.2 q2.2 q2.2;unfold Ua;exact J (bF n12.symm) (J (bz rfl) rfl),ty (k:=5) g2' (by decide)⟩,F (q:=("_div2n1n",2)) (by decide),F (q:=("_div3n2n",3)) (by decide),F (q:=("_divmod_pos",6)) (by decide),F (q:=("int_divmod",7)) (by decide)⟩;have gb:Gb G:=⟨gq,D (q:=("bisect_left",12)) (by decide),D (q:=("bisect_right",10)) (by decide),D (q:=("insort_left",11)) (by decide),D (q:=("insort_right",9)) (by decide)⟩;have gn:Gn G:=⟨gb,F (q:=("_law_plain",73)) (by decide),F (q:=("_law_next",78)) (by decide)⟩
 have gl:Gl G:=⟨gn,F (q:=("_law_rule",72)) (by decide),F (q:=("_law_twins",76)) (by decide),F (q:=("_law_before",77)) (by decide),F (q:=("_law_page",79)) (by decide),F (q:=("_ellipsis_match",15)) (by decide),Uc Y le hg eH eg nt ew,by
  have e3:G.lc.1=q3.1:=by exact J hG rfl
  exact J e3 (ty (k:=80) g3' (by decide)),by refine J hG ?_;kernel_rfl⟩
 refine⟨G,ew,eH,eg,gl,?_⟩;refine⟨?_,by exact J eH last,by exact J eH (OldK.refl H),λb o e _=>by rw[eH]at e;exact e,?_,?_⟩
 ·exact J eH (Rj (P:=λq=>q.1<H.objs.size∧q.2<H.objs.size) ⟨aZ (le _ _ k1),aZ (le _ _ o1)⟩ ⟨aZ (le _ _ k2),aZ (le _ _ o2)⟩ ⟨aZ (le _ _ k3),aZ (le _ _ o3)⟩)
 ·exact J eH (Rj (P:=λq=>∃ps,H.TableAt q.1 q.2 ps) ⟨_,ta1⟩ ⟨_,ta2⟩ ⟨_,ta3⟩)
 ·have en:∀s:Str,GJ H s #[]:=λs pos cv e=>by exact bK e
  exact Rj (P:=λq=>∃ps,H.IsCode q.1 q.2 ps∧H.TableAt q.1 q.2 ps∧GJ H (G.tq q.2) ps) ⟨_,ic1,ta1,en _⟩ ⟨_,ic2,ta2,en _⟩ ⟨_,ic3,ta3,en _⟩
end
noncomputable def abC:bX->eL|.FunctionDef _ _ _ _ _ _ _ _ _ p=>p|_=>default
def ah2:DefRec:=⟨"law",iU yD,bP yD,c9 yD,abC yD⟩
def YPv(w:pQ)(h:bq):Prop:=∃h0,rV h0=qA w∧∀b o,h0.get? b=Z o->h.get? b=Z o
theorem I0{H h:bq}(hH:∀b,H.get? b=h.get? b)(K:OldK H h'):OldK h h':=by
 refine⟨λb o e=>?_,λb o e=>K.there b o ((hH b).trans e)⟩
 rcases K.old b o ((hH b).trans e)with x|x|⟨e1,hc,r,z⟩
 ·exact .inl x
 ·exact c8 x λv1 x=>g8 v1 λc oc vs f1 f2=>.inr (.inl ⟨⟨c,oc,vs,(hH c).symm.trans f1,f2⟩,x⟩)
 ·refine .inr (.inr ⟨e1,hc,r,λkey=>?_⟩);have:=z key;rw[J1 (hH _) key]at this;exact this
theorem xe:∀xs:List Int,∀x∈xs,ak x<=qu (xs.map aI)
 |x::xs,y,hy=>by
  refine J aR ?_;unfold qu
  rcases aM.mp hy with rfl|hy
  ·have:jv (.int y)=ak y:=by unfold jv;rfl
   lia
  ·have:=xe xs y hy
   lia
theorem Ji{h:bq}{vs:List az}{xs:List Int}(x:Ys vs xs):bb h O vs (xs.map aI):=by
 induction x with
 |nil=>exact bb.nil
 |cons n t _ ih=>
  exact J aR (bb.cons ⟨t,rfl⟩ ih)
theorem LS{w:pQ}{s₁:aK}{mg mb:Str->Option az}(Y:YPv w s₁.heap)(hg:s₁.heap.Ns bO mg)(hb:s₁.heap.Ns dK mb)(hn:s₁.heap.NoLimit)(hu:∀x:Str,x≠"__name__"->mb x=Ar x)(hm:∃bm ob,mg "__builtins__"=Z (.ref bm)∧bm≠dK∧s₁.heap.get? bm=Z ob∧ob.cls=.type "module"∧ob.dict=Z dK∧ob.data=.plain)
 {fa l:aL} {o:Aw} {vs:List az} {xs:List Int} (ho:s₁.heap.get? fa=Z o) (P7:mg "law"=Z (.ref fa)) (hl:s₁.heap.PlainList l vs.toArray) (hI:Ys vs xs) (h63:xs.length<=63) (hw:qu (xs.map aI)<=2^20):
 aJ (Ym pw w) callerA (dE (.ref fa) [.ref l]) (λv s'=>v=.bool af∧OldK s₁.heap s'.heap∧s'.os=s₁.os∧s'.gens=s₁.gens) (λ_ _=>False) s₁:=by
 refine bh Y λh0 Yt le=>bh (AF _ s₁.heap (aV _) ⟨fa,o,ho⟩) λH hH last=>?_;have hk:∀b o,s₁.heap.get? b=Z o->H.get? b=Z o:=λb o e=>(hH b).trans e;refine dn hm λbm ob b1 b2 b3 b4=>iP (aah Yt (λb o e=>hk _ _ (le _ _ e)) last (hg.keeps hk) (hb.keeps hk) (hn.keeps hk) hu ⟨bm,ob,b1,b2,hk _ _ b3,b4⟩) λG ew eH eg z1=>c8 z1 λgl wd=>?_;have wd':G.Wd s₁.heap:=wd.keeps λb o e=>(hH b).symm.trans e;refine iP (U7 gl xs (aj h63 (by decide)) λx hx=>aj (xe xs x hx) (aj hw (by decide))) λf nd hv ck A6=>?_
 have hf:f=.ref fa:=by
  rw[eg,P7]at hv;refine jR hv (λhv=>?_) λz=>c8 z λhv _=>?_
  ·exact(j4 hv).symm
  ·exact R0 hv
 rw[hf]at A6
 have agj:bb s₁.heap (λ_=>False) [.ref l] [.list (xs.map aI)]:=bb.cons (by
  exact⟨l,vs.toArray,rfl,λh=>h,hl,Ji hI⟩) bb.nil
 have key:=A6 s₁ (λ_=>False) [.ref l] wd' (λb hb=>hb.elim) agj callerA ⟨by decide,by decide,rfl,rfl⟩;have eM:G.M=Ym pw w:=by show Ym pw G.w=_;exact J ew rfl
 rw[eM]at key;refine ar key (λv s' x=>?_) λ_ _ x=>x;refine c8 x λv7 r=>bV v7 λh' tk jE _ w'=>?_;subst jE;have SA:=w'.old;rw[eH]at SA;exact⟨r,I0 hH SA,rfl,rfl⟩
set_option tactic.hygienic true in
theorem IU(said:eE.row.wellSaid=af):eE.row.Holds:=by
 refine holds_open (r:=eE.row) (q:=qV) (loose:=yE) (Xt:=XtV) (XP:=λ_ _=>True) (Yf:=λs=>rV s.heap) (Ya:=qA) (YP:=YPv) (N:=NV) (d:=ah2) (kwd:=[]) ZG (λw s e=>⟨s.heap,e,λ_ _ e=>e⟩) (λw h h' x k=>?_) (λ_ _=>trivial) (λ_ _ _ _ _=>trivial) (by kernel_rfl) (by kernel_rfl) (by kernel_rfl) (λs e=>recFacts_of e) rfl said (by decide+kernel) ⟨rfl,rfl,rfl,rfl,rfl,by decide+kernel⟩ ⟨[.list [.int 3]],by decide+kernel,by decide+kernel⟩ ?_
 ·obtain⟨h0,a,b⟩:=x;exact⟨h0,a,λc o e=>k _ _ (b _ _ e)⟩
 ·intro w s₀ s₁ mg mb G Y fa o pm cd doc dV kV ho hd DZ hD P7 hgs zA EF as agm agv hrd xl Oy;clear hd hD DZ
  wrow_args agm agv hrd xl Oy
  all_goals
   rename_i xs hs ajp hly hr1 o6 as4 as3 l vs as0 hL ra wl r0 hI hr hc1 hc;have T:=G.T;have hw:qu (xs.map aI)<=2^20:=aw (gx hly);simp only[ofPy]at wl
   have hl:s₁.heap.PlainList l vs.toArray:=by
    obtain⟨o',e1,_,n',e3⟩:=hL
    cases wl with
    |list h1 h2=>
     rw[h1]at e1
     cases e1
     have e3:TH _ _=TH vs.toArray n':=e3
     injection e3 with e3
     rw[←e3];exact⟨_,h1⟩
   refine ar (LS (xs:=xs) Y T.g T.b T.nolimit T.builtins T.bmain ho P7 hl hI (by omega) hw) (λv s' x=>?_) λ_ _ x=>x.elim;obtain⟨rfl,h2,h3,h4⟩:=x;exact⟨.inl ⟨.bool af,.bool af,[],rfl,λ_=>rfl,ReadsW.bool af,by kernel_rfl,λ_=>⟨TB,λ_ hm=>nomatch hm⟩⟩,h2,h3,.of_eq (h4.trans hgs)⟩
set_option maxHeartbeats 0 in
theorem LU:eE.wellSaid=af:=by
 unfold OpenLaw.wellSaid
 iterate 18 refine look_both ?_ (by decide+kernel)
 unfold OpenRow.wellSaid OpenRow.partSaid looksOpen
 iterate 21 refine look_both ?_ (by decide+kernel)
 kernel_rfl
theorem all_holds:eE.Holds:=holds_law LU IU
end
end Mine.Internal
theorem PySem.Challenge.cw_wb0092_01_holds : PySem.Challenge.rw_wb0092_01.Holds :=
 _root_.Mine.Internal.all_holds
