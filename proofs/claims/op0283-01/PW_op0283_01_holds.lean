import PyProof.Rows.All
import PyProof.AttrMiss
import PyProof.MeetsSeq
import PyProof.SeqRoads2
import PyProof.ZipIter
import KE.KAssignIn
import KE.KDictOf
import KE.KSliceW
import KE.KStar
import Wide.FinOn
import OpenK.AllK
import Wide.All
import Lean
import PySem.Challenge.RW_op0283_01
set_option Elab.async false
set_option linter.unusedVariables false
set_option linter.unusedSimpArgs false
set_option linter.unusedSectionVars false
set_option tactic.hygienic false
set_option maxRecDepth 100000
set_option maxHeartbeats 4000000
set_option genSizeOf false
set_option genInjectivity false
set_option genSizeOfSpec false
set_option genCtorIdx false
namespace Mine
open PySem PySem.W PyProof.Rows PySem.Calls PySem.Spec
open _root_ renaming Array->ZD,Bool->Zl,False->ZP,Int->Z7,List->Za,Nat->Zf,Option->Ze,String->ZV,True->O0,Unit->ZU,absurd->ZT,beq_eq_false_iff_ne->Rg,beq_iff_eq->Wb,beq_self_eq_true->WP,bne_iff_ne->Q3,congrArg->ZH,decide_eq_false->WC,decide_eq_false_iff_not->Tw,decide_eq_true->Yl,decide_eq_true_eq->WM,if_false->Ul,if_neg->Yc,if_true->SU,not_or->PU,of_decide_eq_false->VI,or_false->Od
open _root_.And renaming intro->Ty
open _root_.Array renaming all_toList->Qh,any_toList->Qq,ext'->OJ,forIn_toList->RQ,length_toList->Xe,replicate->Sc,size_append->Tb,toList_inj->Ql
open _root_.Bool renaming and_eq_true->Z6,and_eq_true_iff->Yi,and_false->Sw,false->Zh,false_and->UN,false_eq_true->XV,false_ne_true->XW,false_or->Pj,noConfusion->ZK,not_eq_false'->Rx,not_eq_true'->YQ,or_eq_true->YM,true->Zm,true_and->Rh
open _root_.Decidable renaming not_not->OR
open _root_.Eq renaming refl->V0
open _root_.ForIn renaming forIn->N2
open _root_.ForInStep renaming yield->Us
open _root_.Int renaming add_zero->RV,eq_ofNat_of_zero_le->Ts,fmod_lt_of_pos->Wr,fmod_nonneg_of_pos->XN,le_refl->QG,le_trans->RW,natCast_nonneg->ZI,ne_of_gt->TQ,not_lt->QY,ofNat->QC,ofNat_le->UH,ofNat_lt->Xs,pow_pos->Oc,sub_zero->PJ,toNat_natCast->Vb,toNat_of_nonneg->UB
open _root_.Int.ofNat renaming inj->Nf
open _root_.LawfulBEq renaming eq_of_beq->Tt
open _root_.List renaming all_eq_true->Yj,any_cons->Ui,any_eq_true->Xu,any_toArray->Ue,append_assoc->ZS,append_ne_nil_of_right_ne_nil->Ww,append_nil->YL,append_of_mem->RT,cons->Qm,cons_append->YO,cons_ne_nil->XU,dropLast_concat->Vi,dropLast_concat_getLast->Wa,dropLast_sublist->Sh,drop_eq_getElem_cons->Yg,drop_eq_nil_of_le->TT,drop_length->YV,drop_nil->Vx,drop_sublist->RZ,drop_zero->UT,eraseIdx_eq_take_drop_succ->Xk,erase_cons->QP,filter_append->RH,filter_cons->Qv,filter_cons_of_neg->VT,filter_cons_of_pos->VS,flatMap_append->S6,flatMap_cons->Ys,foldl->Pd,forIn_cons->Ut,getElem_mem->Wq,getElem_toArray->SR,getElem_zip->Qy,getLastD_concat->Sv,isEmpty_map->Tp,length->XS,length_append->Zt,length_cons->Xr,length_drop->QB,length_eq_zero_iff->VO,length_eraseIdx_of_lt->UP,length_map->Zz,length_nil->Xo,length_pos_iff->S4,length_range->Y5,length_replicate->V8,length_reverse->UA,length_set->W2,length_take->Qz,length_zip->Uy,lookup->WL,lookup_cons->YE,lookup_eq_some_iff->VP,map->Ss,map_append->ZA,map_congr_left->Vt,map_cons->Z3,map_drop->Ti,map_id->Sr,map_map->YX,map_nil->X3,map_singleton->UQ,map_take->Th,mem_append->ZW,mem_append_left->Zk,mem_append_right->Zq,mem_cons->Zr,mem_flatMap->Tz,mem_map->Ye,mem_map_of_mem->ZJ,mem_singleton->Yz,mem_take_iff_getElem->U4,mergeSort_perm->S5,nil_append->W3,nodup_append->ZY,nodup_cons->Z0,nodup_nil->X6,not_mem_nil->ZE,pairwise_cons->Wv,pairwise_iff_getElem->Vp,pairwise_map->WD,perm_middle->Yw,range'->Tc,range->UO,replicate->Yb,replicate_succ->UF,reverse_cons->WE,size_toArray->ZR,sublist_append_right->WB,sublist_cons_self->Wk,take_append_drop->Xx,take_left'->Uv,take_length->XK,take_nil->Vw,take_of_length_le->V3,take_sublist->RY,take_succ_eq_append_getElem->XR,zip_nil_left->Vh
open _root_.List.Pairwise renaming imp_of_mem->Po,nil->OU
open _root_.List.Perm renaming append_left->P4,cons->Nb,eq_of_pairwise->Tk,refl->Xl,swap->X7,trans->O7
open _root_.List.Sublist renaming refl->Vc
open _root_.List.cons renaming inj->Nc,injEq->O8
open _root_.Nat renaming add_assoc->Xb,add_comm->XM,add_le_add->Xa,add_le_add_left->Yy,add_le_add_right->Xm,add_left_cancel->Vs,add_lt_add_left->Uz,add_mul->U8,add_right_comm->Wx,add_sub_cancel_left->WQ,beq->ZX,beq_refl->WJ,ble->Yr,ble_eq_true_of_le->YZ,blt->Vl,eq_of_beq_eq_true->Z4,eq_sub_of_add_eq->Uk,le_add_left->ZQ,le_add_right->ZF,le_antisymm->Uq,le_of_add_le_add_right->UM,le_of_ble_eq_true->Zw,le_of_eq->Z1,le_of_lt->YB,le_of_lt_succ->Va,le_of_succ_le->Yf,le_refl->ZL,le_succ->YY,le_succ_of_le->XO,le_trans->Zv,le_zero->Oe,lt_add_of_pos_right->YT,lt_irrefl->X4,lt_min->Pb,lt_of_le_of_lt->WY,lt_of_lt_of_le->ZB,lt_of_succ_lt->X9,lt_of_succ_lt_succ->WZ,lt_or_ge->R1,lt_succ_of_lt->Xh,lt_succ_self->YI,min_le_left->Ur,mul_add->Um,mul_le_mul->UR,mul_le_mul_left->Y1,ne_of_gt->Y2,ne_of_lt->Yp,noConfusion->W4,not_lt->Ws,not_lt_of_le->Vk,not_succ_le_self->SG,one_pos->N1,rec->Wh,sub_le->Q0,sub_self->PN,sub_zero->UL,succ->UU,succ_le_succ->Xq,succ_lt_succ->Tv,succ_min_succ->Qf,succ_ne_self->Yq,succ_ne_zero->Ub,succ_pos->YH,succ_sub->PK,succ_sub_succ->Qg,zero_add->Y0,zero_le->XG,zero_lt_of_lt->R2,zero_min->P0,zero_sub->P2
open _root_.Nat.succ renaming inj->WF
open _root_.Ne renaming symm->PQ
open _root_.Option renaming bind_eq_some_iff->XH,bind_some->Ud,isNone_iff_eq_none->U3,isSome_iff_exists->XB,map_eq_some_iff->VY,map_some->QO,none->Zs,some->Zd
open _root_.Option.some renaming inj->Yd,injEq->VZ
open _root_.Prod renaming ext->Oh,fst->On
open _root_.Prod.mk renaming inj->SD,injEq->Wl
open _root_.PyProof.Rows renaming MethodCall_->QM,call_isinstance_yes->S8,eq_int->OB,eq_str->Ox,evalArgs_nil3->Pu,gt_int->OA,iadd_str->Oa,isub_int->Ob,join_list->PX,lt_int->Oz,ne_dataH_same->Pw,ne_int->OC,ne_str->Oy,neg_int->Ol,sortedS->PM,spliced_none->TU,subscriptTail->XD,tail_any->Pa
open _root_.PySem renaming Addr->Zo,Arguments->PA,Around->Z2,BoolOp->OD,Builtin->Yx,ClassData->S2,CmpOp->R6,Comprehension->Zn,DictEntry->Zy,Drawn->OL,Env->YG,Flow->YA,GenState->Q7,Heap->Yo,IsPair->U2,KeysOf->PR,Keyword->R3,Meets->PF,Model->QJ,NameKind->Zx,Obj->Xp,Operator->ZG,OsState->QU,Pairs->Pc,Params->Z9,Pos->Xf,Program->ZO,Result->Z5,Scope->Yh,Sem->ZN,Shared->Zj,Slot->Ps,Stmt->Yv,Str->Zi,Thread->Ry,Tok->QE,UnaryOp->OS,Value->Zb,World->Z8,ZipApart->TH,again->PB,allTrue->SW,argsOk->RL,arm_allTrue_cons->Qn,arm_assign_Tuple->QA,arm_eval_Call->Pl,arm_keywordEach_nil->UC,assign->WU,assignEach->RS,assignInOrder->Uj,backTo->Y6,backToKw->WT,behindInMarks->VC,binaryOp->Wy,bindArgs->U0,bindL->OZ,bootBuiltins->PL,boundAndCalled->SN,builtinLookup_eq_fast->Ya,builtinType->SK,builtinType_eq_fast->Vv,builtinsNs->QZ,call->Y8,callAny->V2,callGetattribute->TF,callType_meets->Q6,callWith->We,call_list_seq->Ru,call_meets->Ug,call_meetsIn->PT,callerA->OP,cellsFrom->YC,checkBoundCall->Pe,checkBuiltinCall->Vm,checkTypeCall->Pt,codeAny->XQ,codeAny_builtin->YU,codeAny_call_function->So,codeAny_compStart_list->Sb,codeAny_forLoop_any->Rd,codeAny_mono->Xi,codeAny_of_tree->XT,compTurn->R7,compareOp->Yu,comprehension->Wn,dictSet->QX,entryFor->Wf,entryFor_of_tree->YP,entry_listiter_next->Rb,eval->Yk,evalArgs->Q9,evalOpt->S1,exec->VW,exec_Assign_Name_used->Sk,execs->VB,field->R9,firstArgMember->Pg,firstIterPos->R8,foldedSetIterable->Vf,getAttr->Ve,getAttrBy->PG,getAttrByItsOwn->Sf,getItem->SY,getMethod->XI,getMethod_builtin->Vg,getattributeRaised->RP,handedOut->PC,holding->TS,intKind->Wo,interactive->QF,isInstance->RM,isSubtype->X0,isSubtype_dict_dict->UE,isSubtype_stop->SS,isSubtype_type->YN,isType->OG,keeperOf->Op,keywordEach->XJ,letOwnedTupleGo->W6,letTemporaryGo->UV,mainGlobals->Vj,methodCallForm->US,methodCallPos->Pm,model->XA,newDict->P3,newFunctionEnv->Sy,newList->UJ,newTuple->R4,noteFrame->Uc,onTheHeap->PH,opaqueClassAbove->TE,operate->SX,pushCells_keeps->QQ,pyIter->RJ,pyNext->Vu,rawInt->Xj,recursionLimit->WS,relabel->UK,setAttr->QW,setItem->Td,sizeLine->VE,sizeLine_eq->Y7,specialOf->Qt,spliced->UI,standAt->Vd,starEach->Ym,start->Og,storeName->XY,stored->UX,strKind->YD,subscripted->Un,swappedStores->Rs,swapsWith->XX,swapsWithSole->Pn,sysModules->Xv,table->UD,theTreesLotGoes->QR,treeTable->VQ,truthy->VL,typeLookup->Wz,typeLookup_type->YF,typeOf->V1,unaryOp->OT,unpack->OK,valueAt->T6,valueOrNone->VU,wpAny->ZZ,wpAny_Assign_Name->R5,wpAny_Constant_str->VM,wpAny_Expr_any->Q2,wpAny_Name->RI,wpAny_alloc->Sz,wpAny_askSetting->Qp,wpAny_attempt->W8,wpAny_bind->Zg,wpAny_call->Xg,wpAny_call_entry->XZ,wpAny_collect_seq->Qc,wpAny_dictSetHashed_pairs->U5,wpAny_dictSet_pairs->Rc,wpAny_execs_cons->Vn,wpAny_execs_nil->VH,wpAny_field->Xw,wpAny_holding->Yt,wpAny_isInstance->Qw,wpAny_ite_false->W5,wpAny_load->Q5,wpAny_loadName_local->Sx,wpAny_loadPart->SH,wpAny_mkInt->SL,wpAny_mkText->TX,wpAny_mono->Zu,wpAny_newObj_type->YR,wpAny_newTuple->Q1,wpAny_nextOf_list_item->T8,wpAny_notOrdered_dict->Sl,wpAny_of_eq->XL,wpAny_pure->Zp,wpAny_pyIter_ascii->RK,wpAny_pyIter_list->Te,wpAny_pyIter_listiter->Sj,wpAny_pyNext_ascii_end->TW,wpAny_pyNext_ascii_item->TA,wpAny_pyNext_list_end->Si,wpAny_pyNext_list_item->TV,wpAny_rule->TZ,wpAny_seqItems->V6,wpAny_setField->UW,wpAny_setFlight_noneW->Sp,wpAny_specialOf->Uw,wpAny_standAt->XC,wpAny_storeName_cell->SJ,wpAny_truthy_bool->Qe,wpAny_truthy_list->Qd,wpAny_typeOf->X5,wpAny_updatePart->Qr
open _root_.PySem.Around renaming under_plainId->Up
open _root_.PySem.AutoIntOps renaming pow_0->PY,pow_4->PZ
open _root_.PySem.AutoListH renaming list___mul___list_int_3->RU
open _root_.PySem.Bind renaming madeBy->QK,madeHere->Rq
open _root_.PySem.Builtin.Deque renaming change->SM,clear->Ov,items->S7,maxlen->Oo,new->OX,newArgs->P7,pushRight->PD,size->OF,state->Ou
open _root_.PySem.Builtin.Dict renaming addKeywords->Pz,missed->Ow,pairItems->PW,selfAndRest->Tl,updateFrom->TL
open _root_.PySem.Builtin.Getset_descriptor renaming descrCheckInstance->TG,descrItself->S3,descrNameAndClass->TP,descrSet->RO,descrStoreThrough->TN
open _root_.PySem.Builtin.Int renaming intBits->Rf,intTooBig->P9
open _root_.PySem.Builtin.List renaming listFitsIndex->Pf,listTooLong->Px
open _root_.PySem.Builtin.Range renaming rangeSize->WV
open _root_.PySem.Builtin.Re renaming reAnswer->Ot,reNewMatch->P6,reRunToEnd->P5,reTarget->Os
open _root_.PySem.Builtin.Slots renaming slotNamesOf->Pi,target->Oq
open _root_.PySem.Builtin.SmallTypes renaming nextOf->Vr,ownedTupleIsFree->XF
open _root_.PySem.Builtin.Str renaming Mapped->OI,glued->OQ,tableLookup->TD,tooLong->S9
open _root_.PySem.Calls renaming Name_function_global->Wu,evalArgs_plain->V4,loadGlobal_builtin->Tj,loadGlobal_global->Tu,spliced_cons->VD
open _root_.PySem.Challenge renaming pw_op0283_01->ZM,rw_op0283_01->TR
open _root_.PySem.Code renaming builtin->V7,quiet->OE,quiet_builtin->YK
open _root_.PySem.Data.dict renaming injEq->O9
open _root_.PySem.DictEntry renaming refKey->O5
open _root_.PySem.Env renaming blockKind->Rt
open _root_.PySem.EqNone renaming eq_none_none->Ph,eq_none_str->Pq,eq_str_none->Pp
open _root_.PySem.F renaming args_list_remove_2->U1,args_object_getattribute_2->VN,args_zip_next_1->TK,entry_list_remove->U7,entry_object_getattribute->VX,entry_zip_next->T9,plainAttrs_str->T4,slot_dict_delitem->U6,slot_dict_get->Sn,slot_dict_values->Tn,slot_int_rmul->Sm,slot_list_append->VG,slot_list_clear->VV,slot_list_pop->V9,slot_list_remove->WN,slot_str_getattribute->WX,slot_str_translate->UY,slot_zip_next->W9,type_list_clear->TM,type_list_pop->Ua,type_list_remove->To
open _root_.PySem.Flow renaming next->SV
open _root_.PySem.Heap renaming ExtBut->U9,NewExc->SQ,SameBut->Vo,lt_size->YS,push->O1,size_push->X8
open _root_.PySem.Heap.DictOf renaming new->Se
open _root_.PySem.Heap.SameBut renaming update->Y3
open _root_.PySem.Manifest renaming isStub->Sd
open _root_.PySem.Meets renaming of_wp->QN
open _root_.PySem.MeetsSeq2 renaming wpAny_forIn_array->Uf
open _root_.PySem.NameKind renaming cell->Xd,free->XE
open _root_.PySem.Obj renaming data_mapFields->WA,isFreed_of_dict->Ra,isFreed_of_fields->Xy,mapFields->Rv,mapSeq->T7
open _root_.PySem.PyData renaming canLay0->V5,canLayAll0->Tg,depth->W0,depthAll->Ux,keyHash->Xz,none->Wp,str->Wc,strOk->Wi
open _root_.PySem.Reads renaming list->RN
open _root_.PySem.ReadsAll renaming cons->Pv
open _root_.PySem.ScopeKind renaming module->O3
open _root_.PySem.SeqAt.EqAt renaming str_str->OH
open _root_.PySem.SeqRoads2.EqGives renaming str->P8
open _root_.PySem.Shared renaming TypeIs->VF
open _root_.PySem.Spec renaming same->QT,sameAll->UZ
open _root_.PySem.Str renaming empty->Qj,length_append->YW,ofString->Zc
open _root_.PySem.Txt renaming contains->ZC,item->Oi,join->RX,mul->UG,replace->WW,slice->ST,stripBy->Oj,stripChars->Wt
open _root_.PySem.Value renaming builtin->Wm,int->TB,isStrOf_shape->Wg,none->Xn,ref->Yn,str->Qu,type->Y9
open _root_.PySem.W renaming Frag->YJ,Looks->Vq,SharedT->Uh,absHeap->Ta,bind_fn->OW,callWith_of->Tf,codeIn->PV,dictOf->Uu,emptyDict->W7,fencedOpening->Pk,findCls->QV,findIn->Wj,findObj->PP,fnOf->O2,getL->O4,get_bind->Om,handedIn->Q4,handed_on->TC,hasDictIn->SZ,instObj->S0,keepIn->Q8,kmk_take_min->P1,lookIn_dict->QI,look_both->Qi,looks_clsIn->QH,looks_field->SP,looks_findIn->TY,looks_mroIn->QL,makesIn->OV,methodObj->Qx,opening->ON,ownOf->Py,peek->Qk,plainGet_of->SO,plainOver->Qo,putL->Na,specialIn->Qs,takerIn->PO,takesIn->OY,through->OM,topFrom->OO,typeIn->Su
open _root_.PySem.W.Fast renaming te10156331382660048174->Ri,te11892475500146522536->Rj,te14289696077712309145->Rn,te14364793385576792824->Rk,te3805553451399329143->RB,te4187177175401517315->RD,te6613529449190102663->RA,te9446332074065402090->RE,tw10156331382660048174->Vy,tw11892475500146522536->Vz,tw12908688711261696721->Rp,tw14289696077712309145->Rm,tw14364793385576792824->VA,tw17960256430627541270->Ro,tw2436336058641802641->RG,tw3805553451399329143->VK,tw4187177175401517315->RC,tw6613529449190102663->VJ,tw9446332074065402090->RF
open _root_.PySem.W.KF renaming slot_mset->Qb
open _root_.PySem.W.Looks renaming ld->Uo,now->O6,of_peek->Xc,of_pure->Rw
open _root_.PySem.W.SharedT renaming abs->QD
open _root_.PySem.callAny renaming viaDunder->Qa
abbrev WK(O N:Prop):Prop:=(O=N)->N->O
local macro_rules | `(tactic| walk_at "s") => `(tactic| (refine' (?_ : WK _ _) (by conv => lhs; whnf) ?_; exact fun z_ x => x))
section
section
variable{α β γ δ ε ζ η θ ι:Type}{G:Prop}
theorem xA{p q:Prop}(h:p/\q)(k:p->q->G):G:=k h.1 h.2
theorem xE{p:α->Prop}(h:∃a,p a)(k:∀a,p a->G):G:=Exists.elim h k
theorem Cp{p q r:Prop}(hp:p)(hq:q)(hr:r):p/\q/\r:=⟨hp,hq,hr⟩
theorem cV{p:Prop}{q:α->Prop}(hp:p)(a:α)(hq:q a):p/\∃a,q a:=⟨hp,a,hq⟩
theorem mEA{p q:α->Prop}(a:α)(hp:p a)(hq:q a):∃a,p a/\q a:=⟨a,hp,hq⟩
theorem gq{p:α->β->Prop}(a:α)(b:β)(hp:p a b):∃a b,p a b:=⟨a,b,hp⟩
theorem Du{p q r:Prop}(h:p/\q/\r)(k:p->q->r->G):G:=xA h λhp h=>xA h (k hp)
theorem Ag{p q:α->Prop}(h:∃a,p a/\q a)(k:∀a,p a->q a->G):G:=xE h λa h=>xA h (k a)
theorem gy{p:α->β->Prop}(h:∃a b,p a b)(k:∀a b,p a b->G):G:=xE h λa h=>xE h (k a)
theorem Ba{p q r s:Prop}(hp:p)(hq:q)(hr:r)(hs:s):p/\q/\r/\s:=⟨hp,(Cp hq hr hs)⟩
theorem Es{p:Prop}{q r:α->Prop}(hp:p)(a:α)(hq:q a)(hr:r a):p/\∃a,q a/\r a:=⟨hp,(mEA a hq hr)⟩
theorem AU{p q r:α->Prop}(a:α)(hp:p a)(hq:q a)(hr:r a):∃a,p a/\q a/\r a:=⟨a,(Cp hp hq hr)⟩
theorem BW{p q:α->β->Prop}(a:α)(b:β)(hp:p a b)(hq:q a b):∃a b,p a b/\q a b:=⟨a,(mEA b hp hq)⟩
theorem It{p:α->β->γ->Prop}(a:α)(b:β)(c:γ)(hp:p a b c):∃a b c,p a b c:=⟨a,(gq b c hp)⟩
theorem CC{p q r s:Prop}(h:p/\q/\r/\s)(k:p->q->r->s->G):G:=xA h λhp h=>Du h (k hp)
theorem GC{p:Prop}{q r:α->Prop}(h:p/\∃a,q a/\r a)(k:p->∀a,q a->r a->G):G:=xA h λhp h=>Ag h (k hp)
theorem Am{p q r:α->Prop}(h:∃a,p a/\q a/\r a)(k:∀a,p a->q a->r a->G):G:=xE h λa h=>Du h (k a)
theorem AV{p q:α->β->Prop}(h:∃a b,p a b/\q a b)(k:∀a b,p a b->q a b->G):G:=xE h λa h=>Ag h (k a)
theorem ac{p:α->β->γ->Prop}(h:∃a b c,p a b c)(k:∀a b c,p a b c->G):G:=xE h λa h=>gy h (k a)
theorem Er{p:Prop}{q r:α->β->Prop}(hp:p)(a:α)(b:β)(hq:q a b)(hr:r a b):p/\∃a b,q a b/\r a b:=⟨hp,(BW a b hq hr)⟩
theorem Hi{p q:α->Prop}{r:α->β->Prop}(a:α)(hp:p a)(hq:q a)(b:β)(hr:r a b):∃a,p a/\q a/\∃b,r a b:=mEA a hp (cV hq b hr)
theorem Ep{p:α->Prop}{q r:α->β->Prop}(a:α)(hp:p a)(b:β)(hq:q a b)(hr:r a b):∃a,p a/\∃b,q a b/\r a b:=⟨a,(Es hp b hq hr)⟩
theorem At{p q r:α->β->Prop}(a:α)(b:β)(hp:p a b)(hq:q a b)(hr:r a b):∃a b,p a b/\q a b/\r a b:=⟨a,(AU b hp hq hr)⟩
theorem Ga{p q:α->β->γ->Prop}(a:α)(b:β)(c:γ)(hp:p a b c)(hq:q a b c):∃a b c,p a b c/\q a b c:=⟨a,(BW b c hp hq)⟩
theorem CU{p q r s t:Prop}(h:p/\q/\r/\s/\t)(k:p->q->r->s->t->G):G:=xA h λhp h=>CC h (k hp)
theorem EQ{p q r s:α->Prop}(h:∃a,p a/\q a/\r a/\s a)(k:∀a,p a->q a->r a->s a->G):G:=xE h λa h=>CC h (k a)
theorem LX{p:α->Prop}{q r:α->β->Prop}(h:∃a,p a/\∃b,q a b/\r a b)(k:∀a,p a->∀b,q a b->r a b->G):G:=xE h λa h=>GC h (k a)
theorem An{p q r:α->β->Prop}(h:∃a b,p a b/\q a b/\r a b)(k:∀a b,p a b->q a b->r a b->G):G:=xE h λa h=>Am h (k a)
theorem Dg{p q:α->β->γ->Prop}(h:∃a b c,p a b c/\q a b c)(k:∀a b c,p a b c->q a b c->G):G:=xE h λa h=>AV h (k a)
theorem KZ{p:α->Prop}{q r:α->β->γ->Prop}(a:α)(hp:p a)(b:β)(c:γ)(hq:q a b c)(hr:r a b c):∃a,p a/\∃b c,q a b c/\r a b c:=⟨a,(Er hp b c hq hr)⟩
theorem Bw{p q r s:α->β->Prop}(a:α)(b:β)(hp:p a b)(hq:q a b)(hr:r a b)(hs:s a b):∃a b,p a b/\q a b/\r a b/\s a b:=gq a b (Ba hp hq hr hs)
theorem AG{p q r:α->β->γ->Prop}(a:α)(b:β)(c:γ)(hp:p a b c)(hq:q a b c)(hr:r a b c):∃a b c,p a b c/\q a b c/\r a b c:=⟨a,(At b c hp hq hr)⟩
theorem BR{p:α->Prop}{q r:α->β->γ->Prop}(h:∃a,p a/\∃b c,q a b c/\r a b c)(k:∀a,p a->∀b c,q a b c->r a b c->G):G:=Ag h λa hp h=>AV h (k a hp)
theorem AF{p q r s:α->β->Prop}(h:∃a b,p a b/\q a b/\r a b/\s a b)(k:∀a b,p a b->q a b->r a b->s a b->G):G:=xE h λa h=>EQ h (k a)
theorem Aq{p q r:α->β->γ->Prop}(h:∃a b c,p a b c/\q a b c/\r a b c)(k:∀a b c,p a b c->q a b c->r a b c->G):G:=xE h λa h=>An h (k a)
theorem Bt{p q:α->β->γ->δ->Prop}(h:∃a b c d,p a b c d/\q a b c d)(k:∀a b c d,p a b c d->q a b c d->G):G:=xE h λa h=>Dg h (k a)
theorem Ck{p q r s t:α->β->Prop}(a:α)(b:β)(hp:p a b)(hq:q a b)(hr:r a b)(hs:s a b)(ht:t a b):∃a b,p a b/\q a b/\r a b/\s a b/\t a b:=BW a b hp (Ba hq hr hs ht)
theorem Dm{p q r s:α->β->γ->Prop}(a:α)(b:β)(c:γ)(hp:p a b c)(hq:q a b c)(hr:r a b c)(hs:s a b c):∃a b c,p a b c/\q a b c/\r a b c/\s a b c:=⟨a,(Bw b c hp hq hr hs)⟩
theorem FF{p q:α->Prop}{r s:α->β->γ->Prop}(h:∃a,p a/\q a/\∃b c,r a b c/\s a b c)(k:∀a,p a->q a->∀b c,r a b c->s a b c->G):G:=Am h λa hp hq h=>AV h (k a hp hq)
theorem Dh{p q r s t:α->β->Prop}(h:∃a b,p a b/\q a b/\r a b/\s a b/\t a b)(k:∀a b,p a b->q a b->r a b->s a b->t a b->G):G:=gy h λa b h=>CU h (k a b)
theorem FE{p q r:α->β->γ->δ->Prop}(h:∃a b c d,p a b c d/\q a b c d/\r a b c d)(k:∀a b c d,p a b c d->q a b c d->r a b c d->G):G:=xE h λa h=>Aq h (k a)
theorem AZ{p q r s:α->β->γ->δ->Prop}(a:α)(b:β)(c:γ)(d:δ)(hp:p a b c d)(hq:q a b c d)(hr:r a b c d)(hs:s a b c d):∃a b c d,p a b c d/\q a b c d/\r a b c d/\s a b c d:=⟨a,(Dm b c d hp hq hr hs)⟩
theorem D4{p q r s:α->β->γ->δ->Prop}(h:∃a b c d,p a b c d/\q a b c d/\r a b c d/\s a b c d)(k:∀a b c d,p a b c d->q a b c d->r a b c d->s a b c d->G):G:=gy h λa b h=>AF h (k a b)
theorem Ce{p q r s:α->β->γ->δ->ε->Prop}(a:α)(b:β)(c:γ)(d:δ)(e:ε)(hp:p a b c d e)(hq:q a b c d e)(hr:r a b c d e)(hs:s a b c d e):∃a b c d e,p a b c d e/\q a b c d e/\r a b c d e/\s a b c d e:=⟨a,(AZ b c d e hp hq hr hs)⟩
theorem Cr{p q r s t u:α->β->γ->Prop}(h:∃a b c,p a b c/\q a b c/\r a b c/\s a b c/\t a b c/\u a b c)(k:∀a b c,p a b c->q a b c->r a b c->s a b c->t a b c->u a b c->G):G:=Dg h λa b c hp h=>CU h (k a b c hp)
theorem Cd{p q r s t u v w:α->β->γ->Prop}(h:∃a b c,p a b c/\q a b c/\r a b c/\s a b c/\t a b c/\u a b c/\v a b c/\w a b c)(k:∀a b c,p a b c->q a b c->r a b c->s a b c->t a b c->u a b c->v a b c->w a b c->G):G:=Cr h λa b c hp hq hr hs ht h=>Du h (k a b c hp hq hr hs ht)
end
@[elab_as_elim] theorem gen{α:Type}(a:α){P:α->Prop}(h:∀x,a=x->P x):P a:=h a rfl
theorem q1{a m n:Zf}(h:a<=m)(e:Yr m n=Zm):a<=n:=Zv h (Zw e)
theorem q2{a m n:Zf}(h:a<m)(e:Yr m n=Zm):a<=n:=YB (ZB h (Zw e))
theorem q3{a m n:Zf}(h:a<m)(e:Yr m n=Zm):a<n:=ZB h (Zw e)
theorem q4{a m n:Zf}(h:a<=m)(e:Yr (m+1) n=Zm):a<n:=WY h (Zw e)
theorem q5{a b m n:Zf}(h:a<=b)(k:b<=m)(e:Yr m n=Zm):a<=n:=q1 (Zv h k) e
theorem q6{a b m n:Zf}(h:a<b)(k:b<=m)(e:Yr m n=Zm):a<n:=q3 (ZB h k) e
theorem q7{a b m n:Zf}(h:a<b)(k:b<=m)(e:Yr m n=Zm):a<=n:=YB (q6 h k e)
theorem q8{a b m k n:Zf}(h:a<=m)(g:b<=k)(e:Yr (m+k) n=Zm):a+b<=n:=q1 (Xa h g) e
theorem q9{a m n:Zf}(h:a=m)(e:Yr m n=Zm):a<=n:=q1 (Z1 h) e
theorem qa{a m n:Zf}(h:a<=m)(e:Yr (m+1) n=Zm):(a:Z7)<(n:Z7):=Xs.mpr (q4 h e)
theorem qb{a b m n:Zf}(h:a<b)(k:b<=m)(e:Yr m n=Zm):(a:Z7)<(n:Z7):=Xs.mpr (q6 h k e)
theorem qc{a b m n:Zf}(h:a<=b)(k:b<=m)(e:Yr (m+1) n=Zm):(a:Z7)<(n:Z7):=qa (Zv h k) e
theorem qd{a m n:Zf}(h:a<m)(e:Yr m n=Zm):(a:Z7)<(n:Z7):=Xs.mpr (q3 h e)
theorem qe{a b m n:Zf}(h:a+b<=m)(e:Yr m n=Zm):a<=n:=q1 (Zv (ZF _ _) h) e
theorem qf{a b m n:Zf}(h:a+b<=m)(e:Yr m n=Zm):b<=n:=q1 (Zv (ZQ _ _) h) e
theorem qg{a m n:Zf}(h:a<=m)(e:Yr (m+1) n=Zm):a+1<=n:=q4 h e
theorem qh{a b m k n:Zf}(h:a<m)(g:b<=k)(e:Yr (m+k) n=Zm):a+b<=n:=q8 (YB h) g e
theorem qi{a m n:Zf}(h:a<=m)(e:Yr (m+1) n=Zm):a≠n:=Yp (q4 h e)
theorem qj{a b:Zf}(h:a<b):b≠a:=(Yp h).symm
theorem qk{a b k:Zf}(h:b<k)(e:a=k):a≠b:=e▸(Yp h).symm
theorem g9{α:Type}{n:Zf}{P:Za α->Prop}(h:∀a r,r.length=n->P (a::r))(vs:Za α)(e:vs.length=n+1):P vs:=by
 cases vs with
 |nil=>exact W4 e
 |cons a r=>exact h a r (WF e)
theorem qQ{α:Type}{P:Za α->Prop}(h:P [])(vs:Za α)(e:vs.length=0):P vs:=by
 cases vs with
 |nil=>exact h
 |cons=>exact W4 e
theorem Eb{α:Type}{P:Za α->Prop}(h:∀a,P [a]):∀vs:Za α,vs.length=1->P vs:=g9 λa=>qQ (P:=λr=>P (a::r)) (h a)
theorem FG{α:Type}{P:Za α->Prop}(h:∀a b,P [a,b]):∀vs:Za α,vs.length=2->P vs:=g9 λa=>Eb (P:=λr=>P (a::r)) (h a)
theorem gA{α:Type}{P:Za α->Prop}(h:∀a b c,P [a,b,c]):∀vs:Za α,vs.length=3->P vs:=g9 λa=>FG (P:=λr=>P (a::r)) (h a)
theorem ul{α:Type}{P:Za α->Prop}(h:∀a b c d,P [a,b,c,d]):∀vs:Za α,vs.length=4->P vs:=g9 λa=>gA (P:=λr=>P (a::r)) (h a)
theorem Hj{α:Type}{c:Prop}[Decidable c]{a b r:α}(h:(if c then a else b)=r){G:Prop}(k1:c->a=r->G)(k2: ¬c->b=r->G):G:=by
 by_cases e:c
 ·exact k1 e ((if_pos e).symm.trans h)
 ·exact k2 e ((Yc e).symm.trans h)
theorem sj{α:Type}{a r:α}(h:Zd a=Zd r){M:α->Prop}(m:M a):M r:=Yd h▸m
theorem nj{α:Type}{r:α}(h:Zs=Zd r){G:Prop}:G:=nomatch h
theorem Cb{G:Prop}(h:∀P:Prop,(G->P)->P):G:=h G id
@[elab_as_elim] theorem Ab{α:Type _}{a b:α}{P:α->Prop}(h:a=b)(k:P b):P a:=h▸k
@[elab_as_elim] theorem Bj{α:Type _}{a b:α}{P:α->Prop}(h:b=a)(k:P b):P a:=h▸k
end
section
theorem uJ:TR.wellSaid=true:=by
 refine Ab RE ?_
 with_reducible delta RF
 repeat' (with_reducible refine Qi ?_ ?_)
 all_goals (try with_reducible delta Ro)
 all_goals (try repeat' (with_reducible refine Qi ?_ ?_))
 all_goals (try with_reducible delta RG)
 all_goals (try repeat' (with_reducible refine Qi ?_ ?_))
 all_goals (try with_reducible delta Rp)
 all_goals (try repeat' (with_reducible refine Qi ?_ ?_))
 all_goals decide+kernel
end
variable{n d i tk nx N j u5 u6 u7 u8 u9:Zf}{α β:Type}{ks names:Za (Zi×Zx)}{nm:Zf->Zi}{s M7:Zj}{a f C it acc A8 A9 B5:Zo}{x y line name tok v9 w6 w7:Zi}{env cenv:YG}{E Q:Zb->Zj->Prop}{v' b xv w' a' ov f1 v5 v6 v7 v8:Zb}{vs items vs' first z5 z6:Za Zb}{own:Za Zo}{ps:Za (Zi×Zl)}{p j9 A5 A6 A7:Xf}{A:Z2}{q ck B6 B7:Zl}{body:Za Yv}{kw binds M6:Za (Zi×Zb)}{prog:ZO}{h h' M8:Yo}{K:YJ}{r xs rd row ss tok' caps pb left x8 x9 y5:Za Zf}{dn nf np z7 z8 z9:Z7}{scope:Yh}{pl:ZN Zl}{R:Z5->Zj->Prop}{t:ZN α}{value target y6 y7 y8 y9:Expr}{use:Ze (Zb->ZN ZU)}{tail:Zb->Zb->YG->ZN Fin}{rest ifs es as:Za Expr}{sp:Za (Zi×Zi)}{steps:Za (Zf×Zf)}{rows:Za (Za Zf)}{id:ZV}{osl:ZD (Ze Zb)}{t1:ZN β}{gs:Za Zn}{op:ZG}{ys:ZD Zb}{j7 j8:Prop}{B8 B9:Za Zi}{F7:Z8}{L7 L8:Za Zy}{M9:Xp}
section
variable{p:ZO}{w:Z8}{n₀:Zf}{ann:Ze Zb}{s s₁:Uh}{t:Ry}{r:Za Xp}{life:Life}{s₀:Zj}{K:Z9->YJ}{as:Za Zo}
noncomputable abbrev pw:Program:=ZM
noncomputable abbrev Mk:=Vy (Vz VA)
theorem Mj(p:ZO)(w:Z8)(s:Uh)(t:Ry):Mk p w s t=stepT (denote VQ) p w s t:=by
 refine(?_:Vy (Vz VA) p w s t=_);refine Bj Ri (Bj Rj ?_);refine Bj Rk ?_;rfl
noncomputable abbrev xy:=VJ
theorem rW(n₀:Zf)(ann:Ze Zb)(t:Ry):xy n₀ ann t=stepOk n₀ ann t:=by
 refine(?_:VJ n₀ ann t=_);refine Bj RA ?_;rfl
noncomputable abbrev exitQ:=VK
theorem kP(t:Ry):exitQ t=t.atExitBegin:=by
 refine(?_:VK t=_);refine Bj RB ?_;rfl
noncomputable def FJ(p:ZO)(w:Z8)(n₀:Zf)(ann:Ze Zb):Zf->Uh->Ry->Ze Uh
 |0,_,_=>Zs
 |n+1,s,t=>match OM t with
  |true=>Zd s
  |false=>match xy n₀ ann t with
   |false=>Zs
   |true=>match Mk p w s t with
    |some (s',t')=>FJ p w n₀ ann n s' t'
    |none=>Zs
theorem d9:FJ p w n₀ ann (n+1) s t=match OM t with
 |true=>Zd s
 |false=>match xy n₀ ann t with
  |false=>Zs
  |true=>match Mk p w s t with
   |some (s',t')=>FJ p w n₀ ann n s' t'
   |none=>none:=rfl
theorem aj:∀{n:Zf} {s g:Uh} {t:Ry},FJ p w n₀ ann n s t=Zd g->topRun VQ p w n₀ ann n s.abs t=Zd g.abs:=by
 intro n
 induction n with
 |zero=>
  intro A A A h;trivial
 |succ n j=>
  intro s g t h;rw[d9]at h;unfold topRun;cases ht:OM t with
  |true=>rw[ht]at h;cases h;rfl
  |false=>
   rw[ht]at h;rw[rW]at h;cases hk:stepOk n₀ ann t with
   |false=>rw[hk]at h;cases h
   |true=>
    rw[hk,Mj]at h;cases hs:stepT (denote VQ) p w s t with
    |none=>rw[hs]at h;cases h
    |some r=>obtain⟨u,z⟩:=r;rw[hs]at h;dsimp only;refine Ab (stepT_spec hs ..) ?_;exact j h
noncomputable def Ew(p:ZO)(w:Z8):Zf->Uh->Ry->Ze Uh
 |0,_,_=>Zs
 |n+1,s,t=>match exitQ t with
  |some []=>Zd s
  |some (_::_)=>Zs
  |none=>match Mk p w s t with
   |some (s',t')=>Ew p w n s' t'
   |none=>Zs
theorem bK:Ew p w (n+1) s t=match exitQ t with
 |some []=>Zd s
 |some (_::_)=>Zs
 |none=>match Mk p w s t with
  |some (s',t')=>Ew p w n s' t'
  |none=>none:=rfl
theorem Nv:∀{n:Zf} {s g:Uh} {t:Ry},Ew p w n s t=Zd g->importEnds VQ p w n s.abs t=Zd g.abs:=by
 intro n
 induction n with
 |zero=>
  intro A A A h;trivial
 |succ n j=>
  intro s g t h;rw[bK]at h;unfold importEnds;rw[kP]at h;cases ht:t.atExitBegin with
  |some l=>
   rw[ht]at h;cases l with
   |nil=>cases h;rfl
   |cons a r=>cases h
  |none=>
   rw[ht,Mj]at h;cases hs:stepT (denote VQ) p w s t with
   |none=>rw[hs]at h;cases h
   |some r=>obtain⟨u,z⟩:=r;rw[hs]at h;dsimp only;refine Ab (stepT_spec hs ..) ?_;exact j h
noncomputable def toT:Za Xp->Zf->BT->Ze BT
 | [],_,t=>Zd t
 |o::r,n,t=>match((t.ins n o).get n).isSome with
  |true=>toT r (n+1) (t.ins n o)
  |false=>Zs
theorem uz{t:BT}:toT (M9::r) n t=match((t.ins n M9).get n).isSome with
 |true=>toT r (n+1) (t.ins n M9)
 |false=>none:=rfl
theorem qW:∀{l:Za Xp} {n:Zf} {t g:BT},toT l n t=Zd g->(Ta g (n+l.length) life).objs=(Ta t n life).objs++l.toArray:=by
 intro l
 induction l with
 |nil=>
  intro n t g h;cases h;rfl
 |cons o r j=>
  intro n t g h;rw[uz]at h;cases hg:((t.ins n o).get n).isSome with
  |false=>rw[hg]at h;cases h
  |true=>
   rw[hg]at h;refine Ab (by simp;lia:n+(o::r).length=n+1+r.length) (Ab (j h) ?_);refine Ab (absHeap_ins hg ..) ?_;simp[O1]
noncomputable def xh(p:ZO):SharedT:=⟨.nil,0,{},#[],{},1,(Og p).1.os⟩
theorem mz(p:ZO):(xh p).abs=(Og p).1:=by
 unfold xh QD Ta BT.list Og;rfl
noncomputable def Ks(p:ZO)(w:Z8)(N:Zf):Ze (Zj×Uh):=
 (Ew (ON p) w N (xh (ON p)) (Og (ON p)).2).bind λs=>(Rm p s.abs).bind λs₀=>(toT s₀.heap.objs.toList 0 .nil).bind λt=>(FJ p w s₀.heap.objs.size (s₀.heap.nsMap Vj "__annotations__") N ⟨t,s₀.heap.objs.size,s₀.heap.life,s₀.gens,s₀.drawn,s₀.toks,s₀.os⟩ (topStub p)).map λs₁=>(s₀,s₁)
theorem d7(h:Ks p w N=Zd (s₀,s₁)):
 Pk VQ p w N=Zd s₀/\topRun VQ p w s₀.heap.objs.size (s₀.heap.nsMap Vj "__annotations__") N s₀ (topStub p)=Zd s₁.abs:=by
 unfold Ks at h;refine Cb λO g=>Ag (XH.mp h) λs K h=>Ag (XH.mp h) λu D h=>Ag (XH.mp h) λt G h=>Ag (VY.mp h) λz I L=>?_;cases L;refine g ?_;generalize(Nv K)=r;rw[mz]at r;refine⟨?_,?_⟩
 ·unfold Pk;exact Ab r ((Ab Rn (D):fenceModules? p s.abs=Zd s₀))
 ·generalize(aj I)=j;generalize(by
   have h3':=qW (life:=s₀.heap.life) G;have E:Ta t s₀.heap.objs.size s₀.heap.life=s₀.heap:=by
    have H:0+s₀.heap.objs.toList.length=s₀.heap.objs.size:=by simp
    rw[H]at h3';have B:(Ta t s₀.heap.objs.size s₀.heap.life).objs=s₀.heap.objs:=by
     refine Ab h3' ?_;have:(Ta BT.nil 0 s₀.heap.life).objs= #[]:=rfl;refine Ab this ?_;simp
    have A:(Ta t s₀.heap.objs.size s₀.heap.life).life=s₀.heap.life:=rfl;cases hx:Ta t s₀.heap.objs.size s₀.heap.life with
    |mk C life=>
     rw[hx]at B A;simp only at B A;refine Ab B (Ab A ?_);rfl
   unfold QD;simp only[E]:(QD ⟨t,s₀.heap.objs.size,s₀.heap.life,s₀.gens,s₀.drawn,s₀.toks,s₀.os⟩)=s₀)=e
  rw[e]at j;exact j
noncomputable def sS(s:Uh)(a:Zo):Ze Obj:=match Vl a s.n with
 |true=>(s.tree.get a).bind alive
 |false=>Zs
theorem ot{o:Xp}(h:sS s a=Zd o):s.abs.heap.get? a=Zd o:=by
 unfold sS at h;cases hb:Vl a s.n with
 |false=>rw[hb]at h;cases h
 |true=>
  rw[hb]at h;refine Ag (XH.mp h) λu j r=>?_;generalize(by
   have:Yr (a+1) s.n=true:=hb;exact Zw this:a<s.n)=g
  refine(?_:(Ta s.tree s.n s.life).get? a=Zd o);refine Ab (abs_get g j ..) (Ab r ?_);rfl
noncomputable def qv:Program:=view pw [47]
noncomputable def Iv:Za Str:=(["_sre","deque","_wall","_twin_re_1","_whence","_index","UnsupportedOperation","IOBase","BufferedIOBase","TextIOBase","BytesIO","StringIO","_kind","_fspath","_check_arg_types","isabs","join","dirname","shlex","_find_unsafe","quote","_NODE_OUT","_NODE_DONE","_NodeInfo","CycleError","TopologicalSorter","_deduplicate_unhashable","_compare_args_orderless","_law_cells","_law_names","_law_writings","_law_drawn","_law_text","_law_joined","_law_plan","_law_tokens_due","_law_tokens","_law_steps","_law_late","_law_twins","_law_folded"]:Za ZV).map Zc
noncomputable abbrev mods:Za Str:=importedModules pw.main.body
noncomputable def bt(K:Z9->YJ)(w:Z8)(r:Zj×Uh):=
 ((r.1.heap.isNs Vj&&r.1.gens.size==0,staticsOk mods r.1.heap r.2.abs.heap&&namesBound pw r.2.abs.heap&&gensDone r.2.abs&&laidKept r.1.heap r.2.abs.heap),
  RC qv Iv mods (λg=>Zm) Zm r.2.abs,(K w.params).map λp=>sS r.2 p.1)
theorem nS(e:∀P,as=(K P).map (·.1))
 (h:∀w,(Ks pw w N).map (bt K w)=Zd ((Zm,Zm),openGood qv Iv,(K w.params).map λp=>Zd p.2)):
 LeftO pw qv Iv (λD=>Zm) (kHook K as e).obs (kHook K as e).val N:=λw=>by
 refine Cb λA s=>Ag (VY.mp (h w)) λj C u=>xA (d7 C) λf g=>?_;unfold bt at u;simp only[Wl]at u;refine Du u λr c d=>s ?_;generalize(by
  unfold OO;rw[r.1];rw[g];refine(?_:(match staticsOk mods j.1.heap j.2.abs.heap&&namesBound pw j.2.abs.heap&&gensDone j.2.abs&&laidKept j.1.heap j.2.abs.heap with|true=>_|false=>_)=_);rw[r.2]:OO VQ pw w N j.1=Zd j.2.abs)=t
 unfold openEnds;rw[f];refine(?_:(OO VQ pw w N j.1).map _=_);rw[t];refine(?_:Zd _=_);rw[<-RD]at c;generalize(by
  rw[e w.params,YX];refine Vt λp z=>?_;have:=List.map_inj_left.mp d p z;exact ot this:as.map j.2.abs.heap.get? =(K w.params).map λp=>Zd p.2)=B
 refine ZH Zd (Oh c ?_);exact B
end
section
variable{P:Z9}
noncomputable abbrev Ld(x:ZV):Str:=Zc x
noncomputable abbrev BX(x:ZV)(t:QE):Value:=.str (Zc x) t
noncomputable abbrev Ao(P:Z9)(x:ZV)(t:QE)(v:Zb):DictEntry:=⟨Xz P (Zc x),.str (Zc x) t,v⟩
noncomputable abbrev sG(l:ZD Zb):Obj:={cls:=.type "code",data:=.fields l}
noncomputable def Dv(i:Zf):Stmt:=ZM.main.body.getD i (.Pass ⟨0,0,0,0⟩)
noncomputable def CA:Zi×PA×Za Yv×Scope:=(Qj,⟨[],[],Zs,[],[],Zs,[]⟩,[],⟨.function,[],Zh,Zh,[]⟩)
noncomputable def Fv(t:Yv):Zi×PA×Za Yv×Scope:=t.casesOn (λn a b g g g h g g g=>(n,a,b,h)) (λg g g g g g g g g g=>CA) (λg g g b g g g g g g g=>(Qj,⟨[],[],Zs,[],[],Zs,[]⟩,b,⟨.function,[],Zh,Zh,[]⟩)) (λg g=>CA) (λg g=>CA) (λg g g=>CA) (λg g g g g g g=>CA) (λg g g g=>CA) (λg g g g g=>CA) (λg g g g g=>CA) (λg g g g g=>CA) (λg g g g=>CA) (λg g g g=>CA) (λg g g=>CA) (λg g g=>CA) (λg g g=>CA) (λg g g=>CA) (λg g g g g=>CA) (λg g g g g=>CA) (λg g g=>CA) (λg g=>CA) (λg g g g=>CA) (λg g=>CA) (λg g=>CA) (λg g=>CA) (λg=>CA) (λg=>CA) (λg=>CA)
noncomputable def Ee(i j:Zf):Stmt:=(Fv (Dv i)).2.2.1.getD j (.Pass ⟨0,0,0,0⟩)
structure FA where
 s:Yv
 q:ZV
 dV:Zb
 pm:ZV
 t:QE
 co:Zo
noncomputable abbrev FA.fd(x:FA):FuncData:=O2 (Fv x.s).1 (Zc x.q) (Fv x.s).2.1 (Fv x.s).2.2.1 (Fv x.s).2.2.2 x.dV .none .none (BX x.pm x.t) Zs (.ref x.co) .none
noncomputable abbrev FA.o(x:FA):Obj:=⟨.type "function",Zs,.func x.fd,#[]⟩
noncomputable def ud:Za (Zo×FA):=[
 (44,⟨Dv 2,"_wall",.none,"__main__",164,43⟩),
 (63,⟨Dv 6,"_index",.none,"io",371,62⟩),
 (90,⟨Ee 8 1,"IOBase.__new__",.none,"io",371,89⟩),
 (367,⟨Ee 12 1,"StringIO.__init__",(.ref 360),"io",371,366⟩),
 (374,⟨Ee 12 2,"StringIO.__translated",.none,"io",371,373⟩),
 (381,⟨Ee 12 3,"StringIO.__check",.none,"io",371,380⟩),
 (543,⟨Ee 12 25,"StringIO.read",(.ref 536),"io",371,542⟩),
 (656,⟨Ee 21 0,"shlex.__init__",(.ref 649),"cpy313.shlex",1086,655⟩),
 (663,⟨Ee 21 1,"shlex.punctuation_chars",.none,"cpy313.shlex",1086,662⟩),
 (693,⟨Ee 21 5,"shlex.get_token",.none,"cpy313.shlex",1086,692⟩),
 (700,⟨Ee 21 6,"shlex.read_token",.none,"cpy313.shlex",1086,699⟩),
 (744,⟨Dv 23,"quote",.none,"cpy313.shlex",1086,743⟩),
 (759,⟨Ee 27 1,"_NodeInfo.__init__",.none,"cpy313.graphlib",1236,758⟩),
 (796,⟨Ee 29 0,"TopologicalSorter.__init__",(.ref 789),"cpy313.graphlib",1236,795⟩),
 (803,⟨Ee 29 1,"TopologicalSorter._get_nodeinfo",.none,"cpy313.graphlib",1236,802⟩),
 (810,⟨Ee 29 2,"TopologicalSorter.add",.none,"cpy313.graphlib",1236,809⟩),
 (815,⟨Ee 29 3,"TopologicalSorter.prepare",.none,"cpy313.graphlib",1236,814⟩),
 (822,⟨Ee 29 4,"TopologicalSorter.get_ready",.none,"cpy313.graphlib",1236,821⟩),
 (829,⟨Ee 29 5,"TopologicalSorter.is_active",.none,"cpy313.graphlib",1236,828⟩),
 (843,⟨Ee 29 7,"TopologicalSorter.done",.none,"cpy313.graphlib",1236,842⟩),
 (850,⟨Ee 29 8,"TopologicalSorter._find_cycle",.none,"cpy313.graphlib",1236,849⟩),
 (871,⟨Dv 31,"_deduplicate_unhashable",.none,"cpy313.typing",1418,870⟩),
 (878,⟨Dv 32,"_compare_args_orderless",.none,"cpy313.typing",1418,877⟩),
 (885,⟨Dv 34,"_law_cells",.none,"law_op0283_01",1441,884⟩),
 (892,⟨Dv 35,"_law_names",.none,"law_op0283_01",1441,891⟩),
 (899,⟨Dv 36,"_law_writings",.none,"law_op0283_01",1441,898⟩),
 (906,⟨Dv 37,"_law_drawn",.none,"law_op0283_01",1441,905⟩),
 (913,⟨Dv 38,"_law_text",.none,"law_op0283_01",1441,912⟩),
 (920,⟨Dv 39,"_law_joined",.none,"law_op0283_01",1441,919⟩),
 (925,⟨Dv 40,"_law_plan",.none,"law_op0283_01",1441,924⟩),
 (932,⟨Dv 41,"_law_tokens_due",.none,"law_op0283_01",1441,931⟩),
 (939,⟨Dv 42,"_law_tokens",.none,"law_op0283_01",1441,938⟩),
 (944,⟨Dv 43,"_law_steps",.none,"law_op0283_01",1441,943⟩),
 (949,⟨Dv 44,"_law_late",.none,"law_op0283_01",1441,948⟩),
 (956,⟨Dv 45,"_law_twins",.none,"law_op0283_01",1441,955⟩),
 (961,⟨Dv 46,"_law_folded",.none,"law_op0283_01",1441,960⟩),
 (966,⟨Dv 47,"law",.none,"law_op0283_01",1441,965⟩)]
noncomputable def D1(f:Zo):FA:=(ud.lookup f).getD ⟨Dv 0,"",.none,"",0,0⟩
noncomputable def Ft(x q:ZV)(n:Zf)(L h g j:Z7)(a:Zf)(t:Z7)(m:Zf):Obj:=sG #[BX x n,BX q (n+1),BX "/claim/cut.py" (n+2),.int L 0,.int h 0,.int g 0,.int 0 0,.int j 0,.ref a,.bool Zm,.int 318 0,.ref (a+1),.none,.ref (a+2),.ref (a+3),.ref (a+4),.int t 0,.int L 0,BX "/claim/cut.py" m]
noncomputable def kx(P:Z9):Frag:=ud.map (λp=>(p.1,p.2.o))++[
 (1,{cls:=.type "dict",data:=.dict #[Ao P "builtins" 162 (.ref 4),Ao P "__main__" 163 (.ref 5),Ao P "_sre" 244 (.ref 12),Ao P "_collections" 292 (.ref 30)] 4}),
 (2,{cls:=.none,data:=.dict #[Ao P "\x69mport.loaded._sre" 183 (.bool Zm),Ao P "class._frozen_importlib.BuiltinImporter" 185 (.ref 14),Ao P "watched.\x69mport" 206 (.ref 18),Ao P "class._frozen_importlib.ModuleSpec" 216 (.ref 22),Ao P "sys.modules.booked-epoch" 245 (.int 4 0),Ao P "\x69mport.later-laid._sre" 270 (.bool Zm),Ao P "watched.library" 272 (.ref 27),Ao P "watched.library-objects" 0 (BX "\x0c\x1e" 0),Ao P "watched.library-deep._sre" 273 (BX "\x04\x00\x00\x0b\x04\x00\x00\x0b\x04\x00\x00\x03\x04\x00\x00\x0b\x08\x04dict\x02" 0),Ao P "\x69mport.loaded._collections" 280 (.bool Zm),Ao P "sys.modules.landed._collections" 294 (.bool Zm),Ao P "\x69mport.later-laid._collections" 309 (.bool Zm),Ao P "watched.library-deep._collections" 311 (BX "\x04\x00\x00\x1d\x04\x00\x00\x1d\x04\x00\x00\x03\x04\x00\x00\x1d\x08\x04dict\x02" 0),Ao P "type.__subclasses__.OSError.0" 407 (.int 73 0),Ao P "type.__subclasses__.OSError.n" 408 (.int 1 0)] 15}),
 (3,{cls:=.type "dict",data:=.dict #[Ao P "__name__" 165 (BX "law_op0283_01" 1441),Ao P "__doc__" 166 (.none),Ao P "__package__" 167 (.none),Ao P "__loader__" 168 (.builtin "__main__.__loader__#opaque"),Ao P "__spec__" 169 (.none),Ao P "__annotations__" 170 (.ref 6),Ao P "__builtins__" 171 (.ref 4),Ao P "__file__" 173 (BX "/claim/cut.py" 172),Ao P "__cached__" 174 (.none),Ao P "_sre" 275 (.ref 12),Ao P "deque" 317 (.type "collections.deque"),Ao P "_wall" 330 (.ref 44),Ao P "_twin_re_1" 370 (.ref 49),Ao P "_whence" 380 (.ref 56),Ao P "_index" 388 (.ref 63),Ao P "UnsupportedOperation" 410 (.ref 73),Ao P "IOBase" 442 (.ref 93),Ao P "BufferedIOBase" 460 (.ref 108),Ao P "TextIOBase" 478 (.ref 120),Ao P "BytesIO" 740 (.ref 350),Ao P "StringIO" 1027 (.ref 597),Ao P "_kind" 1038 (.ref 606),Ao P "_fspath" 1047 (.ref 613),Ao P "_check_arg_types" 1057 (.ref 620),Ao P "isabs" 1064 (.ref 627),Ao P "join" 1075 (.ref 634),Ao P "dirname" 1085 (.ref 641),Ao P "shlex" 1226 (.ref 732),Ao P "_find_unsafe" 1228 (.ref 737),Ao P "quote" 1235 (.ref 744),Ao P "_NODE_OUT" 1240 (.int (-1) 1239),Ao P "_NODE_DONE" 1243 (.int (-2) 1242),Ao P "_NodeInfo" 1280 (.ref 763),Ao P "CycleError" 1298 (.ref 778),Ao P "TopologicalSorter" 1417 (.ref 860),Ao P "_deduplicate_unhashable" 1428 (.ref 871),Ao P "_compare_args_orderless" 1440 (.ref 878),Ao P "_law_cells" 1451 (.ref 885),Ao P "_law_names" 1457 (.ref 892),Ao P "_law_writings" 1463 (.ref 899),Ao P "_law_drawn" 1474 (.ref 906),Ao P "_law_text" 1483 (.ref 913),Ao P "_law_joined" 1494 (.ref 920),Ao P "_law_plan" 1500 (.ref 925),Ao P "_law_tokens_due" 1513 (.ref 932),Ao P "_law_tokens" 1528 (.ref 939),Ao P "_law_steps" 1534 (.ref 944),Ao P "_law_late" 1540 (.ref 949),Ao P "_law_twins" 1551 (.ref 956),Ao P "_law_folded" 1557 (.ref 961),Ao P "law" 1563 (.ref 966)] 51}),
 (43,Ft "_wall" "_wall" 324 3 1 0 3 38 328 329),
 (48,{cls:=.type "tuple",data:=.seq #[.int 14 0,.int 17 0,.int 4 0,.int 1 0,.int 1 0,.int 21 0,.int 9 0,.int 0 0,.int 604043296 0,.int 1 0,.int 0 0,.int 0 0,.int 0 0,.int 0 0,.int 0 0,.int 8 0,.int 4 0,.int 0 0,.int 13 0,.int 14 0,.int 21 0,.int 9 0,.int 0 0,.int 604043296 0,.int 1 0,.int 0 0,.int 0 0,.int 0 0,.int 0 0,.int 0 0,.int 8 0,.int 4 0,.int 0 0,.int 1 0]}),
 (49,{cls:=.type "re.Pattern",data:=.fields #[BX "[^\\w@%+=:,./-]" 332,.int 256 369,.int 0 0,.none,.none,.ref 48,.int 0 0]}),
 (62,Ft "_index" "_index" 381 13 2 0 3 57 386 387),
 (89,Ft "__new__" "IOBase.__new__" 425 25 1 1 15 84 431 432),
 (92,{cls:=.type "dict",data:=.dict #[Ao P "__module__" 418 (BX "io" 423),Ao P "__firstlineno__" 422 (.int 22 421),Ao P "__new__" 433 (.ref 94),Ao P "__static_attributes__" 434 (.ref 91),Ao P "__dict__" 437 (.ref 95),Ao P "__weakref__" 439 (.ref 96),Ao P "__doc__" 440 (.none)] 4}),
 (93,{cls:=.type "type",data:=.cls {name:=Ld "IOBase",bases:=[.type "object"],mro:=[.ref 93,.type "object"],ns:=92,qualname:=Ld "IOBase",subclasses:=[.ref 108,.ref 120]},slots:= #[Zs,Zs,Zd (BX "IOBase" 411),Zd (BX "IOBase" 419),Zd .none,Zd (.bool Zm)]}),
 (94,{cls:=.type "staticmethod",data:=.fields #[.ref 90]}),
 (107,{cls:=.type "dict",data:=.dict #[Ao P "__module__" 450 (BX "io" 455),Ao P "__firstlineno__" 454 (.int 29 453),Ao P "__static_attributes__" 457 (.ref 106),Ao P "__doc__" 458 (.none)] 2}),
 (108,{cls:=.type "type",data:=.cls {name:=Ld "BufferedIOBase",bases:=[.ref 93],mro:=[.ref 108,.ref 93,.type "object"],ns:=107,qualname:=Ld "BufferedIOBase",subclasses:=[.ref 350]},slots:= #[Zd (.ref 99),Zs,Zd (BX "BufferedIOBase" 443),Zd (BX "BufferedIOBase" 451),Zd .none,Zd (.bool Zm)]}),
 (119,{cls:=.type "dict",data:=.dict #[Ao P "__module__" 468 (BX "io" 473),Ao P "__firstlineno__" 472 (.int 31 471),Ao P "__static_attributes__" 475 (.ref 118),Ao P "__doc__" 476 (.none)] 2}),
 (120,{cls:=.type "type",data:=.cls {name:=Ld "TextIOBase",bases:=[.ref 93],mro:=[.ref 120,.ref 93,.type "object"],ns:=119,qualname:=Ld "TextIOBase",subclasses:=[.ref 597]},slots:= #[Zd (.ref 111),Zs,Zd (BX "TextIOBase" 461),Zd (BX "TextIOBase" 469),Zd .none,Zd (.bool Zm)]}),
 (349,{cls:=.type "dict",data:=.dict #[Ao P "__module__" 486 (BX "_io" 491),Ao P "__firstlineno__" 490 (.int 33 489),Ao P "__init__" 500 (.ref 137),Ao P "_BytesIO__check" 507 (.ref 144),Ao P "_BytesIO__line" 518 (.ref 151),Ao P "closed" 526 (.ref 159),Ao P "close" 533 (.ref 166),Ao P "__enter__" 540 (.ref 173),Ao P "__exit__" 548 (.ref 180),Ao P "readable" 555 (.ref 187),Ao P "writable" 562 (.ref 194),Ao P "seekable" 569 (.ref 201),Ao P "isatty" 576 (.ref 208),Ao P "flush" 583 (.ref 215),Ao P "fileno" 590 (.ref 222),Ao P "detach" 597 (.ref 229),Ao P "getvalue" 604 (.ref 236),Ao P "getbuffer" 611 (.ref 243),Ao P "tell" 618 (.ref 250),Ao P "seek" 628 (.ref 258),Ao P "truncate" 636 (.ref 266),Ao P "read" 648 (.ref 274),Ao P "read1" 658 (.ref 282),Ao P "readinto" 668 (.ref 289),Ao P "readinto1" 676 (.ref 296),Ao P "readline" 686 (.ref 304),Ao P "readlines" 694 (.ref 312),Ao P "__iter__" 701 (.ref 319),Ao P "__next__" 709 (.ref 326),Ao P "write" 719 (.ref 333),Ao P "writelines" 727 (.ref 340),Ao P "__repr__" 734 (.ref 347),Ao P "__static_attributes__" 737 (.ref 348),Ao P "__doc__" 738 (.none)] 2}),
 (350,{cls:=.type "type",data:=.cls {name:=Ld "BytesIO",bases:=[.ref 108],mro:=[.ref 350,.ref 108,.ref 93,.type "object"],ns:=349,qualname:=Ld "BytesIO"},slots:= #[Zd (.ref 123),Zs,Zd (BX "BytesIO" 479),Zd (BX "BytesIO" 487),Zd .none,Zd (.bool Zm)]}),
 (360,{cls:=.type "tuple",data:=.seq #[BX "" 755,BX "\n" 756]}),
 (366,Ft "__init__" "StringIO.__init__" 757 206 3 0 3 361 763 764),
 (373,Ft "__translated" "StringIO.__translated" 766 219 2 0 3 368 772 773),
 (380,Ft "__check" "StringIO.__check" 775 227 1 0 3 375 779 780),
 (536,{cls:=.type "tuple",data:=.seq #[.int (-1) 948]}),
 (542,Ft "read" "StringIO.read" 949 349 2 2 3 537 956 957),
 (596,{cls:=.type "dict",data:=.dict #[Ao P "__module__" 748 (BX "_io" 753),Ao P "__firstlineno__" 752 (.int 203 751),Ao P "__init__" 765 (.ref 367),Ao P "_StringIO__translated" 774 (.ref 374),Ao P "_StringIO__check" 781 (.ref 381),Ao P "_StringIO__check_dot" 788 (.ref 388),Ao P "_StringIO__line" 803 (.ref 395),Ao P "closed" 811 (.ref 403),Ao P "line_buffering" 819 (.ref 411),Ao P "newlines" 827 (.ref 419),Ao P "encoding" 835 (.ref 427),Ao P "errors" 843 (.ref 435),Ao P "close" 850 (.ref 442),Ao P "__enter__" 857 (.ref 449),Ao P "__exit__" 865 (.ref 456),Ao P "readable" 872 (.ref 463),Ao P "writable" 879 (.ref 470),Ao P "seekable" 886 (.ref 477),Ao P "isatty" 893 (.ref 484),Ao P "flush" 900 (.ref 491),Ao P "fileno" 907 (.ref 498),Ao P "detach" 914 (.ref 505),Ao P "getvalue" 921 (.ref 512),Ao P "tell" 928 (.ref 519),Ao P "seek" 938 (.ref 527),Ao P "truncate" 946 (.ref 535),Ao P "read" 958 (.ref 543),Ao P "readline" 968 (.ref 551),Ao P "readlines" 978 (.ref 559),Ao P "__iter__" 985 (.ref 566),Ao P "__next__" 993 (.ref 573),Ao P "write" 1005 (.ref 580),Ao P "writelines" 1013 (.ref 587),Ao P "__repr__" 1020 (.ref 594),Ao P "__static_attributes__" 1024 (.ref 595),Ao P "__doc__" 1025 (.none)] 2}),
 (597,{cls:=.type "type",data:=.cls {name:=Ld "StringIO",bases:=[.ref 120],mro:=[.ref 597,.ref 120,.ref 93,.type "object"],ns:=596,qualname:=Ld "StringIO"},slots:= #[Zd (.ref 353),Zs,Zd (BX "StringIO" 741),Zd (BX "StringIO" 749),Zd .none,Zd (.bool Zm)]}),
 (649,{cls:=.type "tuple",data:=.seq #[.none,.none,.bool Zh,.bool Zh]}),
 (655,Ft "__init__" "shlex.__init__" 1100 474 5 0 3 650 1109 1110),
 (662,Ft "punctuation_chars" "shlex.punctuation_chars" 1112 515 1 0 3 657 1116 1117),
 (664,{cls:=.type "property",data:=.fields #[.ref 663,.none,.none,.none,BX "punctuation_chars" 1119,.bool Zh]}),
 (692,Ft "get_token" "shlex.get_token" 1144 542 1 0 3 687 1153 1154),
 (699,Ft "read_token" "shlex.read_token" 1156 569 1 0 3 694 1164 1165),
 (731,{cls:=.type "dict",data:=.dict #[Ao P "__module__" 1095 (BX "cpy313.shlex" 1086),Ao P "__firstlineno__" 1099 (.int 472 1098),Ao P "__init__" 1111 (.ref 656),Ao P "punctuation_chars" 1119 (.ref 664),Ao P "push_token" 1127 (.ref 671),Ao P "push_source" 1136 (.ref 679),Ao P "pop_source" 1143 (.ref 686),Ao P "get_token" 1155 (.ref 693),Ao P "read_token" 1166 (.ref 700),Ao P "sourcehook" 1174 (.ref 707),Ao P "error_leader" 1183 (.ref 715),Ao P "__iter__" 1190 (.ref 722),Ao P "__next__" 1198 (.ref 729),Ao P "__static_attributes__" 1219 (.ref 730),Ao P "__dict__" 1221 (.ref 733),Ao P "__weakref__" 1223 (.ref 734),Ao P "__doc__" 1224 (.none)] 4}),
 (732,{cls:=.type "type",data:=.cls {name:=Ld "shlex",bases:=[.type "object"],mro:=[.ref 732,.type "object"],ns:=731,qualname:=Ld "shlex"},slots:= #[Zs,Zs,Zd (BX "shlex" 1088),Zd (BX "shlex" 1096),Zd (.builtin "object.__new__"),Zd (.bool Zm)]}),
 (737,{cls:=.type "builtin_function_or_method",data:=.fields #[.builtin "re.Pattern.search",.ref 49]}),
 (743,Ft "quote" "quote" 1229 725 1 0 3 738 1233 1234),
 (758,Ft "__init__" "_NodeInfo.__init__" 1260 737 2 0 3 753 1265 1266),
 (762,{cls:=.type "dict",data:=.dict #[Ao P "__module__" 1251 (BX "cpy313.graphlib" 1236),Ao P "__firstlineno__" 1255 (.int 734 1254),Ao P "__slots__" 1259 (.ref 752),Ao P "__init__" 1267 (.ref 759),Ao P "__static_attributes__" 1271 (.ref 760),Ao P "node" 1273 (.ref 764),Ao P "npredecessors" 1275 (.ref 765),Ao P "successors" 1277 (.ref 766),Ao P "__doc__" 1278 (.none)] 5}),
 (763,{cls:=.type "type",data:=.cls {name:=Ld "_NodeInfo",bases:=[.type "object"],mro:=[.ref 763,.type "object"],ns:=762,qualname:=Ld "_NodeInfo",hasDict:=Zh,slotNames:=[Ld "node",Ld "npredecessors",Ld "successors"]},slots:= #[Zs,Zs,Zd (BX "_NodeInfo" 1244),Zd (BX "_NodeInfo" 1252),Zd (.builtin "object.__new__"),Zd (.bool Zh)]}),
 (764,{cls:=.type "member_descriptor",data:=.fields #[BX "node" 1272,.ref 763,.builtin "proto.slot",.builtin "proto.slot#set",.int 2 0]}),
 (765,{cls:=.type "member_descriptor",data:=.fields #[BX "npredecessors" 1274,.ref 763,.builtin "proto.slot",.builtin "proto.slot#set",.int 1 0]}),
 (766,{cls:=.type "member_descriptor",data:=.fields #[BX "successors" 1276,.ref 763,.builtin "proto.slot",.builtin "proto.slot#set",.int 0 0]}),
 (789,{cls:=.type "tuple",data:=.seq #[.none]}),
 (795,Ft "__init__" "TopologicalSorter.__init__" 1311 745 2 0 3 790 1318 1319),
 (802,Ft "_get_nodeinfo" "TopologicalSorter._get_nodeinfo" 1321 754 2 0 3 797 1327 1328),
 (809,Ft "add" "TopologicalSorter.add" 1330 759 2 0 7 804 1339 1340),
 (814,sG #[BX "prepare" 1342,BX "TopologicalSorter.prepare" 1343,BX "/claim/cut.py" 1344,.int 768 0,.int 1 0,.int 0 0,.int 0 0,.int 3 0,.ref 811,.bool Zm,.int 318 0,.ref 812,.none,.none,.none,.ref 813,.int 1345 0,.int 768 0,BX "/claim/cut.py" 1346]),
 (821,Ft "get_ready" "TopologicalSorter.get_ready" 1348 776 1 0 3 816 1355 1356),
 (828,Ft "is_active" "TopologicalSorter.is_active" 1358 787 1 0 3 823 1362 1363),
 (842,Ft "done" "TopologicalSorter.done" 1372 795 1 0 7 837 1383 1384),
 (849,Ft "_find_cycle" "TopologicalSorter._find_cycle" 1386 818 1 0 3 844 1396 1397),
 (859,{cls:=.type "dict",data:=.dict #[Ao P "__module__" 1306 (BX "cpy313.graphlib" 1236),Ao P "__firstlineno__" 1310 (.int 743 1309),Ao P "__init__" 1320 (.ref 796),Ao P "_get_nodeinfo" 1329 (.ref 803),Ao P "add" 1341 (.ref 810),Ao P "prepare" 1347 (.ref 815),Ao P "get_ready" 1357 (.ref 822),Ao P "is_active" 1364 (.ref 829),Ao P "__bool__" 1371 (.ref 836),Ao P "done" 1385 (.ref 843),Ao P "_find_cycle" 1398 (.ref 850),Ao P "static_order" 1405 (.ref 857),Ao P "__static_attributes__" 1410 (.ref 858),Ao P "__dict__" 1412 (.ref 861),Ao P "__weakref__" 1414 (.ref 862),Ao P "__doc__" 1415 (.none)] 4}),
 (860,{cls:=.type "type",data:=.cls {name:=Ld "TopologicalSorter",bases:=[.type "object"],mro:=[.ref 860,.type "object"],ns:=859,qualname:=Ld "TopologicalSorter"},slots:= #[Zs,Zs,Zd (BX "TopologicalSorter" 1299),Zd (BX "TopologicalSorter" 1307),Zd (.builtin "object.__new__"),Zd (.bool Zm)]}),
 (870,Ft "_deduplicate_unhashable" "_deduplicate_unhashable" 1420 850 1 0 3 865 1426 1427),
 (877,Ft "_compare_args_orderless" "_compare_args_orderless" 1429 856 2 0 3 872 1438 1439),
 (884,Ft "_law_cells" "_law_cells" 1443 867 1 0 3 879 1449 1450),
 (891,Ft "_law_names" "_law_names" 1452 872 0 0 3 886 1455 1456),
 (898,Ft "_law_writings" "_law_writings" 1458 874 0 0 3 893 1461 1462),
 (905,Ft "_law_drawn" "_law_drawn" 1464 876 1 0 3 900 1472 1473),
 (912,Ft "_law_text" "_law_text" 1475 884 1 0 3 907 1481 1482),
 (919,Ft "_law_joined" "_law_joined" 1484 891 3 0 3 914 1492 1493),
 (924,sG #[BX "_law_plan" 1495,BX "_law_plan" 1496,BX "/claim/cut.py" 1497,.int 896 0,.int 2 0,.int 0 0,.int 0 0,.int 3 0,.ref 921,.bool Zm,.int 318 0,.ref 922,.none,.none,.none,.ref 923,.int 1498 0,.int 896 0,BX "/claim/cut.py" 1499]),
 (931,Ft "_law_tokens_due" "_law_tokens_due" 1501 906 2 0 3 926 1511 1512),
 (938,Ft "_law_tokens" "_law_tokens" 1514 917 2 0 3 933 1526 1527),
 (943,sG #[BX "_law_steps" 1529,BX "_law_steps" 1530,BX "/claim/cut.py" 1531,.int 929 0,.int 1 0,.int 0 0,.int 0 0,.int 3 0,.ref 940,.bool Zm,.int 318 0,.ref 941,.none,.none,.none,.ref 942,.int 1532 0,.int 929 0,BX "/claim/cut.py" 1533]),
 (948,sG #[BX "_law_late" 1535,BX "_law_late" 1536,BX "/claim/cut.py" 1537,.int 949 0,.int 3 0,.int 0 0,.int 0 0,.int 3 0,.ref 945,.bool Zm,.int 318 0,.ref 946,.none,.none,.none,.ref 947,.int 1538 0,.int 949 0,BX "/claim/cut.py" 1539]),
 (955,Ft "_law_twins" "_law_twins" 1541 973 3 0 3 950 1549 1550),
 (960,sG #[BX "_law_folded" 1552,BX "_law_folded" 1553,BX "/claim/cut.py" 1554,.int 984 0,.int 2 0,.int 0 0,.int 0 0,.int 3 0,.ref 957,.bool Zm,.int 318 0,.ref 958,.none,.none,.none,.ref 959,.int 1555 0,.int 984 0,BX "/claim/cut.py" 1556]),
 (965,sG #[BX "law" 1558,BX "law" 1559,BX "/claim/cut.py" 1560,.int 1002 0,.int 1 0,.int 0 0,.int 0 0,.int 3 0,.ref 962,.bool Zm,.int 318 0,.ref 963,.none,.none,.none,.ref 964,.int 1561 0,.int 1002 0,BX "/claim/cut.py" 1562])]
noncomputable def xV:Za Addr:=ud.map (·.1)++[1,2,3,43,48,49,62,89,92,93,94,107,108,119,120,349,350,360,366,373,380,536,542,596,597,649,655,662,664,692,699,731,732,737,743,758,762,763,764,765,766,789,795,802,809,814,821,828,842,849,859,860,870,877,884,891,898,905,912,919,924,931,938,943,948,955,960,965]
theorem bH(P:Z9):xV=(kx P).map (·.1):=by kernel_rfl
theorem lookup_append[BEq α]{l m:Za (α×β)}{a:α}{b:β}(h:l.lookup a=Zd b):(l++m).lookup a=Zd b:=by
 induction l with
 |nil=>cases h
 |cons p l g=>
  refine Ab YO (Ab YE ?_);rw[YE]at h;cases e:a==p.1 with
  |true=>rw[e]at h;exact h
  |false=>rw[e]at h;exact g h
theorem qx(h:(ud.lookup f).isSome=Zm):(kx P).lookup f=Zd (D1 f).o:=by
 refine lookup_append ?_;obtain⟨x,e⟩:=XB.mp h;refine Ab ((show D1 f=x from by unfold D1;rw[e];rfl) ..) ?_;clear h;generalize ud=l at e⊢
 induction l with
 |nil=>cases e
 |cons p l g=>
  refine Ab Z3 (Ab YE ?_);rw[YE]at e;cases q:f==p.1 with
  |true=>rw[q]at e;cases e;rfl
  |false=>rw[q]at e;exact g e
end
section
theorem xj:∀w,(Ks pw w 13000).map (bt kx w)=Zd ((Zm,Zm),openGood qv Iv,(kx w.params).map λp=>Zd p.2):=by
 intro w;kernel_rfl
end
section
theorem lm{α β:Type}{f:α->β}{l:Za α}{n:Zf}(h:l.length<=n):(l.map f).length<=n:=Zv (Z1 (Zz f)) h
theorem lq{α β:Type}{f:α->β}{l:Za α}{m n:Zf}(h:l.length<=m)(e:Yr m n=Zm):(l.map f).length<=n:=lm (q1 h e)
theorem nN{α β:Type}{f:α->β}{l:Za α}{m n:Zf}(h:l.length=m)(e:Yr m n=Zm):(l.map f).length<=n:=lm (q9 h e)
theorem la{α:Type}{x y:Za α}{m n:Zf}(h:x.length<=m)(g:y.length<=n):(x++y).length<=m+n:=Zt▸Xa h g
theorem wK:0<3:=YH 2
theorem sE:1<3:=Tv (YH 1)
theorem lT:2<3:=ZL 3
theorem j1{i n:Zf}(h:i<n):3+2*i+1<3+2*n:=Yy (Y1 2 h) 3
theorem xO{i n:Zf}(h:i<n):3+2*i<3+2*n:=X9 (j1 h)
theorem tR{b i j:Zf}:b+2*j+1≠b+2*i:=λe=>ZT ((Nat.mul_add_mod 2 j 1).symm.trans ((ZH (· %2) (Vs (m:=2*j+1) e)).trans (Nat.mul_mod_right 2 i))) (Yq 0)
theorem wG{b i j:Zf}(h:i≠j):b+2*i≠b+2*j:=λe=>h (Nat.eq_of_mul_eq_mul_left (YH 1) (Vs e))
theorem zp{b i j:Zf}(h:i≠j):b+2*i+1≠b+2*j+1:=λe=>wG h (WF e)
theorem Fk{b a c:Zf}(h:a≠c):b+a≠b+c:=λe=>h (Vs e)
theorem o4{b j c:Zf}(h:j<4):b+j≠b+4+c:=Yp (ZB (Uz h b) (ZF _ _))
theorem lb{l b j:Zf}(h:l<b):l≠b+j:=Yp (ZB h (ZF b j))
theorem ua{l b j:Zf}(h:l<b):l≠b+4+j:=lb (ZB h (ZF b 4))
theorem tX:(0:Zf)≠1:=(Yq 0).symm
theorem tW:(0:Zf)≠2:=(Ub 1).symm
theorem tV:(0:Zf)≠3:=(Ub 2).symm
theorem tU:(1:Zf)≠2:=(Yq 1).symm
theorem tT:(1:Zf)≠3:=λe=>tW (WF e)
theorem wH:(2:Zf)≠3:=(Yq 2).symm
theorem lS:0<4:=YH 3
theorem lR:1<4:=Tv wK
theorem tP:2<4:=Tv sE
theorem lQ:3<4:=ZL 4
theorem lo3{l n:Zf}(h:l<3):l≠3+n:=Yp (ZB h (ZF 3 n))
theorem nO{l n:Zf}(h:l<3):l≠3+n+1:=Yp (ZB h (ZF 3 (n+1)))
theorem up{α:Type}{l j:Zf}{x a b:α}(e:x=if l=j then a else b)(h:l≠j):x=b:=e.trans (Yc h)
theorem Kh{α:Type}{l:Za α}{i:Zf}{a:α}(h:l[i]? =Zd a):i<l.length:=(Za.getElem?_eq_some_iff.mp h).1
theorem FZ{α β:Type}{f:α->β}{p q:α}(e:f q=f p):∀{l:Za α} {i:Zf},l[i]? =Zd p->(l.set i q).map f=l.map f:=by
 intro l
 induction l with
 |nil=>exact λh=>nj h
 |cons a l g=>
  intro i h;cases i with
  |zero=>exact ZH (· ::l.map f) (e.trans (ZH f (Yd h).symm))
  |succ i=>exact ZH (f a:: ·) (g h)
theorem sh{m r M n:Zf}(h:m+(r+1)+M<=n):m+1+r+M<=n:=by refine Ab (Xb m 1 r ..) ?_;refine Ab (XM 1 r ..) ?_;exact h
theorem mM{m r k n:Zf}(h:m+1000*(r+1)<=n)(z:k<=900):m+1+k+1000*r<=n:=
 have e:m+1000*(r+1)=m+1000+1000*r:=(ZH (m+ ·) (XM (1000*r) 1000)).trans (Xb ..).symm
 Zv (Xm (Zv (Z1 (Xb m 1 k)) (Yy (q8 (ZL 1) z rfl) m)) _) (e▸h)
theorem DQ{a b:Zf}(e:a≠b):ZX a b=false:=by
 cases h:ZX a b with
 |true=>exact ZT (Z4 h) e
 |false=>rfl
theorem vu{i r N:Zf}(h:i+(r+1)=N):i<N:=h▸YT (YH r)
theorem wI{i r N:Zf}(h:i+(r+1)=N):i+1+r=N:=(Xb i 1 r).trans ((ZH (i+ ·) (XM 1 r)).trans h)
theorem zq{n m:Zf}(h:n=m+1): -(n:Z7)<= -1:=h▸Int.neg_le_neg (UH.mpr (YH m))
theorem yK{n m:Zf}(h:n=m+1):(-1+(n:Z7)).toNat=m:=by subst h;exact ZH Int.toNat ((Int.add_comm _ _).trans (Int.add_sub_cancel (m:Z7) 1): -1+((m:Z7)+1)=m)
theorem tn{k:Z7}{n:Zf}(h:0<=k)(q:k<n):k.toNat<n:=Xs.mp ((UB h).symm▸q)
theorem zg{k:Z7}{n:Zf}(q:k<=n):k.toNat<=n:=Int.toNat_le.mpr q
theorem mn{a b c:Zf}(h:a<=c):min a b<=c:=Zv (Ur ..) h
theorem sb{m k:Zf}(h:k<m):m=m-1+1:=(Nat.sub_one_add_one (Y2 (R2 h))).symm
theorem if1{w k g j v:Zf}(h:min (w-k) w+(g+(w-(w-k)))=j)(e:v=w):v=j-g:=by
 rw[Nat.min_eq_left (Q0 w k),<-Xb,XM (w-k) g,Xb,Nat.add_sub_cancel' (Q0 w k)]at h;exact e.trans (Uk ((XM ..).trans h))
theorem unq{a b d L:Zf}(h:a+100*(d+1)+64<L)(e:b<=100):a+b+100*d+64<L:=
 WY (Xm ((Xb a b _▸Yy ((XM b (100*d)).symm▸Yy e (100*d)) a:a+b+100*d<=a+(100*d+100))) 64) h
theorem dpq{a d w L:Zf}(e:w=1)(h:a+(d+1)<=L):a+w+d<=L:=by subst e;rw[Xb,XM 1 d];exact h
theorem z2{x:Z7}(h:0<=x)(g:x<2):x=0∨x=1:=by
 cases x with
 |ofNat n=>cases n with
  |zero=>exact .inl rfl
  |succ n=>cases n with
   |zero=>exact .inr rfl
   |succ n=>exact ZT (Xs.mp g) (Ws.mpr (ZQ 2 n))
 |negSucc n=>cases h
theorem Y4{α:Type}{l:Za α}{x:α}{i j:Zf}(h:i+l.length=5)(g:j+2<=l.length):i+1+(l.take j++x::l.drop (j+2)).length=5:=by
 obtain⟨r,e⟩:=Zf.le.dest g;rw[<-e]at h;rw[Zt,Za.length_take_of_le (Zv (ZF j 2) g),Xr,QB,<-e,WQ];exact((ZH (· +1) (Wx i 1 (j+r))).trans (ZH (i+ ·) (Wx j 2 r)).symm).trans h
theorem zE{T S k n:Zf}(h:T<=S+k+2)(g:k<=n)(j:S+9<=20*n):T+9<=20*n+n+2:=
 Zv (Xm h 9) (Zv (Z1 (ZH (· +2) (Wx S k 9))) (Xm (Xa j g) 2))
theorem zF{S R n m:Zf}(a:S+9<=20*n+n+2)(b:R+9<=20*m+m+2)(h:n+m<=5):S+R+9<=20*(n+m):=
 UM (b:=9) (Zv (Z1 (Zf.add_add_add_comm S 9 R 9).symm) (Zv (Xa a b) (Zv (Z1 ((Zf.add_add_add_comm _ 2 _ 2).trans (ZH (· +4) (Zf.add_add_add_comm (20*n) n (20*m) m)))) (Um 20 n m▸Xm (Yy h _) 4))))
theorem SA{T n:Zf}(h:T+9<=20*n+n+2)(g:n<=40):T<=1000000:=
 Zv (ZF T 9) (Zv h (Zv (Xm (Xa (Y1 20 g) g) 2) (Zw rfl)))
theorem zC{S k n:Zf}(h:S+9<=20*n)(j:k<=n)(g:n<=40):S+k<=1000000:=
 SA (n:=n) (Wx S k 9▸Zv (Xa h j) (ZF _ 2)) g
theorem zD{S n:Zf}(h:S+9<=20*n):S+9<=20*n+n+2:=Zv h (Zv (ZF _ n) (ZF _ 2))
theorem zA{a b x y:Zf}(h:a+3=4*x)(g:b+3=4*y):0+1+a+(0+1)+b+(0+1)+3=4*(x+y):=by
 refine Ab (Um ..) (h▸g▸?_);refine(ZH (λz=>z+1+b+4) (XM 1 a)).trans ?_;exact(ZH (· +4) (Wx a 2 b)).trans (Zf.add_add_add_comm a b 3 3)
theorem zB{a b c i:Zf}(g:a<=50*i)(j:b<=20)(h:c<=1):a+b+c<=50*(i+1):=
 Zv (Xa (Xa g j) h) (Yy (Zw rfl:21<=50) (50*i))
theorem Of{a b i N:Zf}(h:a<=50*i)(r:i<N)(j:N<=20)(g:b<=20):a+b<=16777216:=
 Zv (Xa h g) (Zv (Xm (Y1 50 (Zv (YB r) j)) 20) (Zw rfl))
theorem tk2{a i N:Zf}(h:a<=50*(i+1))(j:i<N)(g:N<=20):a<=16777216:=
 Zv h (Zv (Y1 50 (Zv j g)) (Zw rfl))
end
section
variable{x:Zb}{xs args:Za Zb}{m:ZN α}{f:α->ZN β}{cd:Code}
set_option genCtorIdx true in
inductive V where
 |val (v:Zb)
 |int (i:Z7)
 |str (s:Zi)
 |tup (l:Za V)
 |lst (l:Za V)
 |rng (n:Z7)
noncomputable def mf(d:α)(v:Zb)(n:α:=d)(b:Zl->α:=λg=>d)(i:Z7->α:=λg=>d)(s:Zi->α:=λg=>d)(t:ZV->α:=λg=>d)(u:α:=d):α:=v.casesOn n d d b (λx g=>i x) (λg g=>d) (λx g=>s x) (λg g=>d) t (λg=>u) λg=>d
noncomputable def vC(d:α)(v:V)(a:Zb->α:=λg=>d)(i:Z7->α:=λg=>d)(s:Zi->α:=λg=>d)(t:Za V->α:=λg=>d)(l:Za V->α:=λg=>d)(r:Z7->α:=λg=>d):α:=v.casesOn a i s t l r
noncomputable abbrev V.none:V:=.val .none
noncomputable abbrev V.bool(b:Zl):V:=.val (.bool b)
noncomputable abbrev V.ref(a:Zo):V:=.val (.ref a)
noncomputable abbrev Ma(items:Za Zb)(n:Zf):Obj:={cls:=.type "tuple",data:=.seq items.toArray n}
noncomputable abbrev Cz(items:Za Zb)(n:Zf):Obj:={cls:=.type "list",data:=.seq items.toArray n}
noncomputable abbrev Gh:=Zo->Xp->Prop
mutual
noncomputable def VR(G:Gh):V->Zb->Prop
 |.val v,x=>x=v
 |.int i,x=>∃t,x=.int i t
 |.str s,x=>∃t,x=.str s t
 |.tup l,x=>∃a items n,x=.ref a/\G a (Ma items n)/\Ay G l items
 |.lst l,x=>∃a items n,x=.ref a/\G a (Cz items n)/\Ay G l items
 |.rng n,x=>∃a t u v,x=.ref a/\G a {cls:=.type "range",data:=.fields #[.int 0 t,.int n u,.int 1 v]}
noncomputable def Ay(G:Gh):Za V->Za Zb->Prop
 | [],xs=>xs=[]
 |v::l,xs=>∃x ys,xs=x::ys/\VR G v x/\Ay G l ys
end
def Gh.le(G g:Gh):Prop:=∀a o,G a o->g a o
theorem VR.mono{G A:Gh}(h:G.le A){v:V}:∀{x:Zb},VR G v x->VR A v x:=
 @V.rec (λv=>∀{x:Zb},VR G v x->VR A v x) (λl=>∀{xs:Za Zb},Ay G l xs->Ay A l xs)
  (λg g e=>e) (λg g e=>e) (λg g e=>e)
  (λg z g e=>Aq e λa it n j r s=>AG a it n j (h _ _ r) (z s))
  (λg z g e=>Aq e λa it n j r s=>AG a it n j (h _ _ r) (z s))
  (λg g e=>Bt e λa t u v j r=>⟨a,(Ga t u v j (h _ _ r))⟩)
  (λ{y_} e=>e) (λg g z it {y_} e=>An e λx ys j r s=>At x ys j (z r) (it s)) v
theorem Ay.mono{G g:Gh}(h:G.le g){l:Za V}:∀{xs:Za Zb},Ay G l xs->Ay g l xs:=by
 induction l with
 |nil=>exact λe=>e
 |cons v l s=>exact λe=>An e λx ys j u r=>At x ys j (u.mono h) (s r)
theorem Ay.nil{G:Gh}:Ay G [] []:=by rfl
theorem Ay.cons{G:Gh}{v:V}{l:Za V}(h:VR G v x)(t:Ay G l xs):Ay G (v::l) (x::xs):=by
 exact At x xs rfl h t
theorem Ay.length{G:Gh}:∀{l:Za V} {xs:Za Zb},Ay G l xs->xs.length=l.length:=by
 intro l
 induction l with
 |nil=>
  intro g e;exact ZH XS e
 |cons g g h=>
  intro g e;refine An e λx ys j g r=>?_;subst j;simp[h r]
theorem Ay.append{G:Gh}:∀{l m:Za V} {xs ys:Za Zb},Ay G l xs->Ay G m ys->Ay G (l++m) (xs++ys):=by
 intro l
 induction l with
 |nil=>
  intro m xs ys e f;exact Ab (e:xs=[]) f
 |cons g g h=>
  intro g g g e f;refine An e λx u j s r=>?_;subst j;exact Ay.cons s (h r f)
theorem Ay.get{G:Gh}:∀{l:Za V} {xs:Za Zb} {i:Zf} {v:V},Ay G l xs->l[i]? =Zd v->∃x,xs[i]? =Zd x/\VR G v x:=by
 intro l
 induction l with
 |nil=>exact @λg g g g e=>nj e
 |cons u l z=>
  intro xs i v h e;refine An h λx C r B s=>?_;subst r;cases i with
  |zero=>cases e;exact mEA x rfl B
  |succ i=>exact Ag (z s e) λu A j=>mEA u A j
theorem Ay.take{G:Gh}:∀{l:Za V} {xs:Za Zb} (i:Zf),Ay G l xs->Ay G (l.take i) (xs.take i):=by
 intro l
 induction l with
 |nil=>intro xs i h;refine Ab (h:xs=[]) ?_;refine Ab Vw ?_;refine Ab Vw ?_;rfl
 |cons u l r=>
  intro xs i h;refine An h λy z g s j=>?_;subst g;cases i with
  |zero=>exact Ay.nil
  |succ i=>exact Ay.cons s (r i j)
theorem Ay.drop{G:Gh}:∀{l:Za V} {xs:Za Zb} (i:Zf),Ay G l xs->Ay G (l.drop i) (xs.drop i):=by
 intro l
 induction l with
 |nil=>intro xs i h;refine Ab (h:xs=[]) ?_;refine Ab Vx ?_;refine Ab Vx ?_;rfl
 |cons u l r=>
  intro xs i h;cases i with
  |zero=>exact h
  |succ i=>
   refine An h λy s g z j=>?_;subst g;exact r i j
theorem Ay.set{G:Gh}:∀{l:Za V} {xs:Za Zb} (i:Zf) {v:V} {x:Zb},Ay G l xs->VR G v x->Ay G (l.set i v) (xs.set i x):=by
 intro l
 induction l with
 |nil=>intro xs i v x h z;refine Ab (h:xs=[]) ?_;exact Ay.nil
 |cons u l r=>
  intro xs i v x h e;refine An h λy A j s g=>?_;subst j;cases i with
  |zero=>exact Ay.cons e g
  |succ i=>exact Ay.cons s (r i g e)
inductive LO where
 |list (l:Za V)
 |dict (l:Za (Zi×V))
 |raw (o:Xp)
 |slots (C:Zo) (l:Za V)
 |fields (cls:ZV) (l:Za V)
 |dictE (l:Za (Zi×V)) (n:Zf)
 |setS (l:Za Zi)
noncomputable def GB(P:Z9)(G:Gh):Za (Zi×V)->Za Zy->Prop
 | [],es=>es=[]
 |(k,v)::l,es=>∃e r,es=e::r/\(∃t,e.key=.str k t)/\e.hash=Xz P k/\VR G v e.val/\GB P G l r
theorem GB.mono{P:Z9}{G g:Gh}(h:G.le g){l:Za (Zi×V)}:∀{es:Za Zy},GB P G l es->GB P g l es:=by
 induction l with
 |nil=>exact λe=>e
 |cons p l z=>exact λe=>Dh e λx r s B u A j=>Ck x r s B u (A.mono h) (z j)
noncomputable def EZ(es:Za Zy)(n:Zf):Obj:={cls:=.type "dict",data:=.dict es.toArray n}
def gk(P:Z9)(l:Za Zi)(o:Xp):Prop:=(o.cls=.type "set"/\o.dict=Zs/\o.slots= #[])/\∃es g t,o.data=.set es g t/\(∀e∈es.toList,∃k tk,e.2=.str k tk/\e.1=Xz P k)/\(∀k,k∈l↔ ∃e∈es.toList,∃tk,e.2=.str k tk)/\es.size<scanBound/\t.fits es.size=Zm/\es.size<=l.length
theorem gk.alive{P:Z9}(h:gk P B8 M9):M9.isFreed=false:=by
 refine xA h λs r=>Dg r λes u t g s=>?_;obtain⟨A,z,j,osl⟩:=M9;generalize(g:j=_)=g;subst g;rfl
noncomputable def cy(P:Z9)(G:Gh):LO->Xp->Prop
 |.list l,o=>∃items n,o=Cz items n/\Ay G l items
 |.dict l,o=>(l.map (·.1)).Nodup/\∃es n,o=EZ es n/\GB P G l es
 |.raw o',o=>o=o'/\o'.isFreed=Zh
 |.slots C l,o=>∃g vs,o={cls:=.ref C,dict:=Zd g,data:=.plain,slots:=(vs.map Zd).toArray}/\Ay G l vs/\G g (EZ [] 0)
 |.fields c l,o=>∃vs,o={cls:=.type c,data:=.fields vs.toArray}/\Ay G l vs
 |.dictE l n,o=>(l.map (·.1)).Nodup/\∃es,o=EZ es n/\GB P G l es
 |.setS l,o=>gk P l o
theorem cy.mono{P:Z9}{G s:Gh}(h:G.le s){l:LO}{o:Xp}(e:cy P G l o):cy P s l o:=by
 cases l with
 |list l=>exact AV e λit n e r=>BW it n e (r.mono h)
 |dict l=>exact xA e λj u=>AV u λes n e r=>Er j es n e (r.mono h)
 |raw o=>exact e
 |slots C l=>exact An e λz vs e r g=>At z vs e (r.mono h) (h _ _ g)
 |fields c l=>exact Ag e λvs e r=>mEA vs e (r.mono h)
 |dictE l n=>exact GC e λj es e r=>Es j es e (r.mono h)
 |setS l=>exact e
theorem cy.alive{P:Z9}{G:Gh}{l:LO}(h:cy P G l M9):M9.isFreed=false:=by
 cases l with
 |list=>exact AV h λg g e g=>e▸rfl
 |dict=>exact xA h λg j=>AV j λg g e g=>e▸rfl
 |raw=>exact h.1▸h.2
 |slots=>exact AV h λg g e g=>e▸rfl
 |fields=>exact Ag h λg e g=>e▸rfl
 |dictE=>exact GC h λg g e g=>e▸rfl
 |setS=>exact gk.alive h
structure Fm where
 env:YG
 own:Za Zo
 rho:Za (Zi×Ze V)
noncomputable def Fm.reads(F:Fm):Za Addr:=F.env.locals::F.env.cells.map (·.2)
structure LN(G:Gh)(h:Yo)(F:Fm):Prop where
 ns:∃m,h.Ns F.env.locals m/\∀x v,(x,Zd v)∈F.rho->
  match F.env.cells.lookup x with
  |none=>∃v',m x=Zd v'/\VR G v v'
  |some c=>∃v',h.IsCell c (Zd v')/\VR G v v'
 cells:∀c∈F.env.cells,∃v,h.IsCell c.2 v
 nd:(F.rho.map (·.1)).Nodup
theorem LN.mono{G z:Gh}{F:Fm}(O:LN G h F)(A:G.le z)(s:∀a∈F.reads,∀o,h.get? a=Zd o->h'.get? a=Zd o):LN z h' F:=by
 obtain⟨⟨m,C,D⟩,I,H⟩:=O;refine⟨⟨m,?_,λx v B=>?_⟩,λc j=>?_,H⟩
 ·exact Dg C λo es E e r=>Ga o es E (s _ (.head _) _ e) r
 ·generalize(D x v B)=this
  set_option tactic.hygienic true in split at this
  ·exact Ag this λv' e r=>mEA v' e (r.mono A)
  ·rename_i c hl;refine Ag this λv' g r=>?_;obtain⟨o,e,u⟩:=g;refine mEA v' ⟨o,s _ ?_ _ e,u⟩ (r.mono A);refine .tail _ (Ye.mpr ?_);refine AV (VP.mp hl) λl1 l2 K L=>?_;exact mEA (x,c) (by refine Ab K ?_;simp) rfl
 ·exact AV (I c j) λv o e u=>BW v o (s _ (.tail _ (ZJ j)) _ e) u
noncomputable def lO(G:Gh)(h:Yo):Za Fm->Prop
 | []=>O0
 |F::r=>LN G h F/\(∀a∈F.reads,a∈F.own++r.flatMap (·.own))/\(∀a∈F.own,a∈F.reads)/\lO G h r
theorem lO.mono{G s:Gh}(B:G.le s){l:Za Fm}:lO G h l->(∀a∈l.flatMap (·.own),∀o,h.get? a=Zd o->h'.get? a=Zd o)->lO s h' l:=by
 induction l with
 |nil=>exact λA A=>trivial
 |cons F r z=>exact λq j=>CC q λo rd u t=>Ba (o.mono B λa g=>j a (rd a g)) rd u (z t λa g=>j a (Zq _ g))
theorem LN.there{G:Gh}{F:Fm}(O:LN G h F):∀a∈F.reads,∃o,h.get? a=Zd o:=by
 obtain⟨⟨m,z,j⟩,u,j⟩:=O;intro a r;rcases Zr.mp r with rfl|r
 ·exact Dg z λo j j e j=>⟨o,e⟩
 ·refine Ag (Ye.mp r) λc s g=>?_;subst g;exact AV (u c s) λj o e j=>⟨o,e⟩
theorem lO.there{G:Gh}{l:Za Fm}:lO G h l->∀a∈l.flatMap (·.own),∃o,h.get? a=Zd o:=by
 induction l with
 |nil=>exact λz a g=>ZT g ZE
 |cons F r j=>exact λq a g=>CC q λo rd u t=>(ZW.mp g).elim (λs=>o.there a (u a s)) (j t a)
noncomputable abbrev Tm:=Za (Zb×V)
structure St where
 T:Tm
 L:Za (Zo×LO)
 F:Fm
structure Cx where
 w:Z8
 h1:Yo
 A:Z2
 Fs:Za (Tm×Fm)
 Pr:Za (Zo×(Xp->Prop))
 Kt:Tm
 os:QU
 dr:OL
noncomputable abbrev Cx.M(c:Cx):Model:=XA ZM c.w
noncomputable def Cx.fms(c:Cx)(F:Fm):Za Fm:=F::c.Fs.map (·.2)
noncomputable def A3(c:Cx)(σ:St):Za Addr:=σ.L.map (·.1)++((c.fms σ.F).flatMap (·.own)++c.Pr.map (·.1))
structure Ar(c:Cx)(σ:St)(G:Gh)(s:Zj):Prop where
 base:∀b o,c.h1.get? b=Zd o->G b o
 gsub:∀b o,G b o->s.heap.get? b=Zd o
 temps:∀p∈σ.T,VR G p.2 p.1
 outer:∀p∈c.Fs,∀q∈p.1,VR G q.2 q.1
 kept:∀p∈c.Kt,VR G p.2 p.1
 frames:lO G s.heap (c.fms σ.F)
 live:∀p∈σ.L,∃o,s.heap.get? p.1=Zd o/\cy c.w.params G p.2 o
 prot:∀p∈c.Pr,∃o,s.heap.get? p.1=Zd o/\p.2 o
 nodup:(A3 c σ).Nodup
 apart:∀a∈A3 c σ,∀o,¬G a o
 gens:s.gens= #[]
 os:s.os=c.os
 dr:s.drawn=c.dr
def MR(c:Cx)(σ:St)(s:Zj):Prop:=∃G,Ar c σ G s
theorem Ar.there{c:Cx}{σ:St}{G:Gh}(h:Ar c σ G s):∀a∈A3 c σ,∃o,s.heap.get? a=Zd o:=by
 intro a u;rcases ZW.mp u with h1|h1
 ·refine Ag (Ye.mp h1) λp r j=>?_;subst j;exact Ag (h.live p r) λo e z=>⟨o,e⟩
 ·rcases ZW.mp h1 with h1|h1
  ·exact h.frames.there a h1
  ·refine Ag (Ye.mp h1) λp r g=>?_;subst g;exact Ag (h.prot p r) λo e z=>⟨o,e⟩
theorem Ar.fresh{c:Cx}{σ:St}{G:Gh}(h:Ar c σ G s):s.heap.objs.size∉A3 c σ:=λg=>by
 exact xE (h.there _ g) λo e=>X4 _ (YS e)
theorem Ar.zZ{c:Cx}{σ:St}{G:Gh}(h:Ar c σ G s)(o:Xp): ¬G s.heap.objs.size o:=λg=>X4 _ (YS (h.gsub _ _ g))
theorem Ar.grow{c:Cx}{σ:St}{G:Gh}(h:Ar c σ G s)(k:∀b o,s.heap.get? b=Zd o->h'.get? b=Zd o):Ar c σ G {s with heap:=h',toks:=tk} where
 base:=h.base
 gsub:=λb o e=>k _ _ (h.gsub b o e)
 temps:=h.temps
 outer:=h.outer
 kept:=h.kept
 frames:=h.frames.mono (λj j e=>e) λa j o e=>k a o e
 live:=λp g=>Ag (h.live p g) λo e r=>mEA o (k _ _ e) r
 prot:=λp g=>Ag (h.prot p g) λo e r=>mEA o (k _ _ e) r
 nodup:=h.nodup
 apart:=h.apart
 gens:=h.gens
 os:=h.os
 dr:=h.dr
theorem Ar.toks{c:Cx}{σ:St}{G:Gh}(h:Ar c σ G s):Ar c σ G {s with toks:=tk}:=h.grow λg g e=>e
theorem Ar.weak{c:Cx}{σ:St}{G:Gh}(h:Ar c σ G s){T:Tm}{L:Za (Zo×LO)}(u:∀p∈T,p∈σ.T)(j:L.Sublist σ.L):Ar c ⟨T,L,σ.F⟩ G s where
 base:=h.base
 gsub:=h.gsub
 temps:=λp g=>h.temps p (u p g)
 outer:=h.outer
 kept:=h.kept
 frames:=h.frames
 live:=λp g=>h.live p (j.subset g)
 prot:=h.prot
 nodup:=h.nodup.sublist ((j.map _).append (Vc _))
 apart:=λa r=>h.apart a (by
  rcases ZW.mp r with h1|h1
  ·exact Zk _ ((j.map _).subset h1)
  ·exact Zq _ h1)
 gens:=h.gens
 os:=h.os
 dr:=h.dr
theorem Ar.zH{c:Cx}{σ:St}{G:Gh}(h:Ar c σ G s){v:V}(e:VR G v v'):Ar c ⟨(v',v)::σ.T,σ.L,σ.F⟩ G s where
 base:=h.base
 gsub:=h.gsub
 temps:=λp g=>by
  rcases Zr.mp g with rfl|g
  ·exact e
  ·exact h.temps p g
 outer:=h.outer
 kept:=h.kept
 frames:=h.frames
 live:=h.live
 prot:=h.prot
 nodup:=h.nodup
 apart:=h.apart
 gens:=h.gens
 os:=h.os
 dr:=h.dr
theorem Ar.push{c:Cx}{σ:St}{G:Gh}(h:Ar c σ G s){o:Xp}{lo:LO}(e:cy c.w.params G lo o):
 Ar c ⟨σ.T,(s.heap.objs.size,lo)::σ.L,σ.F⟩ G {s with heap:=s.heap.push o,toks:=tk}:=by
 generalize(h.grow (h':=s.heap.push o) (tk:=tk) λb o' u=>Yo.get?_push_of_some o u)=g;exact {
  base:=g.base,gsub:=g.gsub,temps:=g.temps,outer:=g.outer,kept:=g.kept,frames:=g.frames
  live:=λp j=>by
   rcases Zr.mp j with rfl|j
   ·exact mEA o (Yo.get?_push_size _ e.alive) e
   ·exact g.live p j
  prot:=g.prot
  nodup:=Z0.mpr ⟨h.fresh,h.nodup⟩
  apart:=λa r=>by
   rcases Zr.mp r with rfl|r
   ·exact h.zZ
   ·exact h.apart a r
  gens:=g.gens,os:=g.os,dr:=g.dr}
theorem Ar.zP{c:Cx}{σ:St}{G:Gh}(h:Ar c σ G s){o:Xp}(C:o.isFreed=Zh):
 ∃A:Gh,G.le A/\A s.heap.objs.size o/\Ar c σ A {s with heap:=s.heap.push o,toks:=tk}:=by
 have g:=h.grow (h':=s.heap.push o) (tk:=tk) λb j E=>Yo.get?_push_of_some o E;have le:G.le (λa j=>G a j∨(a=s.heap.objs.size/\j=o)):=λz z e=>.inl e;refine AU (λa j=>G a j∨(a=s.heap.objs.size/\j=o)) le (.inr ⟨rfl,rfl⟩) ?_;exact {
  base:=λb j e=>.inl (g.base b j e)
  gsub:=λb j e=>by
   rcases e with e|⟨rfl,rfl⟩
   ·exact g.gsub b j e
   ·exact Yo.get?_push_size _ C
  temps:=λp u=>(g.temps p u).mono le
  outer:=λp u q D=>(g.outer p u q D).mono le
  kept:=λp u=>(g.kept p u).mono le
  frames:=g.frames.mono le λz z z e=>e
  live:=λp u=>Ag (g.live p u) λo e r=>mEA o e (r.mono le)
  prot:=g.prot,nodup:=g.nodup
  apart:=λa B j e=>by
   rcases e with e|⟨rfl,z⟩
   ·exact h.apart a B j e
   ·exact h.fresh B
  gens:=g.gens,os:=g.os,dr:=g.dr}
inductive BS(a:Zo)(o o':LO):Za (Zo×LO)->Za (Zo×LO)->Prop
 |head {r:_}:BS a o o' ((a,o)::r) ((a,o')::r)
 |tail {p r r':_}:BS a o o' r r'->BS a o o' (p::r) (p::r')
theorem BS.split{o u:LO}{l s:Za (Zo×LO)}(h:BS a o u l s):∃j g,l=j++(a,o)::g/\s=j++(a,u)::g:=by
 induction h with
 |head=>exact BW ([]) _ rfl rfl
 |@tail p r A q z=>exact AV z λj g x y=>BW (p::j) g (ZH _ x) (ZH _ y)
theorem BS.mem{o s:LO}{l r:Za (Zo×LO)}(u:BS a o s l r):(a,o)∈l:=by
 refine AV (u.split) λj h g z=>?_;subst g;simp
theorem Ar.change{c:Cx}{T:Tm}{L Q:Za (Zo×LO)}{F:Fm}{G:Gh}(h:Ar c ⟨T,L,F⟩ G s){o o':LO}{ob:Xp}(u:BS a o o' L Q)(k:U9 a s.heap h')(e:h'.get? a=Zd ob)(r:cy c.w.params G o' ob):
 Ar c ⟨T,Q,F⟩ G {s with heap:=h',toks:=tk}:=by
 refine AV (u.split) λA j z B=>?_;subst z;subst B;have R:(A.map (·.1)++a::(j.map (·.1)++((c.fms F).flatMap (·.own)++c.Pr.map (·.1)))).Nodup:=by
  have:=h.nodup;simp only[A3,ZA,Z3,ZS,YO]at this;exact this
 have own:A3 c ⟨T,A++(a,o')::j,F⟩=A3 c ⟨T,A++(a,o)::j,F⟩:=by simp[A3]
 rw[ZY]at R;refine Du R λU P H=>?_;have C:=(Z0.mp P).1;have K:∀p∈A,p.1≠a:=λp g q=>H p.1 (ZJ g) a (.head _) q;have I:∀p∈j,p.1≠a:=λp g q=>C (Zk _ (q▸ZJ g));have D:∀b∈(c.fms F).flatMap (·.own),b≠a:=λb hb q=>C (Zq _ (Zk _ (q▸hb)));have E:∀p∈c.Pr,p.1≠a:=λp g q=>C (Zq _ (Zq _ (q▸ZJ g)));have O:∀b o,G b o->b≠a:=λb o e q=>h.apart a (by simp[A3]) o (q▸e);exact {
  base:=h.base
  gsub:=λb o e=>k b o (O b o e) (h.gsub b o e)
  temps:=h.temps,outer:=h.outer,kept:=h.kept
  frames:=h.frames.mono (λU U e=>e) λb hb o e=>k b o (D b hb) e
  live:=λp g=>by
   rcases ZW.mp g with g|g
   ·exact Ag (h.live p (Zk _ g)) λo e r=>mEA o (k _ _ (K p g) e) r
   ·rcases Zr.mp g with rfl|g
    ·exact mEA ob e r
    ·exact Ag (h.live p (Zq _ (.tail _ g))) λo e r=>mEA o (k _ _ (I p g) e) r
  prot:=λp g=>Ag (h.prot p g) λo e r=>mEA o (k _ _ (E p g) e) r
  nodup:=by refine Ab own ?_;exact h.nodup
  apart:=λb hb=>h.apart b (by rw[own]at hb;exact hb)
  gens:=h.gens,os:=h.os,dr:=h.dr}
theorem KV{l m:Za α}{a:α}(h:(l++a::m).Nodup):a∉l++m/\(l++m).Nodup:=by
 rw[ZY,Z0]at h;refine Du h λs g j=>⟨λq=>?_,ZY.mpr ⟨s,g.2,λx u y r=>j x u y (.tail _ r)⟩⟩;rcases ZW.mp q with q|q
 ·exact j a q a (.head _) rfl
 ·exact g.1 q
theorem Ar.freeze{c:Cx}{T:Tm}{L L':Za (Zo×LO)}{F:Fm}{G:Gh}(h:Ar c ⟨T,L,F⟩ G s){l:Za V}(e:∃j g,L=j++(a,.list l)::g/\L'=j++g):
 ∃H:Gh,G.le H/\Ar c ⟨(.ref a,.lst l)::T,L',F⟩ H s:=by
 refine AV e λj g A B=>?_;subst A;subst B;refine BR (h.live (a,.list l) (by simp)) λob I items n z rl=>?_;subst z;have le:G.le (λb C=>G b C∨(b=a/\C=Cz items n)):=λD D e=>.inl e;have K:(j.map (·.1)++a::(g.map (·.1)++((c.fms F).flatMap (·.own)++c.Pr.map (·.1)))).Nodup:=by
  generalize h.nodup=this;simp only[A3,ZA,Z3,ZS,YO]at this;exact this
 generalize(KV K)=E;have own:A3 c ⟨(.ref a,.lst l)::T,j++g,F⟩=j.map (·.1)++(g.map (·.1)++((c.fms F).flatMap (·.own)++c.Pr.map (·.1))):=by simp[A3]
 refine mEA _ le ?_;exact {
  base:=λb C e=>.inl (h.base b C e)
  gsub:=λb C e=>by
   rcases e with e|⟨rfl,rfl⟩
   ·exact h.gsub b C e
   ·exact I
  temps:=λp u=>by
   rcases Zr.mp u with rfl|u
   ·refine(?_:VR _ (.lst l) (.ref a));exact AG a items n rfl (.inr ⟨rfl,rfl⟩) (rl.mono le)
   ·exact(h.temps p u).mono le
  outer:=λp u q O=>(h.outer p u q O).mono le
  kept:=λp u=>(h.kept p u).mono le
  frames:=h.frames.mono le λD D D e=>e
  live:=λp u=>by
   refine Ag (h.live p (by simp only[ZW,Zr]at u⊢;exact u.elim .inl λx=>.inr (.inr x))) λo e r=>?_;exact mEA o e (r.mono le)
  prot:=h.prot
  nodup:=by refine Ab own ?_;exact E.2
  apart:=λb hb C e=>by
   rcases e with e|⟨rfl,D⟩
   ·refine h.apart b ?_ C e;rw[own]at hb;simp only[A3,ZA,Z3,ZS,YO,ZW,Zr]at hb⊢;exact hb.elim .inl λx=>.inr (.inr x)
   ·rw[own]at hb;exact E.1 hb
  gens:=h.gens,os:=h.os,dr:=h.dr}
noncomputable abbrev No:Zb->Zj->Prop:=λz_ z_=>ZP
def Ev(c:Cx)(σ:St)(t:ZN α)(P:α->St->Prop):Prop:=
 ∀s,MR c σ s->ZZ c.M c.A t (λa h=>∃g,MR c g h/\P a g) No s
section
variable{c:Cx}{σ:St}{γ δ ε:Type}
theorem Ev.pure{a:α}{P:α->St->Prop}(h:P a σ):Ev c σ (pure a:ZN α) P:=λg m=>Zp (mEA σ m h)
theorem Ev.mono{P r:α->St->Prop}(h:Ev c σ t P)(k:∀a g,P a g->r a g):Ev c σ t r:=λs m=>Zu (h s m) (λa A j=>Ag j λg z p=>mEA g z (k a g p)) λu u e=>e
theorem Ev.bind{P:β->St->Prop}(h:Ev c σ m λa j=>Ev c j (f a) P):Ev c σ (m>>=f) P:=λs u=>Zg (Zu (h s u) (λa z g=>Ag g λr A p=>p z A) λr r e=>e)
theorem Ev.eq{g:ZN α}{P:α->St->Prop}(e:t=g)(h:Ev c σ g P):Ev c σ t P:=e▸h
theorem Ev.raw{P:α->St->Prop}(h:∀s G,Ar c σ G s->ZZ c.M c.A t (λa r=>∃g,MR c g r/\P a g) No s):Ev c σ t P:=λs j=>xE j λG m=>h s G m
theorem Ev.l0{f:β->α}{P:α->St->Prop}
 (R:∀(s:Zj) (Q:α->Zj->Prop),ZZ c.M c.A t1 (λb j=>Q (f b) j) No s->ZZ c.M c.A t Q No s)
 (h:Ev c σ t1 λb g=>P (f b) g):Ev c σ t P:=λs m=>R s _ (h s m)
theorem Ev.l1{t1:ZN α}{P:α->St->Prop}
 (R:∀(s:Zj) (Q:α->Zj->Prop),ZZ c.M c.A t1 Q No s->ZZ c.M c.A t Q No s)
 (h:Ev c σ t1 P):Ev c σ t P:=λs m=>R s _ (h s m)
theorem Ev.l2{u:β->ZN α}{P:α->St->Prop}
 (R:∀(s:Zj) (Q:α->Zj->Prop),ZZ c.M c.A t1 (λb r=>ZZ c.M c.A (u b) Q No r) No s->ZZ c.M c.A t Q No s)
 (h:Ev c σ t1 λb g=>Ev c g (u b) P):Ev c σ t P:=λs m=>R s _ (Zu (h s m) (λb r j=>Ag j λz B p=>p r B) λz z e=>e)
theorem Ev.l2'{B:β->ZN γ}{f:γ->α}{P:α->St->Prop}
 (R:∀(s:Zj) (Q:α->Zj->Prop),ZZ c.M c.A t1 (λb u=>ZZ c.M c.A (B b) (λg E=>Q (f g) E) No u) No s->ZZ c.M c.A t Q No s)
 (h:Ev c σ t1 λb j=>Ev c j (B b) λg z=>P (f g) z):Ev c σ t P:=λs m=>R s _ (Zu (h s m) (λb u r=>Ag r λC D p=>p u D) λC C e=>e)
theorem Ev.l3{D:β->ZN γ}{E:β->γ->ZN α}{P:α->St->Prop}
 (R:∀(s:Zj) (Q:α->Zj->Prop),ZZ c.M c.A t1 (λb z=>ZZ c.M c.A (D b) (λg B=>ZZ c.M c.A (E b g) Q No B) No z) No s->ZZ c.M c.A t Q No s)
 (h:Ev c σ t1 λb u=>Ev c u (D b) λg C=>Ev c C (E b g) P):Ev c σ t P:=λs m=>R s _ (Zu (h s m) (λb z j=>Ag j λr H p=>Zu (p z H) (λg B j=>Ag j λr G q=>q B G) λr r e=>e) λr r e=>e)
theorem Ev.l3'{E:β->ZN γ}{G:β->γ->ZN δ}{f:δ->α}{P:α->St->Prop}
 (R:∀(s:Zj) (Q:α->Zj->Prop),ZZ c.M c.A t1 (λb B=>ZZ c.M c.A (E b) (λg C=>ZZ c.M c.A (G b g) (λd K=>Q (f d) K) No C) No B) No s->ZZ c.M c.A t Q No s)
 (h:Ev c σ t1 λb u=>Ev c u (E b) λg D=>Ev c D (G b g) λd z=>P (f d) z):Ev c σ t P:=λs m=>R s _ (Zu (h s m) (λb B j=>Ag j λr I p=>Zu (p B I) (λg C j=>Ag j λr H q=>q C H) λr r e=>e) λr r e=>e)
theorem Ev.l4'{I:β->ZN γ}{K:β->γ->ZN δ}{L:β->γ->δ->ZN ε}{f:ε->α}{P:α->St->Prop}
 (R:∀(s:Zj) (Q:α->Zj->Prop),ZZ c.M c.A t1 (λb D=>ZZ c.M c.A (I b) (λg G=>ZZ c.M c.A (K b g) (λd E=>ZZ c.M c.A (L b g d) (λe O=>Q (f e) O) No E) No G) No D) No s->ZZ c.M c.A t Q No s)
 (h:Ev c σ t1 λb B=>Ev c B (I b) λg H=>Ev c H (K b g) λd C=>Ev c C (L b g d) λe z=>P (f e) z):Ev c σ t P:=λs m=>R s _ (Zu (h s m) (λb D j=>Ag j λu X p=>Zu (p D X) (λg G j=>Ag j λu T q=>Zu (q G T) (λd E j=>Ag j λu U r=>r E U) λu u e=>e) λu u e=>e) λu u e=>e)
end
def Ec(c:Cx)(σ:St)(cd:Code)(P:Zb->St->Prop):Prop:=
 ∀s,MR c σ s->XQ c.M c.A cd (λr h=>match r with|.ok (.ret v)=>∃g,MR c g h/\P v g|.ok _=>ZP|.error e=>No e h) s
theorem Ec.call{c:Cx}{σ:St}{P:Zb->St->Prop}(h:Ec c σ (.call v' ⟨args,kw⟩) P):Ev c σ (Y8 v' args kw) P:=λs m=>Xg (h s m)
theorem Ec.mono{c:Cx}{σ:St}{P j:Zb->St->Prop}(h:Ec c σ cd P)(k:∀v g,P v g->j v g):Ec c σ cd j:=λs m=>Xi (h s m) λr A z=>by
 rcases r with e|(v|_|_|_)
 ·exact z
 all_goals first|exact z|(refine Ag z λg u p=>?_;exact mEA g u (k _ _ p))
end
variable{P:Zb->St->Prop}{L L' R0 G9:Za (Zo×LO)}{G:Gh}{T F8:Tm}{l ts dl done w8 w9 x7:Za V}{σ K7:St}{F:Fm}{rho' G8:Za (Zi×Ze V)}{pv k8 k9:Za (Zi×V)}{lo H8 H9:LO}{D8 D9:V}{F9:YA->St->Prop}{K8:Zl->St->Prop}{K9:ZU->St->Prop}
section
theorem Ev.rw{c:Cx}{P:α->St->Prop}(h:∀s G (R:α->Zj->Prop),(∀a σ' s',MR c σ' s'->P a σ'->R a s')->Ar c σ G s->ZZ c.M c.A t R No s):Ev c σ t P:=λs hm=>hm.elim λG m=>h s G _ (λz_ σ' z_ h1 h2=>⟨σ',h1,h2⟩) m
end
variable{c:Cx}
section
variable{st:Yv}{pos':Xf}{elts values args:Za Expr}{k:Zf}{attr:Zi}{i j:Z7}{test y l r func:Expr}{op:OD}{whole:ZN Zb}{rho:Za (Zi×Ze V)}{mm:Zi->Ze Zb}{t:Zb->Zb->ZN Zb}{a:Zb}
section
theorem Dl{P:YA->St->Prop}(h:P .next σ):Ev c σ (VB [] env) P:=λs m=>VH (mEA σ m h)
theorem Bv{P:YA->St->Prop}
 (h:Ev c ⟨T,L,F⟩ (VW st env) λf g=>match f with|.next=>Ev c ⟨[],g.L,g.F⟩ (VB body env) P|f=>P f g):Ev c ⟨T,L,F⟩ (VB (st::body) env) P:=λs m=>Vn (Zu (h s m) (λf z r=>Ag r λg j p=>by
 cases f with
 |next=>refine xE j λG j=>?_;exact p z ⟨G,j.weak (λu h=>(ZT h ZE)) (Vc _)⟩
 |brk=>exact mEA g j p
 |cont=>exact mEA g j p
 |ret v=>exact mEA g j p) λu u e=>e)
theorem rM{P:YA->St->Prop}(h:P .next σ):Ev c σ (VW (.Pass p) env) P:=λs m=>by
 refine Ab (arm_exec_Pass ..) ?_;exact Zg (XC (Zp (mEA σ m h)))
theorem nh{P:YA->St->Prop}(h:P .brk σ):Ev c σ (VW (.Break p) env) P:=λs m=>wpAny_Break (mEA σ m h)
theorem aT{P:YA->St->Prop}(h:P .cont σ):Ev c σ (VW (.Continue p) env) P:=λs m=>wpAny_Continue (mEA σ m h)
theorem Ih{P:YA->St->Prop}(h:Ev c σ (Yk value env) λv g=>P (.ret v) g):Ev c σ (VW (.Return (Zd value) p) env) P:=
 Ev.l0 (f:=Flow.ret) (λj j h=>wpAny_Return_some h) h
theorem aS{P:YA->St->Prop}(h:Ev c σ (Yk value env) λj g=>P .next g)(s:QF env=Zh)(r:XX value Zs p.line env=pure Zh):Ev c σ (VW (.Expr value p) env) P:=
 Ev.l0 (f:=λj=>SV) (λj j h=>Q2 h s r) h
theorem FV{P:YA->St->Prop}(h:Ev c σ (Yk value env) λv g=>Ev c g (XY env x v) λr j=>P .next j)
 (s:XX value (Zd (.Name x pos')) p.line env=pure Zh):Ev c σ (VW (.Assign [.Name x pos'] value p) env) P:=
 Ev.l2' (f:=λr=>SV) (λr r h=>R5 h s) h
theorem Jp{P:YA->St->Prop}(h:Ev c σ (Yk value env) λv g=>Ev c g (WU (.Tuple elts k p) env v) λr j=>P .next j)
 (u:Pn [.Tuple elts k p] value j9.line env=pure Zh) (s:Rs [.Tuple elts k p] value env=pure Zs):Ev c σ (VW (.Assign [.Tuple elts k p] value j9) env) P:=
 Ev.l2' (f:=λr=>SV) (λr r h=>Assign_Tuple h u s) h
theorem KO{P:YA->St->Prop}(h:Ev c σ (Yk value env) λv g=>Ev c g (Yk target env) λov r=>Ev c r (QW ov attr v) λs j=>P .next j)
 (u:XX value (Zd (.Attribute target attr pos')) p.line env=pure Zh):Ev c σ (VW (.Assign [.Attribute target attr pos'] value p) env) P:=
 Ev.l3' (f:=λs=>SV) (λs s h=>plainObj_wpAny_Assign_Attribute h u) h
theorem MB{P:YA->St->Prop}(h:Ev c σ (Yk value env) λv j=>Ev c j (Yk target env) λov s=>Ev c s (Yk y6 env) λiv r=>Ev c r (Td ov iv v) λu g=>P .next g)
 (z:XX value (Zd (.Subscript target y6 pos')) p.line env=pure Zh):Ev c σ (VW (.Assign [.Subscript target y6 pos'] value p) env) P:=
 Ev.l4' (f:=λu=>SV) (λu u h=>wpAny_Assign_Subscript h z) h
theorem ve{g:Za Yv}{P:YA->St->Prop}(h:Ev c σ (isTrue test env (Yk test env)) λb j=>match b with|true=>Ev c j (VB body env) P|false=>Ev c j (VB g env) P):
 Ev c σ (VW (.If test body g j9) env) P:=λs m=>wpAny_If (Zu (h s m) (λb u r=>Ag r λA z p=>by
  cases b
  ·exact p u z
  ·exact p u z) λA A e=>e)
theorem ng(h:Ev c σ (isTrue test env (Yk test env)) λb g=>match b with|true=>Ev c g (Yk value env) P|false=>Ev c g (Yk target env) P):
 Ev c σ (Yk (.IfExp test value target j9) env) P:=λs m=>wpAny_IfExp (Zu (h s m) (λb r j=>Ag j λz u p=>by
  cases b
  ·exact p r u
  ·exact p r u) λz z e=>e)
theorem rO(h:Ev c σ (Yk value env) λv u=>Ev c u (VL v) λb j=>match b with|true=>Ev c j (Yk y env) P|false=>P v j):
 Ev c σ (Yk (.BoolOp .And [value,y] j9) env) P:=λs m=>wpAny_And2 (Zu (h s m) (λv B g=>Ag g λr C p=>Zu (p B C) (λb A g=>Ag g λr z q=>by
  cases b
  ·exact mEA _ z q
  ·exact q A z) λr r e=>e) λr r e=>e)
theorem vd(h:Ev c σ (Yk value env) λv u=>Ev c u (VL v) λb j=>match b with|true=>P v j|false=>Ev c j (Yk y env) P):
 Ev c σ (Yk (.BoolOp .Or [value,y] j9) env) P:=λs m=>wpAny_Or2 (Zu (h s m) (λv B g=>Ag g λr C p=>Zu (p B C) (λb A g=>Ag g λr z q=>by
  cases b
  ·exact q A z
  ·exact⟨_,z,q⟩) λr r e=>e) λr r e=>e)
theorem ni{op:ZG}(h:Ev c σ (Yk l env) λa g=>Ev c g (Yk r env) λb j=>Ev c j (Wy op a b) P):Ev c σ (Yk (.BinOp l op r p) env) P:=
 Ev.l3 (λs s h=>wpAny_BinOp h) h
theorem eP{op:R6}(h:Ev c σ (Yk l env) λa g=>Ev c g (Yk r env) λb j=>Ev c j (Yu op a b) P)(s:VC op r=Zh):Ev c σ (Yk (.Compare l [op] [r] p) env) P:=
 Ev.l3 (λu u h=>wpAny_Compare1 h s) h
theorem GL{op:OS}(h:Ev c σ (Yk value env) λa g=>Ev c g (OT op a) P):Ev c σ (Yk (.UnaryOp op value p) env) P:=
 Ev.l2 (λj j h=>wpAny_UnaryOp h) h
theorem MA(h:Ev c σ (Yk value env) λv g=>Ev c g (WU target env v) λu r=>P v r):Ev c σ (Yk (.NamedExpr target value j9) env) P:=λs m=>wpAny_NamedExpr (Zu (h s m) (λv z j=>Ag j λu A p=>p z A) λu u e=>e)
theorem Em(h:Ev c σ (Yk value env) λo g=>Ev c g (Yk target env) λi j=>Ev c j (XD value target o i) P):Ev c σ (Yk (.Subscript value target p) env) P:=
 Ev.l3 (λr r h=>Subscript_ h) h
theorem rN(h:Ev c σ (UI (Y6 p (Ym elts env))) λvs g=>Ev c g (UJ vs) P):Ev c σ (Yk (.List elts p) env) P:=
 Ev.l2 (λj j h=>List_ h) h
theorem na(h:Ev c σ (UI (Y6 p (Ym elts env))) λvs g=>Ev c g (R4 vs) P):Ev c σ (Yk (.Tuple elts k p) env) P:=
 Ev.l2 (λj j h=>Tuple_ h) h
theorem Ct{P:Za Zb->St->Prop}(h:P [] σ):Ev c σ (UI (Y6 p (Ym [] env))) P:=λs m=>TU (mEA σ m h)
theorem BB{P:Za Zb->St->Prop}(h:Ev c σ (Yk value env) λv g=>Ev c g (UI (Y6 j9 (Ym rest env))) λvs r=>P (v::vs) r)
 (z:Ym (value::rest) env=(Zh,Yk value env)::Ym rest env):Ev c σ (UI (Y6 j9 (Ym (value::rest) env))) P:=λs m=>by
 exact Ab z (VD (Zu (h s m) (λv A j=>Ag j λu B p=>p A B) λu u value=>value))
theorem Bl{op:R6}{P:Zl->St->Prop}(h:Ev c σ (Yk l env) λa u=>Ev c u (Yk r env) λb A=>Ev c A (Yu op a b) λv z=>Ev c z (VL v) P)(G:VC op r=Zh):Ev c σ (isTrue (.Compare l [op] [r] j9) env whole) P:=
 λs m=>wpAny_isTrue_Compare1 (Zu (h s m) (λa D g=>Ag g λj E p=>Zu (p D E) (λb I g=>Ag g λj B q=>Zu (q I B) (λv H g=>Ag g λj C r=>r H C) λj j e=>e) λj j e=>e) λj j e=>e) G
theorem KJ{P:Zl->St->Prop}(h:Ev c σ (isTrue value env (Yk value env)) λb g=>P (!b) g):Ev c σ (isTrue (.UnaryOp .Not value p) env whole) P:=
 Ev.l0 (f:=λb=> !b) (λj j h=>wpAny_isTrue_Not h) h
theorem Ic{P:Zl->St->Prop}(h:Ev c σ (Yk value env) λv g=>Ev c g (VL v) P)(r:isTrue value env (Yk value env)=(do let v<-Yk value env;Vd value.pos;TS [v] (VL v))):Ev c σ (isTrue value env (Yk value env)) P:=
 Ev.l2 (λj j h=>wpAny_isTrue_value h r) h
theorem DZ{P:Zl->St->Prop}(h:Ev c σ (SW op values env) P):Ev c σ (isTrue (.BoolOp op values p) env whole) P:=
 Ev.l1 (λg g h=>wpAny_isTrue_BoolOp h) h
theorem Jo{P:Zl->St->Prop}(h:P (op==.And) σ):Ev c σ (SW op [] env) P:=λs m=>by
 refine Ab (arm_allTrue_nil ..) ?_;exact Zp (mEA σ m h)
theorem Dy{P:Zl->St->Prop}(h:Ev c σ (isTrue value env (Yk value env)) λb g=>match b with|true=>Ev c g (SW .And rest env) P|false=>P Zh g):Ev c σ (SW .And (value::rest) env) P:=λs m=>by
 refine Ab (Qn ..) ?_;refine Zg (Zu (h s m) (λb z j=>Ag j λu r p=>?_) λu u e=>e);cases b
 ·exact Zp (mEA _ r p)
 ·exact p z r
theorem KM{P:Zl->St->Prop}(h:Ev c σ (isTrue value env (Yk value env)) λb g=>match b with|false=>Ev c g (SW .Or rest env) P|true=>P Zm g):Ev c σ (SW .Or (value::rest) env) P:=λs m=>by
 refine Ab (Qn ..) ?_;refine Zg (Zu (h s m) (λb z j=>Ag j λu r p=>?_) λu u e=>e);cases b
 ·exact p z r
 ·exact Zp (mEA _ r p)
theorem GM(h:Ev c σ (Yk func env) λf g=>Ev c g (We j9 f [] (Y6 j9 (Ym args env)) []) P)
 (u:Yk (.Call func args [] j9) env=(do We j9 (<-Yk func env) [] (Y6 j9 (Ym args env)) (WT j9 (XJ [] env)))):Ev c σ (Yk (.Call func args [] j9) env) P:=λs m=>by
 refine Ab (u ..) ?_;refine Ab (UC ..) ?_;exact Zg (Zu (h s m) (λf z j=>Ag j λr A p=>p z A) λr r e=>e)
theorem iG(h:∀v',P v' ⟨(v',.int i)::T,L,F⟩):Ev c ⟨T,L,F⟩ (Yk (.Constant (.int i) k p) env) P:=
 Ev.raw λs G m=>wpAny_Constant_int (mEA _ ⟨G,(m.zH (by exact⟨_,rfl⟩)).toks⟩ (h _))
theorem uP(h:∀v',P v' ⟨(v',.str x)::T,L,F⟩):Ev c ⟨T,L,F⟩ (Yk (.Constant (.str x) k p) env) P:=
 Ev.rw λs G R g m=>VM (g _ _ _ ⟨G,(m.zH (by exact⟨_,rfl⟩)).toks⟩ (h _))
theorem iP(h:P (.bool q) ⟨(.bool q,.bool q)::T,L,F⟩):Ev c ⟨T,L,F⟩ (Yk (.Constant (.bool q) k p) env) P:=
 Ev.raw λs G m=>wpAny_Constant_bool (mEA _ ⟨G,(m.zH (by rfl))⟩ h)
theorem rq(h:P .none ⟨(.none,.none)::T,L,F⟩):Ev c ⟨T,L,F⟩ (Yk (.Constant .none k p) env) P:=
 Ev.raw λs G m=>wpAny_Constant_none (mEA _ ⟨G,(m.zH (by rfl))⟩ h)
structure Bq(env:YG)(ks:Za (Zi×Zx)):Prop where
 kind:env.scope.kind=.function
 glob:env.globals=Vj
 bi:env.builtins=QZ
 int:QF env=Zh
 names:∀x k,(x,k)∈ks->env.kindOf x=Zd k/\(x==("__debug__":Zi))=Zh/\(k=.local->env.cells.lookup x=Zs)/\(k=.cell∨k=.free->∃a,env.cells.lookup x=Zd a)/\(x==("__classdict__":Zi))=Zh
theorem EG{pos:Xf}{v:V}(g:Bq env ks)(u:(x,.local)∈ks)(C:(x,Zd v)∈rho)
 (h:∀v',P v' ⟨(v',v)::T,L,⟨env,own,rho⟩⟩):Ev c ⟨T,L,⟨env,own,rho⟩⟩ (Yk (.Name x pos) env) P:=
 Ev.raw λs G m=>by
  refine CC (g.names x _ u) λn1 n2 j D=>Ag (m.frames.1.ns) λmm A B=>?_;generalize(B x v C)=z;rw[show(Fm.env ⟨env,own,rho⟩).cells.lookup x=Zs from j rfl]at z;exact Ag z λv' e r=>RI (Sx g.kind n1 A e (mEA _ ⟨G,m.zH r⟩ (h v'))) n2
inductive F4(x:Zi)(v:V):Za (Zi×Ze V)->Za (Zi×Ze V)->Prop
 |head {u r:_}:F4 x v ((x,u)::r) ((x,Zd v)::r)
 |tail {p r r':_}:F4 x v r r'->F4 x v (p::r) (p::r')
theorem F4.keys:∀{r j:Za (Zi×Ze V)},F4 x D8 r j->j.map (·.1)=r.map (·.1):=by
 intro r j s
 induction s with
 |head=>exact rfl
 |tail h g=>exact by simp[g]
theorem F4.aaq:∀{r s:Za (Zi×Ze V)},F4 x D8 r s->x∈r.map (·.1):=by
 intro r s j
 induction j with
 |head=>exact by exact .head _
 |tail h g=>exact by simp only[Z3];exact .tail _ g
theorem F4.mem(j:F4 x D8 rho' G8):(rho'.map (·.1)).Nodup->∀{y:Zi} {u:Ze V},(y,u)∈G8->(y=x/\u=Zd D8)∨(y≠x/\(y,u)∈rho'):=by
 induction j with
 |@head u rho'=>
  intro g y u h;rcases Zr.mp h with h|h
  ·cases h;exact .inl ⟨rfl,rfl⟩
  ·refine .inr ⟨λe=>?_,.tail _ h⟩;have:=(Z0.mp g).1;exact this (e▸ZJ (f:=(·.1)) h)
 |@tail p rho' G8 q r=>
  intro g y u h;have nd':=Z0.mp g;rcases Zr.mp h with h|h
  ·cases h;refine .inr ⟨λe=>?_,.head _⟩;have s:y=x:=e;exact nd'.1 (by show y∈_;refine Ab s ?_;exact q.aaq)
  ·rcases r nd'.2 h with z|z
   ·exact .inl z
   ·exact .inr ⟨z.1,.tail _ z.2⟩
theorem Ar.store(m:Ar c ⟨T,L,⟨env,own,rho⟩⟩ G s){x:Zi}{v:V}{v':Zb}(hv:(v',v)∈T)(g:F4 x v rho rho')(hc:env.cells.lookup x=Zs)(X:env.locals∈own)(C:env.locals∉env.cells.map (·.2))
 {h':Yo} {tk:Zf} {mm:Zi->Ze Zb} (hn:s.heap.Ns env.locals mm) (hm:∀y u,(y,Zd u)∈rho->
 match env.cells.lookup y with
 |none=>∃v',mm y=Zd v'/\VR G u v'
 |some c=>∃v',s.heap.IsCell c (Zd v')/\VR G u v') (U:h'.Ns env.locals (λy=>if y=x then Zd v' else mm y)) (j:Vo env.locals s.heap h'):Ar c ⟨T,L,⟨env,own,rho'⟩⟩ G {s with heap:=h',toks:=tk}:=by
 generalize m.nodup=nd;generalize(rfl:A3 c ⟨T,L,⟨env,own,rho'⟩⟩=A3 c ⟨T,L,⟨env,own,rho⟩⟩)=own';generalize(by
  simp only[A3,Cx.fms,Ys];exact Zq _ (Zk _ (Zk _ X)):env.locals∈A3 c ⟨T,L,⟨env,own,rho⟩⟩)=K
 rw[A3,ZY]at nd;refine Du nd λI D O=>?_;rw[ZY]at D;refine Du D λh I E=>?_;generalize(by simp only[Cx.fms,Ys];exact Zk _ X:env.locals∈(c.fms ⟨env,own,rho⟩).flatMap (·.own))=A;generalize(λp g e=>O p.1 (ZJ g) env.locals (Zk _ A) e:∀p∈L,p.1≠env.locals)=ne1;generalize(λp g e=>E env.locals A p.1 (ZJ g) e.symm:∀p∈c.Pr,p.1≠env.locals)=a0;generalize(λb hb e=>by
  simp only[Cx.fms,Ys,ZY]at h;exact h.2.2 env.locals X b hb e.symm:∀b∈(c.Fs.map (·.2)).flatMap (·.own),b≠env.locals)=ne3
 generalize(λb o e q=>m.apart env.locals K o (q▸e):∀b o,G b o->b≠env.locals)=P;refine CC (m.frames) λfo R fow ft=>?_;exact {
  base:=m.base
  gsub:=λb o e=>(j.2 b (P b o e)).trans (m.gsub b o e)
  temps:=m.temps,outer:=m.outer,kept:=m.kept
  frames:=by
   refine Ba ⟨⟨_,U,λy u hy=>?_⟩,λcc B=>?_,?_⟩ R fow (ft.mono (λI I e=>e) λb hb o e=>(j.2 b (ne3 b hb)).trans e)
   ·generalize(g.mem fo.nd hy)=z;show match env.cells.lookup y with
     |none=>∃H,(if y=x then Zd v' else mm y)=Zd H/\VR G u H
     |some c=>∃v',h'.IsCell c (Zd v')/\VR G u v'
    rcases z with⟨rfl,e⟩|⟨ne,z⟩
    ·cases e;exact Ab hc (mEA v' (if_pos rfl) (m.temps _ hv))
    ·generalize(hm y u z)=q;cases el:env.cells.lookup y with
     |none=>
      rw[el]at q;exact Ag q λY Q r2=>mEA Y (Ab (Yc ne ..) (Q)) r2
     |some cc=>
      rw[el]at q;refine Ag q λY Q r2=>mEA Y (Q.sameBut j λe=>C ?_) r2;refine AV (VP.mp el) λl1 l2 e3 I=>Ab e3 (Bj e ?_);simp
   ·refine xE (fo.cells cc B) λo e=>⟨o,e.sameBut j λe'=>C ?_⟩;exact Bj e' (ZJ B)
   ·show(rho'.map (·.1)).Nodup;exact Ab g.keys fo.nd
  live:=λp g=>Ag (m.live p g) λo e r=>mEA o ((j.2 _ (ne1 p g)).trans e) r
  prot:=λp g=>Ag (m.prot p g) λo e r=>mEA o ((j.2 _ (a0 p g)).trans e) r
  nodup:=m.nodup,apart:=m.apart,gens:=m.gens,os:=m.os,dr:=m.dr}
structure Gz(env:YG)(own:Za Zo):Prop where
 mem:env.locals∈own
 ncl:env.locals∉env.cells.map (·.2)
 nd:(env.cells.map (·.2)).Nodup
theorem KI{P:ZU->St->Prop}(u:Bq env ks)(j:Gz env own)(C:(x,.local)∈ks)(E:(v',D8)∈T)(z:F4 x D8 rho rho')
 (h:P () ⟨T,L,⟨env,own,rho'⟩⟩):Ev c ⟨T,L,⟨env,own,rho⟩⟩ (XY env x v') P:=
 Ev.rw λs G R H m=>by
  exact CC (u.names x _ C) λn1 n2 A I=>Ag (m.frames.1.ns) λmm r D=>wpAny_storeName_local n1 r (λh' g B=>H _ _ _ ⟨G,m.store E z (A rfl) j.mem j.ncl r D g B⟩ h) (Ab u.kind (rfl))
theorem Ax{P:ZU->St->Prop}(h:Ev c σ (XY env x v') P):Ev c σ (WU (.Name x p) env v') P:=Ev.l1 (λg g h=>wpAny_assign_Name h) h
theorem VR.zK(h:VR G (.int i) v'):∃t,v'=.int i t:=h
theorem VR.zJ(h:VR G (.str line) v'):∃t,v'=.str line t:=h
theorem VR.zI{i:Zb}(h:VR G (.val i) v'):v'=i:=h
theorem VR.int{t:QE}:VR G (.int i) (.int i t):=by exact⟨_,rfl⟩
theorem VR.str{i:Zi}{t:QE}:VR G (.str i) (.str i t):=by exact⟨_,rfl⟩
theorem VR.val{i:Zb}:VR G (.val i) i:=by rfl
theorem Id(B:(a,.int i)∈T)(hb:(b,.int j)∈T)
 (R:∀(s:Zj) (z u:QE) (Q:Zb->Zj->Prop),(∀tk,Q (.int dn s.toks) {s with toks:=tk})->ZZ c.M c.A (t (.int i z) (.int j u)) Q No s) (h:∀v',P v' ⟨(v',.int dn)::T,L,F⟩):Ev c ⟨T,L,F⟩ (t a b) P:=
 Ev.raw λs G m=>by
  refine xE ((m.temps _ B).zK) λz g=>?_;subst g;refine xE ((m.temps _ hb).zK) λu r=>?_;subst r;exact R s z u _ λtk=>mEA _ ⟨G,(m.zH VR.int).toks⟩ (h _)
theorem vc(g:(a,.int i)∈T)(hb:(b,.int j)∈T)(h:∀v',P v' ⟨(v',.int (i+j))::T,L,F⟩):Ev c ⟨T,L,F⟩ (Wy .Add a b) P:=
 Id (t:=λa b=>Wy .Add a b) g hb (λs u r Q q=>add_int (q _)) h
theorem uO(g:(a,.int i)∈T)(hb:(b,.int j)∈T)(h:∀v',P v' ⟨(v',.int (i-j))::T,L,F⟩):Ev c ⟨T,L,F⟩ (Wy .Sub a b) P:=
 Id (t:=λa b=>Wy .Sub a b) g hb (λs u r Q q=>sub_int (q _)) h
end
end
section
variable{rho:Za (Zi×Ze V)}{σ':St}
section
theorem iM(u:Bq env ks)(g:(x,.cell)∈ks∨(x,.free)∈ks)(E:(x,Zd D8)∈rho)
 (h:∀v',P v' ⟨(v',D8)::T,L,⟨env,own,rho⟩⟩):Ev c ⟨T,L,⟨env,own,rho⟩⟩ (Yk (.Name x p) env) P:=
 Ev.rw λs G R B m=>by
  refine Ag (m.frames.1.ns) λI H D=>?_;have z:=D x D8 E;rcases g with g|g
  ·refine CU (u.names x _ g) λn1 n2 C A n5=>xE (A (.inl rfl)) λa j=>?_;rw[show(Fm.env ⟨env,own,rho⟩).cells.lookup x=Zd a from j]at z;exact Ag z λv' e r=>RI (wpAny_loadName_cell u.kind n1 j e (B _ _ _ ⟨G,m.zH r⟩ (h v'))) n2
  ·refine CU (u.names x _ g) λn1 n2 C A n5=>xE (A (.inr rfl)) λa j=>?_;rw[show(Fm.env ⟨env,own,rho⟩).cells.lookup x=Zd a from j]at z;exact Ag z λv' e r=>RI (wpAny_loadName_free u.kind n1 j e (B _ _ _ ⟨G,m.zH r⟩ (h v')) n5) n2
theorem lookup_mem[BEq α][LawfulBEq α]{l:Za (α×β)}{x:α}{b:β}(h:l.lookup x=Zd b):(x,b)∈l:=by
 refine AV (VP.mp h) λl1 l2 e g=>Ab e ?_;simp
theorem jn{l:Za (α×β)}(g:(l.map (·.2)).Nodup){p q:α×β}(h:p∈l)(j:q∈l)(e:p.2=q.2):p=q:=by
 induction l with
 |nil=>exact ZT h (by simp)
 |cons a l r=>
  simp only[Z3,Z0]at g;rcases Zr.mp h with h1|h1
  ·rcases Zr.mp j with h2|h2
   ·refine Ab h1 (Ab h2 ?_);rfl
   ·exact ZT (Bj h1 (Ab e (ZJ h2))) g.1
  ·rcases Zr.mp j with h2|h2
   ·exact ZT (Bj h2 (Bj e (ZJ h1))) g.1
   ·exact r g.2 h1 h2
theorem ir{P:ZU->St->Prop}(he:Bq env ks)(ho:Gz env own)(R:∀p∈env.cells,p.2∈own)(hx:(x,.cell)∈ks)(hv:(v',D8)∈T)(j:F4 x D8 rho rho')
 (h:P () ⟨T,L,⟨env,own,rho'⟩⟩):Ev c ⟨T,L,⟨env,own,rho⟩⟩ (XY env x v') P:=
 Ev.raw λs G m=>by
  refine Cb λPP3 O=>CU (he.names x _ hx) λn1 n2 n3 n4 n5=>xE (n4 (.inl rfl)) λa ha=>?_;obtain⟨⟨mm,hn,hm⟩,hcs,hnd⟩:=m.frames.1;generalize(hm:∀y u,(y,Zd u)∈rho->
   match env.cells.lookup y with
   |none=>∃v',mm y=Zd v'/\VR G u v'
   |some c=>∃v',s.heap.IsCell c (Zd v')/\VR G u v')=hm
  generalize(lookup_mem ha)=g;refine xE (hcs (x,a) g) λv0 U=>O (SJ he.kind n1 ha U λh' E C=>mEA _ ⟨G,?_⟩ h);generalize(R _ g:a∈own)=A;generalize(by
   simp only[A3,Cx.fms,Ys];exact Zq _ (Zk _ (Zk _ A)):a∈A3 c ⟨T,L,⟨env,own,rho⟩⟩)=Y
  generalize m.nodup=nd;rw[A3,ZY]at nd;refine Cb λPP4 K=>Du nd λz_ H a0=>?_;rw[ZY]at H;refine Du H λB z_ I=>?_;generalize(by simp only[Cx.fms,Ys];exact Zk _ A:a∈(c.fms ⟨env,own,rho⟩).flatMap (·.own))=D;generalize(λp j e=>a0 p.1 (ZJ j) a (Zk _ D) e:∀p∈L,p.1≠a)=ne1;generalize(λp j e=>I a D p.1 (ZJ j) e.symm:∀p∈c.Pr,p.1≠a)=ne2;generalize(λb hb e=>by
   simp only[Cx.fms,Ys,ZY]at B;exact B.2.2 a A b hb e.symm:∀b∈(c.Fs.map (·.2)).flatMap (·.own),b≠a)=ne3
  generalize(λb o e q=>m.apart a Y o (q▸e):∀b o,G b o->b≠a)=a2;refine CC (m.frames) λfo frd fow ft=>K ?_;exact {
   base:=m.base
   gsub:=λb o e=>(C.2 b (a2 b o e)).trans (m.gsub b o e)
   temps:=m.temps,outer:=m.outer,kept:=m.kept
   frames:=by
    refine Ba ⟨⟨mm,hn.sameBut C (λe=>ho.ncl (Ab e (ZJ g)):env.locals≠a),λy u hy=>?_⟩,λX a1=>?_,?_⟩ frd fow (ft.mono (λz_ z_ e=>e) λb hb o e=>(C.2 b (ne3 b hb)).trans e)
    ·generalize(j.mem fo.nd hy)=z;show match env.cells.lookup y with
      |none=>∃Q,mm y=Zd Q/\VR G u Q
      |some c=>∃v',h'.IsCell c (Zd v')/\VR G u v'
     rcases z with⟨rfl,e⟩|⟨ne,z⟩
     ·cases e;exact Ab ha (mEA v' E (m.temps _ hv))
     ·generalize(hm y u z)=q;cases el:env.cells.lookup y with
      |none=>rw[el]at q;exact q
      |some X=>
       rw[el]at q;refine Ag q λv2 e2 r2=>mEA v2 (e2.sameBut C λe=>ne ?_) r2;exact ZH On (jn ho.nd (lookup_mem el) g e)
    ·by_cases e:X.2=a
     ·exact⟨_,e▸E⟩
     ·exact xE (fo.cells X a1) λo e2=>⟨o,e2.sameBut C e⟩
    ·show(rho'.map (·.1)).Nodup;exact Ab j.keys fo.nd
   live:=λp j=>Ag (m.live p j) λo e r=>mEA o ((C.2 _ (ne1 p j)).trans e) r
   prot:=λp j=>Ag (m.prot p j) λo e r=>mEA o ((C.2 _ (ne2 p j)).trans e) r
   nodup:=m.nodup,apart:=m.apart,gens:=m.gens,os:=m.os,dr:=m.dr}
noncomputable def Cx.call(c:Cx)(T:Tm)(F:Fm)(env:YG):Cx:={c with A:=c.A.deeper env,Fs:=(T,F)::c.Fs}
noncomputable def Cx.in1(c:Cx):Cx:={c with A:=c.A.in1}
theorem Ar.in1:Ar c.in1 σ G s↔Ar c σ G s:=⟨λm=>⟨m.base,m.gsub,m.temps,m.outer,m.kept,m.frames,m.live,m.prot,m.nodup,m.apart,m.gens,m.os,m.dr⟩,λm=>⟨m.base,m.gsub,m.temps,m.outer,m.kept,m.frames,m.live,m.prot,m.nodup,m.apart,m.gens,m.os,m.dr⟩⟩
theorem Ar.enter(m:Ar c ⟨T,L,F⟩ G s)(k:∀b o,s.heap.get? b=Zd o->h'.get? b=Zd o)(fresh:∀a∈own,s.heap.objs.size<=a)(D:own.Nodup)
 (rd:∀a∈Fm.reads ⟨env,own,rho⟩,a∈own) (C:∀a∈own,a∈Fm.reads ⟨env,own,rho⟩) (ok:LN G h' ⟨env,own,rho⟩):Ar (c.call T F env) ⟨[],L,⟨env,own,rho⟩⟩ G {s with heap:=h',toks:=tk}:=by
 have g:=m.grow (tk:=tk) k;have r:∀a∈own,a∉A3 c ⟨T,L,F⟩:=λa j q=>by
  exact xE (m.there a q) λo e=>ZT (YS e) (Ws.mpr (fresh a j))
 have A:A3 (c.call T F env) ⟨[],L,⟨env,own,rho⟩⟩=L.map (·.1)++(own++((c.fms F).flatMap (·.own)++c.Pr.map (·.1))):=by
  simp[A3,Cx.fms,Cx.call]
 have u:=m.nodup;simp only[A3]at u r;rw[ZY]at u;refine Du u λn1 n2 B=>?_;exact {
  base:=g.base,gsub:=g.gsub,temps:=λE h=>(ZT h ZE)
  outer:=λp z=>by
   rcases Zr.mp z with rfl|z
   ·exact g.temps
   ·exact g.outer p z
  kept:=g.kept
  frames:=Ba ok (λa j=>Zk _ (rd a j)) C g.frames
  live:=g.live,prot:=g.prot
  nodup:=by
   refine Ab A (ZY.mpr (Cp n1 (ZY.mpr (Cp D n2 (λa j b hb e=>r a j (Zq _ (e▸hb))))) (λa j b hb e=>?_)));rcases ZW.mp hb with hb|hb
   ·exact r b hb (Zk _ (e▸j))
   ·exact B a j b hb e
  apart:=λa j o e=>by
   rw[A]at j;rcases ZW.mp j with j|j
   ·exact m.apart a (Zk _ j) o e
   ·rcases ZW.mp j with j|j
    ·exact ZT (YS (m.gsub a o e)) (Ws.mpr (fresh a j))
    ·exact m.apart a (Zq _ j) o e
  gens:=g.gens,os:=g.os,dr:=g.dr}
theorem Ar.leave(m:Ar (c.call T F env) σ' G s):Ar c ⟨T,σ'.L,F⟩ G s:=by
 have j:A3 (c.call T F env) σ'=σ'.L.map (·.1)++(σ'.F.own++((c.fms F).flatMap (·.own)++c.Pr.map (·.1))):=by
  simp[A3,Cx.fms,Cx.call]
 generalize m.nodup=nd;rw[j]at nd;exact {
  base:=m.base,gsub:=m.gsub
  temps:=λp h=>m.outer (T,F) (.head _) p h
  outer:=λp h=>m.outer p (.tail _ h)
  kept:=m.kept
  frames:=m.frames.2.2.2
  live:=m.live,prot:=m.prot
  nodup:=nd.sublist ((Vc _).append (WB ..))
  apart:=λa g=>m.apart a (by
   refine Ab j ?_;rcases ZW.mp g with g|g
   ·exact Zk _ g
   ·exact Zq _ (Zq _ g))
  gens:=m.gens,os:=m.os,dr:=m.dr}
def wN(P:Zb->St->Prop)(T:Tm)(F:Fm)(f:YA)(σ':St):Prop:=match f with
 |.ret v=>∃r,(v,r)∈σ'.T/\P v ⟨(v,r)::T,σ'.L,F⟩
 |_=>P .none ⟨(.none,.none)::T,σ'.L,F⟩
structure Wd(c:Cx):Prop where
 nolimit:c.h1.NoLimit
theorem Ar.old(m:Ar c σ G s):∀b o,c.h1.get? b=Zd o->s.heap.get? b=Zd o:=λb o e=>m.gsub b o (m.base b o e)
noncomputable def IM(env:YG):Za Addr:=env.locals::env.cells.map (·.2)
end
end
section
variable{f x i:Zb}{args:Za (Zl×ZN Zb)}{kws:Za (Ze Zi×ZN Zb)}{vs:Za V}{slice:Expr}{k:Z7}
section
def Kp(c:Cx)(f:Zb):Prop:=∀h:Yo,(∀b o,c.h1.get? b=Zd o->h.get? b=Zd o)->∃k,(k=Keeper.frame∨k=Keeper.machine∨k=Keeper.boundFrame)/\Vq c.M h (Op f) k
theorem Kp.builtin:Kp c (.builtin id):=λh g=>mEA .machine (.inr (.inl rfl)) O6
theorem Kp.type:Kp c (.type id):=λh g=>mEA .machine (.inr (.inl rfl)) O6
theorem Kp.of(X:K.In c.h1)(g:Q8 K f=Zm):Kp c f:=λh k=>keeps_K g h (X.keeps k)
theorem Fh{pos:Xf}(B:Kp c f)(g:(args.any (·.1)||kws.any (·.1.isNone))=Zh)
 (h:Ev c σ (Q9 f Zm args kws) λa j=>Ev c j (Y8 f (first++a.pos) a.kw) P):Ev c σ (We pos f first args kws) P:=λs m=>Tf (P:=λh=>∀b o,c.h1.get? b=Zd o->h.get? b=Zd o) g B (Zu (h s m) (λa z C=>Ag C λu A p=>xE A λG r=>⟨r.old,p z ⟨G,r⟩⟩) λu u e=>e)
theorem FU{pos:Xf}(r:Kp c f)
 (h:Ev c σ (UI (Y6 pos (Ym (value::rest) env))) λvs j=>Ev c j (Y8 f (first++vs)) P)
 (u:Ym (value::rest) env=(Zh,Yk value env)::Ym rest env) (g:(Y6 pos (Ym rest env)).any (·.1)=Zh):Ev c σ (We pos f first (Y6 pos (Ym (value::rest) env)) []) P:=by
 rw[u]at h⊢;refine Fh r (by show((Zh||(Y6 pos (Ym rest env)).any (·.1))||false)=Zh;refine Ab g ?_;rfl) λs m=>?_;exact V4 (Zu (h s m) (λvs B z=>z) λA A value=>value)
theorem KL{pos:Xf}(g:Kp c f)(h:Ev c σ (Y8 f (first++[])) P):Ev c σ (We pos f first (Y6 pos (Ym [] env)) []) P:=
 Fh g rfl λs m=>Pu (mEA σ m h)
theorem CY(h:Ev c σ (Yk value env) λov r=>Ev c r (XI ov name pl) λz u=>Ev c u (We A5 z.1 z.2 (Y6 A5 (Ym rest env)) []) P)
 (D:Yk (.Call (.Attribute value name j9) rest [] A5) env=(do let ov<-Yk value env;Vd j9.atName;let (f,first)<-TS [ov] (XI ov name pl);We A5 f first (Y6 A5 (Ym rest env)) [])):Ev c σ (Yk (.Call (.Attribute value name j9) rest [] A5) env) P:=λs m=>QM (Zu (h s m) (λa B g=>Ag g λj C p=>Zu (p B C) (λb E g=>Ag g λj A q=>q E A) λj j e=>e) λj j e=>e) D
inductive BA(T:Tm):Za Zb->Za V->Prop
 |nil:BA T [] []
 |cons {a v as vs:_}:(a,v)∈T->BA T as vs->BA T (a::as) (v::vs)
theorem BA.vrs(r:∀p∈T,VR G p.2 p.1):∀{as:Za Zb} {vs:Za V},BA T as vs->Ay G vs as:=by
 intro as vs g
 induction g with
 |nil=>exact Ay.nil
 |cons h t j=>exact Ay.cons (r _ h) (j)
theorem VR.zY(h:VR G (.lst l) x):∃a items n,x=.ref a/\G a (Cz items n)/\Ay G l items:=h
theorem VR.zO(h:VR G (.tup l) x):∃a items n,x=.ref a/\G a (Ma items n)/\Ay G l items:=h
theorem VR.lst(h:G a (Cz items n))(r:Ay G l items):VR G (.lst l) (.ref a):=by exact AG a items n rfl h r
theorem VR.tup(h:G a (Ma items n))(r:Ay G l items):VR G (.tup l) (.ref a):=by exact AG a items n rfl h r
def LstAt(T:Tm)(L:Za (Zo×LO))(x:Zb)(l:Za V):Prop:=(x,.lst l)∈T∨∃a,(x,.ref a)∈T/\(a,.list l)∈L
theorem LstAt.get(h:LstAt T L x l){G:Gh}{s:Zj}(m:Ar c ⟨T,L,F⟩ G s):∃a items n,x=.ref a/\s.heap.get? a=Zd (Cz items n)/\Ay G l items:=by
 rcases h with h|⟨a,h1,h2⟩
 ·exact Aq ((m.temps _ h).zY) λa items n e g r=>AG a items n e (m.gsub _ _ g) r
 ·refine BR (m.live _ h2) λo u items n j r=>?_;subst j;exact AG a items n ((m.temps _ h1).zI) u r
theorem As(e:h.get? a=Zd (Cz items n)):h.IsList a items.toArray:=Hi _ e rfl n rfl
theorem Np(e:h.get? a=Zd (Ma items n)):IsTup h a items.toArray:=Hi _ e rfl n rfl
theorem aN(j:BA T vs' vs)(h:∀v',P v' ⟨(v',.lst vs)::T,L,F⟩)(A:vs.length<=16777216):Ev c ⟨T,L,F⟩ (UJ vs') P:=
 Ev.raw λs G m=>by
  generalize(j.vrs m.temps)=r;refine Am (m.zP (o:=Cz vs' 0) (tk:=s.toks) rfl) λu le g z=>?_;exact YR (mEA _ ⟨u,z.zH (VR.lst g (r.mono le))⟩ (h _)) (by refine(?_:vs'.toArray.size<=VE);refine Ab ZR ?_;refine Ab r.length ?_;exact A)
theorem aM(g:BA T vs' vs)(h:∀a,P (.ref a) ⟨(.ref a,.ref a)::T,(a,.list vs)::L,F⟩)(j:vs.length<=16777216):Ev c ⟨T,L,F⟩ (UJ vs') P:=
 Ev.raw λs G m=>by
  generalize(g.vrs m.temps)=r;exact YR (mEA _ ⟨G,(m.push (lo:=.list vs) (o:=Cz vs' 0) (tk:=s.toks) (BW vs' 0 rfl r)).zH VR.val⟩ (h _)) (by refine(?_:vs'.toArray.size<=VE);refine Ab ZR ?_;refine Ab r.length ?_;exact j)
theorem Fg(j:BA T vs' vs)(h:∀v',P v' ⟨(v',.tup vs)::T,L,F⟩)(A:vs.length<=16777216):Ev c ⟨T,L,F⟩ (R4 vs') P:=
 Ev.raw λs G m=>by
  generalize(j.vrs m.temps)=r;refine Am (m.zP (o:=Ma vs' 0) (tk:=s.toks) rfl) λu le g z=>?_;exact YR (mEA _ ⟨u,z.zH (VR.tup g (r.mono le))⟩ (h _)) (by refine(?_:vs'.toArray.size<=VE);rw[ZR,r.length];exact A)
theorem pN(hl:LstAt T L x l)(h:∀v',P v' ⟨(v',.int l.length)::T,L,F⟩)(z:l.length<=16777216):Ev c ⟨T,L,F⟩ (Y8 (.builtin "len") [x]) P:=
 Ev.rw λs G R u m=>by
  refine Aq (hl.get m) λa items n g e r=>?_;subst g;have j:items.toArray.size=l.length:=by refine Ab ZR ?_;refine Ab r.length ?_;rfl
  refine len_list (As e) (Ab j (qa z rfl)) (u _ _ _ ⟨G,(m.zH ?_).toks⟩ (h _));exact Ab j VR.int
theorem rD(hl:LstAt T L x l)(A:(i,.int k)∈T)(u:0<=k)(C:l[k.toNat]? =Zd D8)(h:∀v',P v' ⟨(v',D8)::T,L,F⟩)
 (H:k<2^63) (z:∀o i,Un slice Zh o i=SX [o,i] (SY o i)):Ev c ⟨T,L,F⟩ (XD value slice x i) P:=
 Ev.rw λs G R D m=>by
  refine Aq (hl.get m) λa items n j e r=>?_;subst j;refine xE ((m.temps _ A).zK) λt g=>?_;subst g;exact Ag (r.get C) λv' E B=>Pa (As e).typeIs slot_list_getitem.lookup (wpAny_getItem_list (As e) u H (by simpa using E) (D _ _ _ ⟨G,m.zH B⟩ (h v'))) (z _ _)
theorem mI(hl:(x,.tup l)∈T)(E:(i,.int k)∈T)(A:0<=k)(I:l[k.toNat]? =Zd D8)(h:∀v',P v' ⟨(v',D8)::T,L,F⟩)
 (O:k<2^63) (D:∀o i,Un slice Zh o i=SX [o,i] (SY o i)):Ev c ⟨T,L,F⟩ (XD value slice x i) P:=
 Ev.rw λs G R K m=>by
  refine Aq ((m.temps _ hl).zO) λa items n u g r=>?_;subst u;refine xE ((m.temps _ E).zK) λt z=>?_;subst z;refine Ag (r.get I) λv' C H=>?_;have B:k.toNat<items.length:=by
   have:=(Za.getElem?_eq_some_iff.mp C).1;exact this
  refine item_tupleT (Np (m.gsub _ _ g)) (RW (by decide) A) O (j:=k.toNat) ?_ C (K _ _ _ ⟨G,m.zH H⟩ (h v')) (D _ _);unfold seqIndex?;simp only[QY.mpr A,Ul];rw[if_pos];exact Zl.and_eq_true_iff.mpr ⟨Yl A,Yl ((Z7.toNat_lt A).mp B)⟩
end
end
section
variable{bs b:Za (Zi×Zb)}{w:Z8}{s1:Zj}{G1:Gh}{T1:Tm}{L1:Za (Zo×LO)}{cc:YG->Cx}{R:YA->St->Prop}{Rz:Z5->Zj->Prop}{qual:Zi}{params:PA}{dV kV doc cdv ct oc:Zb}{an od:Ze Zo}{args:Za Zb}
section
inductive CK(T:Tm):Za (Zi×Zb)->Za (Zi×V)->Prop
 |nil:CK T [] []
 |cons {x a v as vs:_}:(a,v)∈T->CK T as vs->CK T ((x,a)::as) ((x,v)::vs)
theorem CK.keys:∀{bs:Za (Zi×Zb)} {pv:Za (Zi×V)},CK T bs pv->pv.map (·.1)=bs.map (·.1):=by
 intro bs pv g
 induction g with
 |nil=>exact rfl
 |cons r h j=>exact by exact ZH _ j
theorem CK.mem(h:CK T bs pv):∀{x:Zi} {v:V},(x,v)∈pv->∃v',(x,v')∈bs/\(v',v)∈T:=by
 induction h with
 |nil=>exact λh=>ZT h ZE
 |@cons x a v as vs h t r=>
  intro x v g;rcases Zr.mp g with e|g
  ·cases e;exact mEA a (.head _) h
  ·exact Ag (r g) λv' s j=>mEA v' (.tail _ s) j
theorem NQ{kd:Zi->Ze Zx}:∀(bs:Za (Zi×Zb)) (m:Zi->Ze Zb) (x:Zi),x∉bs.map (·.1)->OZ kd bs m x=m x:=by
 intro bs
 induction bs with
 |nil=>exact λj j j=>rfl
 |cons s r g=>
  intro m x h;simp only[Z3,Zr,PU]at h;unfold OZ;refine Ab (g _ x h.2 ..) ?_;split
  ·exact Yc h.1
  ·rfl
theorem NR{kd:Zi->Ze Zx}:∀(bs:Za (Zi×Zb)) (m:Zi->Ze Zb) (x:Zi),x∉bs.map (·.1)->bindC kd bs m x=m x:=by
 intro bs
 induction bs with
 |nil=>exact λj j j=>rfl
 |cons s r g=>
  intro m x h;simp only[Z3,Zr,PU]at h;unfold bindC;refine Ab (g _ x h.2 ..) ?_;split
  ·rfl
  ·exact Yc h.1
theorem lA{kd:Zi->Ze Zx}:∀(bs:Za (Zi×Zb)) (m:Zi->Ze Zb) (x:Zi) (v:Zb),(bs.map (·.1)).Nodup->(x,v)∈bs->kd x=Zd .local->OZ kd bs m x=Zd v:=by
 intro bs
 induction bs with
 |nil=>exact λg g g g h g=>ZT h ZE
 |cons q r u=>
  obtain⟨n,w⟩:=q;intro m x v j h s;simp only[Z3,Z0]at j;unfold OZ;rcases Zr.mp h with e|h
  ·cases e;refine Ab (NQ r _ n j.1 ..) (Ab (if_pos s ..) ?_);exact if_pos rfl
  ·exact u _ x v j.2 h s
theorem lB{kd:Zi->Ze Zx}:∀(bs:Za (Zi×Zb)) (m:Zi->Ze Zb) (x:Zi) (v:Zb),(bs.map (·.1)).Nodup->(x,v)∈bs->kd x=Zd .cell->bindC kd bs m x=Zd v:=by
 intro bs
 induction bs with
 |nil=>exact λg g g g h g=>ZT h ZE
 |cons q r u=>
  obtain⟨n,w⟩:=q;intro m x v j h s;simp only[Z3,Z0]at j;unfold bindC;rcases Zr.mp h with e|h
  ·cases e;refine Ab (NR r _ n j.1 ..) (Ab (Yc (by rw[s];decide) ..) ?_);exact if_pos rfl
  ·exact u _ x v j.2 h s
theorem IX:∀(s:Za (Zi×Zx)) (n k:Zf) (acc g:Za (Zi×Zo)),acc.map (·.1)=g.map (·.1)->(YC n s acc).map (·.1)=(YC k s g).map (·.1):=by
 intro s
 induction s with
 |nil=>exact λu u u u h=>h
 |cons z r j=>
  intro n k acc g h;unfold YC;split
  ·exact j _ _ _ _ (by simp[h])
  ·exact j _ _ _ _ h
theorem C0:∀{l:Za (Zi×β)} {x:Zi},x∈l.map (·.1)->(l.lookup x).isSome=true:=by
 intro l
 induction l with
 |nil=>
  intro r h;exact Yl h
 |cons g l j=>
  obtain⟨y,b⟩:=g;intro x h;refine Ab YE ?_;cases q:x==y with
  |true=>rfl
  |false=>
   rcases Zr.mp h with e|h
   ·generalize(e:x=y)=this;rw[this]at q;simp at q
   ·exact j h
theorem lookup_none_of_not_mem:∀{l:Za (Zi×β)} {x:Zi},x∉l.map (·.1)->l.lookup x=none:=by
 intro l
 induction l with
 |nil=>exact @λr r=>rfl
 |cons j l g=>
  intro x h;simp only[Z3,Zr,PU]at h;refine Ab YE (Ab ((show(x==j.1)=Zh from by simpa using h.1) ..) ?_);exact g h.2
theorem Gb:∀{l:Za (Zi×β)} {x:Zi} {b:β},(l.map (·.1)).Nodup->(x,b)∈l->l.lookup x=Zd b:=by
 intro l
 induction l with
 |nil=>exact λs h=>ZT h ZE
 |cons q l j=>
  obtain⟨y,r⟩:=q;intro x b g h;simp only[Z3,Z0]at g;refine Ab YE ?_;rcases Zr.mp h with e|h
  ·cases e;simp
  ·have:x≠y:=λe=>g.1 (e▸ZJ (f:=(·.1)) h);exact Ab ((show(x==y)=Zh from by simpa using this) ..) (j g.2 h)
noncomputable def E4(g:Yh)(ps h:Za Zi):Bool:=
 decide ((g.names.map (·.1)).Nodup)&&decide ((ps++h).Nodup)&&(ps.all λx=>g.names.lookup x==Zd .local||g.names.lookup x==Zd .cell)&&
 decide (((YC 0 g.names []).map (·.1)).Nodup)&&(g.names.all λp=>(p.2 !=.local||((YC 0 g.names []).lookup p.1).isNone)&&((p.2 !=.cell)||((YC 0 g.names []).lookup p.1).isSome)&&p.2 !=.free&&p.1 !=("__debug__":Zi)&&p.1 !=("__classdict__":Zi))&&
 !g.isCoroutine&& !g.isGenerator&&g.kind==.function
noncomputable def DY(pv:Za (Zi×V))(g:Za Zi):Za (Zi×Ze V):=pv.map (λp=>(p.1,Zd p.2))++g.map (λx=>(x,Zs))
structure Je(env:YG)(own:Za Zo)(ks:Za (Zi×Zx)):Prop where
 ok:Bq env ks
 ow:Gz env own
 cl:∀p∈env.cells,p.2∈own
 blk:env.blockKind=.function
 fr:env.frame=Zd env.locals
theorem NH{fd:FuncData}
 (ps B:Za Zi) (hgl:fd.globals=Vj) (hbi:fd.builtins=QZ) (hcl:fd.closure=[]) (chk:E4 fd.scope ps B=Zm) (lim:∀h':Yo,(∀b o,s1.heap.get? b=Zd o->h'.get? b=Zd o)->h'.NoLimit) (hT:∀p∈T1,VR G1 p.2 p.1)
 (enter:∀(env:YG) (own:Za Zo) (I:Za (Zi×Ze V)) (h':Yo) (tk:Zf),(∀b o,s1.heap.get? b=Zd o->h'.get? b=Zd o)->(∀a∈own,s1.heap.objs.size<=a)->own.Nodup->(∀a∈Fm.reads ⟨env,own,I⟩,a∈own)->(∀a∈own,a∈Fm.reads ⟨env,own,I⟩)->LN G1 h' ⟨env,own,I⟩->Ar (cc env) ⟨[],L1,⟨env,own,I⟩⟩ G1 {s1 with heap:=h',toks:=tk})
 (hM:∀env,(cc env).M=XA ZM w) (hA:∀env,(cc env).A=A.deeper env) (hin:CK T1 b pv) (a0:pv.map (·.1)=ps)
 (hb:∀env own,Je env own fd.scope.names->Ev (cc env) ⟨[],L1,⟨env,own,DY pv B⟩⟩ (VB body env) R)
 (out:∀env fl s3 E,MR (cc env) E s3->R fl E->Rz (.ok (.ret (match fl with|.ret v=>v|_=>.none))) s3):
 ZZ (XA ZM w) A.in1 (Sy fd.scope fd.globals fd.closure b (fd.qualname++".<locals>.") (Zd f) fd.code Zs fd.builtins) (λenv Q=>Q.heap.NoLimit/\XQ (XA ZM w) A (.func body env) Rz Q) (λe s'=>Rz (.error e) s') s1:=by
 simp only[E4,Z6,WM,Yj,YM,Wb,Q3,YQ,U3,ne_eq]at chk;refine Cb λPP1 hPP1=>?_;refine xA chk λL n8=>?_;obtain⟨⟨⟨⟨⟨⟨n1,n2⟩,n3⟩,n4⟩,n5⟩,n6⟩,n7⟩:=L;refine hPP1 ?_;generalize hN:s1.heap.objs.size=N at*;have keys:∀n,(YC n fd.scope.names []).map (·.1)=(YC 0 fd.scope.names []).map (·.1):=λn=>IX _ _ _ _ _ rfl;have j:∀x n,((YC 0 fd.scope.names []).lookup x).isSome=Zm->((YC n fd.scope.names []).lookup x).isSome=true:=λx n h=>by
  refine C0 ?_;refine Ab (keys n ..) ?_;refine xE (XB.mp h) λb hb=>?_;exact ZJ (f:=(·.1)) (lookup_mem hb)
 have s:∀x n,(YC 0 fd.scope.names []).lookup x=Zs->(YC n fd.scope.names []).lookup x=none:=λx n h=>by
  refine lookup_none_of_not_mem ?_;refine Ab (keys n ..) ?_;intro hm;generalize(C0 hm)=this;rw[h]at this;cases this
 have ndp:ps.Nodup:=(ZY.mp n2).1;have bk:b.map (·.1)=ps:=by refine Bj (hin.keys ..) ?_;refine Ab (a0 ..) ?_;rfl
 have ndb:(b.map (·.1)).Nodup:=by refine Ab (bk ..) ?_;exact ndp
 refine Ab (hcl ..) ?_;refine wpAny_newFunctionEnv_cells n8 (λx hx=>?_) λenv O s2 Y=>?_
 ·have:x.1∈ps:=by refine Bj (bk ..) ?_;exact ZJ hx
  rcases n3 _ this with h|h
  ·exact .inl h
  ·exact .inr ⟨h,j _ _ ((n5 (x.1,.cell) (lookup_mem h)).1.1.1.2.resolve_left (by simp))⟩
 rw[hN]at O;have henv':env=callEnvC fd N f:=O;refine Cb λPP2 U=>?_;obtain⟨H,u,hap,T⟩:=Y;refine gy (H.same) λh2 tk2 e2=>?_;refine U ?_;have P:env.locals=N:=by refine Ab (henv' ..) ?_;rfl
 have g:env.cells=YC (N+1) fd.scope.names []:=by refine Ab (henv' ..) ?_;rfl
 have G:env.scope=fd.scope:=by refine Ab (henv' ..) ?_;rfl
 have r:s2.heap=h2:=by refine Ab (e2 ..) ?_;rfl
 have key:Ar (cc env) ⟨[],L1,⟨env,IM env,DY pv B⟩⟩ G1 {s1 with heap:=h2,toks:=tk2}:=by
  refine enter _ _ _ _ _ (λb o e=>by refine Bj (r ..) ?_;exact H.keep b o e) (λa C=>?_) ?_ (λa C=>C) (λa C=>C) ?_
  ·rcases Zr.mp C with rfl|C
   ·refine Ab (P ..) ?_;exact ZL _
   ·refine Ag (Ye.mp C) λp D K=>?_;subst K;generalize(T p.1 p.2 D)=this;rw[P]at this;exact YB this
  ·refine Z0.mpr ⟨λq=>?_,WD.mpr hap⟩;refine Ag (Ye.mp q) λp D e=>?_;exact ZT (T p.1 p.2 D) (by refine Ab (e ..) ?_;exact X4 _)
  ·refine⟨⟨_,by refine Bj (r ..) ?_;exact H.ns,λx v hx=>?_⟩,λcc hcc=>?_,?_⟩
   ·have hpv:(x,v)∈pv:=by
     rcases ZW.mp hx with h|h
     ·refine Ag (Ye.mp h) λp D e=>?_;cases e;exact D
     ·refine Ag (Ye.mp h) λp D e=>?_;cases e
    refine Ag (hin.mem hpv) λv' hm hTm=>?_;have hxp:x∈ps:=by refine Bj (bk ..) ?_;exact ZJ (f:=(·.1)) hm
    have kdx:env.kindOf x=fd.scope.names.lookup x:=by
     show env.scope.names.lookup x=_;refine Ab (G ..) ?_;rfl
    show match env.cells.lookup x with
     |none=>∃v'',OZ env.kindOf b (λz_=>Zs) x=Zd v''/\VR G1 v v''
     |some c=>∃v',h2.IsCell c (Zd v')/\VR G1 v v'
    refine Ab (g ..) ?_;rcases n3 _ hxp with h|h
    ·refine Ab (s x _ ((n5 (x,.local) (lookup_mem h)).1.1.1.1.resolve_left (by simp)) ..) ?_;exact mEA v' (lA _ _ _ _ ndb hm (kdx.trans h)) (hT _ hTm)
    ·refine xE (XB.mp (j x (N+1) ((n5 (x,.cell) (lookup_mem h)).1.1.1.2.resolve_left (by simp)))) λa C=>?_;refine Ab (C ..) ?_;refine mEA v' ?_ (hT _ hTm);rw[<-lB _ _ _ _ ndb hm (kdx.trans h),<-r];exact u x a (by refine Ab (g ..) ?_;exact C)
   ·obtain⟨n,a⟩:=cc;generalize(Gb (by refine Ab (g ..) ?_;refine Ab (keys ..) ?_;exact n4) hcc)=this;refine Bj (r ..) ?_;exact⟨_,u n a this⟩
   ·unfold DY;refine Ab (ZA ..) ?_;refine Ab (YX ..) ?_;refine Ab (YX ..) ?_;have e1:(pv.map ((λx:Zi×Ze V=>x.1)∘λp:Zi×V=>(p.1,Zd p.2)))=ps:=by refine Bj (a0 ..) ?_;rfl
    have e2:(B.map ((λx:Zi×Ze V=>x.1)∘λx:Zi=>(x,(Zs:Ze V))))=B:=by
     refine Ab ((show((λx:Zi×Ze V=>x.1)∘λx:Zi=>(x,(Zs:Ze V)))=id from rfl) ..) ?_;refine Ab (Sr ..) ?_;rfl
    refine Ab (e1 ..) ?_;refine Ab (e2 ..) ?_;exact n2
 have fe:Je env (IM env) fd.scope.names:=by
  refine⟨⟨by refine Ab (G ..) ?_;exact n8,by refine Ab (henv' ..) ?_;exact hgl,by refine Ab (henv' ..) ?_;exact hbi,?_,λx k hk=>?_⟩,⟨.head _,λq=>?_,WD.mpr hap⟩,λp D=>.tail _ (ZJ D),?_,by refine Ab (henv' ..) ?_;rfl⟩
  ·refine Ab (henv' ..) ?_;show(fd.scope.kind==.module&&_)=Zh;refine Ab (n8 ..) ?_;rfl
  ·generalize(n5 (x,k) hk)=z;refine⟨(by show env.scope.names.lookup x=_;refine Ab (G ..) ?_;exact Gb n1 hk),(Ba (by simpa using z.1.2) (λe=>by refine Ab (g ..) ?_;exact s x _ (z.1.1.1.1.resolve_left (by simp[e]))) (λe=>?_) (by simpa using z.2))⟩;rcases e with e|e
   ·refine Ab (g ..) ?_;exact XB.mp (j x _ (z.1.1.1.2.resolve_left (by simp[e])))
   ·exact ZT e z.1.1.2
  ·refine Ag (Ye.mp q) λp D e=>?_;exact ZT (T p.1 p.2 D) (by refine Ab (e ..) ?_;exact X4 _)
  ·unfold Rt;refine Ab (G ..) ?_;refine Ab (n8 ..) ?_;rfl
 refine⟨by refine Ab (r ..) ?_;exact lim _ λb o e=>by refine Bj (r ..) ?_;exact H.keep b o e,codeAny_func ?_⟩;refine Ab (e2 ..) ?_;generalize(hb env (IM env) fe _ ⟨G1,key⟩)=X;rw[hM,hA]at X;exact Zu X (λfl s3 h1Z=>Ag h1Z λE m3 hr=>out env fl s3 E m3 hr) λz_ z_ e=>e.elim
theorem aR
 (ps h:Za Zi) (W:Wd c) (X:K.In c.h1) (hl:K.lookup f=Zd ⟨oc,od,.func (O2 name qual params body scope dV kV doc v' an cdv ct),osl⟩) (U:PV K cdv qual=Zm) (u:c.A.depth<WS)
 (chk:E4 scope ps h=Zm)
 (g:Ev c.in1 ⟨T,L,F⟩ (U0 (O2 name qual params body scope dV kV doc v' an cdv ct) ⟨args,kw⟩) λb z=>∃T1 L1 pv,z=⟨T1,L1,F⟩/\CK T1 b pv/\pv.map (·.1)=ps/\
  ∀env own,Je env own scope.names->Ev (c.call T1 F env) ⟨[],L1,⟨env,own,DY pv h⟩⟩ (VB body env) (wN P T1 F)):Ec c ⟨T,L,F⟩ (.call (.ref f) ⟨args,kw⟩) P:=λs j=>xE j λG m=>by
 refine(So u (m.old _ _ (X _ _ hl)) rfl (by simp only[E4,Z6,YQ]at chk;exact chk.1.1.2:scope.isCoroutine=Zh) (by simp only[E4,Z6,YQ]at chk;exact chk.1.2:scope.isGenerator=Zh) rfl ((codeRec_of X U).keeps m.old) ?_);refine Zu (g s ⟨G,Ar.in1.mpr m⟩) (λb s1 I=>Ag I λz hX I=>xE I λT1 q_=>AF q_ λL1 pv e O R hb=>xE hX λG1 B=>?_) λH H e=>e.elim;subst e;generalize(Ar.in1.mp B)=B;refine NH (cc:=c.call T1 F) ps h rfl rfl rfl chk (λh' k=>W.nolimit.keeps λb o e=>k b o (B.old b o e)) B.temps (λenv own rho h' tk k fr nd rd ow ok=>B.enter k fr nd rd ow ok) (λH=>rfl) (λH=>rfl) O R hb λenv fl s3 a0 j D=>xE j λC Y=>?_;generalize Y.leave=m4;cases fl with
 |ret v=>
  exact Ag D λr Q E=>mEA _ ⟨C,m4.zH (Y.temps _ Q)⟩ E
 |next=>exact mEA _ ⟨C,m4.zH VR.val⟩ D
 |brk=>exact mEA _ ⟨C,m4.zH VR.val⟩ D
 |cont=>exact mEA _ ⟨C,m4.zH VR.val⟩ D
theorem iK
 (ps h:Za Zi) (W:Wd c) (X:K.In c.h1) (hl:K.lookup f=Zd ⟨oc,od,.func (O2 name qual params body scope dV kV doc v' an cdv ct),osl⟩) (B:PV K cdv qual=Zm) (j:c.A.depth<WS)
 (g:Ev c.in1 ⟨T,L,F⟩ (U0 (O2 name qual params body scope dV kV doc v' an cdv ct) ⟨args,kw⟩) λb r=>b=binds/\r=⟨T,L,F⟩)
 (s:CK T binds pv) (z:pv.map (·.1)=ps) (chk:E4 scope ps h=Zm)
 (hb:∀env own,Je env own scope.names->Ev (c.call T F env) ⟨[],L,⟨env,own,DY pv h⟩⟩ (VB body env) (wN P T F)):Ec c ⟨T,L,F⟩ (.call (.ref f) ⟨args,kw⟩) P:=
 aR ps h W X hl B j chk (g.mono λb r u=>xA u λC D=>Dm T L pv D (C▸s) z hb)
theorem vb
 (ps h:Za Zi) (W:Wd c) (X:K.In c.h1) (hl:K.lookup f=Zd ⟨oc,od,.func (O2 name qual params body scope dV kV doc v' an cdv ct),osl⟩) (z:PV K cdv qual=Zm) (j:c.A.depth<WS)
 (g:Ev c.in1 ⟨T,L,F⟩ (U0 (O2 name qual params body scope dV kV doc v' an cdv ct) ⟨args,kw⟩) λb u=>b=binds/\u=⟨T,L,F⟩)
 (s:CK T binds pv) (r:pv.map (·.1)=ps) (chk:E4 scope ps h=Zm)
 (hb:∀env own,Je env own scope.names->Ev (c.call T F env) ⟨[],L,⟨env,own,DY pv h⟩⟩ (VB body env) (wN P T F)):Ev c ⟨T,L,F⟩ (Y8 (.ref f) args kw) P:=
 Ec.call (iK ps h W X hl z j g s r chk hb)
theorem bind_pure{fd:FuncData}{args:Args}(h:U0 fd args=pure binds):Ev c.in1 σ (U0 fd args) λb g=>b=binds/\g=σ:=by
 exact Ab h (Ev.pure ⟨rfl,rfl⟩)
end
end
section
variable{a:Zb}{ss:Za Zi}{sep:Zi}{xs:Za Zb}{t:Zb->ZN ZU}{ts:Za (Zb->ZN ZU)}{p1 p2:Xf}{k:Zf}
section
theorem Ar.aan(h:Ar c σ G s){a:Zo}{o:Xp}(k:∀b o,s.heap.get? b=Zd o->h'.get? b=Zd o)(C:s.heap.objs.size<=a)(e:h'.get? a=Zd o):
 ∃A:Gh,G.le A/\A a o/\Ar c σ A {s with heap:=h',toks:=tk}:=by
 have g:=h.grow (tk:=tk) k;have le:G.le (λb j=>G b j∨(b=a/\j=o)):=λz z e=>.inl e;refine⟨_,le,.inr ⟨rfl,rfl⟩,?_⟩;exact {
  base:=λb j e=>.inl (g.base b j e)
  gsub:=λb j q=>by
   rcases q with q|⟨rfl,rfl⟩
   ·exact g.gsub b j q
   ·exact e
  temps:=λp u=>(g.temps p u).mono le
  outer:=λp u q B=>(g.outer p u q B).mono le
  kept:=λp u=>(g.kept p u).mono le
  frames:=g.frames.mono le λz z z e=>e
  live:=λp u=>Ag (g.live p u) λo e r=>mEA o e (r.mono le)
  prot:=g.prot,nodup:=g.nodup
  apart:=λb hb j q=>by
   rcases q with q|⟨rfl,z⟩
   ·exact h.apart b hb j q
   ·obtain⟨E,D⟩:=h.there _ hb;exact ZT (YS D) (Ws.mpr C)
  gens:=g.gens,os:=g.os,dr:=g.dr}
theorem kO(k:U9 s.heap.objs.size s.heap h'):∀b o,s.heap.get? b=Zd o->h'.get? b=Zd o:=λb o e=>k b o (Yp (YS e)) e
theorem va(g:(a,.str x)∈T)(hb:(b,.str y)∈T)(h:P (.bool (x==y)) ⟨(.bool (x==y),.bool (x==y))::T,L,F⟩):Ev c ⟨T,L,F⟩ (Yu .Eq a b) P:=
 Ev.raw λs G m=>by
  obtain⟨r,rfl⟩:=(m.temps _ g).zJ;obtain⟨j,rfl⟩:=(m.temps _ hb).zJ;exact Ox ⟨_,⟨G,m.zH VR.val⟩,h⟩
theorem uR(r:(a,.str x)∈T)(hb:(b,.str y)∈T)(h:P (.bool (x !=y)) ⟨(.bool (x !=y),.bool (x !=y))::T,L,F⟩):Ev c ⟨T,L,F⟩ (Yu .NotEq a b) P:=
 Ev.raw λs G m=>by
  refine xE ((m.temps _ r).zJ) λz j=>?_;subst j;refine xE ((m.temps _ hb).zJ) λu g=>?_;subst g;exact Oy (mEA _ ⟨G,m.zH VR.val⟩ h)
theorem CS{P:Zl->St->Prop}(h:P q σ):Ev c σ (VL (.bool q)) P:=λs m=>Qe (mEA _ m h)
theorem dT{b:Zl}{P:Zl->St->Prop}(g:(v',.bool b)∈T)(h:P b ⟨T,L,F⟩):Ev c ⟨T,L,F⟩ (VL v') P:=Ev.rw λs G R j m=>by
 have e:v'=.bool b:=(m.temps _ g).zI;exact Ab e (Qe (j _ _ _ ⟨G,m⟩ h))
theorem dW{P:Zl->St->Prop}(h:P Zh σ):Ev c σ (VL .none) P:=λs m=>by
 refine(?_:ZZ _ _ (pure Zh) _ _ _);exact Zp (mEA _ m h)
theorem dU{P:Zl->St->Prop}(j:(v',.str x)∈T)(h:P ((x.length:Z7) !=0) ⟨T,L,F⟩)(u:x.length<=16777216):Ev c ⟨T,L,F⟩ (VL v') P:=Ev.rw λs G R r m=>by
 refine xE ((m.temps _ j).zJ) λt g=>?_;subst g;exact PySem.P.truthy_str (by lia) (r _ _ _ ⟨G,m.toks⟩ h)
theorem JP{P:Zl->St->Prop}(j:LstAt T L v' l)(h:P (!l.isEmpty) ⟨T,L,F⟩)(A:l.length<=16777216):Ev c ⟨T,L,F⟩ (VL v') P:=Ev.rw λs G R u m=>by
 refine Aq (j.get m) λa items n g e r=>?_;subst g;have hl:=r.length;have z:items.toArray.isEmpty=l.isEmpty:=by
  cases items<;>cases l<;>simp at hl<;>rfl
 refine Qd (As e) (Ab ZR (Ab hl (qa A rfl))) (Ab z ?_);exact u _ _ _ ⟨G,m.toks⟩ h
theorem uQ(h:Ev c σ (VL v') λb g=>P (.bool (!b)) ⟨(.bool (!b),.bool (!b))::g.T,g.L,g.F⟩):Ev c σ (OT .Not v') P:=λs m=>not_of (Zu (h s m) (λb A z=>Ag z λg u p=>xE u λG j=>mEA _ ⟨G,j.zH VR.val⟩ p) λr r e=>e)
theorem iR(r:(a,.str x)∈T)(hb:(b,.str y)∈T)(h:∀v',P v' ⟨(v',.str (x++y))::T,L,F⟩)(z:x.length+y.length<=16777216):Ev c ⟨T,L,F⟩ (Wy .Add a b) P:=
 Ev.rw λs G R u m=>by
  refine xE ((m.temps _ r).zJ) λC g=>?_;subst g;refine xE ((m.temps _ hb).zJ) λA j=>?_;subst j;exact SB.add (λB k=>u _ _ _ ⟨G,(m.zH VR.str).toks⟩ (h _)) z
theorem HO:∀{ss:Za Zi} {items:Za Zb},Ay G (ss.map V.str) items->StrsAre items ss:=by
 intro ss
 induction ss with
 |nil=>
  intro s h;revert h;refine(?_:(_=_)->_);intro h;subst h;exact .nil
 |cons x ss g=>
  intro s h;obtain⟨a,ys,rfl,r,j⟩:=h;obtain⟨t,rfl⟩:=r.zJ;exact .cons x t (g j)
theorem HK:∀{items:Za Zb} {ss:Za Zi},StrsAre items ss->Ay G (ss.map V.str) items:=by
 intro items ss j
 induction j with
 |nil=>exact Ay.nil
 |cons y t h g=>exact Ay.cons VR.str (g)
theorem iu(hl:LstAt T L xv (ss.map .str))(O:ss.length<64)(h:∀v' j,j.Perm ss->PM j=Zm->P v' ⟨(v',.lst (j.map .str))::T,L,F⟩):Ev c ⟨T,L,F⟩ (Y8 (.builtin "sorted") [xv]) P:=
 Ev.rw λs G R I m=>by
  refine Aq (hl.get m) λa items n u e r=>?_;subst u;refine sorted_strs (As e) (HO r) (by refine Ab (r.length ..) ?_;refine Ab (Zz ..) ?_;exact O) λz j K B D=>?_;refine xE (sortedAll_at s.heap items z) λH A=>?_;refine Am (m.aan (h':=sortedAll s.heap items z) (tk:=s.toks) (a:=s.heap.objs.size+1) (o:=Cz z.toList H) (λb o e=>sortedAll_old e) (YY _) A) λC le g E=>?_;exact I _ _ _ ⟨C,E.zH (VR.lst g (HK K))⟩ (h _ j B D)
theorem rC(u:(a,.str sep)∈T)(hl:LstAt T L b (ss.map .str))(h:∀v',P v' ⟨(v',.str (RX sep ss))::T,L,F⟩)(z:(ss.map (·.length)).sum+ss.length*sep.length<=16777216):Ev c ⟨T,L,F⟩ (Y8 (.builtin "str.join") [a,b]) P:=
 Ev.raw λs G m=>by
  refine xE ((m.temps _ u).zJ) λt g=>?_;subst g;refine Aq (hl.get m) λa items n j e r=>?_;subst j;exact PX (As e) (by simpa using HO r) z λA k=>mEA _ ⟨G,(m.zH VR.str).toks⟩ (h _)
theorem CL{P:ZU->St->Prop}(h:P () σ):Ev c σ (Uj [] xs) P:=λs m=>by
 cases xs<;>exact Zp (mEA _ m h)
theorem AN{P:ZU->St->Prop}(h:Ev c σ (t v') λg j=>Ev c j (Uj ts xs) P):Ev c σ (Uj (t::ts) (v'::xs)) P:=λs m=>wpAny_assignInOrder_more (Zu (h s m) (λg u r=>Ag r λg z p=>p u z) λg g e=>e)
def SeqAt(T:Tm)(L:Za (Zo×LO))(x:Zb)(l:Za V):Prop:=(x,.tup l)∈T∨LstAt T L x l
theorem ET{P:Za Zb->St->Prop}(H:c.A.handled=Zs)(hl:SeqAt T L v' l)(E:l.length=n)(h:∀vs':Za Zb,vs'.length=n->P vs' ⟨vs'.zip l++T,L,F⟩):Ev c ⟨T,L,F⟩ (unpackItems v' n Zs) P:=
 Ev.raw λs G m=>by
  have fin:∀(items:Za Zb),Ay G l items->∀h',U9 s.heap.objs.size s.heap h'->∃B,MR c B {s with heap:=h'}/\P items B:=λitems r h' C=>by
   refine mEA _ ⟨G,?_⟩ (h items (Ab r.length (Ab E (rfl))));generalize(m.grow (tk:=s.toks) (kO C))=K;clear hl h E
   induction l generalizing items with
   |nil=>change _=_ at r;subst r;exact K
   |cons v' l Q=>
    refine An r λx ys u I O=>?_;subst u;exact(Q ys O).zH I
  subst E;rcases hl with hl|hl
  ·refine Aq ((m.temps _ hl).zO) λa items n z g r=>?_;subst z;have D:l.length=items.toArray.size:=by refine Ab ZR ?_;refine Ab r.length ?_;rfl
   exact Ab D (wpAny_unpackItems_tuple H (Hi _ (m.gsub _ _ g) rfl n rfl) λh' C=>fin items r h' C)
  ·refine Aq (hl.get m) λa items n j e r=>?_;subst j;have D:l.length=items.toArray.size:=by refine Ab ZR ?_;refine Ab r.length ?_;rfl
   exact Ab D (kun_itemsOf H (As e) λh' C=>fin items r h' C)
theorem dS{P:ZU->St->Prop}(B:c.A.handled=Zs)(hl:SeqAt T L v' [D8,D9])(h:∀a' j,Ev c ⟨(a',D8)::(j,D9)::T,L,F⟩ (XY env x a') λr g=>Ev c g (XY env y j) P):
 Ev c ⟨T,L,F⟩ (WU (.Tuple [.Name x p1,.Name y p2] k p) env v') P:=by
 refine Ab (QA ..) ?_;generalize(by
  unfold OK;refine Ev.bind (Ev.l1 (λr r h=>Yt h) (ET (n:=2) B hl rfl λvs' C=>?_));refine FG (P:=λvs'=>Ev c ⟨vs'.zip [D8,D9]++T,L,F⟩ (Uj ((RS [.Name x p1,.Name y p2] env).map (·.2)) vs') P) (λa' j=>?_) vs' C;refine AN ((Ax (h a' j)).mono λr g q=>AN ((Ax q).mono λu z q2=>CL q2)):Ev c ⟨T,L,F⟩ (OK v' (RS [.Name x p1,.Name y p2] env)) P)=key
 exact Ev.bind λs m=>XC (mEA _ m key)
theorem dR{d:V}{P:ZU->St->Prop}(E:c.A.handled=Zs)(hl:SeqAt T L v' [D8,D9,d])(h:∀a' B z,Ev c ⟨(a',D8)::(B,D9)::(z,d)::T,L,F⟩ (XY env x a') λr g=>Ev c g (XY env y B) λr j=>Ev c j (XY env line z) P):
 Ev c ⟨T,L,F⟩ (WU (.Tuple [.Name x p1,.Name y p2,.Name line p] k j9) env v') P:=by
 refine Ab (QA ..) ?_;have C:Ev c ⟨T,L,F⟩ (OK v' (RS [.Name x p1,.Name y p2,.Name line p] env)) P:=by
  unfold OK;refine Ev.bind (Ev.l1 (λr r h=>Yt h) (ET (n:=3) E hl rfl λvs' G=>?_));refine gA (P:=λvs'=>Ev c ⟨vs'.zip [D8,D9,d]++T,L,F⟩ (Uj ((RS [.Name x p1,.Name y p2,.Name line p] env).map (·.2)) vs') P) (λa' B z=>?_) vs' G;refine AN ((Ax (h a' B z)).mono λr g q=>AN ((Ax q).mono λr j q2=>AN ((Ax q2).mono λu D q3=>CL q3)))
 exact Ev.bind λs m=>XC (mEA _ m C)
end
end
section
variable{q:Xp->Prop}{K:Tm}{P:YA->St->Prop}
noncomputable def Cx.prot(c:Cx)(a:Zo)(q:Xp->Prop):Cx:={c with Pr:=(a,q)::c.Pr}
section
theorem Bn:A3 (c.prot a q) σ=(σ.L.map (·.1)++(c.fms σ.F).flatMap (·.own))++a::c.Pr.map (·.1):=by
 simp[A3,Cx.prot,Cx.fms]
theorem FY:A3 c σ=(σ.L.map (·.1)++(c.fms σ.F).flatMap (·.own))++c.Pr.map (·.1):=by simp[A3]
theorem Ar.zU(m:Ar c σ G s)(A:q M9)(z:M9.isFreed=Zh):Ar (c.prot s.heap.objs.size q) σ G {s with heap:=s.heap.push M9,toks:=tk}:=by
 generalize(m.grow (h':=s.heap.push M9) (tk:=tk) λb r e=>Yo.get?_push_of_some M9 e)=g;generalize m.fresh=fr;generalize m.nodup=nd;rw[FY]at fr nd;exact {
  base:=g.base,gsub:=g.gsub,temps:=g.temps,outer:=g.outer,kept:=g.kept,frames:=g.frames,live:=g.live
  prot:=λp u=>by
   rcases Zr.mp u with rfl|u
   ·exact mEA M9 (Yo.get?_push_size _ z) A
   ·exact g.prot p u
  nodup:=by
   refine Ab Bn ?_;rw[ZY]at nd⊢;refine Cp nd.1 (Z0.mpr ⟨λh=>fr (Zq _ h),nd.2.1⟩) (λa j b hb e=>?_);rcases Zr.mp hb with rfl|hb
   ·exact fr (Zk _ (e▸j))
   ·exact nd.2.2 a j b hb e
  apart:=λa j r e=>by
   rw[Bn]at j;rcases ZW.mp j with j|j
   ·exact m.apart a (Ab FY (Zk _ j)) r e
   ·rcases Zr.mp j with rfl|j
    ·exact m.zZ r e
    ·exact m.apart a (Ab FY (Zq _ j)) r e
  gens:=g.gens,os:=g.os,dr:=g.dr}
theorem Ar.zW(m:Ar (c.prot a q) σ G s):Ar c σ G s:=by
 generalize m.nodup=nd;rw[Bn]at nd;exact {
  base:=m.base,gsub:=m.gsub,temps:=m.temps,outer:=m.outer,kept:=m.kept,frames:=m.frames,live:=m.live
  prot:=λp g=>m.prot p (.tail _ g)
  nodup:=by refine Ab FY ?_;exact(KV nd).2
  apart:=λb hb=>m.apart b (by
   rw[FY]at hb;refine Ab Bn ?_;rcases ZW.mp hb with hb|hb
   ·exact Zk _ hb
   ·exact Zq _ (.tail _ hb))
  gens:=m.gens,os:=m.os,dr:=m.dr}
theorem Ar.zN{q':Xp->Prop}(m:Ar (c.prot a q) σ G s)(k:U9 a s.heap h')(e:h'.get? a=Zd M9)(B:q' M9):Ar (c.prot a q') σ G {s with heap:=h',toks:=tk}:=by
 have A:=m.nodup;rw[Bn]at A;have j:=(KV A).1;have own:A3 (c.prot a q') σ=A3 (c.prot a q) σ:=by rw[Bn,Bn]
 have h:∀b M9,G b M9->b≠a:=λb M9 e z=>m.apart a (Ab Bn (Zq _ (.head _))) M9 (z▸e);have u:∀b∈((c.prot a q).fms σ.F).flatMap (·.own),b≠a:=λb hb z=>j (Zk _ (Zq _ (z▸hb)));exact {
  base:=m.base
  gsub:=λb M9 e=>k b M9 (h b M9 e) (m.gsub b M9 e)
  temps:=m.temps,outer:=m.outer,kept:=m.kept
  frames:=m.frames.mono (λC C e=>e) λb hb M9 e=>k b M9 (u b hb) e
  live:=λp g=>Ag (m.live p g) λM9 e r=>mEA M9 (k _ _ (λz=>j (Zk _ (Zk _ (z▸ZJ g)))) e) r
  prot:=λp g=>by
   rcases Zr.mp g with rfl|g
   ·exact mEA M9 e B
   ·exact Ag (m.prot p (.tail _ g)) λM9 e r=>mEA M9 (k _ _ (λz=>j (Zq _ (z▸ZJ g))) e) r
  nodup:=by refine Ab own ?_;exact m.nodup
  apart:=λb hb=>m.apart b (by rw[own]at hb;exact hb)
  gens:=m.gens,os:=m.os,dr:=m.dr}
theorem Ar.zM(m:Ar (c.prot a q) σ G s)(k:U9 a s.heap h'):Ar c σ G {s with heap:=h',toks:=tk}:=by
 generalize m.nodup=nd;rw[Bn]at nd;generalize((KV nd).1)=j;generalize m.zW=m0;generalize(λb o e z=>m.apart a (Ab Bn (Zq _ (.head _))) o (z▸e):∀b o,G b o->b≠a)=h;generalize(λb hb z=>j (Zk _ (Zq _ (z▸hb))):∀b∈(c.fms σ.F).flatMap (·.own),b≠a)=u;exact {
  base:=m0.base
  gsub:=λb o e=>k b o (h b o e) (m0.gsub b o e)
  temps:=m0.temps,outer:=m0.outer,kept:=m0.kept
  frames:=m0.frames.mono (λA A e=>e) λb hb o e=>k b o (u b hb) e
  live:=λp g=>Ag (m0.live p g) λo e r=>mEA o (k _ _ (λz=>j (Zk _ (Zk _ (z▸ZJ g)))) e) r
  prot:=λp g=>Ag (m0.prot p g) λo e r=>mEA o (k _ _ (λz=>j (Zq _ (z▸ZJ g))) e) r
  nodup:=m0.nodup,apart:=m0.apart,gens:=m0.gens,os:=m0.os,dr:=m0.dr}
theorem Ar.reset(m:Ar c σ G s):Ar c ⟨[],σ.L,σ.F⟩ G s:=m.weak (λg h=>(ZT h ZE)) (Vc _)
noncomputable def Cx.keep(c:Cx)(K:Tm):Cx:={c with Kt:=K++c.Kt}
theorem Ar.keepIn(m:Ar c σ G s)(h:∀p∈K,VR G p.2 p.1):Ar (c.keep K) σ G s:={m with kept:=λp g=>(ZW.mp g).elim (h p) (m.kept p)}
theorem Ar.zQ(m:Ar (c.keep K) σ G s):Ar c σ G s:={m with kept:=λp g=>m.kept p (Zq _ g)}
def Walk(c:Cx)(env:YG)(target:Expr)(body:Za Yv)(P:YA->St->Prop)(x:Zb)(σ:St):Prop:=
 ∀s,MR c σ s->ZZ c.M c.A (RJ x) (λit j=>XQ c.M c.A (.forLoop target it body [] env) (λr h=>match r with|.ok f=>∃g,MR c g h/\P f g|.error _=>ZP) j) No s
theorem iT(h:Ev c σ (Yk value env) λx g=>Walk c env target body P x g)(C:∀x,Vf value env x=pure x):Ev c σ (VW (.For target value body [] p) env) P:=λs m=>wpAny_For (Zu (h s m) (λx A j=>Ag j λg B w=>Zu (w A B) (λit E q=>Xi q λr D z=>by
 cases r with
 |ok f=>exact z
 |error e=>exact z.elim) λu u e=>e) λu u e=>e) C
def TurnEnd(J:Za (Zo×LO)->Fm->Prop)(P:YA->St->Prop)(f:YA)(σ:St):Prop:=match f with
 |.next=>J σ.L σ.F
 |.cont=>J σ.L σ.F
 |.brk=>P .next σ
 |.ret v=>P (.ret v) σ
theorem ae(I:Zf->Xp->Prop)(vs:Zf->V)(J:Zf->Za (Zo×LO)->Fm->Prop)
 (B:∀i L F s G,i<N->J i L F->Ar (c.prot it (I i)) ⟨[],L,F⟩ G s->ZZ c.M c.A (Vu (.ref it)) (λr j=>∃v' u,r=Zd v'/\Ar (c.prot it (I (i+1))) ⟨[(v',vs i)],L,F⟩ u j) No s)
 (H:∀L F s G,J N L F->Ar (c.prot it (I N)) ⟨[],L,F⟩ G s->ZZ c.M c.A (Vu (.ref it)) (λr j=>∃u,r=Zs/\Ar c ⟨[],L,F⟩ u j) No s)
 (E:∀i v' s σ G,Ar (c.prot it (I i)) σ G s->ZZ c.M c.A (W6 target (.ref it) v') (λg j=>j=s) No s)
 (Q:∀i L F q v',i<N->J i L F->Ev (c.prot it q) ⟨[(v',vs i)],L,F⟩ (WU target env v') λg K=>Ev (c.prot it q) ⟨[],K.L,K.F⟩ (VB body env) (TurnEnd (J (i+1)) P))
 (done:∀L F,J N L F->P .next ⟨[],L,F⟩):
 ∀(k i:Zf) (L:Za (Zo×LO)) (F:Fm) (s:Zj) (G:Gh),N=i+k->J i L F->Ar (c.prot it (I i)) ⟨[],L,F⟩ G s->
  XQ c.M c.A (.forLoop target (.ref it) body [] env) (λr s'=>match r with|.ok f=>∃O,MR c O s'/\P f O|.error g=>ZP) s:=by
 intro k i L F s G D C m;refine Rd (λn s=>∃i L F G,N=i+n/\J i L F/\Ar (c.prot it (I i)) ⟨[],L,F⟩ G s) (λn s hI=>?_) k (⟨i,(AG L F G D C m)⟩);refine FE hI λi L F G D C m=>?_;cases n with
 |zero=>
  generalize(by exact D.symm:i=N)=X;subst X;refine Zu (H L F s G C m) (λr j z=>Ag z λu er U=>?_) λg g e=>e.elim;subst er;exact VH (mEA _ ⟨u,U⟩ (done L F C))
 |succ n=>
  generalize(vu D.symm)=X;refine Zu (B i L F s G X C m) (λr j z=>AV z λv' u er U=>?_) λg g e=>e.elim;subst er;refine Zu (E _ v' j _ u U) (λg s2 e=>?_) λg g e=>e.elim;subst e;refine Zu (Q i L F _ v' X C _ ⟨u,U⟩) (λg s3 hY=>Ag hY λσ3 hX hb=>xE hX λG3 m3=>?_) λg g e=>e.elim;refine Zu (hb s3 ⟨G3,m3.reset⟩) (λf s4 hY=>Ag hY λh hX T=>xE hX λR Y=>?_) λg g e=>e.elim;cases f with
  |next=>exact⟨n,(cV (YI _) (i+1) (AG h.L h.F R (wI D.symm).symm T Y.reset))⟩
  |cont=>exact⟨n,(cV (YI _) (i+1) (AG h.L h.F R (wI D.symm).symm T Y.reset))⟩
  |brk=>exact mEA _ ⟨R,Y.zW⟩ T
  |ret v=>exact mEA _ ⟨R,Y.zW⟩ T
end
end
section
variable{K:Tm}{vs:ZD Zb}{x:Zb}{n:Z7}
section
theorem Ar.keeps:Ar (c.keep K) σ G s->Ar c σ G s:=Ar.zQ
theorem d8{target it:_}(h:XQ c.M c.A (.forLoop target it body [] env) (λr u=>match r with|.ok f=>∃g,MR (c.keep K) g u/\F9 f g|.error B=>ZP) s):
 XQ c.M c.A (.forLoop target it body [] env) (λr u=>match r with|.ok f=>∃g,MR c g u/\F9 f g|.error B=>ZP) s:=
 Xi h λr u z=>by
  cases r with
  |ok f=>refine Ag z λg j p=>?_;obtain⟨G,m⟩:=j;exact mEA g ⟨G,m.zQ⟩ p
  |error e=>exact z
theorem Cu{M:QJ}(e:s.heap.get? it=Zd M9)(z:M9.cls=.type id)(j:M9.data=.fields vs)
 (B:["enumerate","zip","dict_itemiterator","dict_reverseitemiterator","odict_iterator","itertools.zip_longest","itertools.pairwise"].contains id=Zh):ZZ M A (W6 target (.ref it) v') (λu h=>h=s) No s:=by
 have g:ZZ M A (do
  let (.ref r,.ref a):=((.ref it:Zb),v')|return
  let M9<-load r
  match M9.cls,M9.data with
  |.type n,.fields vs=>
   if["enumerate","zip","dict_itemiterator","dict_reverseitemiterator","odict_iterator","itertools.zip_longest","itertools.pairwise"].contains n&&vs[0]? ==Zd (Xj a)then
    rule "for.unpacks-the-owned-tuple"
    updateField r 0 .none
  |_,_=>pure ():ZN ZU) (λu h=>h=s) No s:=by
  cases v'<;>first
   |exact Zp rfl
   |(refine Zg (Q5 e ?_);simp only[z,j,B,UN,XV,Ul];exact Zp rfl)
 cases target with
 |Tuple=>exact g
 |List=>exact g
 |_=>exact Zp (a:=()) rfl
theorem mC(A:(x,.int n)∈T)(h:∀v',P v' ⟨(v',.rng n)::T,L,F⟩):Ev c ⟨T,L,F⟩ (Y8 (.type "range") [x]) P:=
 Ev.rw λs G R u m=>by
  refine xE ((m.temps _ A).zK) λt j=>?_;subst j;refine Am (m.zP (o:={cls:=.type "range",data:=.fields #[.int 0 s.toks,.int n t,.int 1 (s.toks+1)]}) (tk:=s.toks+1+1) rfl) λr le g z=>call_range_1 (u _ _ _ ⟨r,z.zH ?_⟩ (h _));exact⟨_,(Ga _ _ _ rfl g)⟩
end
end
section
variable{a x:Zb}{i j:Z7}{t:Zb->Zb->ZN Zb}{k:Zl}
section
theorem uU(r:(a,.int i)∈T)(hb:(b,.int j)∈T)(g:j≠0)(h:∀v',P v' ⟨(v',.int (i.fmod j))::T,L,F⟩):Ev c ⟨T,L,F⟩ (Wy .Mod a b) P:=
 Id (t:=λa b=>Wy .Mod a b) r hb (λs z u Q q=>mod_int' g (q _)) h
theorem rH(r:(a,.int i)∈T)(hb:(b,.int j)∈T)(g:j≠0)(u:j.natAbs.log2<9000)(h:∀v',P v' ⟨(v',.int (i.fdiv j))::T,L,F⟩):Ev c ⟨T,L,F⟩ (Wy .FloorDiv a b) P:=
 Id (t:=λa b=>Wy .FloorDiv a b) r hb (λs A z Q q=>floordiv_int g (q _) (.inl (PyProof.noPylong_of_log2 u))) h
theorem Ie(u:(a,.int i)∈T)(hb:(b,.int j)∈T)
 (R:∀(s:Zj) (r g:QE) (Q:Zb->Zj->Prop),Q (.bool k) s->ZZ c.M c.A (t (.int i r) (.int j g)) Q No s) (h:P (.bool k) ⟨(.bool k,.bool k)::T,L,F⟩):Ev c ⟨T,L,F⟩ (t a b) P:=
 Ev.raw λs G m=>by
  obtain⟨r,rfl⟩:=(m.temps _ u).zK;obtain⟨g,rfl⟩:=(m.temps _ hb).zK;exact R s r g _ ⟨_,⟨G,m.zH VR.val⟩,h⟩
theorem xp(g:(a,.int i)∈T)(hb:(b,.int j)∈T)(h:P (.bool (decide (i<j))) ⟨(.bool (decide (i<j)),.bool (decide (i<j)))::T,L,F⟩):Ev c ⟨T,L,F⟩ (Yu .Lt a b) P:=
 Ie (t:=λa b=>Yu .Lt a b) g hb (λs u r Q q=>Oz q) h
theorem xr(g:(a,.int i)∈T)(hb:(b,.int j)∈T)(h:P (.bool (decide (j<i))) ⟨(.bool (decide (j<i)),.bool (decide (j<i)))::T,L,F⟩):Ev c ⟨T,L,F⟩ (Yu .Gt a b) P:=
 Ie (t:=λa b=>Yu .Gt a b) g hb (λs u r Q q=>OA q) h
theorem xt(g:(a,.int i)∈T)(hb:(b,.int j)∈T)(h:P (.bool (decide (j<=i))) ⟨(.bool (decide (j<=i)),.bool (decide (j<=i)))::T,L,F⟩):Ev c ⟨T,L,F⟩ (Yu .GtE a b) P:=
 Ie (t:=λa b=>Yu .GtE a b) g hb (λs u r Q q=>PySem.P.ge_int q) h
theorem pQ(g:(a,.int i)∈T)(hb:(b,.int j)∈T)(h:P (.bool (i==j)) ⟨(.bool (i==j),.bool (i==j))::T,L,F⟩):Ev c ⟨T,L,F⟩ (Yu .Eq a b) P:=
 Ie (t:=λa b=>Yu .Eq a b) g hb (λs u r Q q=>OB q) h
theorem uS(g:(a,.int i)∈T)(hb:(b,.int j)∈T)(h:P (.bool (i !=j)) ⟨(.bool (i !=j),.bool (i !=j))::T,L,F⟩):Ev c ⟨T,L,F⟩ (Yu .NotEq a b) P:=
 Ie (t:=λa b=>Yu .NotEq a b) g hb (λs u r Q q=>OC q) h
theorem JS(n:Zf)(h:n<8000):(2^n:Z7).natAbs.log2<9000:=by
 refine Ab (Int.natAbs_pow ..) ?_;refine(?_:(2^n:Zf).log2<9000);refine Ab (Nat.log2_two_pow ..) ?_;exact q3 h rfl
theorem rp(g:(a,.int 2)∈T)(hb:(b,.int n)∈T)(j:n<1000)(h:∀v',P v' ⟨(v',.int (2^n))::T,L,F⟩):Ev c ⟨T,L,F⟩ (Wy .Pow a b) P:=
 Id (t:=λa b=>Wy .Pow a b) g hb (λs z r Q q=>by
  by_cases h0:n=0
  ·subst h0;exact PY (by exact QG _) (by rfl) (by exact q _)
  ·refine PZ (by exact ZI _) (by simp;trivial) (by decide) (by decide) ?_ (by simpa[Made.post]using q _);generalize(intBits_le_64 (by exact ZI _) (by exact ZI _):(Rf 2:Zf)<=64)=this;unfold P9 bitsLine;simp only[WM];generalize(by
    refine Int.mul_le_mul (by exact ZI _) (UH.mpr (YB j)) (ZI _) (by exact ZI _):((Rf 2:Zf):Z7)*(n:Z7)<=64*1000)=u
   lia) h
theorem EU{P:Zb×Za Zb->St->Prop}(hl:LstAt T L v' l)(j:Ps "list" name id)(u:V1 (.builtin id)=pure (.type "method_descriptor"))(h:P (.builtin id,[v']) ⟨T,L,F⟩):Ev c ⟨T,L,F⟩ (XI v' name pl) P:=
 Ev.rw λs G R z m=>by
  refine Aq (hl.get m) λa items n g e r=>?_;subst g;exact Vg (mEA _ e rfl) PySem.F.plainAttrs_list j u (λb hb=>by cases hb;exact mEA _ e rfl) (z _ _ _ ⟨G,m⟩ h)
set_option maxRecDepth 100000 in
theorem iH{P:Zb×Za Zb->St->Prop}(hl:(v',.str y)∈T)(j:Ps "str" name id)(r:V1 (.builtin id)=pure (.type "method_descriptor"))(h:P (.builtin id,[v']) ⟨T,L,F⟩):Ev c ⟨T,L,F⟩ (XI v' name pl) P:=
 Ev.raw λs G m=>by
  refine xE ((m.temps _ hl).zJ) λt g=>?_;subst g;have u:s.TypeIs (.str y t) "str":=rfl;exact Vg u T4 j r (λb hb=>(by cases hb)) (mEA _ ⟨G,m⟩ h)
theorem El{a:Zo}(B:(x,.ref a)∈T)(C:(v',D8)∈T)(u:BS a (.list l) (.list (l++[D8])) L L')(E:l.length<=16777216)(h:P .none ⟨(.none,.none)::T,L',F⟩):Ev c ⟨T,L,F⟩ (Y8 (.builtin "list.append") [x,v']) P:=
 Ev.rw λs G R D m=>by
  have ex:x=.ref a:=(m.temps _ B).zI;subst ex;refine BR (m.live _ u.mem) λo z items n g r=>?_;subst g;refine append_at (hsz:=?_) z λh' A j=>D _ _ _ ⟨G,(m.change (tk:=s.toks) (ob:=Cz (items++[v']) (n+1)) u A.extBut ?_ ?_).zH VR.val⟩ h
  ·refine Ab j ?_;simp[Cz]
  ·exact BW (items++[v']) (n+1) rfl (r.append (Ay.cons (m.temps _ C) Ay.nil))
  ·refine Ab ZR (Ab r.length ?_);exact E
theorem eh{a:Zo}{P:ZU->St->Prop}(D:(x,.ref a)∈T)(C:(v',.int dn)∈T)(E:(b,D8)∈T)(u:BS a (.list l) (.list (l.set dn.toNat D8)) L L')(B:0<=dn)(A:dn<l.length)(I:l.length<=16777216)(h:P () ⟨T,L',F⟩):Ev c ⟨T,L,F⟩ (Td x v' b) P:=
 Ev.rw λs G R H m=>by
  have ex:x=.ref a:=(m.temps _ D).zI;subst ex;refine xE ((m.temps _ C).zK) λt g=>?_;subst g;refine BR (m.live _ u.mem) λo z items n j r=>?_;subst j;refine ki_setAt (n:=n) z B (Int.lt_of_lt_of_le A (RW (UH.mpr I) (by decide))) (Ab ZR (r.length▸A)) (H _ _ _ ⟨G,m.change (tk:=s.toks) (ob:=Cz (items.set dn.toNat b) n) u (Y3 ..).extBut ?_ ?_⟩ h)
  ·refine Ab (Yo.get?_update_self _ z rfl ..) ?_;simp[T7,Cz]
  ·exact BW _ n rfl (r.set _ (m.temps _ E))
theorem eg{P:ZU->St->Prop}(B:(x,.ref f)∈T)(A:(v',.int (-1))∈T)(C:(b,D8)∈T)(u:BS f (.list (l++[D9])) (.list (l++[D8])) L L')(D:l.length<=16777215)(h:P () ⟨T,L',F⟩):Ev c ⟨T,L,F⟩ (Td x v' b) P:=
 Ev.raw λs G m=>by
  generalize((m.temps _ B).zI:x=.ref f)=ex;subst ex;refine xE ((m.temps _ A).zK) λt j=>?_;subst j;refine BR (m.live _ u.mem) λo z items n g r=>?_;subst g;generalize r.length=hl;simp only[Zt,Xr,Xo]at hl;refine ki_setBack (n:=n) z (by exact ZI _) (Ab ZR (zq hl)) (by exact ZI _) (mEA _ ⟨G,m.change (tk:=s.toks) (ob:=Cz (items.set l.length b) n) u (Y3 ..).extBut ?_ ?_⟩ h)
  ·refine Ab (Yo.get?_update_self _ z rfl ..) ?_;generalize(Ab ZR (yK hl):(-1+(items.toArray.size:Z7)).toNat=l.length)=this;simp only[T7,Cz,this];simp
  ·refine BW _ n rfl ?_;generalize(r.set l.length (m.temps _ C))=this;rwa [List.set_append_right _ _ (ZL _),PN]at this
theorem Ib{i:Zb}{v:V}(hl:LstAt T L x (l++[v]))(A:(i,.int (-1))∈T)(h:∀v',P v' ⟨(v',v)::T,L,F⟩)
 (E:l.length<=16777216) (z:∀o i,Un target Zh o i=SX [o,i] (SY o i)):Ev c ⟨T,L,F⟩ (XD value target x i) P:=
 Ev.rw λs G R C m=>by
  refine Aq (hl.get m) λa items n g e r=>?_;subst g;refine xE ((m.temps _ A).zK) λt j=>?_;subst j;have u:=r.length;simp only[Zt,Xr,Xo]at u;refine Ag (r.get (i:=l.length) (v:=v) (by simp)) λv' D B=>Pa (As e).typeIs slot_list_getitem.lookup (wpAny_getItem_list_neg (As e) (by exact ZI _) (by refine Ab ZR ?_;lia) (by exact ZI _) ?_ (C _ _ _ ⟨G,m.zH B⟩ (h v'))) (z _ _);have:(-1+(items.toArray.size:Z7)).toNat=l.length:=by refine Ab ZR ?_;exact yK u
  refine Ab this ?_;simpa using D
theorem rL(D:LstAt T L x l)(B:LstAt T L xv ts)(O:l.length+ts.length<=16777216)(h:∀v',P v' ⟨(v',.lst (l++ts))::T,L,F⟩):Ev c ⟨T,L,F⟩ (Wy .Add x xv) P:=
 Ev.rw λs G R H m=>by
  refine Aq (D.get m) λa items n z e r=>?_;subst z;refine Aq (B.get m) λb j n2 u K A=>?_;subst u;refine Am (m.zP (o:=Cz (items++j) 0) (tk:=s.toks) rfl) λC le g E=>?_;have I:(items.toArray++j.toArray)=(items++j).toArray:=by simp
  refine PySem.P.add_list e K ?_ (Ab ZR (Ab ZR (Ab r.length (Ab A.length (O)))));exact Ab I (H _ _ _ ⟨C,E.zH (VR.lst g ((r.append A).mono le))⟩ (h _))
end
end
section
variable{lo hi k:Ze Z7}{lv uv:V}{x:Zb}
section
theorem eA(h:Ev c σ (Yk value env) P):Ev c σ (VU (S1 (Zd value) env)) P:=by
 refine Ab (arm_evalOpt_some ..) ?_;exact h
theorem eB(h:P .none ⟨(.none,.none)::T,L,F⟩):Ev c ⟨T,L,F⟩ (VU (S1 Zs env)) P:=Ev.rw λs G R g m=>by
 refine(?_:ZZ _ _ (pure Xn) _ _ _);exact Zp (g _ _ _ ⟨G,m.zH VR.val⟩ h)
theorem nb{lo hi:Ze Expr}(h:Ev c σ (VU (S1 lo env)) λl g=>Ev c g (VU (S1 hi env)) λu j=>Ev c j (newFields "slice" [l,u,.none]) P):Ev c σ (Yk (.Slice lo hi Zs p) env) P:=by
 refine Ab (arm_eval_Slice ..) ?_;refine Ev.bind (h.mono λl g z=>Ev.bind (Ev.l1 (λr r h=>Yt h) (z.mono λu j s=>Ev.bind (Ev.l1 (λr r h=>Yt h) ?_))));exact Ev.pure s
theorem HZ(hl:(v',lv)∈T)(g:(b,uv)∈T)(h:∀a,P (.ref a) ⟨(.ref a,.ref a)::T,(a,.fields "slice" [lv,uv,.none])::L,F⟩):Ev c ⟨T,L,F⟩ (newFields "slice" [v',b,.none]) P:=
 Ev.raw λs G m=>by
  exact YR (mEA _ ⟨G,(m.push (lo:=.fields "slice" [lv,uv,.none]) (o:={cls:=.type "slice",data:=.fields #[v',b,.none]}) (tk:=s.toks) (mEA ([v',b,.none]) rfl (Ay.cons (m.temps _ hl) (Ay.cons (m.temps _ g) (Ay.cons VR.val Ay.nil))))).zH VR.val⟩ (h _))
inductive Part:V->Ze Z7->Prop
 |none:Part .none Zs
 |int (i:Z7):Part (.int i) (Zd i)
theorem Part.is{v:V}(p:Part v k)(h:VR G v x):IsPart x k:=by
 cases p with
 |none=>refine Ab h.zI ?_;exact .none
 |int i=>obtain⟨t,rfl⟩:=h.zK;exact .int i t
noncomputable def cut(l:Za α)(lo hi:Ze Z7):Za α:=match lo,hi with
 |none,Zs=>l
 |none,Zd y=>l.take y.toNat
 |some x,Zs=>l.drop x.toNat
 |some x,Zd y=>(l.drop x.toNat).take (y.toNat-x.toNat)
noncomputable def nonneg:Ze Z7->Prop
 |none=>O0
 |some x=>0<=x
theorem yk(l:Za α):∀x y,(l.drop (min x l.length)).take (min y l.length-min x l.length)=(l.drop x).take (y-x):=by
 induction l with
 |nil=>intro x y;rw[Vx,Vx,Vw,Vw]
 |cons a l g=>
  intro x y;cases x with
  |zero=>refine Ab (P0 ..) ?_;exact P1 (a::l) y
  |succ x=>
   cases y with
   |zero=>refine Ab (P0 ..) ?_;refine Ab (P2 ..) ?_;refine Ab (P2 ..) ?_;rfl
   |succ y=>refine Ab (Xr ..) ?_;refine Ab (Qf ..) ?_;refine Ab (Qf ..) ?_;refine Ab (Qg ..) ?_;refine Ab (Qg ..) ?_;exact g x y
theorem iY(items:Za Zb)(j:nonneg lo)(h:nonneg hi):slicePick items.toArray lo hi Zs=(cut items lo hi).toArray:=by
 refine(kms_pick_eq _ lo hi).trans (ZH List.toArray ?_);have g:∀{x:Z7},0<=x-> ¬x<0:=QY.mpr;cases lo with
 |none=>cases hi with
  |none=>exact XK
  |some y=>exact(ZH (λn=>items.take n) (Yc (g h))).trans (P1 _ _)
 |some x=>
  have e:kms_lo (Zd x) items.length=min x.toNat items.length:=Yc (g j);cases hi with
  |none=>exact(ZH (λn=>(items.drop n).take (items.length-n)) e).trans ((ZH (List.take _) (kmk_drop_min items _)).trans (V3 (Ab QB (Nat.sub_le_sub_left (Ur _ _) _))))
  |some y=>exact(ZH (λn=>(items.drop n).take (kms_hi (Zd y) items.length-n)) e).trans ((ZH (λn=>(items.drop _).take (n-_)) (Yc (g h))).trans (yk items _ _))
theorem Ay.cut(r:Ay G l items):Ay G (cut l lo hi) (Mine.cut items lo hi):=by
 cases lo<;>cases hi
 ·exact r
 ·exact r.take _
 ·exact r.drop _
 ·exact(r.drop _).take _
theorem iy{slo shi:Ze Expr}{i:Zb}(hx:LstAt T L x l)(H:(i,.ref a)∈T)(E:(a,.fields "slice" [lv,uv,.none])∈L)(pl:Part lv lo)(pu:Part uv hi)(n1:nonneg lo)(n2:nonneg hi)(Y:l.length<=16777216)
 (h:∀v',P v' ⟨(v',.lst (cut l lo hi))::T,L,F⟩):Ev c ⟨T,L,F⟩ (XD value (.Slice slo shi Zs p) x i) P:=
 Ev.rw λs G R hR m=>by
  refine Cb λX D=>Aq (hx.get m) λb items n B e r=>?_;subst B;have ei:i=.ref a:=(m.temps _ H).zI;subst ei;refine LX (m.live _ E) λo eo vs C rv=>?_;subst C;refine An rv λx1 K z U I=>An I λx2 K A r2 I=>An I λx3 K u O j=>?_;subst z;subst A;subst u;subst j;refine Am (m.zP (o:=Cz (cut items lo hi) 0) (tk:=s.toks) rfl) λQ le g m'=>D (Pa (As e).typeIs slot_list_getitem.lookup (wpAny_getItem_list_slice (As e) (AU _ eo rfl rfl) (pl.is U) (pu.is r2) (Ab O.zI (.none)) (by decide) ?_ (Ab ZR (Ab r.length (Y)))) (ops:=[.ref a,.ref b]) rfl);exact Ab (iY items n1 n2 ..) (hR _ _ _ ⟨Q,m'.zH (VR.lst g (r.cut.mono le))⟩ (h _))
end
end
section
variable{k:Zx}{r:Za (Zi×Zx)}{acc:Za (Zi×Zo)}{rho:Za (Zi×Ze V)}{σ':St}
noncomputable def ci(env:YG):Za (Zi×Zx)->Za (Zi×Zo)->Za (Zi×Zo)
 | [],acc=>acc
 |(x,k)::r,acc=>if k==.free then ci env r ((x,(env.cells.lookup x).getD 0)::acc)else ci env r acc
theorem l7:ci env ((x,k)::r) acc=if k==.free then ci env r ((x,(env.cells.lookup x).getD 0)::acc)else ci env r acc:=rfl
theorem IW:∀(names:Za (Zi×Zx)) (acc:Za (Zi×Zo)),(∀p∈names,p.2=.free->∃a,env.cells.lookup p.1=Zd a)->
 (N2 names acc λ(p:Zi×Zx) (r:Za (Zi×Zo))=>(if(p.2==XE)=Zm then do
  let a<-cellOf env p.1
  pure (Us ((p.1,a)::r))
  else pure (Us r):ZN (ForInStep (Za (Zi×Zo)))))=pure (ci env names acc):=by
 intro names
 induction names with
 |nil=>exact λacc A=>rfl
 |cons g r j=>
  intro acc h;refine Ab (Ut ..) ?_;generalize(λacc=>j acc λp z=>h p (.tail _ z))=u;rw[l7];by_cases hk:(g.2==XE)=Zm
  ·refine xE (h (g.1,g.2) (.head _) (by exact of_decide_eq_true hk)) λa s=>?_;simp only[hk,SU,cellOf];simp only at s;refine Ab (s ..) ?_;simp only[pure_bind,Option.getD_some];exact u _
  ·simp only[hk,Ul,XV];simp only[pure_bind];exact u _
theorem J8(h:∀p∈scope.names,p.2=.free->∃a,env.cells.lookup p.1=Zd a):closureFor scope env=pure (ci env scope.names []):=by
 unfold closureFor;refine(ZH (λt:ZN (Za (Zi×Zo))=>t>>=λr=>pure r) (IW scope.names [] h)).trans ?_;rfl
theorem pn:∀(names:Za (Zi×Zx)) (acc:Za (Zi×Zo)),(∀p∈names,p.2=.free->∃a,env.cells.lookup p.1=Zd a)->∀p,p∈ci env names acc↔p∈acc∨((p.1,.free)∈names/\env.cells.lookup p.1=Zd p.2):=by
 intro names
 induction names with
 |nil=>
  intro acc H p;simp[show ci env [] acc=acc from rfl]
 |cons A r z=>
  obtain⟨x,k⟩:=A;intro acc h p;rw[l7];generalize(λacc=>z acc (λp D=>h p (.tail _ D)) p)=C;by_cases s:(k==XE)=Zm
  ·generalize(by simpa using s:k=.free)=B;subst B;obtain⟨a,u⟩:=h (x,.free) (.head _) rfl;simp only at u;rw[if_pos s,C,u];constructor
   ·rintro(g|⟨g,j⟩)
    ·rcases Zr.mp g with rfl|g
     ·exact .inr ⟨.head _,u⟩
     ·exact .inl g
    ·exact .inr ⟨.tail _ g,j⟩
   ·rintro(g|⟨g,j⟩)
    ·exact .inl (.tail _ g)
    ·rcases Zr.mp g with e|g
     ·simp only[Wl,and_true]at e;rw[e,u]at j;refine .inl ?_;generalize(by
       obtain⟨E,G⟩:=p;simp only at e j;rw[e,Yd j]:p=(x,a))=this
      rw[this];exact .head _
     ·exact .inr ⟨g,j⟩
  ·rw[Yc s,C];constructor
   ·rintro(g|⟨g,j⟩)
    ·exact .inl g
    ·exact .inr ⟨.tail _ g,j⟩
   ·rintro(g|⟨g,j⟩)
    ·exact .inl g
    ·rcases Zr.mp g with e|g
     ·simp only[Wl]at e;exact ZT e.2.symm (by simpa using s: ¬k=.free)
     ·exact .inr ⟨g,j⟩
theorem l6:∀(names:Za (Zi×Zx)) (acc:Za (Zi×Zo)),(names.map (·.1)).Nodup->(acc.map (·.1)).Nodup->(∀x∈names.map (·.1),x∉acc.map (·.1))->((ci env names acc).map (·.1)).Nodup:=by
 intro names
 induction names with
 |nil=>exact λacc B h B=>h
 |cons z r g=>
  intro acc s A u;rw[l7];rw[Z3,Z0]at s;split
  ·refine g _ s.2 (Z0.mpr ⟨u z.1 (.head _),A⟩) λy j q=>?_;rcases Zr.mp q with e|q
   ·simp only at e;exact s.1 (e▸j)
   ·exact u y (.tail _ j) q
  ·exact g acc s.2 A λy j=>u y (.tail _ j)
theorem GX:∀(names:Za (Zi×Zx)) (n:Zf) (acc g:Za (Zi×Zo)),YC n names (acc++g)=YC n names acc++g:=by
 intro names
 induction names with
 |nil=>exact λs s s=>rfl
 |cons j r h=>
  intro n acc g;unfold YC;split
  ·exact h (n+1) ((j.1,n)::acc) g
  ·exact h n acc g
theorem GW:∀(names:Za (Zi×Zx)) (n:Zf) (acc:Za (Zi×Zo)) (x:Zi),x∈(YC n names acc).map (·.1)↔x∈acc.map (·.1)∨(x,Xd)∈names:=by
 intro names
 induction names with
 |nil=>
  intro u u u;simp[YC]
 |cons s r j=>
  obtain⟨y,k⟩:=s;intro n acc x;unfold YC;split
  ·rename_i g;generalize(by simpa using g:k=.cell)=g;subst g;rw[j];simp only[Z3,Zr,Wl,and_true];constructor
   ·rintro((h|h)|h)
    ·exact .inr (.inl h)
    ·exact .inl h
    ·exact .inr (.inr h)
   ·rintro(h|h|h)
    ·exact .inl (.inr h)
    ·exact .inl (.inl h)
    ·exact .inr h
  ·rename_i g;rw[j];simp only[Zr,Wl];constructor
   ·rintro(h|h)
    ·exact .inl h
    ·exact .inr (.inr h)
   ·rintro(h|⟨_,h⟩|h)
    ·exact .inl h
    ·exact ZT (by simp[<-h]) g
    ·exact .inr h
theorem Gs:∀(names:Za (Zi×Zx)) (n:Zf) (acc:Za (Zi×Zo)),(names.map (·.1)).Nodup->(acc.map (·.1)).Nodup->(∀x∈names.map (·.1),x∉acc.map (·.1))->((YC n names acc).map (·.1)).Nodup:=by
 intro names
 induction names with
 |nil=>exact λB acc B h B=>h
 |cons z r g=>
  intro n acc s A u;unfold YC;rw[Z3,Z0]at s;split
  ·refine g _ _ s.2 (Z0.mpr ⟨u z.1 (.head _),A⟩) λy j q=>?_;rcases Zr.mp q with e|q
   ·simp only at e;exact s.1 (e▸j)
   ·exact u y (.tail _ j) q
  ·exact g n acc s.2 A λy j=>u y (.tail _ j)
theorem Bz{l:Za (Zi×α)}(g:(l.map (·.1)).Nodup){a:α}(h:(x,a)∈l):l.lookup x=Zd a:=by
 induction l with
 |nil=>exact ZT h (by simp)
 |cons p l j=>
  simp only[Z3,Z0]at g;rcases Zr.mp h with rfl|h
  ·simp
  ·refine Ab YE ?_;generalize(by
    cases q:x==p.1 with
    |false=>rfl
    |true=>
     have:=beq_iff_eq.mp q;exact ZT (Bj this (ZJ (f:=(·.1)) h)) g.1:(x==p.1)=Zh)=ne
   exact Ab ne (j g.2 h)
theorem mem_of_lookup:∀{l:Za (Zi×α)} {x:Zi} {a:α},l.lookup x=Zd a->(x,a)∈l:=by
 intro l
 induction l with
 |nil=>
  intro r r h;trivial
 |cons j l g=>
  intro x a h;rw[YE]at h;split at h
  ·rename_i e;generalize(beq_iff_eq.mp e)=this;cases h;refine Ab this ?_;exact .head _
  ·exact .tail _ (g h)
noncomputable def EX(names:Za (Zi×Zx)):Za (Zi×Zx):=names.map λp=>if p.2==.free then(p.1,.cell)else p
noncomputable def GU(g:Yh):Bool:=decide ((g.names.map (·.1)).Nodup)&&g.kind==.function&&g.names.all λp=>(p.2==.local||p.2==.cell||p.2==.free||p.2==.globalImplicit)&&p.1 !=("__debug__":Zi)&&p.1 !=("__classdict__":Zi)
noncomputable def Cx.comp(c:Cx)(T:Tm)(F:Fm):Cx:={c with Fs:=(T,F)::c.Fs}
structure GA(cenv:YG)(own:Za Zo)(names:Za (Zi×Zx)):Prop where
 ok:Bq cenv (EX names)
 ow:Gz cenv own
 oc:∀x,(x,Xd)∈names->∀a,cenv.cells.lookup x=Zd a->a∈own
section
theorem Ar.aar(m:Ar c ⟨T,L,F⟩ G s)(k:∀b o,s.heap.get? b=Zd o->h'.get? b=Zd o)(fresh:∀a∈own,s.heap.objs.size<=a)(E:own.Nodup)
 (rd:∀a∈Fm.reads ⟨cenv,own,rho⟩,a∈own∨a∈F.reads) (D:∀a∈own,a∈Fm.reads ⟨cenv,own,rho⟩) (ok:LN G h' ⟨cenv,own,rho⟩):Ar (c.comp T F) ⟨[],L,⟨cenv,own,rho⟩⟩ G {s with heap:=h',toks:=tk}:=by
 have g:=m.grow (tk:=tk) k;have r:∀a∈own,a∉A3 c ⟨T,L,F⟩:=λa j q=>by
  exact xE (m.there a q) λo e=>ZT (YS e) (Ws.mpr (fresh a j))
 have B:A3 (c.comp T F) ⟨[],L,⟨cenv,own,rho⟩⟩=L.map (·.1)++(own++((c.fms F).flatMap (·.own)++c.Pr.map (·.1))):=by
  simp[A3,Cx.fms,Cx.comp]
 have u:=m.nodup;simp only[A3]at u r;rw[ZY]at u;refine Du u λn1 n2 C=>?_;have A:=m.frames.2.1;exact {
  base:=g.base,gsub:=g.gsub,temps:=λH h=>(ZT h ZE)
  outer:=λp z=>by
   rcases Zr.mp z with rfl|z
   ·exact g.temps
   ·exact g.outer p z
  kept:=g.kept
  frames:=Ba ok (λa j=>(rd a j).elim (λh=>Zk _ h) (λh=>Zq _ (by
   have:=A a h;refine(?_:a∈F.own++(c.Fs.map (·.2)).flatMap (·.own));exact this))) D g.frames
  live:=g.live,prot:=g.prot
  nodup:=by
   refine Ab B (ZY.mpr (Cp n1 (ZY.mpr (Cp E n2 (λa j b hb e=>r a j (Zq _ (e▸hb))))) (λa j b hb e=>?_)));rcases ZW.mp hb with hb|hb
   ·exact r b hb (Zk _ (e▸j))
   ·exact C a j b hb e
  apart:=λa j o e=>by
   rw[B]at j;rcases ZW.mp j with j|j
   ·exact m.apart a (Zk _ j) o e
   ·rcases ZW.mp j with j|j
    ·exact ZT (YS (m.gsub a o e)) (Ws.mpr (fresh a j))
    ·exact m.apart a (Zq _ j) o e
  gens:=g.gens,os:=g.os,dr:=g.dr}
def NsObj(o:Xp):Prop:=∃es g,o.data=.dict es g/\StrKeys es
theorem Ar.aas(m:Ar (c.comp T F) σ' G s)(h:σ'.F.env.locals∈σ'.F.own):Ar (c.prot σ'.F.env.locals NsObj) ⟨T,σ'.L,F⟩ G s:=by
 have A:A3 (c.comp T F) σ'=σ'.L.map (·.1)++(σ'.F.own++((c.fms F).flatMap (·.own)++c.Pr.map (·.1))):=by
  simp[A3,Cx.fms,Cx.comp]
 generalize m.nodup=nd;rw[A,ZY,ZY]at nd;refine Cb λR u=>Du nd λn1 j n5=>?_;obtain⟨n2,B,C⟩:=j;have z:A3 (c.prot σ'.F.env.locals NsObj) ⟨T,σ'.L,F⟩=(σ'.L.map (·.1)++(c.fms F).flatMap (·.own))++σ'.F.env.locals::c.Pr.map (·.1):=Bn;rw[ZY]at B;refine Du B λD E K=>Ag (m.frames.1.ns) λX I Q=>u ?_;exact {
  base:=m.base,gsub:=m.gsub
  temps:=λp r=>m.outer (T,F) (.head _) p r
  outer:=λp r=>m.outer p (.tail _ r)
  kept:=m.kept
  frames:=m.frames.2.2.2
  live:=m.live
  prot:=λp r=>by
   rcases Zr.mp r with rfl|r
   ·exact xE I λo H=>AF H λes O e U P Q=>KZ o e es O U P
   ·exact m.prot p r
  nodup:=by
   refine Ab z (ZY.mpr (Cp (ZY.mpr (Cp n1 D (λa g b hb=>n5 a g b (Zq _ (Zk _ hb))))) (Z0.mpr ⟨λq=>C _ h _ (Zq _ q) rfl,E⟩) (λa g b hb e=>?_)));rcases ZW.mp g with g|g
   ·rcases Zr.mp hb with rfl|hb
    ·exact n5 a g _ (Zk _ h) e
    ·exact n5 a g b (Zq _ (Zq _ hb)) e
   ·rcases Zr.mp hb with rfl|hb
    ·exact C _ h a (Zk _ g) e.symm
    ·exact K a g b hb e
  apart:=λa g=>m.apart a (by
   refine Ab A ?_;rw[z]at g;rcases ZW.mp g with g|g
   ·rcases ZW.mp g with g|g
    ·exact Zk _ g
    ·exact Zq _ (Zq _ (Zk _ g))
   ·rcases Zr.mp g with rfl|g
    ·exact Zq _ (Zk _ h)
    ·exact Zq _ (Zq _ (Zq _ g)))
  gens:=m.gens,os:=m.os,dr:=m.dr}
end
end
section
variable{k:Zx}{own0:Za Zo}
theorem Nh(j:env.scope.kind=.function)(h:∀p∈scope.names,p.2=.free->env.kindOf p.1=Zd .cell):(UK scope env).names=EX scope.names:=by
 unfold UK EX;refine Vt λp g=>?_;obtain⟨n,k⟩:=p;simp only[j,WP,Bool.and_true];by_cases e:k=.free
 ·subst e;refine Ab (h (n,.free) g rfl ..) ?_;rfl
 ·generalize(by simpa using e:(k==XE)=Zh)=this;simp[this]
theorem jO(names:Za (Zi×Zx)):(EX names).map (·.1)=names.map (·.1):=by
 unfold EX;refine Ab YX (Vt λp g=>?_);show(if(p.2==XE)=Zm then(p.1,Xd)else p).1=p.1;split<;>rfl
theorem Le(h:(x,k)∈EX names):((x,k)∈names/\k≠.free)∨(k=.cell/\(x,XE)∈names):=by
 unfold EX at h;refine Ag (Ye.mp h) λp j e=>?_;split at e
 ·rename_i g;cases e;refine .inr ⟨rfl,?_⟩;exact Bj (by rw[<-beq_iff_eq.mp g]:p=(p.1,XE)) j
 ·rename_i g;subst e;exact .inl ⟨j,λq=>g (by exact Yl q)⟩
section
theorem ly{rho:Za (Zi×Ze V)}(he:Bq env ks)(ho:Gz env own0)(hc:GU scope=Zm)(O:∀p∈scope.names,p.2=.free->(p.1,Xd)∈ks)
 (hnd:(rho.map (·.1)).Nodup) (hrho:∀x v,(x,Zd v)∈rho->(x,XE)∈scope.names/\(x,Zd v)∈rho') (m:Ar c ⟨T,L,⟨env,own0,rho'⟩⟩ G s):
 ZZ c.M c.A (Sy scope env.globals (ci env scope.names []) [] env.qual Zs .none (Zd env)) (λcenv s'=>∃own,GA {cenv with scope:=UK scope env} own scope.names/\
  Ar (c.comp T ⟨env,own0,rho'⟩) ⟨[],L,⟨{cenv with scope:=UK scope env},own,rho⟩⟩ G s') No s:=by
 simp only[GU,Z6,WM,Wb,Yj,Q3]at hc;refine xA hc λg hall=>?_;have hfk:∀p∈scope.names,p.2=.free->env.kindOf p.1=Zd .cell:=λp j e=>(he.names _ _ (O p j e)).1;have hfc:∀p∈scope.names,p.2=.free->∃a,env.cells.lookup p.1=Zd a:=λp j e=>(he.names _ _ (O p j e)).2.2.2.1 (.inl rfl);have hn:=Nh (scope:=scope) he.kind hfk;simp only[Sy,Option.isSome_some,SU];refine Zg (Sz (Zg (wpAny_layCells _ (λname kind cells=>by cases hkc:kind==Xd<;>rfl) _ _ _ _ ?_)))
 simp only[List.forIn_nil];refine Zg (Zp (Zp ?_));refine Ab ((show({s with heap:=s.heap.push {cls:=.type "dict",data:=.dict #[]}}:Zj).heap.objs.size=s.heap.objs.size+1 from X8 ..) ..) ?_;have D:YC (s.heap.objs.size+1) scope.names (ci env scope.names [])=YC (s.heap.objs.size+1) scope.names []++ci env scope.names []:=GX scope.names _ [] _;have X:=cellsFrom_ok scope.names (s.heap.push {cls:=.type "dict",data:=.dict #[]}) (s.heap.objs.size+1) [] ⟨λz_ z_ hm=>((ZT hm ZE)),OU⟩ (by refine Ab (X8 ..) ?_;exact ZL _);rw[X8]at X;have kA:((YC (s.heap.objs.size+1) scope.names []).map (·.1)).Nodup:=Gs _ _ _ g.1 (by exact X6) (by simp);have kB:((ci env scope.names []).map (·.1)).Nodup:=l6 _ _ g.1 (by exact X6) (by simp);have C:=λp=>pn scope.names [] hfc p;have H:∀x k k',(x,k)∈scope.names->(x,k')∈scope.names->k=k':=λx k k' E B=>by
  have e1:=Bz g.1 E;have e2:=Bz g.1 B;rw[e1]at e2;exact Yd e2
 have P:∀x,x∈(YC (s.heap.objs.size+1) scope.names []).map (·.1)↔(x,Xd)∈scope.names:=λx=>by
  rw[GW];simp
 generalize hA:YC (s.heap.objs.size+1) scope.names []=cA at*;generalize hB:ci env scope.names []=cB at*;have kAB:((cA++cB).map (·.1)).Nodup:=by
  refine Ab ZA (ZY.mpr (Cp kA kB (λx Q y hy e=>?_)));have E:=(P x).mp Q;refine Ag (Ye.mp hy) λp j Y=>?_;subst Y;rcases(C p).mp j with B|⟨B,z_⟩
  ·exact(ZT B ZE)
  ·rw[e]at E;exact ZT (H _ _ _ E B) (by decide)
 have geA:∀p∈cA,s.heap.objs.size+1<=p.2:=λp j=>(X.empty p.1 p.2 j).2;have K:∀p∈cB,(p.1,p.2)∈env.cells:=λp j=>by
  rcases(C p).mp j with B|⟨z_,B⟩
  ·exact(ZT B ZE)
  ·exact mem_of_lookup B
 have thB:∀p∈cB,p.2<s.heap.objs.size:=λp j=>by
  exact AV (m.frames.1.cells _ (K p j)) λv o e z_=>YS e
 have ndA:(cA.map (·.2)).Nodup:=WD.mpr X.apart;have ndB:(cB.map (·.2)).Nodup:=by
  refine WD.mpr ?_;have:cB.Pairwise λa b=>a.1≠b.1:=WD.mp kB;refine Po (λ{a b} u hb hab e=>?_) this;have E:=K a u;have B:=K b hb;refine hab ?_;rw[e]at E;have aux:∀(l:Za (Zi×Zo)) (x y:Zi) (z:Zo),(l.map (·.2)).Nodup->(x,z)∈l->(y,z)∈l->x=y:=by
   intro l x y z I
   induction l with
   |nil=>intro h;exact(ZT h ZE)
   |cons q r ih=>
    rw[Z3,Z0]at I;intro E B;rcases Zr.mp E with h3|h3
    ·rcases Zr.mp B with h4|h4
     ·rw[<-h3]at h4;exact(SD h4).1.symm
     ·rw[<-h3]at I;exact ZT (ZJ (f:=(·.2)) h4) I.1
    ·rcases Zr.mp B with h4|h4
     ·rw[<-h4]at I;exact ZT (ZJ (f:=(·.2)) h3) I.1
     ·exact ih I.2 h3 h4
  exact aux _ _ _ _ ho.nd E B
 have kp:∀b o,s.heap.get? b=Zd o->(pushCells (s.heap.push {cls:=.type "dict",data:=.dict #[]}) scope.names).get? b=Zd o:=λb o e=>QQ _ _ b o (Yo.get?_push_of_some _ e);refine mEA (s.heap.objs.size::cA.map (·.2)) ⟨⟨g.2,he.glob,he.bi,?_,λx k Q=>?_⟩,⟨.head _,?_,?_⟩,λx Q a u=>?_⟩ ?_
 ·unfold QF;show(scope.kind==O3&&_)=Zh;refine Ab g.2 ?_;rfl
 ·have hk':WL x (UK scope env).names=Zd k:=by
   refine Ab (hn ..) ?_;exact Bz (by refine Ab (jO ..) ?_;exact g.1) Q
  have hxn:∃k0,(x,k0)∈scope.names:=(Le Q).elim (λh=>⟨_,h.1⟩) λh=>⟨_,h.2⟩;refine xE hxn λk0 hx0=>⟨hk',(Ba (by simpa using((hall _ hx0).1.2)) (λe=>?_) (λe=>?_) (by simpa using((hall _ hx0).2)))⟩
  ·subst e;show WL x (YC _ _ _)=Zs;refine Ab D (lookup_none_of_not_mem λq=>?_);rw[ZA]at q;have E:(x,NameKind.local)∈scope.names:=(Le Q).elim (λh=>h.1) λh=>ZT h.1 (by decide);rcases ZW.mp q with q|q
   ·exact ZT (H _ _ _ E ((P x).mp q)) (by decide)
   ·refine Ag (Ye.mp q) λp j e563_2=>?_;subst e563_2;rcases(C p).mp j with B|⟨B,z_⟩
    ·exact(ZT B ZE)
    ·exact ZT (H _ _ _ E B) (by decide)
  ·show∃a,WL x (YC _ _ _)=Zd a;refine Ab D ?_;have key:x∈(cA++cB).map (·.1):=by
    refine Ab ZA ?_;rcases Le Q with⟨h,hf⟩|⟨z_,h⟩
    ·have:k=.cell:=e.elim id λq=>ZT q hf;subst this;exact Zk _ ((P x).mpr h)
    ·exact xE (hfc _ h rfl) λa u=>Zq _ (ZJ (f:=(·.1)) ((C (x,a)).mpr (.inr ⟨h,u⟩)))
   refine Ag (Ye.mp key) λp j U=>?_;subst U;exact⟨p.2,Bz kAB j⟩
 ·show s.heap.objs.size∉(YC _ _ _).map (·.2);refine Ab D (Ab ZA ?_);intro q;rcases ZW.mp q with q|q
  ·exact Ag (Ye.mp q) λp j e=>ZT (geA p j) (Ab e (SG _))
  ·exact Ag (Ye.mp q) λp j e=>ZT (thB p j) (Ab e (X4 _))
 ·show((YC _ _ _).map (·.2)).Nodup;refine Ab D (Ab ZA ?_);refine ZY.mpr (Cp ndA ndB (λa u b hb e=>?_));refine Ag (Ye.mp u) λp j R=>?_;subst R;refine Ag (Ye.mp hb) λq hq e867_2=>?_;subst e867_2;have E:=geA p j;rw[e]at E;exact ZT (thB q hq) (Ws.mpr (Yf E))
 ·have u:WL x (YC (s.heap.objs.size+1) scope.names cB)=Zd a:=u;rw[D]at u;have hm:=mem_of_lookup u;rcases ZW.mp hm with hm|hm
  ·exact .tail _ (ZJ (f:=(·.2)) hm)
  ·rcases(C _).mp hm with B|⟨B,z_⟩
   ·exact(ZT B ZE)
   ·exact ZT (H _ _ _ Q B) (by decide)
 ·have key:=m.aar (cenv:={scope:=UK scope env,locals:=s.heap.objs.size,globals:=env.globals,cells:=YC (s.heap.objs.size+1) scope.names cB,qual:=env.qual,func:=Zs,code:=env.code,frame:=env.frame,builtins:=env.builtins})
   (own:=s.heap.objs.size::cA.map (·.2)) (rho:=rho) (tk:=s.toks) kp (λa u=>?_) (Z0.mpr ⟨λq=>?_,ndA⟩) (λa u=>?_) (λa u=>?_) ⟨⟨_,(Heap.Ns.new s.heap (.type "dict")).keeps (QQ _ _),λx v Q=>?_⟩,λp j=>?_,hnd⟩
  ·exact key
  ·rcases Zr.mp u with rfl|u
   ·exact ZL _
   ·refine Ag (Ye.mp u) λp j e57_2=>?_;subst e57_2;exact Yf (geA p j)
  ·exact Ag (Ye.mp q) λp j e=>ZT (geA p j) (Ab e (SG _))
  ·rcases Zr.mp u with rfl|u
   ·exact .inl (.head _)
   ·have u:a∈(YC (s.heap.objs.size+1) scope.names cB).map (·.2):=u;rw[D,ZA]at u;rcases ZW.mp u with u|u
    ·exact .inl (.tail _ u)
    ·refine Ag (Ye.mp u) λp j e557_2=>?_;subst e557_2;exact .inr (.tail _ (ZJ (f:=(·.2)) (K p j)))
  ·rcases Zr.mp u with rfl|u
   ·exact .head _
   ·refine .tail _ ?_;show a∈(YC (s.heap.objs.size+1) scope.names cB).map (·.2);refine Ab D (Ab ZA ?_);exact Zk _ u
  ·refine xA (hrho x v Q) λhx1 hx2=>xE (hfc _ hx1 rfl) λa u=>?_;have hl:WL x (YC (s.heap.objs.size+1) scope.names cB)=Zd a:=by
    exact Ab D (Bz kAB (Zq _ ((C (x,a)).mpr (.inr ⟨hx1,u⟩))))
   show match WL x (YC (s.heap.objs.size+1) scope.names cB)with
    |none=>_
    |some c=>_
   refine Ab hl (Ag (m.frames.1.ns) λmm z_ hm=>?_);have:=hm x v hx2;simp only at u this;rw[u]at this;exact Ag this λv' E B=>mEA v' (E.keeps kp) B
  ·have j:p∈YC (s.heap.objs.size+1) scope.names cB:=j;rw[D]at j;rcases ZW.mp j with j|j
   ·exact⟨Zs,(X.empty p.1 p.2 j).1⟩
   ·exact xE (m.frames.1.cells _ (K p j)) λv h=>⟨v,h.keeps kp⟩
end
end
section
variable{acc:Zb}{tail:ZN Fin}{I:Zf->Xp->Prop}{vs:Zf->V}{K:Tm}{R:Za (Zo×LO)->Prop}{P:YA->St->Prop}
def lN(K:Tm)(vs:Zf->V)(N:Zf)(R:Za (Zo×LO)->Prop)(it:Zo)(I:Zf->Xp->Prop):Prop:=
 ∀g:Cx,g.A.handled=Zs->(∀p∈K,p∈g.Kt)->
  (∀i L F s G,i<N->R L->Ar (g.prot it (I i)) ⟨[],L,F⟩ G s->ZZ g.M g.A (Vu (.ref it)) (λr h=>∃v' j,r=Zd v'/\Ar (g.prot it (I (i+1))) ⟨[(v',vs i)],L,F⟩ j h) No s)/\
  (∀L F s G,R L->Ar (g.prot it (I N)) ⟨[],L,F⟩ G s->ZZ g.M g.A (Vu (.ref it)) (λr h=>∃j,r=Zs/\Ar g ⟨[],L,F⟩ j h) No s)/\
  (∀target i v' s σ G,Ar (g.prot it (I i)) σ G s->ZZ g.M g.A (W6 target (.ref it) v') (λu h=>h=s) No s)/\
  (∀i s σ G,Ar (g.prot it (I i)) σ G s->ZZ g.M g.A (RJ (.ref it)) (λv h=>v=.ref it/\h=s) No s)
def CB(c:Cx)(σ:St)(x:Zb)(vs:Zf->V)(N:Zf)(R:Za (Zo×LO)->Prop):Prop:=
 ∀s G,Ar c σ G s->ZZ c.M c.A (RJ x) (λg j=>∃it I K h,g=.ref it/\lN K vs N R it I/\(∀p∈K,p∈σ.T)/\Ar (c.prot it (I 0)) σ h j) No s
section
theorem Nj(hh:c.A.handled=Zs)(hl:(xv,.lst l)∈T):CB c ⟨T,L,F⟩ xv (λi=>(l[i]?).getD .none) l.length λz_=>True:=λs G m=>by
 refine Aq ((m.temps _ hl).zY) λa items n u g r=>?_;subst u;have at_:∀{R:Cx} {E:St} {it q} {B:Gh} {z:Zj},(∀p∈ [(Yn a,V.lst l)],p∈R.Kt)->Ar (R.prot it q) E B z->∃items n,z.heap.get? a=Zd (Cz items n)/\Ay B l items:=λK h=>by
  refine Aq ((h.kept _ (K _ (.head _)):VR _ (.lst l) (.ref a)).zY) λa' items n e g r=>?_;cases e;exact BW items n (h.gsub _ _ g) r
 refine Te (As (m.gsub _ _ g)) (AZ s.heap.objs.size (λi o=>o.cls=.type "list_iterator"/\o.data=.fields #[.ref a,.int i 0]) ([(.ref a,.lst l)]) G rfl ?_ (λp X=>?_) (m.zU ⟨rfl,rfl⟩ rfl))
 ·intro R a1 K;refine Ba ?_ ?_ ?_ ?_
  ·intro i L F z B hi z_ h;refine Cb λPP1 I=>AV (at_ K h) λj n' U P=>Am (h.prot _ (.head _)) λo D H C=>?_;have hv:l[i]? =Zd l[i]:=Za.getElem?_eq_getElem hi;refine Ag (P.get hv) λx ex rx=>I (TV (it:=s.heap.objs.size) (AU o D H C) (As U) (by simpa using ex) λh' Q hs=>Am Q λo2 a0 Y O=>BW x B rfl ?_);have ev:(λi=>(l[i]?).getD V.none) i=l[i]:=by simp[hv]
   exact Ab ev ((h.zN (q':=λo=>o.cls=.type "list_iterator"/\o.data=.fields #[.ref a,.int (i+1:Zf) 0]) (tk:=z.toks) hs.extBut a0 ⟨Y,O⟩).zH rx)
  ·intro L F z B z_ h;refine AV (at_ K h) λj n' U P=>Am (h.prot _ (.head _)) λo D H C=>Si a1 (it:=s.heap.objs.size) (AU o D H C) (As U) ?_ λh' hx=>mEA B rfl (h.zM (tk:=z.toks) hx);refine Ab (Za.getElem?_toArray ..) ?_;exact Za.getElem?_eq_none (Ab P.length (ZL _))
  ·intro target i v' z E B h;exact Am (h.prot _ (.head _)) λo D H C=>Cu D H C (by rfl)
  ·intro i z E B h;exact Am (h.prot _ (.head _)) λo D H C=>Sj (it:=s.heap.objs.size) (AU o D H C) ⟨rfl,rfl⟩
 ·rcases Zr.mp X with rfl|X
  ·exact hl
  ·exact(ZT X ZE)
theorem IV(J:Zf->Za (Zo×LO)->Fm->Prop)
 (B:OE (.compLoop value d (.ref it) acc env)=Zm) (P:c.M.den (.compLoop value d (.ref it) acc env)=(R7 value d (.ref it) acc env).onRaise (λx=>do Uc x env;QR x)) (hA:c.A.under (.compLoop value d (.ref it) acc env)=c.A)
 (j:R7 value d (.ref it) acc env=(Vd j9>>=λg=>Vu (.ref it)>>=λr=>match r with
  |none=>pure (.done .next)
  |some v=>W6 target (.ref it) v>>=λg=>WU target env v>>=λg=>tail))
 (hit:lN K vs N R it I) (hh:c.A.handled=Zs) (hK:∀p∈K,p∈c.Kt) (hR:∀i L F,J i L F->R L)
 (Q:∀i L F q v',i<N->J i L F->Ev (c.prot it q) ⟨[(v',vs i)],L,F⟩ (WU target env v') λg H=>Ev (c.prot it q) ⟨[],H.L,H.F⟩ tail λfin O=>fin=.again (.compLoop value d (.ref it) acc env)/\J (i+1) O.L O.F):
 ∀(k i:Zf) (L:Za (Zo×LO)) (F:Fm) (s:Zj) (G:Gh),N=i+k->J i L F->Ar (c.prot it (I i)) ⟨[],L,F⟩ G s->
  XQ c.M c.A (.compLoop value d (.ref it) acc env) (λr s'=>match r with|.ok g=>∃L F G,Ar c ⟨[],L,F⟩ G s'/\J N L F|.error g=>ZP) s:=by
 intro k i L F s G T z m;refine CC (hit c hh hK) λu E D g=>codeAny_loop B (λn s=>∃i L F G,N=i+n/\J i L F/\Ar (c.prot it (I i)) ⟨[],L,F⟩ G s) (λn s hI=>?_) k (⟨i,(AG L F G T z m)⟩);refine Ab P (Ab hA ?_);refine wpAny_noted (Ab j ?_);refine FE hI λi L F G T z m=>Zg (XC (Zg ?_));cases n with
 |zero=>
  generalize(by exact T.symm:i=N)=X;subst X;refine Zu (E L F s G (hR _ _ _ z) m) (λr s1 h=>Ag h λY er U=>?_) λg g value=>value.elim;subst er;exact Zp (Ga L F Y U z)
 |succ n=>
  generalize(vu T.symm:i<N)=X;refine Zu (u i L F s G X (hR _ _ _ z) m) (λr s1 h=>AV h λv' Y er U=>?_) λg g value=>value.elim;subst er;refine Zg (Zu (D _ _ v' s1 _ Y U) (λg s2 value=>?_) λg g value=>value.elim);subst value;refine Zg (Zu (Q i L F _ v' X z _ ⟨Y,U⟩) (λg s3 hY=>Ag hY λσ3 hX hb=>xE hX λG3 m3=>?_) λg g value=>value.elim);refine Zu (hb s3 ⟨G3,m3.reset⟩) (λf s4 hY=>Am hY λC hX hf hj=>xE hX λG4 m4=>?_) λg g value=>value.elim;subst hf;exact cV rfl n (cV (YI _) (i+1) (AG C.L C.F G4 (wI T.symm).symm hj m4.reset))
theorem c5(z:CB c ⟨T,L,F⟩ xv vs N R)(hh:c.A.handled=Zs)(J:Zf->Za (Zo×LO)->Fm->Prop)(U:J 0 L F)(O:∀i L F,J i L F->R L)
 (u:∀K it q i L F v',i<N->J i L F->Ev ((c.keep K).prot it q) ⟨[(v',vs i)],L,F⟩ (WU target env v') λE j=>Ev ((c.keep K).prot it q) ⟨[],j.L,j.F⟩ (VB body env) (TurnEnd (J (i+1)) P))
 (done:∀L F,J N L F->P .next ⟨[],L,F⟩):Walk c env target body P xv ⟨T,L,F⟩:=λs g=>xE g λG m=>by
 refine Zu (z s G m) (λQ X g=>D4 g λit I K H e ok Y D=>?_) λE E e=>e;subst e;generalize(ok (c.keep K) hh λp B=>Zk _ B)=h;exact d8 (K:=K) (ae (c:=c.keep K) (N:=N) (it:=it) I vs J (λi L F s G C r m=>h.1 i L F s G C (O _ _ _ r) m) (λL F s G r m=>h.2.1 L F s G (O _ _ _ r) m) (λi v' s σ G m=>h.2.2.1 target i v' s σ G m) (λi L F q v' C r=>u K it q i L F v' C r) done N 0 L F X H (by exact(Y0 _).symm) U ((Ar.keepIn (c:=c.prot it (I 0)) D (λp B=>D.temps p (Y p B):∀p∈K,VR H p.2 p.1)).reset))
end
end
section
section
theorem MR.freeze(m:MR c ⟨T,(a,.list l)::L,F⟩ s):MR c ⟨(.ref a,.lst l)::T,L,F⟩ s:=by
 exact xE m λG m=>Ag (m.freeze (L':=L) ⟨[],L,rfl,rfl⟩) λg j h=>⟨g,h⟩
theorem Ev.freeze{P:α->St->Prop}(h:Ev c ⟨(.ref a,.lst l)::T,L,F⟩ t P):Ev c ⟨T,(a,.list l)::L,F⟩ t P:=λs m=>h s m.freeze
theorem jg(e:h.get? a=Zd M9)(q:NsObj M9):∃m,h.Ns a m:=by
 exact AV q λes g j r=>AZ _ M9 es g e j r (λs=>rfl)
end
end
section
variable{P:Zl->St->Prop}{t:Expr}{rest:Za Zn}
noncomputable abbrev tests(ifs:Za Expr)(cenv:YG):ZN Bool:=N2 ifs Zm λc r=>if r=Zm then do let ok<-isTrue c cenv (Yk c cenv);pure (Us ok)else pure (Us r)
noncomputable abbrev Ix(elt:Expr)(ifs:Za Expr)(e:Expr)(it acc:Zb)(cenv:YG):ZN Fin:=tests ifs cenv>>=λok=>if ok=Zm then((Yk elt cenv>>=λx=>Y8 (.builtin "list.append") [acc,x]>>=λz_=>pure ())>>=λz_=>PB (.compLoop e 0 it acc cenv))else PB (.compLoop e 0 it acc cenv)
section
theorem iq(h:P Zm σ):Ev c σ (tests [] cenv) P:=λs m=>wpAny_tests_nil (mEA σ m h)
theorem My(h:Ev c σ (isTrue t cenv (Yk t cenv)) P):Ev c σ (tests [t] cenv) P:=λs m=>wpAny_tests_one (h s m)
theorem DL{P:Zb->St->Prop}
 (h:Ev c σ (Wn (.ListComp value (⟨target,y6,ifs,0⟩::rest) scope p) scope env (R8 (⟨target,y6,ifs,0⟩::rest) p) (UJ []) Zh (Yk y6 env) Zs) P):Ev c σ (Yk (.ListComp value (⟨target,y6,ifs,0⟩::rest) scope p) env) P:=
 Ev.eq (eval_ListComp ..) h
end
end
section
variable{iter:Expr}{rest:Za Zn}{lpos pt:Xf}{t:Zi}{P:YA->St->Prop}
section
theorem aU(u:Bq env ks)(B:(t,.local)∈ks)
 (hl:(pt.line==lpos.line&& !(scope.names.any λ(n,k)=>n==t&&(k==.local||k==.cell)))=Zm)
 (h:Ev c σ (Wn (.ListComp value (⟨target,iter,ifs,0⟩::rest) scope lpos) scope env (R8 (⟨target,iter,ifs,0⟩::rest) lpos) (UJ []) Zh (Yk iter env) (Zd (WU (.Name t pt) env))) λj g=>P .next g):
 Ev c σ (VW (.Assign [.Name t pt] (.ListComp value (⟨target,iter,ifs,0⟩::rest) scope lpos) p) env) P:=λs m=>by
 have r:XX (.ListComp value (⟨target,iter,ifs,0⟩::rest) scope lpos) (Zd (.Name t pt)) p.line env=pure true:=by
  unfold XX;have hb:env.blockKind=.function:=by unfold Rt;refine Ab u.kind ?_;rfl
  generalize((u.names t _ B).1)=z;simp only[hb,z];rw[Z6]at hl;have A:(pt.line==(Expr.ListComp value (⟨target,iter,ifs,0⟩::rest) scope lpos).pos.line)=true:=hl.1;simp only[A,hl.2];rfl
 refine Ab (Sk _ _ _ _ r ..) (Zg (XC (Zg ?_)));refine(?_:ZZ _ _ (do let _<-Wn (.ListComp value (⟨target,iter,ifs,0⟩::rest) scope lpos) scope env _ (UJ []) Zh (Yk iter env) (Zd (WU (.Name t pt) env))) _ _ s);exact Zg (Zu (h s m) (λj C q=>Zp (Zp q)) λj j e=>e)
theorem MC(u:Bq env ks)(r:(t,.cell)∈ks)
 (h:Ev c σ (Yk (.ListComp value (⟨target,iter,ifs,0⟩::rest) scope lpos) env) λv g=>Ev c g (XY env t v) λz j=>P .next j):
 Ev c σ (VW (.Assign [.Name t pt] (.ListComp value (⟨target,iter,ifs,0⟩::rest) scope lpos) p) env) P:=
 FV h (by
  unfold XX;generalize((u.names t _ r).1)=s;have e:(Zd Xd==Zd NameKind.local)=false:=by rfl
  simp only[s,e,Sw,UN])
end
end
section
variable{x:Zb}{w:Zi}{k:Z7}
theorem Ay.of_get:∀{l:Za V} {xs:Za Zb},xs.length=l.length->(∀(i:Zf) (v:V),l[i]? =Zd v->∃x,xs[i]? =Zd x/\VR G v x)->Ay G l xs:=by
 intro l
 induction l with
 |nil=>intro xs h s;refine Ab (VO.mp h ..) ?_;exact Ay.nil
 |cons v l j=>
  intro xs h k;cases xs with
  |nil=>exact W4 h
  |cons x xs=>
  refine Ag (k 0 v rfl) λy e r=>?_;simp only[Za.getElem?_cons_zero,VZ]at e;subst e;exact Ay.cons r (j (WF h) λi v g=>k (i+1) v g)
section
theorem Fu(e:h.get? a=Zd (Ma items n)):h.IsTuple a items.toArray:=Hi _ e rfl n rfl
theorem jW(hh:c.A.handled=Zs)(hl:(xv,.tup l)∈T):CB c ⟨T,L,F⟩ xv (λi=>(l[i]?).getD .none) l.length λz_=>True:=λs G m=>by
 refine Aq ((m.temps _ hl).zO) λa items n u g r=>?_;subst u;have at_:∀{R:Cx} {H:St} {it q} {B:Gh} {z:Zj},(∀p∈ [(Yn a,V.tup l)],p∈R.Kt)->Ar (R.prot it q) H B z->∃items n,z.heap.get? a=Zd (Ma items n)/\Ay B l items:=λK h=>by
  refine Aq ((h.kept _ (K _ (.head _)):VR _ (.tup l) (.ref a)).zO) λa' items n e g r=>?_;cases e;exact BW items n (h.gsub _ _ g) r
 refine wpAny_pyIter_tuple (Fu (m.gsub _ _ g)) (AZ s.heap.objs.size (λi o=>o.cls=.type "tuple_iterator"/\o.data=.fields #[.ref a,.int i 0]) ([(.ref a,.tup l)]) G rfl ?_ (λp X=>?_) (m.zU ⟨rfl,rfl⟩ rfl))
 ·intro R a1 K;refine Ba ?_ ?_ ?_ ?_
  ·intro i L F z B hi z_ h;refine Cb λPP1 I=>AV (at_ K h) λj n' U P=>Am (h.prot _ (.head _)) λo E D C=>?_;have hv:l[i]? =Zd l[i]:=Za.getElem?_eq_getElem hi;refine Ag (P.get hv) λx ex rx=>I (wpAny_pyNext_tuple_item (it:=s.heap.objs.size) (AU o E D C) (Fu U) (by simpa using ex) λh' Q hs=>Am Q λo2 a0 Y O=>BW x B rfl ?_);have ev:(λi=>(l[i]?).getD V.none) i=l[i]:=by simp[hv]
   exact Ab ev ((h.zN (q':=λo=>o.cls=.type "tuple_iterator"/\o.data=.fields #[.ref a,.int (i+1:Zf) 0]) (tk:=z.toks) hs.extBut a0 ⟨Y,O⟩).zH rx)
  ·intro L F z B z_ h;refine AV (at_ K h) λj n' U P=>Am (h.prot _ (.head _)) λo E D C=>wpAny_pyNext_tuple_end a1 (it:=s.heap.objs.size) (AU o E D C) (Fu U) ?_ λh' hx=>mEA B rfl (h.zM (tk:=z.toks) hx);refine Ab (Za.getElem?_toArray ..) ?_;exact Za.getElem?_eq_none (Ab P.length (ZL _))
  ·intro target i v' z H B h;exact Am (h.prot _ (.head _)) λo E D C=>Cu E D C (by rfl)
  ·intro i z H B h;exact Am (h.prot _ (.head _)) λo E D C=>wpAny_pyIter_tupleiter (it:=s.heap.objs.size) (AU o E D C) ⟨rfl,rfl⟩
 ·rcases Zr.mp X with rfl|X
  ·exact hl
  ·exact(ZT X ZE)
noncomputable def sign(x:Zi)(i:Zf):V:=.str ⟨#[(x.cps[i]?).getD 0]⟩
theorem jX(hh:c.A.handled=Zs)(hl:(xv,.str y)∈T)(Y:y.cps.all (· <128)=Zm):CB c ⟨T,L,F⟩ xv (sign y) y.cps.size λO=>True:=λs G m=>by
 refine xE ((m.temps _ hl).zJ) λt g=>?_;subst g;refine RK Y (AZ s.heap.objs.size (λi o=>o.cls=.type "str_ascii_iterator"/\o.data=.fields #[.str y t,.int i 0]) ([]) G rfl ?_ (λp R=>((ZT R ZE))) (m.zU ⟨rfl,rfl⟩ rfl));intro c' K hk;refine Ba ?_ ?_ ?_ ?_
 ·intro i L F z B P O h;refine Am (h.prot _ (.head _)) λo r u j=>TA (it:=s.heap.objs.size) (AU o r u j) (c:=y.cps[i]) (by simp[P]) λh' D U=>Am D λo2 H E C=>BW _ B rfl ?_;have Q:sign y i=.str ⟨#[y.cps[i]]⟩:=by simp[sign,P]
  exact Ab Q ((h.zN (q':=λo=>o.cls=.type "str_ascii_iterator"/\o.data=.fields #[.str y t,.int (i+1:Zf) 0]) (tk:=z.toks+1) U.extBut H ⟨E,C⟩).zH VR.str)
 ·intro L F z B O h;exact Am (h.prot _ (.head _)) λo r u j=>TW K (it:=s.heap.objs.size) (AU o r u j) (by simp) λh' X=>mEA B rfl (h.zM (tk:=z.toks) X)
 ·intro target i v' z I B h;exact Am (h.prot _ (.head _)) λo r u j=>Cu r u j (by rfl)
 ·intro i z I B h;exact Am (h.prot _ (.head _)) λo r u j=>wpAny_pyIter_striter_ascii (it:=s.heap.objs.size) (AU o r u j) ⟨rfl,rfl⟩
theorem M0(K:c.A.handled=Zs)(Q:(x,.rng n)∈T)(H:n<=16777216)(h:∀v',P v' ⟨(v',.lst ((UO n).map λ(i:Zf)=>V.int (i:Z7)))::T,L,F⟩):Ev c ⟨T,L,F⟩ (Y8 (.type "list") [x]) P:=
 Ev.rw λs G R hR m=>by
  refine Bt (m.temps _ Q) λa t u v r g=>?_;subst r;have D:WV 0 (n:Z7) 1=(n:Z7):=by
   unfold WV;simp only[show(1:Z7)>0 by exact QG _,SU];split<;>lia
  refine call_list_range K (m.gsub _ _ g) (small_one (by exact ZI _) (by exact ZI _) (by exact ZI _) (by exact qa H rfl)) D H λh' tk j O Y U C=>Am (m.aan (tk:=tk) Y (ZL _) U) λI le g' X=>hR _ _ _ ⟨I,X.zH ?_⟩ (h _);refine AG _ j.toList O rfl (by simpa using g') (Ay.of_get (by simp[C.1]) λi v B=>?_);rw[Za.getElem?_map]at B;have z:i<n:=by
   rcases R1 i n with h1|h1
   ·exact h1
   ·rw[Za.getElem?_eq_none (by simpa using h1)]at B;trivial
  rw[Za.getElem?_range z]at B;simp only[QO,VZ]at B;subst B;have E:i<j.size:=by refine Ab C.1 ?_;exact z
  refine xE (C.2 i j[i] (by simp[E])) λt' e'=>mEA (j[i]) (by simp[E]) (Ab e' ?_);have:(0:Z7)+i*1=i:=by lia
  exact Ab this VR.int
theorem aO(z:LstAt T L x l)(H:l.length<=16777216)(h:∀v',P v' ⟨(v',.lst l)::T,L,F⟩):Ev c ⟨T,L,F⟩ (Y8 (.type "list") [x]) P:=
 Ev.rw λs G R E m=>by
  refine Aq (z.get m) λa items n g e r=>?_;subst g;refine Ru a (.inl rfl) e rfl rfl (λh' u D A=>?_) (by show items.toArray.size<=VE;rw[ZR,r.length];exact H);refine Am (m.aan (tk:=s.toks) D (ZL _) A) λj le C B=>E _ _ _ ⟨j,B.zH ?_⟩ (h _);exact AG _ items u rfl C (r.mono le)
theorem M2(A:LstAt T L x l)(E:l.length<=16777216)(h:∀a,P (.ref a) ⟨(.ref a,.ref a)::T,(a,.list l)::L,F⟩):Ev c ⟨T,L,F⟩ (Y8 (.type "list") [x]) P:=
 Ev.rw λs G R D m=>by
  refine Aq (A.get m) λa items n j e r=>?_;subst j;refine Ru a (.inl rfl) e rfl rfl (λh' z C B=>?_) (by show items.toArray.size<=VE;refine Ab ZR ?_;refine Ab r.length ?_;exact E);have m':Ar c ⟨T,(s.heap.objs.size,.list l)::L,F⟩ G {s with heap:=h'}:=by
   have g:=m.grow (h':=h') (tk:=s.toks) C;exact {
    base:=g.base,gsub:=g.gsub,temps:=g.temps,outer:=g.outer,kept:=g.kept,frames:=g.frames
    live:=λp u=>by
     rcases Zr.mp u with rfl|u
     ·exact KZ _ B items z rfl r
     ·exact g.live p u
    prot:=g.prot
    nodup:=Z0.mpr ⟨m.fresh,m.nodup⟩
    apart:=λb hb=>by
     rcases Zr.mp hb with rfl|hb
     ·exact m.zZ
     ·exact m.apart b hb
    gens:=g.gens,os:=g.os,dr:=g.dr}
  exact D _ _ _ ⟨G,m'.zH VR.val⟩ (h _)
theorem M1(A:(x,.tup l)∈T)(H:l.length<=16777216)(h:∀v',P v' ⟨(v',.lst l)::T,L,F⟩):Ev c ⟨T,L,F⟩ (Y8 (.type "list") [x]) P:=
 Ev.raw λs G m=>by
  refine Aq ((m.temps _ A).zO) λa items n j g r=>?_;subst j;refine Ru a (.inr rfl) (m.gsub _ _ g) rfl rfl (λh' z D B=>?_) (by show items.toArray.size<=VE;rw[ZR,r.length];exact H);refine Am (m.aan (tk:=s.toks) D (ZL _) B) λu le E C=>⟨_,⟨u,C.zH ?_⟩,h _⟩;exact⟨_,items,z,rfl,E,r.mono le⟩
theorem mJ(A:(x,.str w)∈T)(z:(b,.int k)∈T)(D:0<=k)(B:k<w.length)(C:w.length<=16777216)(h:∀v',P v' ⟨(v',.str (Oi w k))::T,L,F⟩)
 (j:∀o b,Un target Zh o b=SX [o,b] (SY o b)) (g:∀t r,UV value (.str w t) r=pure ()):Ev c ⟨T,L,F⟩ (XD value target x b) P:=
 Ev.raw λs G m=>by
  obtain⟨t,rfl⟩:=(m.temps _ A).zJ;obtain⟨u,rfl⟩:=(m.temps _ z).zK;exact KXi.item rfl (by lia) B C (λE=>⟨_,⟨G,(m.toks (tk:=s.toks+1)).zH VR.str⟩,h _⟩) (j _ _) (λr=>g _ r)
theorem ru(g:(xv,.str y)∈T)(hb:(b,.int k)∈T)(z:y.length<=16)(C:0<=k)(A:k<=1048576)(h:∀v',P v' ⟨(v',.str (UG y k))::T,L,F⟩):Ev c ⟨T,L,F⟩ (Wy .Mult xv b) P:=
 Ev.raw λs G m=>by
  obtain⟨t,rfl⟩:=(m.temps _ g).zJ;obtain⟨u,rfl⟩:=(m.temps _ hb).zK;exact KXi.mul rfl z (by lia) (by trivial) λB r j j=>⟨_,⟨G,(m.toks (tk:=r)).zH VR.str⟩,h _⟩
end
end
section
variable{rho:Za (Zi×Ze V)}{w f a:Zb}{i:Z7}
section
theorem Ev.conv{P u:α->St->Prop}(h:Ev c σ t P)(k:∀a j,P a j->∃g,(∀s,MR c j s->MR c g s)/\u a g):Ev c σ t u:=λs m=>Zu (h s m) (λa z r=>Ag r λj A p=>Ag (k a j p) λg B C=>mEA g (B z A) C) λD D e=>e
theorem Ia{pos:Xf}(u:Bq env ks)(B:(x,.local)∈ks)(z:(x,Zd (.val w))∈rho)
 (h:P w ⟨(w,.val w)::T,L,⟨env,own,rho⟩⟩):Ev c ⟨T,L,⟨env,own,rho⟩⟩ (Yk (.Name x pos) env) P:=by
 have:=EG (c:=c) (T:=T) (L:=L) (own:=own) (pos:=pos) (P:=λv' g=>g=⟨(v',.val w)::T,L,⟨env,own,rho⟩⟩) u B z λr=>rfl;intro s m;refine Zu (this s m) (λv' D C=>Ag C λg A e=>xE A λG j=>?_) λr r e=>e;subst e;have e:v'=w:=(j.temps _ (.head _):VR G (.val w) v').zI;subst e;exact mEA _ ⟨G,j⟩ h
theorem cF(r:Kp c f)
 (h:Ev c σ (UI (Y6 p (Ym (value::rest) env))) λvs j=>Ev c j (Y8 f vs) P)
 (s:Ym (value::rest) env=(Zh,Yk value env)::Ym rest env) (g:(Y6 p (Ym rest env)).any (·.1)=Zh):Ev c σ (We p f [] (Y6 p (Ym (value::rest) env)) []) P:=FU r h s g
theorem mY(r:Kp c f)
 (h:Ev c σ (UI (Y6 p (Ym (value::rest) env))) λvs j=>Ev c j (Y8 f (v'::vs)) P)
 (s:Ym (value::rest) env=(Zh,Yk value env)::Ym rest env) (g:(Y6 p (Ym rest env)).any (·.1)=Zh):Ev c σ (We p f [v'] (Y6 p (Ym (value::rest) env)) []) P:=FU r h s g
theorem iO(g:Kp c f)(h:Ev c σ (Y8 f [v']) P):Ev c σ (We p f [v'] (Y6 p (Ym [] env)) []) P:=KL g h
theorem pM(j:(a,.int i)∈T)(h:∀v',P v' ⟨(v',.int (-i))::T,L,F⟩):Ev c ⟨T,L,F⟩ (OT .USub a) P:=Ev.rw λs G R r m=>by
 refine xE ((m.temps _ j).zK) λt g=>?_;subst g;exact Ol (r _ _ _ ⟨G,(m.toks (tk:=s.toks+1)).zH VR.int⟩ (h _))
end
end
section
variable{ox:Xp}{tk:QE}{es:Za Zy}{k:Zi}{P:Z9}{l:Za (Zi×V)}{x:Zb}{dx:Zo}{attr:Ze Zb}{expr:Zl}
section
variable{w:Z8}{x:Zo}
set_option tactic.hygienic true in
theorem jd(X:K.In s.heap)
 (I:InstAt s.heap x ox C (Zd (Uu es n))) (u:ox.dict=Zd dx) (D:s.heap.get? dx=Zd (Uu es n)) (G:Qo K C=Zm) (P:PO K C name=Zd Zs) (L:SZ K C=Zm)
 (hl:(O4 name es).isSome=Zm) (hz:(Na name (Xz w.params name) (.str name s.toks) v' es).length<=1000)
 (h:∀h',h'.get? dx=Zd (Uu (Na name (Xz w.params name) (.str name s.toks) v' es) (putN name es n))->Vo dx s.heap h'->R (.ok (.ret .none)) {s with heap:=h',toks:=s.toks+1}):
 XQ (XA prog w) A (.call (.builtin "object.__setattr__") ⟨[.ref x,.str name tk,v'],[]⟩) R s:=by
 refine osa_open X I G P λb=>Cb λT g=>Ag (any_some L) λcd U r=>?_;generalize(putName_dict name (Xz w.params name) (.str name s.toks) v' es n)=e;generalize(by
  refine Bj e ?_;exact Yo.get?_update_self _ D (Ab e (rfl)):(s.heap.update dx (Obj.putName name (Xz w.params name) (.str name s.toks) v')).get? dx=Zd (Uu (Na name (Xz w.params name) (.str name s.toks) v' es) (putN name es n)))=B
 obtain⟨Q,j,hn,-⟩:=I;obtain⟨oc,H,Y,osl⟩:=ox;dsimp only at j u;subst j u;refine g (Zg (Zp (Zg (Zg (SH Q (Zg ((QH X U).here ?_)))))));refine Ab r (Zp (a:=Zd dx) (Zg (Zp (Zg ?_))));unfold nsSet;refine Zg (Zg (Qp (Zp (Zg (TX (Zg (SH D ?_)))))));refine Ab (rfl:(Uu es n).data=.dict es.toArray n) ?_;dsimp only;generalize(by
  refine Bj Qq (Bj Qq ?_);unfold O4 at hl;split at hl
  ·rename_i O E;refine Ab (Xu.mpr (mEA O (Za.mem_of_find?_eq_some E) (Za.find?_some E)) ..) ?_;rfl
  ·split at hl
   ·cases hl
   ·rename_i z;rw[Bool.not_eq_true]at z;rw[z,Sw]:(!es.toArray.any (·.key.isStr name)&&es.toArray.any (·.refKey))=Zh)=c
 refine Ab (aRefKeyMayBeTheName_at ..) ?_;refine Ab (c ..) (Qr D ?_);refine Zg (wpAny_lookBehind B (by exact pastItsLine_dict (by refine Ab (ZR ..) ?_;refine Ab (Y7 ..) ?_;exact q1 hz rfl)) ?_);exact Zp (h _ B (Y3 ..))
end
noncomputable def putD(name:Zi)(v:α):Za (Zi×α)->Za (Zi×α)
 | []=>[(name,v)]
 |(k,u)::r=>if k=name then(k,v)::r else(k,u)::putD name v r
theorem DM{u v:α}{r:Za (Zi×α)}:putD name v ((k,u)::r)=if k=name then(k,v)::r else(k,u)::putD name v r:=rfl
theorem isStr_of{e:Zy}(h:∃t,e.key=.str k t):e.key.isStr name=(k==name):=by
 refine xE h λt e=>Ab e ?_;rfl
theorem GB.find:∀{l:Za (Zi×V)} {es:Za Zy} {name:Zi} {v:V},GB P G l es->l.lookup name=Zd v->∃e,es.find? (·.key.isStr name)=Zd e/\VR G v e.val:=by
 intro l
 induction l with
 |nil=>
  intro s s s s h;trivial
 |cons j l u=>
  intro s name v z h;refine Dh z λe r g A D B C=>?_;subst g;rw[YE]at h;refine Ab (Za.find?_cons ..) ?_;refine Ab (isStr_of A ..) ?_;by_cases q:name=j.1
  ·subst q;simp only[WP]at h⊢;cases h;exact mEA e rfl B
  ·generalize(by simpa using q:(name==j.1)=Zh)=q1;rw[q1]at h;exact Ab (by simpa using λx=>q x.symm:(j.1==name)=Zh) (u C h)
theorem GB.noRef:∀{l:Za (Zi×V)} {es:Za Zy},GB P G l es->es.any (·.refKey)=false:=by
 intro l
 induction l with
 |nil=>
  intro D h;cases h;rfl
 |cons s l z=>
  obtain⟨k,u⟩:=s;intro D A;refine Dh A λe r g j H E B=>?_;subst g;obtain⟨t,C⟩:=j;refine Ab Ui (Ab (z B ..) ?_);simp[O5,C]
theorem GB.aal(h:GB P G l es)(name:Zi):(O4 name es).isSome=true:=by
 unfold O4;split
 ·rfl
 ·refine Ab h.noRef ?_;rfl
theorem GB.length:∀{l:Za (Zi×V)} {es:Za Zy},GB P G l es->es.length=l.length:=by
 intro l
 induction l with
 |nil=>
  intro A h;cases h;rfl
 |cons u l j=>
  intro A s;refine Dh s λe r g B D C z=>?_;subst g;simp[j z]
theorem GB.put(A:VR G D8 x):∀{l:Za (Zi×V)} {es:Za Zy},GB P G l es->GB P G (putD name D8 l) (Na name (Xz P name) (.str name tk) x es):=by
 intro l
 induction l with
 |nil=>
  intro H h;cases h;exact Ck _ ([]) rfl ⟨tk,rfl⟩ rfl A rfl
 |cons s l z=>
  obtain⟨k,u⟩:=s;intro H D;refine Dh D λe r g j C E B=>?_;subst g;rw[DM];unfold Na;rw[isStr_of j];by_cases q:k=name
  ·subst q;rw[if_pos rfl,if_pos (by simp)];exact Ck _ r rfl j C A B
  ·rw[Yc q,Yc (by simpa using q)];exact Ck e _ rfl j C E (z B)
theorem eV(name:Zi)(v:V):∀l:Za (Zi×V),(∀x,x∈(putD name v l).map (·.1)↔x=name∨x∈l.map (·.1)):=by
 intro l
 induction l with
 |nil=>
  intro x;exact Zr
 |cons j l g=>
  intro x;rw[DM];split
  ·rename_i q;subst q;simp only[Z3,Zr];constructor
   ·rintro(h|h)
    ·exact .inl h
    ·exact .inr (.inr h)
   ·rintro(h|h|h)
    ·exact .inl h
    ·exact .inl h
    ·exact .inr h
  ·simp only[Z3,Zr,g x];constructor
   ·rintro(h|h|h)
    ·exact .inr (.inl h)
    ·exact .inl h
    ·exact .inr (.inr h)
   ·rintro(h|h|h)
    ·exact .inr (.inl h)
    ·exact .inl h
    ·exact .inr (.inr h)
theorem Fi(name:Zi)(v:V):∀l:Za (Zi×V),(l.map (·.1)).Nodup->((putD name v l).map (·.1)).Nodup:=by
 intro l
 induction l with
 |nil=>
  intro r;exact Z0.mpr ⟨ZE,X6⟩
 |cons g l j=>
  intro h;rw[Z3,Z0]at h;rw[DM];split
  ·rw[Z3,Z0];exact h
  ·rename_i q;rw[Z3,Z0];refine⟨λm=>?_,j h.2⟩;rcases(eV name v l g.1).mp m with e|e
   ·exact q e
   ·exact h.1 e
theorem Hh(name:Zi)(v:V):∀l:Za (Zi×V),(putD name v l).length<=l.length+1:=by
 intro l
 induction l with
 |nil=>exact by exact YH _
 |cons h l g=>
  rw[DM];split
  ·exact YY _
  ·generalize g=this;simp;omega
def Handed(v:V):Prop:=vC O0 v (a:=λw=>Q4 w=Zm)
theorem Handed.is{v:V}(h:Handed v)(r:VR G v x):Q4 x=true:=by
 cases v with
 |val w=>refine Ab r.zI ?_;exact h
 |int i=>refine xE (r.zK) λt B=>?_;subst B;rfl
 |str s=>refine xE (r.zJ) λt A=>?_;subst A;rfl
 |tup l=>refine Dg (r.zO) λa j j z j=>?_;subst z;rfl
 |lst l=>refine Dg (r.zY) λa j j u j=>?_;subst u;rfl
 |rng n=>refine Bt r λa j j j g j=>?_;subst g;rfl
section
noncomputable abbrev BP(C dx:Zo):Obj:=⟨.ref C,Zd dx,.plain,#[]⟩
theorem EL(m:Ar c ⟨T,L,F⟩ G s)(A:(a,.raw (BP C dx))∈L)(z:(dx,.dict l)∈L):
 ∃es n,s.heap.get? dx=Zd (Uu es n)/\InstAt s.heap a (BP C dx) C (Zd (Uu es n))/\GB c.w.params G l es/\(l.map (·.1)).Nodup:=by
 refine Cb λB h=>Am (m.live _ A) λo e D E=>FF (m.live _ z) λH j u es n g r=>?_;subst g;subst D;exact h (Bw es n j ⟨e,rfl,rfl,j⟩ r u)
theorem iI{v:V}{P:Zb->St->Prop}(X:K.In c.h1)(z:(ov,.ref a)∈T)(R:(a,.raw (BP C dx))∈L)(B:(dx,.dict l)∈L)
 (O:l.lookup name=Zd v) (j:Handed v) (u:Wj K (.ref C) "__getattribute__"=Zd (Zd (.builtin "object.__getattribute__"))) (g:SZ K C=Zm) (Q:Wj K (.ref C) name=Zd attr) (H:noGet K attr=Zm)
 (h:∀v',P v' ⟨(v',v)::T,L,F⟩):Ev c ⟨T,L,F⟩ (Ve ov name expr) P:=Ev.raw λs G m=>by
 generalize((m.temps _ z).zI:ov=.ref a)=D;subst D;refine AF (EL m R B) λes n Y I r U=>?_;refine Ag (r.find O) λe A rv=>?_;generalize(X.keeps m.old)=E;refine get_value E I u (findObj_own g Q H (v:=e.val) ?_) (j.is rv) (mEA _ ⟨G,(m.toks (tk:=s.toks+1)).zH rv⟩ (h _));refine Ab (QI ..) ?_;unfold O4;refine Ab (A ..) ?_;rfl
theorem iz{x:Zo}{P:ZU->St->Prop}(X:K.In c.h1)(D:(ov,.ref x)∈T)(U:(x,.raw (BP C dx))∈L)(R:(v',D8)∈T)
 (u:BS dx (.dict l) (.dict (putD name D8 l)) L L') (O:Wj K (.ref C) "__setattr__"=Zd (Zd (.builtin "object.__setattr__"))) (B:Qo K C=Zm) (H:PO K C name=Zd Zs) (g:SZ K C=Zm) (hz:l.length<=900)
 (h:P () ⟨T,L',F⟩):Ev c ⟨T,L,F⟩ (QW ov name v') P:=Ev.raw λs G m=>by
 have E:ov=.ref x:=(m.temps _ D).zI;subst E;refine AF (EL m U u.mem) λes n e2 I r Q=>?_;generalize(X.keeps m.old)=A;have rv:VR G D8 v':=m.temps _ R;have j:∀tk,(Na name (Xz c.w.params name) (.str name tk) v' es).length<=1000:=λtk=>by
  generalize((GB.put (name:=name) (tk:=tk) rv r).length)=this;refine Ab this ?_;generalize(Hh name D8 l)=this;lia
 refine set_plain A I O (jd (s:={s with toks:=s.toks+1}) A I rfl e2 B H g (r.aal name) (j _) λh' Y z=>?_);refine mEA _ ⟨G,m.change (tk:=s.toks+1+1) u z.extBut Y (Er (Fi name D8 l Q) _ _ rfl (GB.put rv r))⟩ h
end
end
section
variable{attr:Zi}{x dx:Zo}{l:Za (Zi×V)}{cd:Code}{rest:Za Zb}{expr:Zl}
section
theorem eQ{P:YA->St->Prop}
 (h:Ev c σ (Yk target env) λov u=>Ev c u (Ve ov attr Zm) λold B=>Ev c B (Yk value env) λv z=>Ev c z (inplaceOp op old v) λnew r=>Ev c r (QW ov attr new) λj A=>P .next A):
 Ev c σ (VW (.AugAssign (.Attribute target attr p) op value j9) env) P:=λs m=>wpAny_AugAssign_AttributeAny (Zu (h s m) (λov H g=>Ag g λj I R=>Zu (R H I) (λold O g=>Ag g λj C D=>Zu (D O C) (λv L g=>Ag g λj G K=>Zu (K L G) (λnew E g=>Ag g λj T Q=>Q E T) λj j e=>e) λj j e=>e) λj j e=>e) λj j e=>e)
theorem uZ{P:Zb×Za Zb->St->Prop}(X:K.In c.h1)(B:(ov,.ref x)∈T)(Y:(x,.raw (BP C dx))∈L)(D:(dx,.dict l)∈L)
 (j:l.lookup name=Zs) (z:Wj K (.ref C) "__getattribute__"=Zd (Zd (.builtin "object.__getattribute__"))) (O:Wj K (.ref C) "__getattr__"=Zd Zs) (A:Wj K (.ref C) name=Zd (Zd (.ref f))) (H:Su K (.ref f)=Zd (.type "function"))
 (h:P (.ref f,[.ref x]) ⟨(.ref x,.ref x)::T,L,F⟩):Ev c ⟨T,L,F⟩ (XI ov name pl) P:=Ev.raw λs G m=>by
 generalize((m.temps _ B).zI:ov=.ref x)=E;subst E;refine AF (EL m Y D) λes n e2 I r z_=>?_;refine method_fn (X.keeps m.old) I z O A H ?_ (mEA _ ⟨G,m.zH VR.val⟩ h);refine(?_:(lookIn name (Uu es n)).map (·.isSome)=Zd Zh);refine Ab (QI ..) ?_;generalize(by
  intro l
  induction l with
  |nil=>intro es h z_;cases h;rfl
  |cons p l R=>
   obtain⟨k,u⟩:=p;rintro es ⟨e,r,rfl,Q,e2,e3,U⟩ hl;rw[YE]at hl;refine Ab (Za.find?_cons ..) ?_;refine Ab (isStr_of Q ..) ?_;by_cases q:name=k
   ·subst q;simp at hl
   ·have q1:(name==k)=false:=by simpa using q
    have q2:(k==name)=false:=by simpa using λx=>q x.symm
    rw[q1]at hl;refine Ab (q2 ..) ?_;exact R U hl:∀{l:Za (Zi×V)} {es:Za Zy},GB c.w.params G l es->l.lookup name=Zs->es.find? (·.key.isStr name)=Zs)=g
 unfold O4;refine Ab (g r j ..) ?_;simp[r.noRef]
noncomputable def Cx.und(c:Cx)(cd:Code):Cx:={c with A:=c.A.under cd}
theorem Ar.und:Ar (c.und cd) σ G s↔Ar c σ G s:=⟨λm=>⟨m.base,m.gsub,m.temps,m.outer,m.kept,m.frames,m.live,m.prot,m.nodup,m.apart,m.gens,m.os,m.dr⟩,λm=>⟨m.base,m.gsub,m.temps,m.outer,m.kept,m.frames,m.live,m.prot,m.nodup,m.apart,m.gens,m.os,m.dr⟩⟩
theorem r9(X:K.In c.h1)(hm:OV K C=Zm)(U:Wj K (.ref C) "__init__"=Zd (Zd (.ref a)))(E:Su K (.ref a)=Zd (.type "function"))
 (h:∀x dx,Ec (c.und (.builtin "type.__call__" ⟨.ref C::rest,kw⟩)) ⟨(.ref x,.ref x)::T,(x,.raw (BP C dx))::(dx,.dict [])::L,F⟩ (.call (.ref a) ⟨.ref x::rest,kw⟩) λv A=>v=.none/\P (.ref x) A):Ev c ⟨T,L,F⟩ (Y8 (.ref C) rest kw) P:=Ev.raw λs G m=>by
 refine Xg ?_;generalize(X.keeps m.old)=D;generalize(m.push (lo:=.dict []) (o:=W7) (tk:=s.toks) (Er (by exact X6) ([]) 0 rfl rfl))=Q;generalize(Q.push (lo:=.raw (BP C s.heap.objs.size)) (o:=S0 C s.heap.objs.size) (tk:=s.toks) ⟨rfl,rfl⟩)=H;obtain⟨j,g,d,t,os⟩:=s;refine make_core (makes_of D hm) (TY D U) (λB=>OW D B E) (.inl rfl) ?_;have O:Ar (c.und (.builtin "type.__call__" ⟨.ref C::rest,kw⟩)) ⟨(.ref (j.objs.size+1),.ref (j.objs.size+1))::T,(j.objs.size+1,.raw (BP C j.objs.size))::(j.objs.size,.dict [])::L,F⟩ G ⟨(j.push W7).push (S0 C j.objs.size),g,d,t,os⟩:=by
  refine Ar.und.mpr ?_;generalize(H.zH (v':=.ref (j.objs.size+1)) (v:=.ref (j.objs.size+1)) VR.val)=this;simp only[X8]at this;exact this
 refine Xi (h (j.objs.size+1) j.objs.size _ ⟨G,O⟩) λr s' z=>?_;cases r with
 |error e=>exact z.elim
 |ok R=>
  cases R with
  |ret v=>
   refine Am z λA u e p=>?_;obtain⟨I,Y⟩:=u;exact Es e A ⟨I,Ar.und.mp Y⟩ p
  |next=>exact z.elim
  |brk=>exact z.elim
  |cont=>exact z.elim
theorem rm(X:K.In c.h1)(ho:(ov,.ref x)∈T)(U:(x,.raw (BP C dx))∈L)(H:(dx,.dict l)∈L)
 (A:Wj K (.ref C) "__getattribute__"=Zd (Zd (.builtin "object.__getattribute__"))) (Q:Wj K (.ref C) "__getattr__"=Zd Zs) (B:recIn K a "property"=Zd (.ref f::rest))
 (hf:∀es n,PP K C (Zd (Uu es n)) name=Zd (.bind (.builtin "property.__get__") (.ref a)))
 (h:Ec c.in1 ⟨(.ref x,.ref x)::T,L,F⟩ (.call (.ref f) ⟨[.ref x],[]⟩) λv g=>∃r,(v,r)∈g.T/\Handed r/\P v g):Ev c ⟨T,L,F⟩ (Ve ov name expr) P:=Ev.rw λs G R hR m=>by
 have eo:ov=.ref x:=(m.temps _ ho).zI;subst eo;refine AF (EL m U H) λes n e2 I r z_=>?_;have X':=X.keeps m.old;refine Om X' I A (hf es n) Q ?_;have X2:K.In ({s with toks:=s.toks+1}:Zj).heap:=X';refine Xg (prop_get X2 B (Xi (h _ ⟨G,Ar.in1.mpr ((m.toks (tk:=s.toks+1)).zH VR.val)⟩) λY E z=>?_));cases Y with
 |error e=>exact z.elim
 |ok fl=>
  cases fl with
  |ret v=>
   refine Cb λPP3 u=>Ag z λg j q_=>Am q_ λr' hr hh hp=>?_;obtain⟨O,D⟩:=j;refine u ((?_:ZZ _ _ (PC v) _ _ E));exact Ab (handedOut_of (hh.is (D.temps _ hr)) ..) (Zp (hR _ g _ ⟨O,Ar.in1.mp D⟩ hp))
  |next=>exact z.elim
  |brk=>exact z.elim
  |cont=>exact z.elim
end
end
section
section
theorem mB(g:(xv,.str x)∈T)(hb:(b,.str y)∈T)(j:x.length<=16777216)(h:∀v',P v' ⟨(v',.str (Wt x y))::T,L,F⟩):Ev c ⟨T,L,F⟩ (Y8 (.builtin "str.strip") [xv,b]) P:=
 Ev.raw λs G m=>by
  obtain⟨t,rfl⟩:=(m.temps _ g).zJ;obtain⟨u,rfl⟩:=(m.temps _ hb).zJ;exact SC.stripChars (λr k=>⟨_,⟨G,(m.toks (tk:=k)).zH VR.str⟩,h _⟩) j
theorem pL{e:V}(I:(b,.ref a)∈T)(u:BS a (.list (l++[e])) (.list l) L L')(O:l.length<16777216)(h:∀v',P v' ⟨(v',e)::T,L',F⟩):Ev c ⟨T,L,F⟩ (Y8 (.builtin "list.pop") [b]) P:=
 Ev.rw λs G R K m=>by
  have ex:b=.ref a:=(m.temps _ I).zI;subst ex;refine BR (m.live _ u.mem) λo C items n j r=>?_;subst j;have g:=r.length;rw[Zt]at g;refine Ag (r.get (i:=l.length) (v:=e) (by simp)) λy A E=>?_;have H:items=items.take l.length++[y]:=by
   have B:items.length=l.length+1:=by trivial
   conv=>lhs;rw[<-Xx l.length items]
   congr 1
   rw[Yg (by exact Z1 B.symm)];rw[Za.getElem?_eq_getElem (by lia)]at A;rw[Yd A,TT (by exact Z1 B)]
  have rt:=r.take l.length;rw[Uv rfl]at rt;refine Copied.pop_at (y:=y) (hsz:=?_) C ?_ λh' D z=>K _ _ _ ⟨G,(m.change (tk:=s.toks) (ob:=Cz (items.take l.length) (n+1)) u D.extBut ?_ ?_).zH E⟩ (h y)
  ·refine(?_:items.toArray[items.toArray.size-1]? =Zd y);rw[ZR,g,Za.getElem?_toArray];trivial
  ·rw[z,Cz];have:items.toArray.pop=(items.take l.length).toArray:=by
    conv=>lhs;rw[H]
    simp
   rw[this]
  ·exact BW (items.take l.length) (n+1) rfl rt
  ·rw[ZR,g];refine(?_:l.length+1<=VE);rw[Y7];trivial
end
end
section
variable{g0:Zn}{it:Zb}{P:Fin->St->Prop}
section
variable{w:Z8}
theorem NL
 (u:XQ (XA prog w) A (.compLoop (.ListComp value [g0,⟨target,y6,ifs,0⟩] scope p) 1 it v' env) R s)
 (h:ZZ (XA prog w) A (RJ it) (λg j=>XQ (XA prog w) A (.compLoop (.ListComp value [g0,⟨target,y6,ifs,0⟩] scope p) 1 g v' env) R j)
  (notedBy (XA prog w) A env λx j=>R (.error x) j) s):
 XQ (XA prog w) A (.compStart (.ListComp value [g0,⟨target,y6,ifs,0⟩] scope p) 1 it v' env) R s:=by
 refine XT ((?_:ZZ _ _ ((compStart (.ListComp value [g0,⟨target,y6,ifs,0⟩] scope p) 1 it v' env).onRaise (λx=>do Uc x env;Vd theWindowsPlace)) _ _ s));refine wpAny_notedAt ?_;unfold compStart;refine(?_:ZZ _ _ (ask>>=_) _ _ s);refine Zg (Qp (wpAny_ite ?_));split
 ·first
   |exact Zg (Zp (Zp (Ty rfl u)))
   |exact Zp (Ty rfl u)
 ·first
   |exact Zg (TZ (Zg (XC (Zg (Zu h (λg j h'=>Zp (Ty rfl h')) λr r x=>x)))))
   |(refine Zg (TZ ?_);show ZZ _ _ (Vd y6.pos>>=_) _ _ s;exact Zg (XC (Zg (Zu h (λg j h'=>Zp (Ty rfl h')) λr r x=>x))))
end
noncomputable abbrev Ke(elt:Expr)(e:Expr)(it acc:Zb)(cenv:YG):ZN Fin:=(Yk elt cenv>>=λx=>Y8 (.builtin "list.append") [acc,x]>>=λz_=>pure ())>>=λz_=>PB (.compLoop e 1 it acc cenv)
noncomputable abbrev JV(iter:Expr)(e:Expr)(it acc:Zb)(cenv:YG):ZN Fin:=Yk iter cenv>>=λx=>Vd iter.pos>>=λz_=>Vf iter cenv x>>=λx=>TS [x] (RJ x)>>=λit'=>runOwn (.compStart e 1 it' acc cenv) cenv>>=λz_=>PB (.compLoop e 0 it acc cenv)
theorem ur(elt s h t1 g:Expr)(scope:Yh)(pos:Xf)(it acc:Zb)(env:YG):
 R7 (.ListComp elt [⟨s,h,[],0⟩,⟨t1,g,[],0⟩] scope pos) 1 it acc env=(Vd g.pos>>=λj=>Vu it>>=λr=>match r with
  |none=>pure (.done .next)
  |some v=>W6 t1 it v>>=λj=>WU t1 env v>>=λj=>Ke elt (.ListComp elt [⟨s,h,[],0⟩,⟨t1,g,[],0⟩] scope pos) it acc env):=by rfl
section
theorem K3{f:ZU->ZN α}{P:α->St->Prop}(h:Ev c σ (f ()) P):Ev c σ (Vd p>>=f) P:=λs m=>Zg (XC (h s m))
theorem KR(hh:c.A.handled=Zs)(hs:∀x,Vf y8 cenv x=pure x)
 (h:Ev c σ (Yk y8 cenv) λx j=>∃(vs:Zf->V) (N:Zf) (R:Za (Zo×LO)->Prop) (J:Zf->Za (Zo×LO)->Fm->Prop),CB c j x vs N R/\J 0 j.L j.F/\(∀i L F,J i L F->R L)/\
  (∀K g q i L F v',i<N->J i L F->Ev ((c.keep K).prot g q) ⟨[(v',vs i)],L,F⟩ (WU y7 cenv v') λD Q=>Ev ((c.keep K).prot g q) ⟨[],Q.L,Q.F⟩ (Ke value (.ListComp value [⟨target,y6,[],0⟩,⟨y7,y8,[],0⟩] scope j9) (.ref g) (.ref acc) cenv) λfin E=>fin=.again (.compLoop (.ListComp value [⟨target,y6,[],0⟩,⟨y7,y8,[],0⟩] scope j9) 1 (.ref g) (.ref acc) cenv)/\J (i+1) E.L E.F)/\
  (∀L F,J N L F->P (.again (.compLoop (.ListComp value [⟨target,y6,[],0⟩,⟨y7,y8,[],0⟩] scope j9) 0 it (.ref acc) cenv)) ⟨[],L,F⟩)):
 Ev c σ (JV y8 (.ListComp value [⟨target,y6,[],0⟩,⟨y7,y8,[],0⟩] scope j9) it (.ref acc) cenv) P:=by
 refine Ev.bind (h.mono λx j h1=>K3 ?_);refine Ab (hs ..) ?_;refine Bt h1 λvs N R J Y q_=>CC q_ λa0 X C O=>?_;intro s ⟨G,m⟩;refine Zg (Zp (Zg (Yt (Zu (Y s G m) (λitv T B=>D4 B λg I K U e ok hK m2=>?_) λD D e=>e))));subst e;generalize(λp H=>m2.temps p (hK p H):∀p∈K,VR U p.2 p.1)=kx;generalize((Ar.keepIn (c:=c.prot g (I 0)) m2 kx).reset:Ar ((c.keep K).prot g (I 0)) ⟨[],j.L,j.F⟩ U T)=m3;generalize(ok (c.keep K) hh λp H=>Zk _ H)=a1;generalize(IV (c:=c.keep K) J rfl rfl rfl (ur value target y6 y7 y8 scope j9 _ _ _) ok hh (λp H=>Zk _ H) X (λi L F q v' hi hj=>C K g q i L F v' hi hj) N 0 _ _ T U (by exact(Y0 _).symm) a0 m3:XQ c.M c.A (.compLoop (.ListComp value [⟨target,y6,[],0⟩,⟨y7,y8,[],0⟩] scope j9) 1 (.ref g) (.ref acc) cenv) (λr s'=>match r with|.ok D=>∃L F G,Ar (c.keep K) ⟨[],L,F⟩ G s'/\J N L F|.error D=>ZP) T)=u;refine Zg (wpAny_runOwn (h:=Zs) ?_);generalize(rfl:c.A.mark Zs=c.A)=hm;refine Ab (hm ..) ?_;generalize(NL u (by
  refine Zu (a1.2.2.2 0 T _ U m3) (λv s5 B=>xA B λe1 e2=>?_) λD D e=>e.elim;subst e1 e2;exact u))=Og
 refine Xi Og λr s' z=>?_;cases r with
 |error e=>exact z.elim
 |ok f=>
  refine Dg z λL' F' G' m' hj=>?_;exact Zp (mEA _ ⟨G',m'.zQ⟩ (O L' F' hj))
end
end
section
variable{q:Xp->Prop}{K:Tm}
noncomputable abbrev KK(c:Cx):Frag:=kx c.w.params
structure Gd(c:Cx):Prop where
 kx:(KK c).In c.h1
 nolimit:c.h1.NoLimit
 mods:∃o,c.h1.get? Xv=Zd o
 glob:∃mg mb,c.h1.Ns Vj mg/\c.h1.Ns QZ mb/\∀x:Zi,x≠"__name__"->mb x=PL x
theorem Gd.wd(g:Gd c):Wd c:=⟨g.nolimit⟩
noncomputable def gv(K:YJ)(x:Zi):Ze Value:=match nsIn K Vj x with
 |some (Zd v)=>Zd v
 |some Zs=>if x="__name__" then Zs else PL x
 |none=>Zs
section
theorem cD(g:Gd c)(z:Bq env ks)(C:(x,.globalImplicit)∈ks)(j:gv (KK c) x=Zd v')
 (h:P v' ⟨(v',.val v')::T,L,F⟩):Ev c ⟨T,L,F⟩ (Yk (.Name x p) env) P:=
 Ev.raw λs G m=>by
  refine Du (z.names x _ C) λn1 n2 I=>An (g.glob) λD E B hb A=>?_;have hg':s.heap.Ns env.globals D:=by refine Ab z.glob ?_;exact B.keeps m.old
  have hb':s.heap.Ns env.builtins E:=by refine Ab z.bi ?_;exact hb.keeps m.old
  have q:∃r,MR c r s/\P v' r:=mEA _ ⟨G,m.zH VR.val⟩ h;unfold gv at j
  set_option tactic.hygienic true in split at j
  ·rename_i u e;cases j;exact Wu z.kind n1 (Tu hg' (mg_of g.kx B e) q) n2
  ·rename_i e
   set_option tactic.hygienic true in split at j
   ·cases j
   ·rename_i H;exact Wu z.kind n1 (Tj hg' (mg_none_of g.kx B e) hb' ((A x H).trans j) q) n2
  ·cases j
noncomputable abbrev bM:Za (Zi×Zb):=[(Zc "len",Wm "len"),(Zc "range",Y9 "range"),(Zc "list",Y9 "list"),(Zc "sorted",Wm "sorted"),(Zc "isinstance",Wm "isinstance"),(Zc "tuple",Y9 "tuple"),(Zc "dict",Y9 "dict"),(Zc "zip",Y9 "zip"),(Zc "set",Y9 "set"),(Zc "bool",Y9 "bool"),(Zc "iter",Wm "iter"),(Zc "str",Y9 "str"),(Zc "int",Y9 "int"),(Zc "type",Y9 "type"),(Zc "object",Y9 "object"),(Zc "ValueError",Y9 "ValueError"),(Zc "StopIteration",Y9 "StopIteration"),(Zc "deque",Y9 "collections.deque"),
 (Zc "_wall",Yn 44),(Zc "_index",Yn 63),(Zc "StringIO",Yn 597),(Zc "BytesIO",Yn 350),(Zc "shlex",Yn 732),(Zc "_find_unsafe",Yn 737),(Zc "quote",Yn 744),(Zc "_NodeInfo",Yn 763),(Zc "TopologicalSorter",Yn 860),(Zc "_deduplicate_unhashable",Yn 871),(Zc "_compare_args_orderless",Yn 878),
 (Zc "_law_cells",Yn 885),(Zc "_law_names",Yn 892),(Zc "_law_writings",Yn 899),(Zc "_law_drawn",Yn 906),(Zc "_law_text",Yn 913),(Zc "_law_joined",Yn 920),(Zc "_law_plan",Yn 925),(Zc "_law_tokens_due",Yn 932),(Zc "_law_tokens",Yn 939),(Zc "_law_steps",Yn 944),(Zc "_law_late",Yn 949),(Zc "_law_twins",Yn 956),(Zc "_law_folded",Yn 961)]
theorem de(P:Z9):(bM.all λp=>gv (kx P) p.1==Zd p.2)=true:=by kernel_rfl
theorem CH(g:Gd c)(j:Bq env ks)(s:(x,.globalImplicit)∈ks)(r:(x,v')∈bM)
 (h:P v' ⟨(v',.val v')::T,L,F⟩):Ev c ⟨T,L,F⟩ (Yk (.Name x p) env) P:=
 cD g j s (beq_iff_eq.mp (Yj.mp (de _) _ r)) h
structure Ok(c:Cx)(d:Zf):Prop where
 gd:Gd c
 dep:c.A.depth+d<=WS
 han:c.A.handled=Zs
 un:c.A.units+100*d+64<cLine
theorem Ok.room(o:Ok c (d+1)):c.A.depth<recursionLimit:=ZB (YT (YH d)) o.dep
theorem Ok.kx(o:Ok c d):(kx c.w.params).In c.h1:=o.gd.kx
theorem Ok.wd(o:Ok c d):Wd c:=o.gd.wd
theorem Ok.call(o:Ok c (d+1)):Ok (c.call T F env) d:=⟨⟨o.gd.kx,o.gd.nolimit,o.gd.mods,o.gd.glob⟩,dpq rfl o.dep,o.han,unq o.un (by decide)⟩
theorem Ok.prot(o:Ok c d):Ok (c.prot a q) d:=⟨⟨o.gd.kx,o.gd.nolimit,o.gd.mods,o.gd.glob⟩,o.dep,o.han,o.un⟩
theorem Ok.comp(o:Ok c d):Ok (c.comp T F) d:=⟨⟨o.gd.kx,o.gd.nolimit,o.gd.mods,o.gd.glob⟩,o.dep,o.han,o.un⟩
theorem Ok.keep(o:Ok c d):Ok (c.keep K) d:=⟨⟨o.gd.kx,o.gd.nolimit,o.gd.mods,o.gd.glob⟩,o.dep,o.han,o.un⟩
end
end
section
variable{x y a:Zb}{t:ZV}{i:Z7}{w:Zi}{slo shi:Ze Expr}
section
noncomputable def fI(v:Zb):Bool:=mf Zh v (n:=Zm) (b:=λg=>Zm) (t:=λg=>Zm)
noncomputable def MP(v:V):Bool:=vC Zm v (a:=λu=>mf Zm u (u:=Zh))
noncomputable def gr(v:V)(y:Zb):Bool:=match v with
 |.val x=>x==y
 |_=>Zh
theorem kb(D:fI y=Zm)(hb:MP D8=Zm)(r:VR G D8 x):plainIs x y=Zm/\(x==y)=gr D8 y:=by
 have g:∀z:Zb,(∀s,z≠.builtin s)->plainIs z y=true:=λz E=>by
  cases y with
  |none=>cases z<;>first|rfl|exact ZT rfl (E _)
  |bool b=>cases z<;>first|rfl|exact ZT rfl (E _)
  |type t=>cases z<;>first|rfl|exact ZT rfl (E _)
  |_=>cases D
 cases D8 with
 |val w=>
  exact Ab r.zI (⟨g w (λs e=>by subst e;cases hb),rfl⟩)
 |int i=>
  refine xE (r.zK) λt j=>?_;subst j;refine⟨g _ (λs e=>by cases e),?_⟩;cases y<;>first|rfl|cases D
 |str i=>
  refine xE (r.zJ) λt B=>?_;subst B;refine⟨g _ (λs e=>by cases e),?_⟩;cases y<;>first|rfl|cases D
 |tup l=>
  refine Dg (r.zO) λa C C u C=>?_;subst u;refine⟨g _ (λs e=>by cases e),?_⟩;cases y<;>first|rfl|cases D
 |lst l=>
  refine Dg (r.zY) λa C C A C=>?_;subst A;refine⟨g _ (λs e=>by cases e),?_⟩;cases y<;>first|rfl|cases D
 |rng n=>
  refine Bt r λa C C C h C=>?_;subst h;refine⟨g _ (λs e=>by cases e),?_⟩;cases y<;>first|rfl|cases D
theorem xq(g:(a,D8)∈T)(hb:(b,.val y)∈T)(j:fI y=Zm)(z:MP D8=Zm)(h:P (.bool (gr D8 y)) ⟨(.bool (gr D8 y),.bool (gr D8 y))::T,L,F⟩):Ev c ⟨T,L,F⟩ (Yu .Is a b) P:=Ev.raw λs G m=>by
 have e:b=y:=(m.temps _ hb).zI;subst e;exact xA (kb j z (m.temps _ g)) λu r=>wpAny_is_plain u (Ab r (mEA _ ⟨G,m.zH VR.val⟩ h))
theorem mL(g:(a,D8)∈T)(hb:(b,.val y)∈T)(j:fI y=Zm)(A:MP D8=Zm)(h:P (.bool (!gr D8 y)) ⟨(.bool (!gr D8 y),.bool (!gr D8 y))::T,L,F⟩):Ev c ⟨T,L,F⟩ (Yu .IsNot a b) P:=Ev.rw λs G R r m=>by
 have e:b=y:=(m.temps _ hb).zI;subst e;exact xA (kb j A (m.temps _ g)) λz u=>wpAny_isNot_plain z (Ab u (r _ _ _ ⟨G,m.zH VR.val⟩ h))
theorem uW(g:(a,.str name)∈T)(hb:(b,.str line)∈T)(h:P (.bool (ZC line name)) ⟨(.bool (ZC line name),.bool (ZC line name))::T,L,F⟩):Ev c ⟨T,L,F⟩ (Yu .In a b) P:=Ev.raw λs G m=>by
 obtain⟨t,rfl⟩:=(m.temps _ g).zJ;obtain⟨u,rfl⟩:=(m.temps _ hb).zJ;exact PySem.SB.contains ⟨_,⟨G,m.zH VR.val⟩,h⟩
noncomputable def wT(v:V):Ze String:=vC Zs v (i:=λg=>Zd "int") (s:=λg=>Zd "str") (a:=λu=>mf Zs u (n:=Zd "NoneType") (b:=λg=>Zd "bool"))
theorem qS(h:wT D8=Zd t)(r:VR G D8 x):s.TypeIs x t/\(t="int"∨t="str"∨t="NoneType"∨t="bool"):=by
 cases D8 with
 |int i=>cases h;refine xE (r.zK) λt e=>?_;subst e;exact⟨rfl,.inl rfl⟩
 |str i=>cases h;refine xE (r.zJ) λt e=>?_;subst e;exact⟨rfl,.inr (.inl rfl)⟩
 |val w=>
  rw[r.zI];cases w with
  |none=>cases h;exact⟨rfl,.inr (.inr (.inl rfl))⟩
  |bool b=>cases h;exact⟨rfl,.inr (.inr (.inr rfl))⟩
  |_=>exact nj h
 |_=>exact nj h
theorem rk(z:(x,D8)∈T)(u:wT D8=Zd t)(h:P (.type t) ⟨(.type t,.val (.type t))::T,L,F⟩):Ev c ⟨T,L,F⟩ (Y8 (.type "type") [x]) P:=Ev.rw λs G R j m=>by
 refine xA (qS (s:=s) u (m.temps _ z)) λr g=>call_type_of r ?_ (j _ _ _ ⟨G,m.zH VR.val⟩ h);rcases g with rfl|rfl|rfl|rfl<;>rfl
theorem mN(r:(x,.int i)∈T)(h:∀v',P v' ⟨(v',.int i)::T,L,F⟩):Ev c ⟨T,L,F⟩ (Y8 (.type "int") [x]) P:=Ev.rw λs G R j m=>by
 refine xE ((m.temps _ r).zK) λt g=>?_;subst g;exact call_int_int (j _ _ _ ⟨G,m.zH VR.int⟩ (h _))
theorem rB(r:(x,.str w)∈T)(h:∀v',P v' ⟨(v',.int w.length)::T,L,F⟩)(u:w.length<=16777216):Ev c ⟨T,L,F⟩ (Y8 (.builtin "len") [x]) P:=Ev.rw λs G R j m=>by
 refine xE ((m.temps _ r).zJ) λt g=>?_;subst g;exact len_str (by lia) (j _ _ _ ⟨G,(m.toks (tk:=s.toks+1+1)).zH VR.int⟩ (h _))
theorem iw{i:Zb}{a:Zo}{lo hi:Z7}(hx:(x,.str w)∈T)(K:(i,.ref a)∈T)(I:(a,.fields "slice" [.int lo,.int hi,.none])∈L)(hz:w.length<=16777216)
 (ht:∀t r,UV value (.str w t) r=pure ()) (h:∀v',P v' ⟨(v',.str (ST w (Zd lo) (Zd hi)))::T,L,F⟩):Ev c ⟨T,L,F⟩ (XD value (.Slice slo shi Zs p) x i) P:=
 Ev.rw λs G R hR m=>by
  refine Cb λPP2 H=>xE ((m.temps _ hx).zJ) λt D=>?_;subst D;have ei:i=.ref a:=(m.temps _ K).zI;subst ei;refine LX (m.live _ I) λo eo vs A rv=>?_;subst A;refine An rv λx1 Q E Y O=>An O λx2 Q C r2 O=>An O λx3 Q g X j=>?_;subst E;subst C;subst g;subst j;refine xE (Y.zK) λt1 B=>?_;subst B;refine xE (r2.zK) λU z=>?_;subst z;have e3:x3=.none:=X.zI;subst e3;refine H ?_;exact tail_of_ItemOn (At ("str") _ PySem.F.slot_str_getitem.lookup (typeIs_str _ _ _) (wpAny_getItem_str_slice (l:=Zd (lo,t1)) (u:=Zd (hi,U)) (st:=Zs) (AU _ eo rfl rfl) rfl
   (post_val_or_str ⟨Zv (Txt.slice_le w _ _) hz,λt' k=>hR _ _ _ ⟨G,(m.toks (tk:=k)).zH VR.str⟩ (h _)⟩))) rfl (ht t)
theorem M4(O:∀w t r,UV value (.str w t) r=pure ())
 (h:Ev c σ (Yk value env) λx A=>Ev c A (VU (S1 slo env)) λl E=>Ev c E (VU (S1 shi env)) λu g=>(∃xs H C lo hi,LstAt g.T g.L x xs/\(l,H)∈g.T/\(u,C)∈g.T/\Part H lo/\Part C hi/\nonneg lo/\nonneg hi/\xs.length<=16777216/\∀v',P v' ⟨(v',.lst (cut xs lo hi))::g.T,g.L,g.F⟩)∨
  (∃w lo hi,(x,.str w)∈g.T/\(l,.int lo)∈g.T/\(u,.int hi)∈g.T/\w.length<=16777216/\∀v',P v' ⟨(v',.str (ST w (Zd lo) (Zd hi)))::g.T,g.L,g.F⟩)):Ev c σ (Yk (.Subscript value (.Slice slo shi Zs p) j9) env) P:=by
 refine Em (h.mono λx A z=>nb (Ev.mono z λl E B=>Ev.mono B λu g D=>?_));have drop:∀{v:Zb} {r:V} {a:Zo} {lo:LO} {s:Zj},MR c ⟨(v,r)::(Yn a,V.ref a)::g.T,(a,lo)::g.L,g.F⟩ s->MR c ⟨(v,r)::g.T,g.L,g.F⟩ s:=λI=>xE I λG m=>⟨G,m.weak (λq K=>by
  rcases Zr.mp K with rfl|K
  ·exact .head _
  ·exact .tail _ (.tail _ K)) (Wk ..)⟩
 rcases D with⟨xs,H,C,lo,hi,z,B,D,h4,h5,h6,h7,h8,h9⟩|⟨w,lo,hi,z,B,D,h4,h5⟩
 ·refine HZ B D λa=>?_;have Q:LstAt ((Yn a,V.ref a)::g.T) ((a,.fields "slice" [H,C,.none])::g.L) x xs:=by
   rcases z with z|⟨b,hb1,hb2⟩
   ·exact .inl (.tail _ z)
   ·exact .inr (mEA b (.tail _ hb1) (.tail _ hb2))
  exact(iy (c:=c) (F:=g.F) (value:=value) (slo:=slo) (shi:=shi) (p:=p) (P:=λv j=>j=⟨(v,.lst (cut xs lo hi))::(Yn a,V.ref a)::g.T,(a,.fields "slice" [H,C,.none])::g.L,g.F⟩) Q (.head _) (.head _) h4 h5 h6 h7 h8 λv'=>rfl).conv λv j e=>mEA _ (λs m=>drop (e▸m)) (h9 v)
 ·exact HZ B D λa=>(iw (c:=c) (F:=g.F) (value:=value) (slo:=slo) (shi:=shi) (p:=p) (T:=(Yn a,V.ref a)::g.T) (L:=(a,.fields "slice" [.int lo,.int hi,.none])::g.L) (P:=λv j=>j=⟨(v,.str (ST w (Zd lo) (Zd hi)))::(Yn a,V.ref a)::g.T,(a,.fields "slice" [.int lo,.int hi,.none])::g.L,g.F⟩) (x:=x) (i:=.ref a) (a:=a) (w:=w) (lo:=lo) (hi:=hi) (.tail _ z) (.head _) (.head _) h4 (O w) λv'=>rfl).conv λv j e=>mEA _ (λs m=>drop (e▸m)) (h5 v)
theorem rI(j:(a,.str line)∈T)(hb:(b,.none)∈T)(h:P (.bool Zh) ⟨(.bool Zh,.bool Zh)::T,L,F⟩):Ev c ⟨T,L,F⟩ (Yu .Eq a b) P:=Ev.rw λs G R r m=>by
 refine xE ((m.temps _ j).zJ) λt g=>?_;subst g;have e:b=.none:=(m.temps _ hb).zI;subst e;exact Pp (r _ _ _ ⟨G,m.zH VR.val⟩ h)
theorem rJ(g:(a,.none)∈T)(hb:(b,.str line)∈T)(h:P (.bool Zh) ⟨(.bool Zh,.bool Zh)::T,L,F⟩):Ev c ⟨T,L,F⟩ (Yu .Eq a b) P:=Ev.raw λs G m=>by
 obtain⟨t,rfl⟩:=(m.temps _ hb).zJ;generalize((m.temps _ g).zI:a=.none)=e;subst e;exact Pq ⟨_,⟨G,m.zH VR.val⟩,h⟩
theorem rK(g:(a,.none)∈T)(hb:(b,.none)∈T)(h:P (.bool Zm) ⟨(.bool Zm,.bool Zm)::T,L,F⟩):Ev c ⟨T,L,F⟩ (Yu .Eq a b) P:=Ev.raw λs G m=>by
 generalize((m.temps _ g).zI:a=.none)=e;subst e;generalize((m.temps _ hb).zI:b=.none)=e;subst e;exact Ph (mEA _ ⟨G,m.zH VR.val⟩ h)
end
end
section
theorem lg:PlainAttrs "collections.deque":=
 ⟨⟨"collections.deque.__getattribute__",by refine Ab (YF ..) ?_;refine Ab (Ya ..) ?_;kernel_rfl,by decide+kernel⟩,by refine Ab (YF ..) ?_;refine Ab (Ya ..) ?_;kernel_rfl⟩
theorem E2:Ps "collections.deque" "append" "collections.deque.append":=
 .of (owner:="collections.deque") (n:="append") (by refine Ab (YF ..) ?_;refine Ab (Ya ..) ?_;kernel_rfl) (by rfl) (by rfl) (by rfl)
  (by first|exact .inl (by decide+kernel)|exact .inr (by decide+kernel)) (by refine Ab (YN ..) ?_;kernel_rfl)
theorem IS:V1 (.builtin "collections.deque.append")=pure (.type "method_descriptor"):=by refine(?_:SK _=_);refine Ab Vv ?_;kernel_rfl
theorem Ht:Wf UD "collections.deque.append"=Zd Yx.«collections.deque.append»:=YP (by kernel_rfl)
theorem Hl:Ps "collections.deque" "pop" "collections.deque.pop":=
 .of (owner:="collections.deque") (n:="pop") (by refine Ab (YF ..) ?_;refine Ab (Ya ..) ?_;kernel_rfl) (by rfl) (by rfl) (by rfl)
  (by first|exact .inl (by decide+kernel)|exact .inr (by decide+kernel)) (by refine Ab (YN ..) ?_;kernel_rfl)
theorem NA:V1 (.builtin "collections.deque.pop")=pure (.type "method_descriptor"):=by refine(?_:SK _=_);refine Ab Vv ?_;kernel_rfl
theorem Lv:Wf UD "collections.deque.pop"=Zd Yx.«collections.deque.pop»:=YP (by kernel_rfl)
theorem Dp:Ps "collections.deque" "__len__" "collections.deque.__len__":=
 .of (owner:="collections.deque") (n:="__len__") (by refine Ab (YF ..) ?_;refine Ab (Ya ..) ?_;kernel_rfl) (by rfl) (by rfl) (by rfl)
  (by first|exact .inl (by decide+kernel)|exact .inr (by decide+kernel)) (by refine Ab (YN ..) ?_;kernel_rfl)
theorem Lx:Wf UD "collections.deque.__len__"=Zd Yx.«collections.deque.__len__»:=YP (by kernel_rfl)
theorem Kn:Wz (.type "collections.deque") "__bool__"=pure none:=by refine Ab (YF ..) ?_;refine Ab (Ya ..) ?_;kernel_rfl
theorem IT(a b:Zb):RL "collections.deque.append" ⟨[a,b],[]⟩:=by rfl
theorem ND(a:Zb):RL "collections.deque.pop" ⟨[a],[]⟩:=by rfl
theorem NE(a:Zb):RL "collections.deque.__len__" ⟨[a],[]⟩:=by rfl
end
section
variable{w:Z8}{P:Zl->St->Prop}
section
variable{M:QJ}
noncomputable def t7(vs:Za Zb):Obj:={cls:=.type "collections.deque",data:=.fields vs.toArray}
theorem DE{Q:ZD Zb->Zj->Prop}(e:s.heap.get? a=Zd (t7 vs))(h:Q vs.toArray s):ZZ M A (fieldsOf (.ref a)) Q E s:=by
 unfold fieldsOf;exact Zg (Q5 e (Zp h))
theorem NC(e:s.heap.get? a=Zd (t7 vs))(u:vs.length=n+2)(z:n<=16777216)
 (h:Q (.int n (s.toks+1)) {s with toks:=s.toks+1+1}):ZZ (XA prog w) A (Yx.«len» ⟨[.ref a],[]⟩) (λfin j=>∃r,fin=.done (.ret r)/\Q r j) E s:=by
 generalize(mEA _ e rfl:s.TypeIs (.ref a) "collections.deque")=g;unfold Yx.«len»;refine Zg (m:=oneArg "len" _) (Zp ?_);refine Zg (m:=callSpecial? (.ref a) (Zc "__len__")) (wpAny_callSpecial?_slot (name:=Zc "__len__") g Dp
  (XZ Dp g Lx ?_ (NE _)))
 ·refine(?_:ZZ _ _ (Yx.«collections.deque.__len__» ⟨[.ref a],[]⟩) _ _ s);unfold Yx.«collections.deque.__len__»;refine Zg (m:=slotArgs "__len__" 0 _) (Zp ?_);unfold OF;refine Zg (Zg (DE e (Zp ?_)));refine Ab (Ab ZR (Ab u (rfl)):vs.toArray.size-2=n) (Zg (SL (Zp (mEA _ rfl ?_))));refine Zg (Yt (Zp ?_));refine Zg (wpAny_letGo ?_);refine(?_:ZZ _ _ (if((n:Zf):Z7)<0 then _ else _) _ _ _);refine Ab (Yc (by lia) ..) ((?_:ZZ _ _ (if((n:Zf):Z7)>=2^63 then _ else _) _ _ _));exact Ab (Yc (by lia) ..) (Zg (SL (Zp (mEA _ rfl h))))
theorem fV{Q:Zl->Zj->Prop}(e:s.heap.get? a=Zd (t7 vs))(G:vs.length=n+2)(H:n<=16777216)
 (h:Q (n !=0) {s with toks:=s.toks+1+1}):ZZ (XA prog w) A (VL (.ref a)) Q E s:=by
 generalize(mEA _ e rfl:s.TypeIs (.ref a) "collections.deque")=D;generalize(by
  cases n<;>rfl:((n:Z7) !=0)=(n !=0))=z
 generalize(by
  refine wpAny_runValue (YU PySem.entry_len ?_)
  skip
  exact Zu (NC (Q:=λr u=>r=.int n (s.toks+1)/\Q (n !=0) u) e G H ⟨rfl,h⟩)
   (λfin u h'=>by refine Ag h' λr j B=>?_;subst j;exact B) λC C e=>e:ZZ (XA prog w) A (runValue (.builtin "len" ⟨[.ref a],[]⟩)) (λr u=>r=.int n (s.toks+1)/\Q (n !=0) u) E s)=key
 unfold VL
 first
  |refine Zg (wpAny_callSpecial?_none (name:=Zc "__bool__") D Kn ?_)
  |refine Zg (Zp (Zg (wpAny_callSpecial?_none (name:=Zc "__bool__") D Kn ?_)))
 first
  |refine Zg (Uw (name:=Zc "__len__") D Dp.lookup ?_)
  |refine Zg (Zp (Zg (Uw (name:=Zc "__len__") D Dp.lookup ?_)))
 first
  |exact Zg (Zu key (λr u h'=>by refine xA h' λg B=>?_;subst g;exact Zp (z▸B)) λC C e=>e)
  |exact Zg (Zp (Zg (Zu key (λr u h'=>by obtain⟨rfl,B⟩:=h';exact Zp (z▸B)) λC C e=>e)))
noncomputable abbrev gu(n:Z7)(l:Za V):LO:=.fields "collections.deque" (.none::.int n::l)
theorem dk{n:Z7}(m:Ar c ⟨T,L,F⟩ G s)(h:(a,gu n l)∈L):∃t items,s.heap.get? a=Zd (t7 (.none::.int n t::items))/\Ay G l items:=by
 refine Cb λK z=>LX (m.live _ h) λo B vs r rv=>?_;subst r;refine An rv λI P u C D=>An D λO items g E A=>?_;subst u;subst g;refine xE (E.zK) λt j=>?_;subst j;generalize(C.zI:I=.none)=H;subst H;exact z (BW t items B A)
theorem dX{n:Z7}(u:(v',.ref a)∈T)(g:(a,gu n l)∈L)(A:l.length<=16777216)(h:P (!l.isEmpty) ⟨T,L,F⟩):Ev c ⟨T,L,F⟩ (VL v') P:=Ev.rw λs G R z m=>by
 have j:v'=.ref a:=(m.temps _ u).zI;subst j;refine AV (dk m g) λt items e r=>fV (n:=l.length) e (by simp[r.length]) A ?_;have:(l.length !=0)= !l.isEmpty:=by cases l<;>rfl
 exact Ab this (z _ _ _ ⟨G,m.toks⟩ h)
end
end
section
variable{n:Z7}{t:QE}{f:ZD Zb->ZD Zb}{out:Za Zb}{Q:ZU->Zj->Prop}{x:Zb}
section
variable{M:QJ}
theorem Ko(e:s.heap.get? a=Zd (t7 (.none::.int n t::items)))(j:f items.toArray=out.toArray)(r:out.length<=16777216)
 (h:∀h',Vo a s.heap h'->h'.get? a=Zd (t7 (.none::Xj (n+1)::out))->Q () {s with heap:=h'}):ZZ M A (SM (.ref a) f) Q E s:=by
 unfold SM;unfold Ou;unfold R9;refine Zg (Zg (Zg (DE e (Zp ?_))));refine Zp ?_;have g:(λvs:ZD Zb=> #[vs.getD 0 .none,Xj (if Zm=Zm then n+1 else n)]++f (vs.extract 2 vs.size)) (Xn::TB n t::items).toArray=(Xn::Xj (n+1)::out).toArray:=by
  have ex:(Xn::TB n t::items).toArray.extract 2 (Xn::TB n t::items).toArray.size=items.toArray:=by simp
  simp only[ex,j];simp
 refine wpAny_updateFields e rfl ?_ ?_
 ·refine h _ (Y3 _ _ _) (Ab (Yo.get?_update_self _ e rfl ..) ?_);refine(?_:Zd ({cls:=.type "collections.deque",data:=.fields _}:Xp)=_);refine Ab g ?_;rfl
 ·refine Zv (Z1 (ZH Array.size g)) ((?_:(Xn::Xj (n+1)::out).toArray.size<=VE+3))
  skip
  refine(?_:out.length+1+1<=16777216+3);lia
theorem aP(A:(x,.ref a)∈T)(B:(v',D8)∈T)(u:BS a (gu n l) (gu (n+1) (l++[D8])) L L')(C:l.length<16777216)(h:P .none ⟨(.none,.none)::T,L',F⟩):Ev c ⟨T,L,F⟩ (Y8 (.builtin "collections.deque.append") [x,v']) P:=Ev.raw λs G m=>by
 generalize((m.temps _ A).zI:x=.ref a)=ex;subst ex;refine AV (dk m u.mem) λt items j r=>?_;generalize r.length=hl;refine XZ E2 (mEA _ j rfl:s.TypeIs (.ref a) "collections.deque") Ht ?_ (IT _ _);show ZZ _ _ (Yx.«collections.deque.append» ⟨[.ref a,v'],[]⟩) _ _ s;unfold Yx.«collections.deque.append»;refine Zg (m:=selfAndOne "deque.append" _) (Zp ?_);unfold PD;refine Zg (Zg (Ko (out:=items++[v']) j (by simp) (by simp;lia) λh' z g=>?_));unfold Oo R9;refine Zg (Zg (Zg (DE g (Zp ?_))));refine Zp (Zp ?_);refine Zp (Ep _ rfl _ ⟨G,(m.change (tk:=s.toks) u z.extBut g ?_).zH VR.val⟩ h);exact mEA (.none::Xj (n+1)::(items++[v'])) rfl (Ay.cons VR.val (Ay.cons VR.int (r.append (Ay.cons (m.temps _ B) Ay.nil))))
theorem mT{e:V}(I:(x,.ref a)∈T)(u:BS a (gu n (l++[e])) (gu (n+1) l) L L')(O:l.length<16777216)(h:∀v',P v' ⟨(v',e)::T,L',F⟩):Ev c ⟨T,L,F⟩ (Y8 (.builtin "collections.deque.pop") [x]) P:=Ev.raw λs G m=>by
 generalize((m.temps _ I).zI:x=.ref a)=ex;subst ex;refine AV (dk m u.mem) λt items C r=>?_;generalize r.length=hl;obtain⟨g,y,rfl⟩:∃g y,items=g++[y]:=by
  refine gq items.dropLast (items.getLast (λe=>by rw[e]at hl;simp at hl)) ((Wa _).symm)
 generalize(by simp at hl;exact hl:g.length=l.length)=A;generalize(by
  refine Ag (r.get (i:=l.length) (v:=e) (by simp)) λz B E=>?_;rw[<-A]at B;simp at B;refine Ab B ?_;exact E:VR G e y)=H
 generalize(by
  have:=r.take l.length;rw[Uv,<-A,Uv]at this
  ·exact this
  ·rfl
  ·rfl:Ay G l g)=j
 refine XZ Hl (mEA _ C rfl:s.TypeIs (.ref a) "collections.deque") Lv ?_ (ND _);show ZZ _ _ (Yx.«collections.deque.pop» ⟨[.ref a],[]⟩) _ _ s;unfold Yx.«collections.deque.pop»;refine Zg (m:=selfOnly "deque.pop" _) (Zp ?_);unfold S7;refine Zg (Zg (DE C (Zp ?_)));generalize(by
  simp;exact V3 (by simp):(Xn::TB n t::(g++[y])).toArray.extract 2 (Xn::TB n t::(g++[y])).toArray.size=(g++[y]).toArray)=ex
 refine Ab ex (Ab (by simp:(g++[y]).toArray.back? =Zd y) ?_);refine Zg (Ko (out:=g) C (by simp) (by lia) λh' D K=>?_);refine Zp (Ep _ rfl _ ⟨G,(m.change (tk:=s.toks) u D.extBut K ?_).zH H⟩ (h y));exact mEA (.none::Xj (n+1)::g) rfl (Ay.cons VR.val (Ay.cons VR.int j))
theorem pP{P:Zb×Za Zb->St->Prop}(B:(v',.ref a)∈T)(z:(a,gu n l)∈L)(g:Ps "collections.deque" name id)(j:V1 (.builtin id)=pure (.type "method_descriptor"))(h:P (.builtin id,[v']) ⟨T,L,F⟩):Ev c ⟨T,L,F⟩ (XI v' name pl) P:=Ev.raw λs G m=>by
 generalize((m.temps _ B).zI:v'=.ref a)=A;subst A;exact AV (dk m z) λt items u r=>Vg (mEA _ u rfl:s.TypeIs (.ref a) "collections.deque") lg g j (λb hb=>by cases hb;exact mEA _ u rfl) (mEA _ ⟨G,m⟩ h)
end
end
section
theorem lf:mroOf (.type "collections.deque")=pure [.type "collections.deque",.type "object"]:=by refine Ab (mroOf_type ..) ?_;kernel_rfl
theorem J1:Wz (.type "collections.deque") "__new__"=pure (Zd (.builtin "collections.deque.__new__")):=by refine Ab (YF ..) ?_;refine Ab (Ya ..) ?_;kernel_rfl
theorem Ls:Ps "collections.deque" "__init__" "collections.deque.__init__":=
 .of (owner:="collections.deque") (n:="__init__") (by refine Ab (YF ..) ?_;refine Ab (Ya ..) ?_;kernel_rfl) (by rfl) (by rfl) (by rfl)
  (by first|exact .inl (by decide+kernel)|exact .inr (by decide+kernel)) (by refine Ab (YN ..) ?_;kernel_rfl)
theorem fW:TypeCalled "collections.deque" "collections.deque.__new__" "collections.deque.__init__":=
 ⟨by decide+kernel,by decide+kernel,⟨_,_,lf⟩,madeBy_type lf J1 (by decide+kernel),by decide+kernel,by rw[YN];kernel_rfl,Ls⟩
theorem NB:Pt "collections.deque" ⟨[],[]⟩=pure ():=by kernel_rfl
theorem bV:Vm "collections.deque.__new__" ⟨[.type "collections.deque"],[]⟩=pure ():=by kernel_rfl
theorem Lw:Wf UD "collections.deque.__new__"=Zd Yx.«collections.deque.__new__»:=YP (by kernel_rfl)
theorem J3:Wf UD "collections.deque.__init__"=Zd Yx.«collections.deque.__init__»:=YP (by kernel_rfl)
theorem t6:X0 (.type "collections.deque") (.type "collections.deque")=pure true:=by rw[YN];kernel_rfl
theorem Ly(a:Zb):RL "collections.deque.__init__" ⟨[a],[]⟩:=by rfl
noncomputable abbrev lY:Obj:=t7 [.none,Xj 0]
theorem Lu:PF (Yx.«collections.deque.__new__» ⟨[.type "collections.deque"],[]⟩) λg R s=>R (.ok (.ret (.ref s.heap.objs.size))) {s with heap:=s.heap.push lY}:=by
 intro prog w A R s h;unfold Yx.«collections.deque.__new__» P7;refine Zg (Zg (m:=OG (.type "collections.deque")) (Zp (a:=Zm) ?_));refine Zg (XL t6 ?_);refine Zp (Zg ?_);unfold OX;exact Zg (Zp (YR (Zp h)))
theorem J2(a:Zo):PF (Yx.«collections.deque.__init__» ⟨[.ref a],[]⟩) λr R s=>s.heap.get? a=Zd lY/\∀h',Vo a s.heap h'->h'.get? a=Zd lY->R (.ok (.ret .none)) {s with heap:=h'}:=by
 intro prog w A R s ⟨e,h⟩;unfold Yx.«collections.deque.__init__»;refine Zg (Zp ?_);refine Zg (Zp ?_);refine Zg (m:=(pure Xn:ZN Zb)) (Zp ?_);have j:(Rv (·.setIfInBounds 0 .none) lY)=lY:=rfl;refine Zg (UW e rfl (by exact YY _) ?_);have g:(s.heap.update a (Rv (·.setIfInBounds 0 .none))).get? a=Zd lY:=by
  refine Ab (Yo.get?_update_self _ e rfl ..) ?_;refine Ab j ?_;rfl
 refine Zg ?_;unfold Ov S7;refine Zg (Zg (DE (vs:=[.none,Xj 0]) g (Zp ?_)));exact Zp (Zp (h _ (Y3 _ _ _) g))
section
theorem mU(h:∀a,P (.ref a) ⟨(.ref a,.ref a)::T,(a,gu 0 [])::L,F⟩):Ev c ⟨T,L,F⟩ (Y8 (.type "collections.deque") []) P:=Ev.raw λs G m=>by
 refine Q6 (Q₁:=λj g=>j=.ref s.heap.objs.size/\g={s with heap:=s.heap.push lY}) fW NB bV Lw J3 Lu ⟨rfl,rfl⟩ ?_;rintro j g ⟨rfl,rfl⟩;have r:(s.heap.push lY).get? s.heap.objs.size=Zd lY:=Yo.get?_push_size _ rfl;refine⟨⟨_,r,rfl⟩,Ly _,_,J2 _,r,λh' A z=>⟨rfl,?_⟩⟩;generalize(m.push (lo:=gu 0 []) (o:=lY) (tk:=s.toks) (mEA ([.none,Xj 0]) rfl (Ay.cons VR.val (Ay.cons VR.int Ay.nil))))=u;exact mEA _ ⟨G,(u.change (tk:=s.toks) (o':=gu 0 []) BS.head A.extBut z (mEA ([.none,Xj 0]) rfl (Ay.cons VR.val (Ay.cons VR.int Ay.nil)))).zH VR.val⟩ (h _)
end
end
section
open Builtin Builtin.ObjectAttr Builtin.Getset_descriptor
variable{dt:Data}{f:S2->Zl}{r0 rest:Za Zb}
noncomputable def bo(K:YJ)(C:Zo)(g:S2)(sl:ZD (Ze Zb)):Bool:= !g.abstract&& !g.hasDel&&(sl.toList[4]?).join==Zd .none&& !g.mro.isEmpty&&g.mro.contains (.ref C)&&g.mro.contains (.type "object")&&
 Qs K (.ref C) "__call__"==Zd (Zd (.builtin "type.__call__"))&&instIn K (.ref C) (.type "type")==Zd Zm
noncomputable def dC(dt:Data)(f:S2->Zl):Bool:=match dt with
 |.cls g=>f g
 |_=>Zh
theorem tA(e:dC dt f=Zm):∃g,dt=.cls g/\f g=true:=by
 cases dt with
 |cls g=>exact⟨g,rfl,e⟩
 |_=>exact ZK e
noncomputable def EK(K:YJ)(C:Zo):Bool:=match K.lookup C with
 |some o=>dC o.data λg=>bo K C g o.slots
 |none=>Zh
theorem MW(e:EK K C=Zm):∃j h g sl,K.lookup C=Zd ⟨j,h,.cls g,sl⟩/\bo K C g sl=true:=by
 unfold EK at e;revert e;cases K.lookup C with
 |none=>exact ZK
 |some o=>exact λe=>Ag (tA e) λg q e=>⟨o.cls,o.dict,g,o.slots,q▸rfl,e⟩
structure d5(M:QJ)(h:Yo)(C:Zo):Prop where
 obj:∃oc od cd sl,h.get? C=Zd ⟨oc,od,.cls cd,sl⟩/\cd.abstract=Zh/\cd.hasDel=Zh/\cd.mro.isEmpty=Zh
 made:Vq M h (QK (.ref C)) Zs
 self:Vq M h (X0 (.ref C) (.ref C)) Zm
 top:Vq M h (X0 (.ref C) (.type "object")) Zm
 Y8:Vq M h (Qt (.ref C) "__call__") (Zd (.builtin "type.__call__"))
 typ:Vq M h (RM (.ref C) (.type "type")) Zm
theorem Fn{M:QJ}(X:K.In h)(e:EK K C=Zm):d5 M h C:=by
 refine Bt (MW e) λI P j sl z e=>?_
 ·unfold bo at e;simp only[Z6,YQ,Wb]at e;refine Cb λT r=>xA e λg H=>?_;obtain⟨⟨⟨⟨⟨⟨L,U⟩,O⟩,u⟩,D⟩,R⟩,G⟩:=g;generalize(by unfold clsIn;rw[z]:clsIn K C=Zd j)=B;obtain⟨c,l,hl⟩:∃c l,j.mro=c::l:=by cases q:j.mro with|nil=>rw[q]at u;cases u|cons c l=>exact gq c l rfl
  refine r ?_;generalize(by
   intro A Q E s k q;unfold QK;refine Zg (((QH X B).andThen .now:Vq M h (mroOf (.ref C)) j.mro) A _ E s k ?_);rw[hl,Ut];refine Zg (Zg (Zg (Zg (SH (k _ _ (X _ _ z)) (Zp ?_)))));rw[<-ZD.getElem?_toList,O];exact Zp (Zp (Zp q)):Vq M h (QK (.ref C)) Zs)=made
  refine⟨⟨I,P,j,sl,X _ _ z,L,U,u⟩,made,QL X ?_,QL X ?_,looks_specialIn X G,looks_instIn X H⟩
  ·unfold mroIn;rw[B,Ud,Yc (by rw[u];decide),D]
  ·unfold mroIn;rw[B,Ud,Yc (by rw[u];decide),R]
theorem bk{M:QJ}{f:α->ZN β}{a:α}{Q:β->Zj->Prop}(h:∀g:α->Zj->Prop,g a M7->ZZ M A t g E s)(k:ZZ M A (f a) Q E M7):ZZ M A (t>>=f) Q E s:=Zg (h _ k)
section
theorem mF(X:K.In c.h1)(hm:EK K C=Zm)
 (hr:readsIn K C (.type "type")=Zm) (hcl:QV K (.ref C) (.type "type") "__new__"=Zd (.get (.builtin "staticmethod.__get__") (.ref A8) .none (.ref C))) (hp:recIn K A8 "staticmethod"=Zd (.ref it::r0))
 (hi:Wj K (.ref C) "__init__"=Zd (Zd (.ref acc))) (hf:Su K (.ref acc)=Zd (.type "function"))
 (h:Ec (c.und (.builtin "type.__call__" ⟨.ref C::rest,kw⟩)) σ (.call (.ref it) ⟨.ref C::rest,kw⟩) λv g=>∃x dx l,v=.ref x/\(x,.raw (BP C dx))∈g.L/\(dx,.dict l)∈g.L/\
  Ec (c.und (.builtin "type.__call__" ⟨.ref C::rest,kw⟩)) g (.call (.ref acc) ⟨.ref x::rest,kw⟩) λv D=>v=.none/\P (.ref x) D):Ev c σ (Y8 (.ref C) rest kw) P:=Ev.rw λs G R hR m=>by
 refine Xg ?_;have X':=X.keeps m.old;refine Cb λPP2 H=>?_;obtain⟨⟨oc,od,cd,sl,hC,e1,e2,e4⟩,O,self,top,E,typ⟩:=Fn (M:=c.M) X' hm;refine H (XT ?_);refine(?_:ZZ _ _ (V2 (.ref C) _) _ _ _);refine nd_load hC ((?_:ZZ _ _ (Qa (.ref C) _) _ _ _));unfold Qa;refine bk (λQ q=>E.at q) ?_;dsimp only;rw[tc_bind];refine bk (λQ q=>Zp q) (bk (λQ q=>Zp q) ?_);refine Zp (a:=Fin.again (.call (.builtin "type.__call__") ⟨.ref C::rest,kw⟩)) (Ty rfl ?_);refine codeAny_call_builtin_at (YK _ (by decide+kernel)) entry_typeCall (check_slot tc_kind tc_split typ (tc_args _ _ _) ?_);unfold Yx.«type.__call__»;have Y:Vq c.M s.heap (mroOf (.ref C)) cd.mro:=((Uo (part:=Zs) hC).andThen .now).andThen .now;refine W5 rfl (bk (λQ q=>Y.at q) ?_);refine W5 (WC λq=>ZK (e4.symm.trans q)) (bk (λQ q=>O.at q) ?_);have X2:K.In ({s with toks:=s.toks+1}:Zj).heap:=X';refine Zg (cls_bind X' hr hcl (Xg (sm_get X2 hp (TC rfl ?_))));refine Zg (Yt (Xg (Xi (h _ ⟨G,Ar.und.mpr (m.toks (tk:=s.toks+1))⟩) λr s1 z=>?_)));cases r with
 |error e=>exact z.elim
 |ok fl=>
  cases fl with
  |ret v=>
   refine Cb λPP3 U=>Ag z λg A q_=>xE q_ λx q_=>AF q_ λdx l j h1 h2 hE=>?_;obtain⟨G1,m1⟩:=A;subst j;obtain⟨T1,L1,F1⟩:=g;refine AF (EL m1 h1 h2) λes n eD I r Q=>?_;have X1:=X.keeps m1.old;obtain⟨hx,-,-,-⟩:=I;obtain⟨-,-,self1,-,-,-⟩:=Fn (M:=c.M) X1 hm;refine U ?_;have t1:Vq c.M s1.heap (V1 (.ref x)) (.ref C):=(Uo hx).andThen .now;have i1:Vq c.M s1.heap (Wz (.ref C) "__init__") (Zd (.ref acc)):=TY X1 hi;have b1:Vq c.M s1.heap (bindSpecial (.ref acc) (.ref x)) (.ref acc,[.ref x]):=OW X1 _ hf;unfold RM callSpecial? Qt
   repeat (first|with_reducible refine Xg ?_|lk)
   refine Xi (hE s1 ⟨G1,m1⟩) λr s2 z=>?_;cases r with
   |error e=>exact z.elim
   |ok fl=>
    cases fl with
    |ret v=>
     refine Cb λPP4 T=>Am z λD B u A8=>?_;obtain⟨G',m'⟩:=B;subst u;exact T (Zp (Zp (hR _ D _ ⟨G',Ar.und.mp m'⟩ A8)))
    |next=>exact z.elim
    |brk=>exact z.elim
    |cont=>exact z.elim
  |next=>exact z.elim
  |brk=>exact z.elim
  |cont=>exact z.elim
end
end
section
open Builtin Builtin.ObjectAttr Builtin.Getset_descriptor
variable{f:S2->ZN α}{T0:ZV}
section
variable{w:Z8}{g:ZD Q7}{d:OL}{t:Zf}{os:QU}
section
variable{M:QJ}{Q:α->Zj->Prop}{oc:Zb}{od:Ze Zo}{cd:S2}{sl:ZD (Ze Zb)}
theorem fH(g:s.heap.get? C=Zd {cls:=oc,dict:=od,data:=.cls cd,slots:=sl}){f:Zl->ZN α}(k:ZZ M A (f Zm) Q E s):ZZ M A (OG (.ref C)>>=f) Q E s:=by
 repeat (first|exact k|lk)
theorem LH(g:s.heap.get? C=Zd {cls:=oc,dict:=od,data:=.cls cd,slots:=sl})(k:ZZ M A (f cd) Q E s):ZZ M A (classData C>>=f) Q E s:=by
 repeat (first|exact k|lk)
end
theorem vh(Y:d5 (XA prog w) h C)(r:Vq (XA prog w) h (Rq "object.__new__" (.ref C)) ())(chk:Vq (XA prog w) h (Vm "object.__new__" ⟨[.ref C],[]⟩) ())
 (H:R (.ok (.ret (.ref (h.objs.size+1)))) ⟨(h.push W7).push (S0 C h.objs.size),g,d,t,os⟩):
 XQ (XA prog w) A (.call (.builtin "object.__new__") ⟨[.ref C],[]⟩) R ⟨h,g,d,t,os⟩:=by
 refine Cb λL j=>?_;obtain⟨⟨oc,od,cd,sl,u,I,O,P⟩,B,D,top,Y8,G⟩:=Y;refine j ?_;generalize PySem.F.objNew=F;refine codeAny_call_builtin_code (YK _ F.quiet) (chk.here ?_);refine YU F.entry ?_;unfold Yx.«object.__new__»;generalize(Yo.get?_push_of_some (S0 C (h.push W7).objs.size.pred) (Yo.get?_push_of_some W7 u))=K;generalize(by
  intro E;refine(?_:ZZ _ _ ((alloc W7>>=λx=>pure (Zd x))>>=_) _ _ _);refine Zg (Zg (Sz (Zp (Zg ?_))));refine(?_:ZZ _ _ (newObjAsIs _ _ _) _ _ _);unfold newObjAsIs classHasDel;refine Zg (Sz (Zg (Zg (Q5 (Yo.get?_push_of_some _ (Yo.get?_push_of_some _ u)) (Zp ?_)))));rw[O];refine Zp (Zp ?_);refine(?_:R _ _);rw[X8];exact H:∀E,ZZ (XA prog w) E (do
   let d<-if typeHasDict (.ref C)then Zd<$>alloc {cls:=.type "dict",data:=.dict #[]}else pure Zs
   ret (<-newObj (.ref C) .plain d)) (λfin s=>match fin with|.done f=>R (.ok f) s|.again z=>z.quiet=Zm/\XQ (XA prog w) A z R s) (λe s=>R (.error e) s) ⟨h,g,d,t,os⟩)=fin
 refine fH u (W5 rfl ?_);refine Zg (r.at ?_);refine W5 rfl (LH u ?_);exact W5 (WC λq=>ZK (I.symm.trans q)) (fin _)
end
section
theorem iB{r:α}{P:α->St->Prop}(X:K.In c.h1)(e:Qk K ⟨c.M.prog,c.M.w.params⟩ t=Zd r)(h:P r ⟨T,L,F⟩):Ev c ⟨T,L,F⟩ t P:=Ev.raw λs G m=>(Xc (X.keeps m.old) e).here (mEA _ ⟨G,m⟩ h)
theorem iQ{o:Xp}{P:Zo->St->Prop}(g:o.isFreed=Zh)(h:∀a,P a ⟨(.ref a,.val (.ref a))::T,L,F⟩):Ev c ⟨T,L,F⟩ (alloc o) P:=Ev.rw λs G R r m=>by
 exact Am (m.zP (o:=o) (tk:=s.toks) g) λj le z u=>Sz (r _ _ _ ⟨j,u.zH VR.val⟩ (h _))
theorem rE{P:Zb×Za Zb->St->Prop}(r:V1 (.type T0)=pure (.type "type"))(u:Sd T0=Zh)(e:QV [] (.type T0) (.type "type") name=Zd (.val v'))(g:Q4 v'=Zm)
 (h:P (v',[]) ⟨T,L,F⟩):Ev c ⟨T,L,F⟩ (XI (.type T0) name pl) P:=Ev.raw λs G m=>by
 exact Ag (m.frames.1.ns) λz j A=>method_type (⟨j,λb o e=>by simp[Yo.get?]at e,XG _⟩:Fr (h₀:={}) F.env.locals s.heap z) (K:=[]) (λa o e=>by cases e) r u e g (mEA _ ⟨G,m.toks (tk:=s.toks+1)⟩ h)
theorem iC(X:K.In c.h1)(r:EK K C=Zm)(z:Qk K ⟨c.M.prog,c.M.w.params⟩ (Rq "object.__new__" (.ref C))=Zd ())(B:Qk K ⟨c.M.prog,c.M.w.params⟩ (Vm "object.__new__" ⟨[.ref C],[]⟩)=Zd ())
 (h:∀x j,P (.ref x) ⟨(.ref x,.val (.ref x))::T,(x,.raw (BP C j))::(j,.dict [])::L,F⟩):Ev c ⟨T,L,F⟩ (Y8 (.builtin "object.__new__") [.ref C]) P:=Ev.raw λs G m=>by
 refine Xg ?_;generalize(X.keeps m.old)=g;generalize(m.push (lo:=.dict []) (o:=W7) (tk:=s.toks) (Er (by exact X6) ([]) 0 rfl rfl))=A;generalize(A.push (lo:=.raw (BP C s.heap.objs.size)) (o:=S0 C s.heap.objs.size) (tk:=s.toks) ⟨rfl,rfl⟩)=u;refine vh (Fn g r) (Xc g z) (Xc g B) (mEA _ ⟨G,?_⟩ (h (s.heap.objs.size+1) s.heap.objs.size));generalize(u.zH (v':=.ref (s.heap.objs.size+1)) (v:=.val (.ref (s.heap.objs.size+1))) VR.val)=this;simp only[X8]at this;exact this
end
end
section
variable{a:Zb}{u:QE}{ss:Za Zi}
section
theorem eI(g:(a,.str x)∈T)(h:P (.bool Zm) ⟨(.bool Zm,.bool Zm)::T,L,F⟩):Ev c ⟨T,L,F⟩ (Y8 (.builtin "isinstance") [a,.type "str"]) P:=Ev.raw λs G m=>by
 obtain⟨t,rfl⟩:=(m.temps _ g).zJ;exact S8 (Tx:="str") rfl (rfl:V1 (.type "str")=pure (.type "type")) PySem.F.sub_str_str ⟨_,⟨G,m.zH VR.val⟩,h⟩
theorem eG(u:(a,.tup l)∈T)(h:P (.bool Zm) ⟨(.bool Zm,.bool Zm)::T,L,F⟩):Ev c ⟨T,L,F⟩ (Y8 (.builtin "isinstance") [a,.type "tuple"]) P:=Ev.raw λs G m=>by
 refine Aq (m.temps _ u) λb items n j g r=>?_;subst j;exact S8 (Tx:="tuple") (mEA _ (m.gsub _ _ g) rfl) (rfl:V1 (.type "tuple")=pure (.type "type")) AutoSeq1.sub_tuple_tuple (mEA _ ⟨G,m.zH VR.val⟩ h)
theorem iE(g:(a,.str y)∈T)(hb:(b,.str x)∈T)(h:P (.bool (!ZC x y)) ⟨(.bool (!ZC x y),.bool (!ZC x y))::T,L,F⟩):Ev c ⟨T,L,F⟩ (Yu .NotIn a b) P:=Ev.raw λs G m=>by
 obtain⟨t,rfl⟩:=(m.temps _ g).zJ;obtain⟨u,rfl⟩:=(m.temps _ hb).zJ;exact PySem.SB.notContains ⟨_,⟨G,m.zH VR.val⟩,h⟩
noncomputable def eqStr(y:Zi)(v:Zb):Bool:=mf Zh v (s:=λx=>x==y)
theorem Gv:∀{ss:Za Zi} {xs:Za Zb},Ay G (ss.map .str) xs->xs.any (eqStr y)=ss.any (· ==y):=by
 intro ss
 induction ss with
 |nil=>
  intro r e;revert e;refine(?_:(_=_)->_);intro e;subst e;rfl
 |cons s ss g=>
  intro r e;obtain⟨x,ys,rfl,j,h⟩:=e;obtain⟨t,rfl⟩:=j.zJ;refine Ab Ui (Ab Ui ?_);refine Ab (g h ..) ?_;rfl
theorem HI:∀{ss:Za Zi} {xs:Za Zb},Ay G (ss.map .str) xs->∀v∈xs,SeqAt.EqAt A s v (.str y u) (eqStr y v):=by
 intro ss
 induction ss with
 |nil=>
  intro h e v g;revert e;refine(?_:(_=_)->_);intro e;subst e;cases g
 |cons h h j=>
  intro h e v g;obtain⟨x,ys,rfl,z,r⟩:=e;obtain⟨t,rfl⟩:=z.zJ;rcases Zr.mp g with rfl|g
  ·exact OH _ _ _ _
  ·exact j r v g
theorem uV(z:(a,.str y)∈T)(hb:(b,.tup (ss.map .str))∈T)(h:P (.bool (ss.any (· ==y))) ⟨(.bool (ss.any (· ==y)),.bool (ss.any (· ==y)))::T,L,F⟩):Ev c ⟨T,L,F⟩ (Yu .In a b) P:=Ev.rw λs G R B m=>by
 refine xE ((m.temps _ z).zJ) λt j=>?_;subst j;refine Aq (m.temps _ hb) λq items n u g r=>?_;subst u;refine SeqAt.in_tupleAt (eqStr y) (Hi _ (m.gsub _ _ g) rfl n rfl) (λv A=>HI r v (by simpa using A)) (Ab Ue ?_);exact Ab (Gv r ..) (B _ _ _ ⟨G,m.zH VR.val⟩ h)
theorem iD(z:(a,.str y)∈T)(hb:(b,.tup (ss.map .str))∈T)(h:P (.bool (!ss.any (· ==y))) ⟨(.bool (!ss.any (· ==y)),.bool (!ss.any (· ==y)))::T,L,F⟩):Ev c ⟨T,L,F⟩ (Yu .NotIn a b) P:=Ev.raw λs G m=>by
 refine xE ((m.temps _ z).zJ) λt j=>?_;subst j;refine Aq (m.temps _ hb) λq items n u g r=>?_;subst u;refine SeqAt.notIn_tupleAt (eqStr y) (Hi _ (m.gsub _ _ g) rfl n rfl) (λv A=>HI r v (by exact A.1)) (Ab Ue ?_);exact Ab (Gv r ..) (mEA _ ⟨G,m.zH VR.val⟩ h)
theorem uX(z:(a,.str y)∈T)(hb:LstAt T L b (ss.map .str))(h:P (.bool (ss.any (· ==y))) ⟨(.bool (ss.any (· ==y)),.bool (ss.any (· ==y)))::T,L,F⟩):Ev c ⟨T,L,F⟩ (Yu .In a b) P:=Ev.rw λs G R A m=>by
 refine xE ((m.temps _ z).zJ) λt u=>?_;subst u;refine Aq (hb.get m) λq items n j g r=>?_;subst j;refine SeqAt.in_listAt (eqStr y) (Hi _ g rfl n rfl) (λv B=>HI r v (by exact B.1)) (Ab Ue ?_);exact Ab (Gv r ..) (A _ _ _ ⟨G,m.zH VR.val⟩ h)
theorem iF(z:(a,.str y)∈T)(hb:LstAt T L b (ss.map .str))(h:P (.bool (!ss.any (· ==y))) ⟨(.bool (!ss.any (· ==y)),.bool (!ss.any (· ==y)))::T,L,F⟩):Ev c ⟨T,L,F⟩ (Yu .NotIn a b) P:=Ev.rw λs G R A m=>by
 refine xE ((m.temps _ z).zJ) λt j=>?_;subst j;refine Aq (hb.get m) λq items n u g r=>?_;subst u;refine SeqAt.notIn_listAt (eqStr y) (Hi _ g rfl n rfl) (λv B=>HI r v (by simpa using B)) (Ab Ue ?_);exact Ab (Gv r ..) (A _ _ _ ⟨G,m.zH VR.val⟩ h)
end
end
section
open PyProof.V PySem.SeqAt
variable{ns:Za Zi}{a:Zb}
theorem ES:∀{ss:Za Zi} {xs:Za Zb},Ay G (ss.map .str) xs->ReadsAll h xs (ss.map Wc) []:=by
 intro ss
 induction ss with
 |nil=>
  intro u e;revert e;refine(?_:(_=_)->_);intro e;subst e;exact .nil
 |cons s ss g=>
  intro u e;obtain⟨x,ys,rfl,r,j⟩:=e;obtain⟨t,rfl⟩:=r.zJ;generalize(Pv (Reads.str (h:=h) s t) (g j))=this;trivial
theorem Hu:∀ns:Za Zi,(∀x∈ns,Wi x=Zm)->Tg (ns.map Wc)=true:=by
 intro ns
 induction ns with
 |nil=>
  intro s;rfl
 |cons n r g=>
  intro h;simp[Tg,V5,h n (.head _),g λx j=>h x (.tail _ j)]
theorem J7:∀ns:Za Zi,Ux (ns.map Wc)<=1:=by
 intro ns
 induction ns with
 |nil=>exact by exact XG _
 |cons n r g=>
  generalize g=this;simp only[Z3,Ux,W0];trivial
theorem Hf(g:∀x∈ns,Wi x=Zm):shaped (.list (ns.map Wc))=true:=by
 generalize(J7 ns)=j;generalize(by simp only[W0];exact q4 j rfl:W0 (.list (ns.map Wc))<=64)=h;refine(?_:(V5 (.list (ns.map Wc))&&decide (W0 (.list (ns.map Wc))<=64))=Zm);refine Ab (Z6 ..) ?_;exact⟨by simp only[V5];exact Hu ns g,Yl h⟩
theorem bh(ns:Za Zi):∀g:Za Zi,noMixAll (ns.map Wc) (g.map Wc)=true:=by
 induction ns with
 |nil=>intro g;cases g with|nil=>rfl|cons k q=>rfl
 |cons n r h=>intro g;cases g with|nil=>rfl|cons k q=>exact h q
theorem dM(ns:Za Zi):∀g:Za Zi,UZ (ns.map Wc) (g.map Wc)=decide (ns=g):=by
 induction ns with
 |nil=>intro g;cases g with|nil=>rfl|cons k q=>rfl
 |cons n r h=>
  intro g;cases g with
  |nil=>rfl
  |cons k q=>
   refine(?_:(decide (n=k)&&UZ (r.map Wc) (q.map Wc))=_);refine Ab (h ..) ?_;exact(Bool.decide_and ..).symm.trans (decide_eq_decide.mpr List.cons_eq_cons.symm)
section
theorem uT(C:c.A.units+64<cLine)(D:∀x∈B8,Wi x=Zm)(B:∀x∈B9,Wi x=Zm)(I:LstAt T L a (B8.map .str))(hb:LstAt T L b (B9.map .str))(h:P (.bool (!decide (B8=B9))) ⟨(.bool (!decide (B8=B9)),.bool (!decide (B8=B9)))::T,L,F⟩):Ev c ⟨T,L,F⟩ (Yu .NotEq a b) P:=Ev.rw λs G R K m=>by
 refine Aq (I.get m) λq items n j g r=>?_;subst j;refine Aq (hb.get m) λq2 z n2 u H E=>?_;subst u;exact Pw (RN g rfl rfl (by simpa using ES r)) (RN H rfl rfl (by simpa using ES E)) (Hf D) (Hf B) C (by simp only[noMix];exact bh B8 B9) (by simp only[QT];refine Ab (dM ..) ?_;exact K _ _ _ ⟨G,m.zH VR.val⟩ h)
end
theorem Ek:∀{n:Zf} {xs:Za Zb},Ay G (Yb n V.none) xs->ReadsAll h xs (Yb n Wp) []:=by
 intro n
 induction n with
 |zero=>
  intro s e;revert e;refine(?_:(_=_)->_);intro e;subst e;exact .nil
 |succ n j=>
  intro s e;obtain⟨x,ys,rfl,g,r⟩:=e;generalize(g.zI:x=.none)=g;subst g;generalize(Pv (Reads.none (h:=h)) (j r))=this;trivial
theorem GY:∀n:Zf,Tg (Yb n Wp)=true:=by
 intro n
 induction n with
 |zero=>exact by rfl
 |succ n g=>exact by trivial
theorem IU:∀n:Zf,Ux (Yb n Wp)<=1:=by
 intro n
 induction n with
 |zero=>exact by exact XG _
 |succ n g=>
  generalize g=this;simp only[UF,Ux,W0];trivial
theorem FR(n:Zf):shaped (.list (Yb n Wp))=true:=by
 generalize(IU n)=g;generalize(by simp only[W0];exact q4 g rfl:W0 (.list (Yb n Wp))<=64)=h;show(V5 (.list (Yb n Wp))&&decide (W0 (.list (Yb n Wp))<=64))=Zm;refine Ab (Z6 ..) ?_;exact⟨by simp only[V5];exact GY n,Yl h⟩
theorem MT:∀n:Zf,noMixAll (Yb n Wp) (Yb n Wp)=true:=by
 intro n
 induction n with
 |zero=>exact by rfl
 |succ n g=>exact by trivial
theorem aH:∀n:Zf,UZ (Yb n Wp) (Yb n Wp)=true:=by
 intro n
 induction n with
 |zero=>exact by rfl
 |succ n g=>exact by trivial
section
theorem eE(B:c.A.units+64<cLine)(E:LstAt T L a (Yb n V.none))(hb:LstAt T L b (Yb n V.none))(h:P (.bool Zh) ⟨(.bool Zh,.bool Zh)::T,L,F⟩):Ev c ⟨T,L,F⟩ (Yu .NotEq a b) P:=Ev.rw λs G R H m=>by
 refine Aq (E.get m) λq items k j g r=>?_;subst j;refine Aq (hb.get m) λq2 z I u D C=>?_;subst u;exact Pw (RN g rfl rfl (by simpa using Ek r)) (RN D rfl rfl (by simpa using Ek C)) (FR n) (FR n) B (by simp only[noMix];exact MT n) (by simp only[QT];refine Ab (aH ..) ?_;exact H _ _ _ ⟨G,m.zH VR.val⟩ h)
end
end
section
variable{x:Zb}{n:Z7}
section
theorem ip(hl:LstAt T L x l)(B:l.length<=16777216)(h:∀v',P v' ⟨(v',.tup l)::T,L,F⟩):Ev c ⟨T,L,F⟩ (Y8 (.type "tuple") [x]) P:=Ev.raw λs G m=>by
 refine Aq (hl.get m) λa items n j e r=>?_;subst j;refine call_tuple_list (As e) (λh' A=>?_) (Ab ZR (Ab r.length (Ab Y7 (B))));exact Am ((m.grow (tk:=s.toks) A).zP (o:=Ma items 0) (tk:=s.toks) rfl) λu le g z=>mEA _ ⟨u,z.zH (VR.tup g (r.mono le))⟩ (h _)
theorem mX(B:(x,.ref a)∈T)(u:BS a (.list l) (.list []) L L')(C:l.length<=16777216)(h:P .none ⟨(.none,.none)::T,L',F⟩):Ev c ⟨T,L,F⟩ (Y8 (.builtin "list.clear") [x]) P:=Ev.rw λs G R z m=>by
 have ex:x=.ref a:=(m.temps _ B).zI;subst ex;refine BR (m.live _ u.mem) λo j items n g r=>?_;subst g;refine Ug VV (mEA _ j rfl) PySem.F.entry_list_clear (PySem.F.args_list_clear_1 _) (AutoSeq1.list_clear_list_0 a items.toArray n (Ab ZR (Ab r.length (Ab Y7 (C))))) ⟨j,?_⟩;refine z _ _ _ ⟨G,(m.change (tk:=s.toks) (ob:=T7 (λA=> #[]) (Cz items n)) u (Y3 _ _ _).extBut (Yo.get?_update_self (T7 λA=> #[]) j rfl) (BW ([]) _ rfl Ay.nil)).zH VR.val⟩ h
theorem k7(x:Zb):∀(n:Zf) (acc:ZD Zb),Pd (λh j=>h++j) acc (Yb n #[x])=acc++(Yb n x).toArray:=by
 intro n
 induction n with
 |zero=>
  intro acc;rfl
 |succ n g=>
  intro acc;refine Ab (UF ..) ?_;refine Ab (g ..) ?_;refine Ab (UF ..) ?_;apply OJ;simp
theorem pE(h:VR G D8 x):∀n:Zf,Ay G (Yb n D8) (Yb n x):=by
 intro n
 induction n with
 |zero=>exact Ay.nil
 |succ n g=>exact Ay.cons h (g)
theorem rz(O:LstAt T L xv [D8])(hb:(b,.int n)∈T)(H:0<=n)(C:n<=100000)(h:∀v',P v' ⟨(v',.lst (Yb n.toNat D8))::T,L,F⟩):Ev c ⟨T,L,F⟩ (Wy .Mult xv b) P:=Ev.rw λs G R Q m=>by
 refine Aq (O.get m) λl items k B hl r=>?_;subst B;refine xE ((m.temps _ hb).zK) λu z=>?_;subst z;refine An r λx X j I A=>?_;subst j;subst A;refine wpAny_binaryOp_repeat_ref (T:="list") (U:="int") (by decide) (mEA _ hl rfl) (λD=>typeIs_int D n u) noFill_list_mul PySem.F.fills_int_mul Sm repeat_list PySem.F.slot_int_index.lookup
  (Ug Sm (typeIs_int s n u) PySem.F.entry_int_rmul (PySem.F.args_int_rmul_2 _ _) (int___rmul___int_list n u l [x].toArray k)
   ⟨hl,rfl,⟨_,hl,rfl⟩,Ug PySem.F.slot_list_mul (mEA _ hl rfl) PySem.F.entry_list_mul (PySem.F.args_list_mul_2 _ _)
    (RU l [x].toArray k n u (λe=>XW ((ZH not (Zl.and_eq_true_iff.mpr ⟨Yl (RW (by decide) H),Yl (Z7.lt_of_le_of_lt C (by decide))⟩:Pf n=Zm)).symm.trans e)) (Ws.mpr (Zv (Z1 (Zf.one_mul _)) (Zv (zg C) (Zw rfl)))) (by simp[Px,VE];omega))
    ⟨hl,?_⟩⟩)
 refine Ab ((rfl:(if(#[x]:ZD Zb).isEmpty=Zm then 0 else n.toNat)=n.toNat) ..) ?_;refine Ab (k7 ..) ?_;refine Am (m.zP (o:=Cz (Yb n.toNat x) 0) (tk:=s.toks) rfl) λE le g K=>?_;have e:(#[]:ZD Zb)++(Yb n.toNat x).toArray=(Yb n.toNat x).toArray:=by simp
 refine Ab (e ..) ?_;exact Q _ _ _ ⟨E,K.zH (VR.lst g ((pE I _).mono le))⟩ (h _)
theorem mW(h:∀a,P (.ref a) ⟨(.ref a,.ref a)::T,(a,.dict [])::L,F⟩):Ev c ⟨T,L,F⟩ (Yk (.Dict [] [] p) env) P:=Ev.raw λs G m=>by
 exact wpAny_Dict_empty (mEA _ ⟨G,(m.push (lo:=.dict []) (o:=W7) (tk:=s.toks) (Er (by exact X6) ([]) 0 rfl rfl)).zH VR.val⟩ (h _))
end
end
section
variable{a:Expr}{r args:Za Expr}{w:ZN Zb}
noncomputable def isStar(e:Expr):Bool:=ZX e.ctorIdx 22
noncomputable def cE(e:Expr):Expr×Bool:=e.casesOn (λg g g=>(e,Zh)) (λg g g=>(e,Zh)) (λg g g g=>(e,Zh)) (λg g g=>(e,Zh)) (λg g g g=>(e,Zh)) (λg g g g=>(e,Zh)) (λg g g=>(e,Zh)) (λg g g=>(e,Zh)) (λg g g g=>(e,Zh)) (λg g g g=>(e,Zh)) (λg g g g g=>(e,Zh)) (λg g g g=>(e,Zh)) (λg g=>(e,Zh)) (λg g=>(e,Zh)) (λg g=>(e,Zh)) (λg g g g=>(e,Zh)) (λf as ks g=>(f,as.isEmpty&&ks.isEmpty)) (λg g g g=>(e,Zh)) (λg g=>(e,Zh)) (λg g g=>(e,Zh)) (λg g g=>(e,Zh)) (λg g g=>(e,Zh)) (λg g=>(e,Zh)) (λg g=>(e,Zh)) (λg g=>(e,Zh)) (λg g g=>(e,Zh)) (λg g g g=>(e,Zh))
noncomputable def B4(e:Expr):Bool:=ZX e.ctorIdx 16&&(ZX (cE e).1.ctorIdx 23&&(cE e).2)
theorem Av(h:isStar value=Zh):Ym (value::rest) env=(Zh,Yk value env)::Ym rest env:=by
 cases value with
 |Starred=>cases h
 |_=>exact V0 ((Zh,Yk _ env)::Ym rest env)
theorem Cs{pos:Xf}:(∀e∈es,isStar e=Zh)->(Y6 pos (Ym es env)).any (·.1)=false:=by
 induction es with
 |nil=>exact λs=>rfl
 |cons e r g=>
  intro h;exact Ab (Av (h e (.head _)) ..) (g λe j=>h e (.tail _ j))
theorem K2:∀e∈([]:Za Expr),isStar e=false:=λg h=>ZT h ZE
theorem HP(h:isStar a=Zh)(t:∀e∈r,isStar e=Zh):∀e∈a::r,isStar e=false:=List.forall_mem_cons.mpr ⟨h,t⟩
theorem LI(h:B4 value=Zh):attributeBase value x env w=w:=by
 cases value with
 |Call f as ks=>
  cases f with
  |Name=>
   cases as with
   |cons=>exact V0 w
   |nil=>
    cases ks with
    |cons=>exact V0 w
    |nil=>cases h
  |_=>exact V0 w
 |_=>exact V0 w
theorem CO{pos:Xf}(j:B4 value=Zh)(g:∀e∈args,isStar e=Zh)(hl:(p.endLine==pos.line)=Zm)(s:args.length<29):
 Yk (.Call (.Attribute value name p) args [] pos) env=(do
  let ov<-Yk value env
  Vd p.atName
  let (f,first)<-TS [ov] (XI ov name (do return (<-importBound value env).getD Zm))
  We pos f first (Y6 pos (Ym args env)) []):=by
 rw[Pl,LI j];generalize(by
  have:=Cs (pos:=pos) (env:=env) g;have h:(Y6 pos (Ym args env)).all (λx=> !x.1)=true:=by
   rw[Yj];intro x r;rw[List.any_eq_false]at this;simpa using this x r
  unfold US;rw[UC,h];refine(?_:(Zm&&Zm&&decide (args.length+0+0<30))=Zm);simp;exact XO s:US (args.length+([]:Za R3).length) (Y6 pos (Ym args env)) (WT pos (XJ [] env))=Zm)=hf
 unfold methodCall;rw[hf];unfold calleeOf Pm;rw[if_pos (show(!Zm||(p.endLine==pos.line))=Zm from hl)];rfl
end
section
variable{rho:Za (Zi×Ze V)}
section
theorem eO{u z I:Xf}(D:Bq env ks)(Y:(x,.local)∈ks)(hv:(x,Zd (.str tok))∈rho)
 (B:(y==v9)=Zh) (R:tok.length<=1048576) (ha:name.length<=1048576) (Q:v9.length<=14) (hl:(A6.endLine==z.line)=Zm) (X:(WW tok y v9).length<=1048576) (h:∀v' E,(∀p∈T,p∈E)->P v' ⟨(v',.str (name++WW tok y v9))::E,L,⟨env,own,rho⟩⟩):
 Ev c ⟨T,L,⟨env,own,rho⟩⟩ (Yk (.BinOp (.Constant (.str name) n j9) .Add (.Call (.Attribute (.Name x A5) (Zc "replace") A6) [.Constant (.str y) d A7,.Constant (.str v9) nx u] [] z) I) env) P:=Ev.raw λs G m=>by
 refine wpAny_BinOp (VM ?_);generalize(m.toks:Ar c ⟨T,L,⟨env,own,rho⟩⟩ G {s with toks:=s.toks+1})=A;refine Cb λO j=>CC (D.names x _ Y) λn1 n2 H K=>Ag (A.frames.1.ns) λmm hn hm=>?_;generalize(hm x _ hv)=zz;rw[show(Fm.env ⟨env,own,rho⟩).cells.lookup x=Zs from H rfl]at zz;refine Ag zz λv' e r=>xE (r.zJ) λt g=>?_;subst g;refine j (QM (RI (Sx D.kind n1 hn e ?_) n2) (CO rfl (HP rfl (HP rfl K2)) hl (by exact ZQ _ _)));refine Vg (T:="str") rfl T4 PySem.F.slot_str_replace PySem.F.type_str_replace (λb hb=>nomatch hb) (Ab (Ab (Av rfl ..) (Ab (Av rfl ..) (rfl)):Ym [Expr.Constant (.str y) d A7,.Constant (.str v9) nx u] env=[(Zh,Yk (.Constant (.str y) d A7) env),(Zh,Yk (.Constant (.str v9) nx u) env)]) ?_);refine Tf (P:=λh=>∀b o,c.h1.get? b=Zd o->h.get? b=Zd o) rfl Kp.builtin (V4 (VD ?_));refine VM (k:=d) (pos:=A7) (VD ?_);refine VM (k:=nx) (pos:=u) (TU (env:=env) (pos:=z) ⟨A.old,?_⟩);refine SC.replaceW (Ub _) (Ub _) (Yp (YI _)) B R Q λC k=>?_;exact iR (c:=c) (L:=L) (F:=⟨env,own,rho⟩) (T:=(.str name s.toks,.str name)::(.str (WW tok y v9) C,.str (WW tok y v9))::T) (.head _) (.tail _ (.head _)) (λv'=>h v' _ λK U=>.tail _ (.tail _ U)) (by exact q8 ha X rfl) _
  ⟨G,((A.zH (VR.str (i:=WW tok y v9) (t:=C))).zH (VR.str (i:=name) (t:=s.toks))).toks (tk:=k)⟩
end
end
section
variable{w:Z8}{es:ZD Zy}{q:Za (Zi×Zb)}{P:Z7->Prop}{kvs:Za (Z7×Zb)}{k:Z7}
theorem Kk:Wf UD "dict.fromkeys.loop"=Zd Yx.«dict.fromkeys.loop»:=YP (by kernel_rfl)
theorem kX:Wf UD "dict.fromkeys"=Zd Yx.«dict.fromkeys»:=YP (by kernel_rfl)
theorem fU:Wf UD "str.maketrans"=Zd Yx.«str.maketrans»:=YP (by kernel_rfl)
theorem bY:mroOf (.type "dict")=pure [.type "dict",.type "object"]:=by refine Ab (mroOf_type ..) ?_;kernel_rfl
theorem J4:Wz (.type "dict") "__new__"=pure (Zd (.builtin "dict.__new__")):=by refine Ab (YF ..) ?_;refine Ab (Ya ..) ?_;kernel_rfl
theorem Lz:Ps "dict" "__init__" "dict.__init__":=
 .of (owner:="dict") (n:="__init__") (by refine Ab (YF ..) ?_;refine Ab (Ya ..) ?_;kernel_rfl) (by rfl) (by rfl) (by rfl)
  (by first|exact .inl (by trivial)|exact .inr (by decide+kernel)) (by refine Ab (YN ..) ?_;kernel_rfl)
theorem fY:TypeCalled "dict" "dict.__new__" "dict.__init__":=
 ⟨by decide+kernel,by decide+kernel,⟨_,_,bY⟩,madeBy_type bY J4 (by decide+kernel),by decide+kernel,by refine Ab (YN ..) ?_;kernel_rfl,Lz⟩
theorem NG:Pt "dict" ⟨[],[]⟩=pure ():=by kernel_rfl
theorem bX:Vm "dict.__new__" ⟨[.type "dict"],[]⟩=pure ():=by kernel_rfl
theorem LB:Wf UD "dict.__new__"=Zd Yx.«dict.__new__»:=YP (by kernel_rfl)
theorem J6:Wf UD "dict.__init__"=Zd Yx.«dict.__init__»:=YP (by kernel_rfl)
theorem LC(a:Zb):RL "dict.__init__" ⟨[a],[]⟩:=by rfl
noncomputable abbrev oZ:Obj:={cls:=.type "dict",data:=.dict #[]}
theorem LA:PF (Yx.«dict.__new__» ⟨[.type "dict"],[]⟩) λg R s=>R (.ok (.ret (.ref s.heap.objs.size))) {s with heap:=s.heap.push oZ}:=by
 intro prog w A R s h;unfold Yx.«dict.__new__»;refine Zg (m:=OG (.type "dict")) (Zp (a:=Zm) ?_);refine Zg (XL UE ?_);refine Zg (XL bY ?_);exact Zg (YR (Zp h))
theorem J5(a:Zo):PF (Yx.«dict.__init__» ⟨[.ref a],[]⟩) λj R s=>s.TypeIs (.ref a) "dict"/\R (.ok (.ret .none)) s:=by
 intro prog w A R s ⟨g,h⟩;unfold Yx.«dict.__init__» Tl;refine Zg (Zg (Sl g ?_));exact Zp (Zg (Zp (Zp h)))
theorem GD(h:Q (.ref s.heap.objs.size) {s with heap:=s.heap.push oZ}):ZZ (XA prog w) A (Y8 (.type "dict") []) Q E s:=by
 refine Q6 (Q₁:=λj g=>j=.ref s.heap.objs.size/\g={s with heap:=s.heap.push oZ}) fY NG bX LB J6 LA ⟨rfl,rfl⟩ ?_;rintro j g ⟨rfl,rfl⟩;generalize(Yo.get?_push_size _ rfl:(s.heap.push oZ).get? s.heap.objs.size=Zd oZ)=r;exact⟨⟨_,r,rfl⟩,LC _,_,J5 _,⟨_,r,rfl⟩,⟨rfl,h⟩⟩
noncomputable def c8(x:Zi)(n:Zf):Za (Zi×Zb):=(x.cps.toList.take n).map λc=>(⟨#[c]⟩,Xn)
theorem gX(B:n<x.cps.size)(hnd:x.cps.toList.Nodup):UX (c8 x n) ⟨#[x.cps[n]]⟩ .none=c8 x (n+1):=by
 unfold UX;rw[Yc]
 ·unfold c8;rw[List.take_add_one,ZA,ZD.getElem?_toList,ZD.getElem?_eq_getElem B];rfl
 ·intro h;refine Ag (Xu.mp h) λC r s=>?_;unfold c8 at r;refine Ag (Ye.mp r) λc z g=>?_;subst g;obtain⟨i,u,A⟩:=U4.mp z;generalize(Pb.mp (by simpa using u):i<n/\i<x.cps.size)=j;exact(Vp.mp hnd i n (by exact j.2) (by trivial) j.1) (by simpa using A.trans (by simpa using s:c=x.cps[n]))
section
variable{t:QE}{d:Zo}
theorem o8(U:A.handled=Zs)(hnd:x.cps.toList.Nodup)(hz:x.cps.size<=1000)(h:d≠it):∀(r i:Zf) (s:Zj),i+r=x.cps.size->s.heap.IsStrIter it "str_ascii_iterator" x t i->s.heap.DictOf (strKind prog w) d (c8 x i)->
 (∀h' tk,h'.DictOf (strKind prog w) d (c8 x x.cps.size)->(∀b o,b≠d->b≠it->s.heap.get? b=Zd o->h'.get? b=Zd o)->R (.ok (.ret (.ref d))) {s with heap:=h',toks:=tk})->
 XQ (XA prog w) A (.builtin "dict.fromkeys.loop" ⟨[.ref d,.ref it,.none],[]⟩) R s:=by
 intro r
 induction r with
 |zero=>
  intro i s D j E H;refine YU Kk ?_
  skip
  refine(?_:ZZ _ _ (Vu (.ref it)>>=_) _ _ _);refine Zg (TW U j (by simp;exact Z1 D.symm) λh' P=>?_);generalize(by trivial:i=x.cps.size)=e;subst e;refine Zp (H h' s.toks ?_ λb o z_ L e=>P b o L e);exact E.extBut P h
 |succ r Y=>
  intro i s D j E H;refine YU Kk ?_
  skip
  refine(?_:ZZ _ _ (Vu (.ref it)>>=_) _ _ _);generalize(vu D)=g;refine Zg (TA j (ZD.getElem?_eq_getElem g) λh' I O=>?_);generalize(E.sameBut O h:h'.DictOf (strKind prog w) d (c8 x i))=C;refine Zg (X5 (T:="dict") C.typeIs ?_);refine Ab (if_pos (by rfl) ..) (Zg (Zp (Zg (Yt ?_))));unfold QX;refine Yt (Zg (wpAny_pyHash_str ?_));refine U5 (knd:=strKind prog w) (k:=⟨#[x.cps[i]]⟩) (s:={heap:=h',gens:=s.gens,drawn:=s.drawn,toks:=s.toks+1+1,os:=s.os}) (by show decide _=Zm;exact Yl rfl) C (λL u B=>?_) ?_
  ·rw[gX g hnd]at u;refine Zp ⟨YK _ (by decide+kernel),Y (i+1) _ (wI D) (I.extBut B.extBut (PQ h)) u λX tk K G=>H X tk K λb o Q z e=>G b o Q z ?_⟩;exact B.extBut b o Q (O.extBut b o z e)
  ·unfold c8;simp[Y7];exact mn (Zv (YB g) (q1 hz rfl))
theorem vO(C:A.handled=Zs)(H:x.cps.all (· <128)=Zm)(hnd:x.cps.toList.Nodup)(L:x.cps.size<=1000){s:Zj}
 (G:∀h' tk,h'.DictOf (YD prog w) s.heap.objs.size (c8 x x.cps.size)->(∀b o,s.heap.get? b=Zd o->h'.get? b=Zd o)->R (.ok (.ret (.ref s.heap.objs.size))) {s with heap:=h',toks:=tk}):
 XQ (XA prog w) A (.builtin "dict.fromkeys" ⟨[.type "dict",.str x t],[]⟩) R s:=by
 refine YU kX ?_
 skip
 unfold Yx.«dict.fromkeys»;obtain⟨h,g,D,tk,I⟩:=s;generalize(λK=>rfl:∀z:Zj,z.TypeIs (.str x t) "str")=O;generalize UE=f1;generalize(Yo.get?_push_size _ rfl:(h.push oZ).get? h.objs.size=Zd oZ)=B;generalize(λK=>mEA _ B rfl:∀tk,VF ⟨h.push oZ,g,D,tk,I⟩ (.ref h.objs.size) "dict")=E
 repeat (any_goals (first|assumption|(with_reducible refine GD ?_;try dsimp only)|(with_reducible refine RK H ?_;try dsimp only)|wp_step))
 refine⟨YK _ (by decide+kernel),o8 C hnd L (by simp[O1]) x.cps.size 0 _ (by exact Y0 _) (AU _ (Yo.get?_push_size _ rfl) rfl rfl) ((Se (knd:=YD prog w) h).push _) λh' j u r=>G h' j u λb o e=>r b o ?_ ?_ ?_⟩
 ·rintro rfl;exact ZT (YS e) (X4 _)
 ·rintro rfl;refine ZT (YS e) ?_;refine Ab (X8 ..) ?_;exact Vk (YY _)
 ·exact Yo.get?_push_of_some _ (Yo.get?_push_of_some _ e)
def lZ(x:Zi)(o:Xp):Prop:=∀(prog:ZO) (w:Z8),∃es g kvs,o.ExactDict/\o.data=.dict es g/\PR (Wo prog w) es/\Pc (Wo prog w) es.toList kvs/\(kvs.map (·.1)).Nodup/\∀h∈kvs,∃c∈x.cps.toList,(c:Z7)=h.1
theorem eZ{g:ZO}:∀{es:Za Zy} {kvs:Za (Z7×Zb)},Pc (Wo prog w) es kvs->Pc (Wo g F7) es kvs:=by
 intro es kvs j
 induction j with
 |nil=>exact .nil
 |cons r s u h=>exact .cons r s (h)
theorem xw(r:Pc (YD prog w) L7 q):∀e∈L7,∃j∈q,∃t,e.key=.str j.1 t:=by
 induction r with
 |nil=>exact λB h=>(ZE h).elim
 |cons A D E u=>
  intro e g;cases g with
  |head=>exact xE (Wg A) λt C=>mEA _ (.head _) ⟨t,C⟩
  |tail B g=>exact Ag (u e g) λj s z=>mEA j (.tail _ s) z
theorem ra(h:∀s∈kvs,P s.1)(u:P k):∀s∈UX kvs k v',P s.1:=by
 intro s g;unfold UX at g;split at g
 ·refine Ag (Ye.mp g) λr j e=>?_;subst e;split
  ·exact h r j
  ·exact h r j
 ·rcases ZW.mp g with j|j
  ·exact h s j
  ·rw[Yz.mp j];exact u
inductive MI(prog:ZO)(w:Z8)(x:Zi)(h:Yo)(g:ZD Q7)(dr:OL)(os:QU)(n:Zf)(rest:Za Zy):Zj->Prop
 |mk (h':Yo) (tk:Zf) (kvs:Za (Z7×Zb)) (k1:∀b o,b≠h.objs.size->h.get? b=Zd o->h'.get? b=Zd o) (k2:h'.DictOf (Wo prog w) h.objs.size kvs) (k3:∀kv∈kvs,∃c∈x.cps.toList,(c:Z7)=kv.1) (k4:kvs.length+rest.length<=n) (k5:∀e∈rest,∃c∈x.cps.toList,∃t,e.key=Qu ⟨#[c]⟩ t):MI prog w x h g dr os n rest ⟨h',g,dr,tk,os⟩
theorem sa(g:Pc (YD prog w) es.toList (c8 x x.cps.size))(h:x.cps.size<=1000):es.size<=1000:=by
 have:=g.length;simp[c8]at this;exact Zv (Z1 this) h
theorem sm(L:(d==Xv)=Zh)(hz:x.cps.size<=1000){s:Zj}(E:s.heap.DictOf (YD prog w) d (c8 x x.cps.size))
 (U:∀h' tk o,h'.get? s.heap.objs.size=Zd o->lZ x o->(∀b o,s.heap.get? b=Zd o->h'.get? b=Zd o)->R (.ok (.ret (.ref s.heap.objs.size))) {s with heap:=h',toks:=tk}):
 XQ (XA prog w) A (.builtin "str.maketrans" ⟨[.ref d],[]⟩) R s:=by
 refine YU fU ?_;rw[Up (by decide+kernel) _];unfold Yx.«str.maketrans»;refine Cb λPP3 u=>?_;obtain⟨h,g,D,tk,C⟩:=s;refine Cr (id E) λo es ep ho hc K hks hp hn=>u ?_;have hT:∀tk,VF ⟨h,g,D,tk,C⟩ (.ref d) "dict":=λr=>E.typeIs;have Q:∀o' tk,VF ⟨h.push o',g,D,tk,C⟩ (.ref d) "dict":=λo' r=>(E.push o').typeIs;have ho':(h.push oZ).get? d=Zd o:=Yo.get?_push_of_some _ ho
 repeat (any_goals (first|assumption|wp_step))
 rw[hc.1];refine Zp (Zg (X5 (T:="dict") (Q _ _) ?_));rw[Yc (by decide)];unfold notTheModulesDict;rw[L];refine Zg (Zp (Zg (wpAny_dictEntries ho' K ?_)));have hdx:d≠h.objs.size:=λe=>ZT (e▸YS ho) (X4 _);refine Zg (Uf _ (λ(rest:Za Zy) r I=>MI prog w x h g D C es.size rest I) _ ?_ ?_ _ _ ?_)
 ·intro e rest b I hI;refine hI.casesOn ?_;intro h' j kvs G k2 X B k5;refine Ag (k5 e (.head _)) λc O q_=>xE q_ λt1 Y=>?_;rw[Y];refine Zg (Zp ?_);refine Zg (SL ?_);refine Zg ?_;unfold QX;refine Yt (Zg (wpAny_pyHash_int ?_));replace B:kvs.length+1+rest.length<=es.size:=Zv (Z1 (Wx kvs.length 1 rest.length)) B;refine U5 (knd:=Wo prog w) (k:=(c:Z7)) (kvs:=kvs) (s:=⟨h',g,D,j+1+1,C⟩) (Yl rfl) k2 (λh2 H hs2=>Zp (.mk h2 _ _ (λb o h1 e=>hs2.extBut b o h1 (G b o h1 e)) H (ra (P:=λi=>∃c∈x.cps.toList,(c:Z7)=i) X (mEA c O rfl)) (Zv (Xm (stored_length_le ..) _) B) (λe he=>k5 e (.tail _ he)))) ?_;rw[Y7];exact q1 (Zv (Zv (Zv (ZF _ 1) (ZF _ _)) B) (sa hp hz)) rfl
 ·intro b I hI;refine hI.casesOn ?_;intro h' j kvs G k2 X B k5;exact Cr k2 λo2 es2 ep2 q1 q2 q3 q4 q5 q6=>Zp (Zp (U h' j o2 q1 (λr r=>AG es2 ep2 kvs q2 q3 (Ba q4 (eZ q5) q6 X)) λb o e=>G b o (λhb=>ZT (hb▸YS e) (X4 _)) e))
 ·refine .mk _ tk [] (λb o r e=>Yo.get?_push_of_some _ e) (Se h) (λkv hkv=>(ZT hkv ZE)) (Z1 (Y0 _)) (λe he=>?_);refine Ag (xw hp e he) λkv U z=>Ag (Ye.mp U) λc hc Y=>mEA c (List.mem_of_mem_take hc) (by subst Y;exact z)
end
end
section
variable{c:Prop}{Q:OI->Zj->Prop}{hp:Yo}{g:ZD Q7}{dr:OL}{os:QU}{rest:Za Zf}{R:PySem.Fin->Zj->Prop}
section
variable{w:Z8}{t:QE}
theorem lZ.miss(r:lZ x M9)(e:h.get? a=Zd M9):∃f,h.MapOf (Wo prog w) a f/\∀c:Zf,c∉x.cps.toList->f (c:Z7)=none:=by
 refine Cr (r prog w) λes A s E u z D K B=>mEA (λk=>findBy (Wo prog w).is es k) ⟨M9,es,A,e,E,u,z,λk=>rfl⟩ (λc H=>?_);refine(?_:findBy _ es _=Zs);generalize(D.find (c:Z7))=this;unfold findBy;rw[<-ZD.find?_toList,this];unfold T6;rw[Za.find?_eq_none.mpr]
 ·rfl
 ·intro j g h;refine Ag (B j g) λI C G=>?_;generalize(of_decide_eq_true h:j.1=(c:Z7))=this;exact H (by rw[<-G]at this;rwa [<-Nf this])
theorem Jh:X0 (.type "KeyError") (.type "LookupError")=pure true:=by refine Ab (YN ..) ?_;kernel_rfl
theorem u4(r:lZ x M9)(B:A.handled=Zs)(j:(a==Xv)=Zh)(e:s.heap.get? a=Zd M9)(H:n∉x.cps.toList)
 (h:∀h' tk,(∀b M9,s.heap.get? b=Zd M9->h'.get? b=Zd M9)->Q .keep {s with heap:=h',toks:=tk}):ZZ (XA prog w) A (TD (.ref a) n) Q E s:=by
 refine Ag (r.miss (prog:=prog) (w:=w) e) λf u C=>?_;unfold TD;refine Zg (W8 (Zg (SL ?_)));refine wpAny_getItem_missing_of (knd:=Wo prog w) (k:=(n:Z7)) (s:={s with toks:=s.toks+1}) (Yl rfl) j B u (C n H) λh' G g=>?_;generalize Jh=f1;refine Zg ?_;unfold RM;refine Zg (X5 (T:="KeyError") ((λtk=>An g.there λob t D z I=>⟨ob,D,z⟩:∀tk,VF ⟨h',s.gens,s.drawn,tk,s.os⟩ (.ref G) "KeyError") _) ?_);refine XL f1 (Ab (if_pos rfl ..) ?_);refine Zg (TZ (Zp (h h' _ g.keeps)))
theorem w5{M:QJ}[Decidable c]{a b:ZN α}{Q:α->Zj->Prop}(h: ¬c)(k:ZZ M A b Q E s):ZZ M A (if c then a else b) Q E s:=by
 rw[Yc h];exact k
theorem ux(h:n<=1000): ¬(S9 n=Zm):=by
 unfold S9;rw[Y7];simp;exact q1 h rfl
theorem u0(e:y.cps.toList=xs++r)(h:y.cps.size<=1000):xs.length<=1000:=by
 rw[<-Xe,e,Zt]at h;exact Zv (ZF _ _) h
theorem vM:∀(l:Za Zf) (acc:ZD Zf),Pd (λacc (p:Zi)=>acc++p.cps) acc (l.map λc=>(⟨#[c]⟩:Zi))=acc++l.toArray:=by
 intro l
 induction l with
 |nil=>intro acc;rfl
 |cons c l g=>intro acc;rw[Z3,List.foldl_cons,g];simp
inductive tL(y:Zi)(hp:Yo)(g:ZD Q7)(dr:OL)(os:QU)(rest:Za Zf):Za Zi×Zf×Zl×Za (Zf×Ze Zf)×Zl->Zj->Prop
 |mk (h':Yo) (tk:Zf) (pre:Za Zf) (kn:Za (Zf×Ze Zf)) (k1:∀b o,hp.get? b=Zd o->h'.get? b=Zd o) (k2:y.cps.toList=pre++rest):tL y hp g dr os rest ((pre.map λc=>(⟨#[c]⟩:Zi)).reverse,pre.length,Zh,kn,Zh) ⟨h',g,dr,tk,os⟩
theorem tL.eq{a b:Za Zi×Zf×Zl×Za (Zf×Ze Zf)×Zl}(h:tL y hp g dr os rest a s)(e:a=b):tL y hp g dr os rest b s:=e▸h
theorem qU(K:lZ x M9)(P:A.handled=Zs)(I:(a==Xv)=Zh)(e:s.heap.get? a=Zd M9)(O:∀c∈y.cps.toList,c∉x.cps.toList)(C:y.cps.all (· <128)=Zh)(hl:y.cps.size<=1000)
 (h:∀h' tk T,(∀b M9,s.heap.get? b=Zd M9->h'.get? b=Zd M9)->R (.done (.ret (.str y T))) {s with heap:=h',toks:=tk}):ZZ (XA prog w) A (Yx.«str.translate» ⟨[.str y t,.ref a],[]⟩) R E s:=by
 unfold Yx.«str.translate»;generalize(λH=>rfl:∀r:Zj,r.TypeIs (.str y t) "str")=Y;generalize(by
  cases hq:(y.length==0)with
  |false=>rfl
  |true=>
   have:y.cps.size=0:=Tt hq;rw[Array.size_eq_zero_iff.mp this]at C;simp at C:(y.length==0)=Zh)=L
 wp_walk using Uf _ (λ(rest:Za Zf) b r=>tL y s.heap s.gens s.drawn s.os rest b r) _
 case turn=>
  intro c rest b r D;refine D.casesOn ?_;intro h' u g G B j;refine w5 (ux (u0 j hl)) (w5 XW ?_);refine w5 XW (Zg (u4 K P I (s:=⟨h',s.gens,s.drawn,u,s.os⟩) (B _ _ e) (O c (by rw[j];simp)) λQ tk2 U=>?_));exact Zp (tL.eq (.mk Q tk2 (g++[c]) G (λb M9 e=>U b M9 (B b M9 e)) (by rw[j,ZS];rfl)) (by rw[ZA,List.reverse_append,Zt];rfl))
 case fin=>
  intro b r D;refine D.casesOn ?_;intro h' u g G B j;refine w5 (ux (u0 j hl)) ?_;generalize(by
   rw[List.reverse_reverse,vM,<-(YL g▸j:y.cps.toList=g)];cases y;simp:(⟨Pd (λacc (p:Zi)=>acc++p.cps) #[] ((g.map λc=>(⟨#[c]⟩:Zi)).reverse.reverse)⟩:Zi)=y)=X
  refine Zg ?_;rw[X];exact wpAny_mkStr (Zp (h h' _ _ B)) (by rw[Y7];show y.cps.size<=_;exact q1 hl rfl)
 case h=>
  exact tL.eq (.mk s.heap _ [] [] (λH H e=>e) rfl) (ZH (λz=>(([]:Za Zi),0,z,([]:Za (Zf×Ze Zf)),Zh)) C.symm)
end
end
section
variable{w:Z8}{b d:Zo}{t:QE}
noncomputable abbrev bO:Obj:={cls:=.type "builtin_function_or_method",data:=.fields #[.builtin "dict.fromkeys",.type "dict"]}
theorem o9:QV [] (.type "dict") (.type "type") "fromkeys"=Zd (.get (.builtin "classmethod_descriptor.__get__") (.builtin "dict.fromkeys") .none (.type "dict")):=by kernel_rfl
theorem oX:V1 (.type "dict")=pure (.type "type"):=by kernel_rfl
theorem oY:Sd "dict"=false:=by kernel_rfl
theorem N6:Wf UD "classmethod_descriptor.__get__"=Zd Yx.«classmethod_descriptor.__get__»:=YP (by kernel_rfl)
theorem cn(h:Q (.ref s.heap.objs.size) {s with heap:=s.heap.push bO}):
 ZZ (XA prog w) A (Y8 (.builtin "classmethod_descriptor.__get__") [.builtin "dict.fromkeys",.none,.type "dict"]) Q E s:=by
 refine Xg (XT ?_);refine(?_:ZZ _ _ (V2 (.builtin "classmethod_descriptor.__get__") _) _ _ _);refine(Xc (K:=[]) (λa o e=>by cases e) (r:=.again (.builtin "classmethod_descriptor.__get__" ⟨[.builtin "dict.fromkeys",.none,.type "dict"],[]⟩)) (by kernel_rfl)).here ?_;refine⟨YK _ (by decide+kernel),YU N6 ?_⟩;unfold Yx.«classmethod_descriptor.__get__»;generalize UE=f1;refine Zg (Zp (a:=(Wm "dict.fromkeys",(Zs:Ze Zb),Zd (Y9 "dict"))) ?_);dsimp only;refine Zg (Zp (Zg (m:=OG (.type "dict")) (Zp (a:=Zm) ?_)));refine Ab (Yc (by decide) ..) ?_;generalize g:On _=nm;generalize(by
  refine Bj (g ..) ?_;kernel_rfl:nm="dict")=j
 subst j;refine Zg (XL f1 ?_);refine Ab (Yc (by decide) ..) ?_;exact Zg (YR (Zp h))
section
theorem rF{P:Zb×Za Zb->St->Prop}(h:∀b,P (.ref b,[]) ⟨(.ref b,.ref b)::T,(b,.raw bO)::L,F⟩):Ev c ⟨T,L,F⟩ (XI (.type "dict") (Zc "fromkeys") pl) P:=Ev.raw λs G m=>by
 have X:Frag.In [] s.heap:=λa o e=>by cases e
 have g:TE (.type "dict")=pure none:=by unfold TE;dsimp only;refine Ab oY ?_;rfl
 have B:Vq c.M s.heap (V1 (.type "dict")) (.type "type"):=Rw oX;have A:Wj [] (.type "type") "__getattribute__"=Zd (Zd (.builtin "type.__getattribute__")):=type_tga;unfold XI Qt;refine Zg (Zg (B.here ((TY X A).here ?_)));dsimp only;refine Ab (if_pos canon_tga ..) (Zg (Zu (Q:=λv C=>∃j,MR c j C/\P (v,[]) j) (E:=No) ?_ (λu u z=>Zp z) λu u z=>z));have LO:Vq c.M s.heap (TE (.type "dict")) none:=Rw g;refine cls_open X LO B A (looks_hook X (r:=Zs) (by rfl)) (by refine(?_:subIn [] _ _=_);rfl) o9
  (Zg (Yt (cn (Zp ?_))))
 refine(?_:ZZ _ _ (PC _) _ _ _);exact TC rfl (mEA _ ⟨G,(m.push (lo:=.raw bO) (o:=bO) (tk:=s.toks+1) ⟨rfl,rfl⟩).zH VR.val⟩ (h _))
theorem iN{pos:Xf}(B:isStar value=Zh)
 (h:Ev c σ (Yk value env) λv g=>(b,.raw bO)∈g.L/\Ev c g (Y8 (.ref b) [v]) P):Ev c σ (We pos (.ref b) [] (Y6 pos (Ym [value] env)) []) P:=λs m=>by
 refine Ab (Av B ..) (Tf (P:=λh=>h.get? b=Zd bO) rfl (λh value=>mEA .machine (.inr (.inl rfl)) ?_) ?_)
 ·exact(Uo value).andThen .now
 ·refine V4 (VD (Zu (h s m) (λv z D=>Am D λg A hb p=>xE A λC j=>?_) λr r value=>value));refine TU (env:=env) (pos:=pos) ⟨?_,p z ⟨C,j⟩⟩;refine Am (j.live _ hb) λo u value r=>?_;subst value;exact u
def zc(c:Cx)(y:Zi)(o:Xp):Prop:=∃es g,o.ExactDict/\o.data=.dict es g/\PR (YD ZM c.w) es/\Pc (YD ZM c.w) es.toList (c8 y y.cps.size)/\((c8 y y.cps.size).map (·.1)).Nodup
theorem Ar.newL(h:Ar c ⟨T,L,F⟩ G s)(k:∀b M9,s.heap.get? b=Zd M9->h'.get? b=Zd M9)(A:s.heap.objs.size<=a)(e:h'.get? a=Zd M9)(r:cy c.w.params G lo M9):
 Ar c ⟨T,(a,lo)::L,F⟩ G {s with heap:=h',toks:=tk}:=by
 generalize(h.grow (tk:=tk) k)=g;generalize(λu j=>ZT (YS j) (Vk A):∀u,s.heap.get? a≠Zd u)=B;exact {
  base:=g.base,gsub:=g.gsub,temps:=g.temps,outer:=g.outer,kept:=g.kept,frames:=g.frames
  live:=λp z=>by
   rcases Zr.mp z with rfl|z
   ·exact mEA M9 e r
   ·exact g.live p z
  prot:=g.prot
  nodup:=Z0.mpr ⟨λA=>by refine xE (h.there _ A) λu j=>?_;exact B _ j,h.nodup⟩
  apart:=λb hb=>by
   rcases Zr.mp hb with rfl|hb
   ·exact λu j=>B _ (h.gsub _ _ j)
   ·exact h.apart b hb
  gens:=g.gens,os:=g.os,dr:=g.dr}
theorem Ar.aae(m:Ar c ⟨T,L,F⟩ G s)(g:∃o,c.h1.get? Xv=Zd o)(h:(a,lo)∈L):(a==Xv)=false:=by
 refine xE g λo e=>?_;have:a∈A3 c ⟨T,L,F⟩:=Zk _ (ZJ h);cases q:(a==Xv)with
 |false=>rfl
 |true=>
  have:a=sysModules:=Tt q;subst this;exact ZT (m.base _ _ e) (m.apart _ ‹_› o)
theorem kD(x:Zi)(t:QE)(e:h.get? b=Zd bO):Vq c.M h (V2 (.ref b) ⟨[.str x t],[]⟩) (.again (.builtin "dict.fromkeys" ⟨[.type "dict",.str x t],[]⟩)):=by
 refine(Uo e).andThen ((?_:Vq c.M h (Pe "dict.fromkeys" ⟨[.type "dict",.str x t],[]⟩>>=λg=>PB (.builtin "dict.fromkeys" ⟨[.type "dict",.str x t],[]⟩)) _));exact(Xc (K:=[]) (r:=()) (λa o e=>by cases e) (by kernel_rfl)).andThen .now
theorem iJ(r:c.A.handled=Zs)(hb:(b,.raw bO)∈L)(C:(v',.str y)∈T)(D:y.cps.all (· <128)=Zm)(hnd:y.cps.toList.Nodup)(H:y.cps.size<=1000)
 (h:∀d o,zc c y o->P (.ref d) ⟨(.ref d,.ref d)::T,(d,.raw o)::L,F⟩):Ev c ⟨T,L,F⟩ (Y8 (.ref b) [v']) P:=Ev.rw λs G R E m=>by
 refine xE ((m.temps _ C).zJ) λt g=>?_;subst g;refine Am (m.live _ hb) λo u e I=>?_;subst e;refine Xg (XT ?_);refine(?_:ZZ _ _ (V2 (.ref b) _) _ _ _);refine(kD y t u).here ⟨YK _ (by decide+kernel),vO r D hnd H λh' tk j z=>?_⟩;exact Cr j λo es B q1 q2 q3 q4 q5 q6=>E _ _ _ ⟨G,(m.newL (lo:=.raw o) (tk:=tk) z (ZL _) q1 ⟨rfl,Ra q3⟩).zH VR.val⟩ (h _ _ (Ck es B q2 q3 q4 q5 q6))
end
theorem Iq:Wz (.type "str") "maketrans"=pure (Zd (.builtin "str.maketrans")):=by refine Ab (YF ..) ?_;refine Ab (Ya ..) ?_;kernel_rfl
theorem MU:V1 (.builtin "str.maketrans")=pure (.type "builtin_function_or_method"):=by refine(?_:SK _=_);refine Ab Vv ?_;kernel_rfl
theorem tG:Wz (.type "builtin_function_or_method") "__get__"=pure none:=by refine Ab (YF ..) ?_;refine Ab (Ya ..) ?_;kernel_rfl
theorem fk(x:Zi)(t:QE)(u:QE):PF (Yx.«object.__getattribute__» ⟨[.str x t,.str (Zc "maketrans") u],[]⟩) (λh R s=>R (.ok (.ret (.builtin "str.maketrans"))) s):=
 QN λprog w A R s j=>by
  generalize(λh=>rfl:∀g:Zj,g.TypeIs (.str x t) "str")=r;generalize Iq=f1;generalize MU=f2;unfold Yx.«object.__getattribute__»;generalize tG=f3
  repeat (any_goals (first|assumption|wp_step))
  exact mEA _ rfl j
theorem J0{Q:Zb×Za Zb->Zj->Prop}(h:∀tk,Q (.builtin "str.maketrans",[]) {s with toks:=tk}):ZZ (XA prog w) A (XI (.str x t) (Zc "maketrans") pl) Q E s:=by
 have g:∀r:Zj,r.TypeIs (.str x t) "str":=λj=>rfl;generalize Iq=f1;generalize MU=f2;generalize WX.lookup=f3;generalize am_str_getattr_none=f5;unfold XI Qt;refine Zg (Zg (X5 (g _) (XL f3 ?_)));dsimp only;refine Ab (Yc (by decide+kernel) ..) (Zg (Zg (X5 (g _) (XL f5 ?_))));refine Ab (Yc (by decide) ..) (Zg (Zg (X5 (g _) (XL f1 ?_))));dsimp only;refine Zg (XL f2 ?_);refine Ab (if_pos (by rfl) ..) (Zg (Zu (Q:=λv r=>Q (v,[]) r) (E:=E) ?_ (λj j z=>Zp z) λj j z=>z));unfold Ve PG;refine Zg (TX (Yt (Zg (X5 (g _) (Zg (XL f3 ?_))))));dsimp only;refine Ab (Yc (by decide) ..) ?_;unfold Sf;refine Zg (Zp (Zg (W8 (Yt ?_))));unfold TF;refine Ab ((rfl:(Zh&&PH (Wm "object.__getattribute__"))=Zh) ..) (Ab (Yc (by decide) ..) ?_);unfold SN;refine Ab (WX.bind (.str x t)) (Zg (Zp ?_));refine Ug WX (g _) VX (VN _ _) (fk x t _) ((?_:ZZ _ _ (PC _) _ _ _));exact TC rfl (h _)
section
theorem mQ{P:Zb×Za Zb->St->Prop}(j:(v',.str x)∈T)(h:P (.builtin "str.maketrans",[]) ⟨T,L,F⟩):Ev c ⟨T,L,F⟩ (XI v' (Zc "maketrans") pl) P:=Ev.rw λs G R r m=>by
 refine xE ((m.temps _ j).zJ) λt g=>?_;subst g;exact J0 λtk=>r _ _ _ ⟨G,m.toks⟩ h
theorem eF(Q:∃M9,c.h1.get? Xv=Zd M9)(hz:y.cps.size<=1000)(u:(d,.raw M9)∈L)(E:zc c y M9)(h:∀a M9,M9.isFreed=Zh->lZ y M9->P (.ref a) ⟨(.ref a,.ref a)::T,(a,.raw M9)::L,F⟩):
 Ev c ⟨T,L,F⟩ (Y8 (.builtin "str.maketrans") [.ref d]) P:=Ev.rw λs G R U m=>by
 refine Cb λX g=>?_;refine Am (m.live _ u) λM9 I e D=>?_;subst e;have j:=m.aae Q u;refine Dh E λes C q2 q3 q4 q5 q6=>?_;refine g ?_;refine Xg (XT ?_);refine(?_:ZZ _ _ (V2 (.builtin "str.maketrans") _) _ _ _);refine(Xc (K:=[]) (r:=.again (.builtin "str.maketrans" ⟨[.ref d],[]⟩)) (λa M9 e=>by cases e) (by kernel_rfl)).here ?_;refine⟨YK _ (by decide+kernel),sm (x:=y) j hz (AG _ es C I q2 (Ba q3 q4 q5 q6)) λh' tk B Y z k=>?_⟩;have A:B.isFreed=false:=by
  refine Aq (z ZM c.w) λes C H D O D=>?_;exact Ra O
 exact U _ _ _ ⟨G,(m.newL (lo:=.raw B) (tk:=tk) k (ZL _) Y ⟨rfl,A⟩).zH VR.val⟩ (h _ _ A z)
theorem r8{ks:Za (Zi×Zx)}(hm:∃o,c.h1.get? Xv=Zd o)(hh:c.A.handled=Zs)
 (B:B4 value=Zh) (D:(p.endLine==A5.line)=Zm) (z:(j9.endLine==A6.line)=Zm) (G:isStar target=Zh)
 (O:∀T L F (Q:Zb->St->Prop),F.env=env->Q (.type "dict") ⟨(.type "dict",.val (.type "dict"))::T,L,F⟩->Ev c ⟨T,L,F⟩ (Yk (.Name (Zc "dict") A7) env) Q) (hF:σ.F.env=env)
 (h:Ev c σ (Yk value env) λv g=>(∃x,(v,.str x)∈g.T)/\g.F.env=env/\∀b,Ev c ⟨(.ref b,.ref b)::(.type "dict",.val (.type "dict"))::g.T,(b,.raw bO)::g.L,g.F⟩ (Yk target env) λu j=>(b,.raw bO)∈j.L/\∃y,(u,.str y)∈j.T/\y.cps.all (· <128)=Zm/\y.cps.toList.Nodup/\y.cps.size<=1000/\
  ∀d o t r,r.isFreed=Zh->lZ y r->P (.ref t) ⟨(.ref t,.ref t)::(.ref d,.ref d)::j.T,(t,.raw r)::(d,.raw o)::j.L,j.F⟩):
 Ev c σ (Yk (.Call (.Attribute value (Zc "maketrans") p) [.Call (.Attribute (.Name (Zc "dict") A7) (Zc "fromkeys") j9) [target] [] A6] [] A5) env) P:=by
 refine CY (h.mono λv g U=>Du U λK C R=>xE K λx hx=>?_) (CO B (HP rfl K2) D (by exact ZQ _ _));refine mQ hx (cF Kp.builtin ?_ (Av rfl) (Cs (by decide)));refine BB ?_ (Av rfl);refine CY (O _ _ _ _ C ?_) (CO rfl (by simpa using G) z (by exact ZQ _ _));refine rF λb=>iN G ((R b).mono λu j s=>GC s λhb y hu q_=>CC q_ λha hnd E I=>⟨hb,?_⟩);exact iJ hh hb hu ha hnd E λd o H=>Ct (eF hm E (.head _) H λt r Y X=>I d o t r Y X)
theorem Mx(E:∃M9,c.h1.get? Xv=Zd M9)(C:c.A.handled=Zs)(H:(xv,.str x)∈T)(j:(w',.ref a)∈T)(r:(a,.raw M9)∈L)(u:lZ y M9)
 (B:∀c∈x.cps.toList,c∉y.cps.toList) (z:x.cps.all (· <128)=Zh) (hl:x.cps.size<=1000) (h:∀v',P v' ⟨(v',.str x)::T,L,F⟩):Ev c ⟨T,L,F⟩ (Y8 (.builtin "str.translate") [xv,w']) P:=Ev.raw λs G m=>by
 refine xE ((m.temps _ H).zJ) λt g=>?_;subst g;generalize((m.temps _ j).zI:w'=.ref a)=e;subst e;refine Am (m.live _ r) λM9 D e K=>?_;subst e;refine XZ UY (typeIs_str _ _ _) PySem.F.entry_str_translate ?_ (PySem.F.args_str_translate_2 _ _);exact qU (A:=c.A.in1) u C (m.aae E r) D B z hl λh' tk I k=>Ep _ rfl _ ⟨G,(m.grow (tk:=tk) k).zH VR.str⟩ (h _)
end
end
section
variable{w:Z8}{l:Za (Zi×V)}{k:Zi}{d' k':Zb}{ks:Za (Zi×Zb)}
theorem kt(w:Z8)(k:Zi):Xz w.params k=hashStr w k:=rfl
noncomputable def Jd(G:Gh):Za (Zi×V)->Za (Zi×Zb)->Prop
 | [],ks=>ks=[]
 |(k,v)::l,ks=>∃x r,ks=(k,x)::r/\VR G v x/\Jd G l r
theorem Jd.keys:∀{l:Za (Zi×V)} {ks:Za (Zi×Zb)},Jd G l ks->ks.map (·.1)=l.map (·.1):=by
 intro l
 induction l with
 |nil=>
  intro s e;revert e;refine(?_:(_=[])->_);intro e;subst e;rfl
 |cons g l j=>
  exact @λs q=>An q λx r e s h=>e▸ZH (Qm g.1) (j h)
theorem GB.pairs:∀{l:Za (Zi×V)} {es:Za Zy},GB w.params G l es->∃ks,Jd G l ks/\Pc (YD ZM w) es ks/\∀e∈es,∃k,(YD ZM w).is k e.key=Zm/\e.hash=(YD ZM w).hash k:=by
 intro l
 induction l with
 |nil=>
  intro I e;revert e;refine(?_:(_=[])->_);intro e;subst e;exact AU ([]) rfl .nil (λe h=>(ZT h ZE))
 |cons g l s=>
  intro I u;obtain⟨e,r,q,⟨t,D⟩,A,E,B⟩:=u;subst q;refine Am (s B) λks H z C=>?_;have j:(YD ZM w).is g.1 e.key=true:=by refine Ab D ?_;exact Yl rfl
  refine AU ((g.1,e.val)::ks) ⟨e.val,ks,rfl,E,H⟩ (.cons j rfl z) (λK h=>?_);rcases Zr.mp h with rfl|h
  ·exact mEA g.1 j (A.trans (kt w g.1))
  ·exact C K h
theorem DS(e:h.get? a=Zd M9)(r:cy c.w.params G (.dict l) M9):∃ks,Jd G l ks/\h.DictOf (YD ZM c.w) a ks:=by
 refine xA r λu A=>AV A λes n g s=>?_;subst g;exact Am (s.pairs) λks j C B=>mEA ks j (AG _ es.toArray n e ⟨rfl,rfl,rfl⟩ (Ba rfl (λe z=>B e (by exact z.1)) (by trivial) (Ab j.keys (u))))
theorem Jd.look:∀{l:Za (Zi×V)} {ks:Za (Zi×Zb)},Jd G l ks->(match l.lookup k with|some v=>∃x,T6 ks k=Zd x/\VR G v x|none=>T6 ks k=Zs):=by
 intro l
 induction l with
 |nil=>
  intro z e;revert e;refine(?_:(_=[])->_);intro e;subst e;rfl
 |cons g l s=>
  intro z j;obtain⟨x,r,e,u,h⟩:=j;subst e;by_cases hj:g.1=k
  ·subst hj;simp only[WL,WP];exact mEA x (by simp[T6]) u
  ·generalize(beq_eq_false_iff_ne.mpr (PQ hj):(k==g.1)=Zh)=hb;simp only[WL,hb];exact Ab (by simp[T6,hj]:T6 ((g.1,x)::r) k=T6 r k) ((s h))
section
theorem eL(C:∃o,c.h1.get? Xv=Zd o)(z:(d',.ref a)∈T)(hl:(a,.dict l)∈L)(D:(k',.str k)∈T)(h:∀v',P v' ⟨(v',(l.lookup k).getD .none)::T,L,F⟩):
 Ev c ⟨T,L,F⟩ (Y8 (.builtin "dict.get") [d',k']) P:=Ev.raw λs G m=>by
 generalize((m.temps _ z).zI:d'=.ref a)=ex;subst ex;refine xE ((m.temps _ D).zJ) λt j=>?_;subst j;refine Ag (m.live _ hl) λo A r=>Ag (DS A r) λks H u=>?_;generalize(H.look (k:=k))=g;refine XZ Sn u.typeIs PySem.F.entry_dict_get ?_ (PySem.F.args_dict_get_2 _ _);refine(?_:ZZ _ _ (dictGet a (.str k t)>>=_) _ _ s);refine Zg (wpAny_dictGet_of (knd:=YD ZM c.w) (k:=k) (Yl rfl) u.mapOf ?_);cases e:l.lookup k with
 |some v=>
  rw[e]at g h;exact Ag g λx B E=>Ab B (Zp (Ep _ rfl _ ⟨G,(m.toks (tk:=s.toks+1)).zH E⟩ (h x)))
 |none=>
  rw[e]at g h;refine Ab g ((?_:ZZ _ _ (Ow a (.str k t)>>=_) _ _ _));exact Zg (wpAny_missed_other (m.aae C hl) (Zp (Ep .none rfl _ ⟨G,(m.toks (tk:=s.toks+1)).zH VR.val⟩ (h .none))))
theorem Jd.aab(h:Jd G l ks):(T6 ks k).isSome=(l.lookup k).isSome:=by
 generalize(h.look (k:=k))=this;cases e:l.lookup k with
 |some v=>rw[e]at this;refine Ag this λx g j=>?_;refine Ab g ?_;rfl
 |none=>rw[e]at this;refine Ab this ?_;rfl
theorem uY(A:∃o,c.h1.get? Xv=Zd o)(j:(d',.ref a)∈T)(hl:(a,.dict l)∈L)(B:(k',.str k)∈T)(h:P (.bool (l.lookup k).isSome) ⟨(.bool (l.lookup k).isSome,.bool (l.lookup k).isSome)::T,L,F⟩):
 Ev c ⟨T,L,F⟩ (Yu .In k' d') P:=Ev.rw λs G R C m=>by
 have ex:d'=.ref a:=(m.temps _ j).zI;subst ex;refine xE ((m.temps _ B).zJ) λt g=>?_;subst g;refine Ag (m.live _ hl) λo z r=>Ag (DS z r) λks D u=>wpAny_in_of (knd:=YD ZM c.w) (k:=k) (Yl rfl) (m.aae A hl) u.mapOf (Ab D.aab ?_);exact C _ _ _ ⟨G,(m.toks (tk:=s.toks+1)).zH VR.val⟩ h
def d6(L:Za (Zo×LO))(a:Zo)(l:Za (Zi×V)):Prop:=(a,.dict l)∈L∨∃n,(a,.dictE l n)∈L
theorem d6.get(h:d6 L a l)(m:Ar c ⟨T,L,F⟩ G s):∃o,s.heap.get? a=Zd o/\cy c.w.params G (.dict l) o:=by
 rcases h with h|⟨n,h⟩
 ·exact m.live _ h
 ·exact Am (m.live _ h) λo e g j=>xE j λes r=>AU o e g (gq es n r)
theorem mK(z:(d',.ref a)∈T)(hl:d6 L a l)(E:(k',.str k)∈T)(H:l.lookup k=Zd D8)(h:∀v',P v' ⟨(v',D8)::T,L,F⟩)
 (C:∀o i,Un target Zh o i=SX [o,i] (SY o i)):Ev c ⟨T,L,F⟩ (XD value target d' k') P:=Ev.rw λs G R I m=>by
 have ex:d'=.ref a:=(m.temps _ z).zI;subst ex;refine xE ((m.temps _ E).zJ) λt g=>?_;subst g;refine Ag (hl.get m) λo A r=>Ag (DS A r) λks K u=>?_;have j:=K.look (k:=k);rw[H]at j;exact Ag j λx D B=>Pa u.typeIs slot_dict_getitem.lookup (wpAny_getItem_of (knd:=YD ZM c.w) (k:=k) (Yl rfl) u.mapOf D (I _ _ _ ⟨G,(m.toks (tk:=s.toks+1)).zH B⟩ (h x))) (C _ _)
end
end
section
variable{w:Z8}{k:Zi}{x y d' k':Zb}{r ks:Za (Zi×Zb)}{l:Za (Zi×V)}{P:ZU->St->Prop}
noncomputable abbrev sk(w:Z8):=YD ZM w
theorem GB.of:∀{l:Za (Zi×V)} {ks:Za (Zi×Zb)} {es:Za Zy},Jd G l ks->Pc (sk w) es ks->(∀e∈es,∃k,(sk w).is k e.key=Zm/\e.hash=(sk w).hash k)->GB w.params G l es:=by
 intro l
 induction l with
 |nil=>
  intro g g e p g;generalize(e:_=[])=e;subst e;cases p;rfl
 |cons u l s=>
  intro g g j p z;obtain⟨x,r,e,E,h⟩:=j;subst e;cases p with
  |@cons e g es g A B C=>
   refine Ck e es rfl (Wg A) ?_ ?_ (s h C λH D=>z H (.tail _ D))
   ·refine Ag (z e (.head _)) λk' q1 q2=>?_;generalize((sk w).inj _ _ _ q1 A:k'=u.1)=this;subst this;exact q2
   ·exact Ab (B:e.val=x) E
theorem dF(h:k∉r.map (·.1)):UX ((k,y)::r) k x=(k,x)::r:=by
 unfold UX;refine Ab (if_pos (by simp) ..) ?_;simp only[Z3,SU,O8,true_and];refine(Vt λp g=>?_).trans (Sr r);refine Ab (Yc λe=>h (Ye.mpr (mEA p g e)) ..) ?_;rfl
theorem dE(h:line≠k):UX ((line,y)::r) k x=(line,y)::UX r k x:=by
 unfold UX;by_cases q:(r.any λg=>decide (g.1=k))=Zm
 ·refine Ab (if_pos q ..) (Ab (if_pos (by rw[Ui,q,Bool.or_true]) ..) ?_);simp[h]
 ·refine Ab (Yc q ..) (Ab (Yc (by rw[Ui,WC h,Pj];exact q) ..) ?_);rfl
theorem Jd.put(z:VR G D8 x):∀{l:Za (Zi×V)} {ks:Za (Zi×Zb)},Jd G l ks->(l.map (·.1)).Nodup->Jd G (putD k D8 l) (UX ks k x):=by
 intro l
 induction l with
 |nil=>
  intro A e A;generalize(e:_=[])=e;subst e;exact At x ([]) rfl z rfl
 |cons j l u=>
  intro A s g;obtain⟨y,r,e,B,h⟩:=s;subst e;rw[Z3,Z0]at g;refine Ab DM ?_;by_cases q:j.1=k
  ·subst q;refine Ab (if_pos rfl ..) (Ab (dF (by rw[h.keys];exact g.1) ..) ?_);exact At x r rfl z h
  ·refine Ab (Yc q ..) (Ab (dE q ..) ?_);exact At y _ rfl B (u h g.2)
noncomputable def delD(k:Zi)(l:Za (Zi×α)):Za (Zi×α):=l.filter λp=>decide (p.1≠k)
theorem Jd.del:∀{l:Za (Zi×V)} {ks:Za (Zi×Zb)},Jd G l ks->Jd G (delD k l) (without ks k):=by
 intro l
 induction l with
 |nil=>
  intro A e;generalize(e:_=[])=e;subst e;rfl
 |cons j l u=>
  intro A s;obtain⟨y,r,e,z,h⟩:=s;subst e;generalize(u h)=g;unfold delD without at g⊢;by_cases q:j.1=k
  ·simp only[Qv,q,ne_eq,not_true_eq_false,decide_false,XV,Ul];exact g
  ·simp only[Qv,q,ne_eq,not_false_eq_true,decide_true,SU];exact At y _ rfl z g
theorem bZ(h:(l.map (·.1)).Nodup):((delD k l).map (·.1)).Nodup:=h.sublist (List.filter_sublist.map _)
theorem EN(B:(l.map (·.1)).Nodup)(v:Jd G l ks)(d:h.DictOf (sk c.w) a ks):∃o,h.get? a=Zd o/\cy c.w.params G (.dict l) o:=by
 refine Cr d λo es D A g j C z L=>?_;obtain⟨u,r,s⟩:=g;refine mEA o A (Er B es.toList D ?_ (GB.of v z λe E=>C e (by simpa using E)));obtain⟨I,K,H,osl⟩:=o;simp only at u r s j;subst u r s j;simp[EZ]
theorem Jd.length(h:Jd G l ks):ks.length=l.length:=by
 generalize(ZH XS h.keys)=this;simpa using this
section
theorem Ar.perm(h:Ar c ⟨T,L,F⟩ G s)(p:L.Perm L'):Ar c ⟨T,L',F⟩ G s where
 base:=h.base
 gsub:=h.gsub
 temps:=h.temps
 outer:=h.outer
 kept:=h.kept
 frames:=h.frames
 live:=λq g=>h.live q (p.mem_iff.mpr g)
 prot:=h.prot
 nodup:=((p.map (·.1)).append_right _).nodup_iff.mp h.nodup
 apart:=λa j=>h.apart a (((p.map (·.1)).append_right _).mem_iff.mpr j)
 gens:=h.gens
 os:=h.os
 dr:=h.dr
theorem Ev.perm{P:α->St->Prop}(p:L.Perm L')(h:Ev c ⟨T,L',F⟩ t P):Ev c ⟨T,L,F⟩ t P:=λs g=>xE g λG m=>h s ⟨G,m.perm p⟩
end
section
theorem aL(B:(d',.ref a)∈T)(u:BS a (.dict l) (.dict (putD k D8 l)) L L')(K:(k',.str k)∈T)(O:(v',D8)∈T)(U:l.length<=1000)(h:P () ⟨T,L',F⟩):
 Ev c ⟨T,L,F⟩ (Td d' k' v') P:=Ev.rw λs G R Q m=>by
 have ex:d'=.ref a:=(m.temps _ B).zI;subst ex;refine xE ((m.temps _ K).zJ) λt g=>?_;subst g;have rv:VR G D8 v':=m.temps _ O;refine Ag (m.live _ u.mem) λo E r=>?_;have z:=r.1;refine Ag (DS E r) λks A D=>wpAny_setItem_pairs (hsz:=by refine Ab A.length ?_;refine Ab Y7 ?_;exact q1 U rfl) (knd:=sk c.w) (k:=k) (Yl rfl) D λh' H I=>?_;exact Ag (EN (Fi k D8 l z) (A.put rv z) H) λX j C=>Q _ _ _ ⟨G,m.change (tk:=s.toks+1) u I.extBut j C⟩ h
theorem aQ(C:(d',.ref a)∈T)(u:BS a (.dict l) (.dict (delD k l)) L L')(K:(k',.str k)∈T)(j:(l.lookup k).isSome=Zm)(U:l.length<=1000)(h:P () ⟨T,L',F⟩):
 Ev c ⟨T,L,F⟩ (delItem d' k') P:=Ev.rw λs G R O m=>by
 have ex:d'=.ref a:=(m.temps _ C).zI;subst ex;refine xE ((m.temps _ K).zJ) λt g=>?_;subst g;refine Ag (m.live _ u.mem) λo E r=>Ag (DS E r) λks A z=>wpAny_delItem_slot z.typeIs (by decide) U6 (PT U6 z.typeIs PySem.F.entry_dict_delitem (PySem.F.args_dict_delitem_2 _ _) (meets_dict_delitem_pairs (sk c.w) a (k:=k) (Yl rfl)) (⟨ks,(Ba z (by refine Ab A.length ?_;refine Ab Y7 ?_;lia) (Ab A.aab (j)) (λh' H I=>?_))⟩));exact Ag (EN (bZ r.1) A.del H) λQ B D=>O _ _ _ ⟨G,m.change (tk:=s.toks+1) u I.extBut B D⟩ h
theorem fE(hh:c.A.handled=Zs)(X:(xv,.ref a)∈T)(hl:(a,.list ts)∈L):CB c ⟨T,L,F⟩ xv (λi=>(ts[i]?).getD .none) ts.length λL=>(a,.list ts)∈L:=λs G m=>by
 have ex:xv=.ref a:=(m.temps _ X).zI;subst ex;refine BR (m.live _ hl) λo j items n u r=>?_;subst u;refine Te (As j) (AZ s.heap.objs.size (λi o=>o.cls=.type "list_iterator"/\o.data=.fields #[.ref a,.int i 0]) ([]) G rfl ?_ (λp hp=>(ZT hp ZE)) (m.zU ⟨rfl,rfl⟩ rfl));intro c' Y hk;refine Ba ?_ ?_ ?_ ?_
 ·intro i L F H I hi hR g;refine BR (g.live _ hR) λo E z n' h O=>?_;subst h;refine Am (g.prot _ (.head _)) λo j D C=>?_;have hv:ts[i]? =Zd ts[i]:=Za.getElem?_eq_getElem hi;refine Ag (O.get hv) λx ex rx=>TV (it:=s.heap.objs.size) (AU o j D C) (As E) (by simpa using ex) λh' P hs=>Am P λo2 R Q K=>BW x I rfl ?_;have ev:(λi=>(ts[i]?).getD V.none) i=ts[i]:=by simp[hv]
  exact Ab ev ((g.zN (q':=λo=>o.cls=.type "list_iterator"/\o.data=.fields #[.ref a,.int (i+1:Zf) 0]) (tk:=H.toks) hs.extBut R ⟨Q,K⟩).zH rx)
 ·intro L F H I hR g;refine BR (g.live _ hR) λo E z n' B O=>?_;subst B;refine Am (g.prot _ (.head _)) λo j D C=>Si Y (it:=s.heap.objs.size) (AU o j D C) (As E) ?_ λh' X=>mEA I rfl (g.zM (tk:=H.toks) X);refine Ab (Za.getElem?_toArray ..) ?_;exact Za.getElem?_eq_none (Ab O.length (ZL _))
 ·intro target i v' H U I g;exact Am (g.prot _ (.head _)) λo j D C=>Cu j D C (by rfl)
 ·intro i H U I g;exact Am (g.prot _ (.head _)) λo j D C=>Sj (it:=s.heap.objs.size) (AU o j D C) ⟨rfl,rfl⟩
theorem DH(e:h.get? a=Zd M9)(r:cy c.w.params G (.dictE l n) M9):∃ks,Jd G l ks/\h.DictAt (sk c.w) a ks n:=by
 refine Cb λC j=>GC r λz es g u=>?_;subst g;exact Am (u.pairs) λks s D B=>j (mEA ks s (At _ es.toArray e ⟨rfl,rfl,rfl⟩ (Ba rfl (λe A=>B e (by exact A.1)) (by trivial) (Ab s.keys (z)))))
theorem Jd.at_:∀{l:Za (Zi×V)} {ks:Za (Zi×Zb)} {i:Zf} {p:Zi×V},Jd G l ks->l[i]? =Zd p->∃x,ks[i]? =Zd (p.1,x)/\VR G p.2 x:=by
 intro l
 induction l with
 |nil=>exact @λg g g g e=>nj e
 |cons q l A=>
  intro ks i p C e;refine An C λx r j s h=>?_;subst j;cases i with
  |zero=>cases e;exact mEA x rfl s
  |succ i=>exact Ag (A h e) λu B z=>mEA u B z
theorem fG(hm:∃o,c.h1.get? Xv=Zd o)(hh:c.A.handled=Zs)(hx:(xv,.ref a)∈T)(hl:(a,.dictE l n)∈L):CB c ⟨T,L,F⟩ xv (λi=>((l[i]?).map λp=>V.str p.1).getD .none) l.length λL=>(a,.dictE l n)∈L:=λs G m=>by
 generalize((m.temps _ hx).zI:xv=.ref a)=ex;refine Cb λPP10 E=>?_;subst ex;refine Ag (m.live _ hl) λo u r=>Ag (DH u r) λks h1 h2=>E (wpAny_pyIter_dict (m.aae hm hl) h2 (AZ s.heap.objs.size (λi o=>o.cls=.type "dict_keyiterator"/\o.data=.fields #[.ref a,.int i 0,.int l.length 0,.int n 0]) ([]) G rfl ?_ (λp hp=>nomatch hp) (m.zU ⟨rfl,by refine Ab h1.length ?_;rfl⟩ rfl)));intro c' hh' hk;refine Ba ?_ ?_ ?_ ?_
 ·intro i L F O P hi hR h;refine Cb λPP11 B=>Ag (h.live _ hR) λo I R=>Ag (DH (c:=c') I R) λX g D=>Am (h.prot _ (.head _)) λo u H z=>?_;generalize(Za.getElem?_eq_getElem hi:l[i]? =Zd l[i])=hv;refine Ag (g.at_ hv) λx ex rx=>B (wpAny_pyNext_dict_item (it:=s.heap.objs.size) (AU o u H (Ab g.length (z))) D ex λY h' Q U hs=>Am U λo2 a1 a0 K=>BW Y P rfl ?_);refine xE (Wg Q) λt j=>?_;subst j;exact Ab (by simp[hv]:(λi=>((l[i]?).map λp=>V.str p.1).getD V.none) i=.str l[i].1) ((h.zN (q':=λo=>o.cls=.type "dict_keyiterator"/\o.data=.fields #[.ref a,.int (i+1:Zf) 0,.int l.length 0,.int n 0]) (tk:=O.toks) hs.extBut a1 ⟨a0,by rw[g.length]at K;exact K⟩).zH VR.str)
 ·intro L F O P hR h;refine Cb λPP12 C=>Ag (h.live _ hR) λo I R=>Ag (DH (c:=c') I R) λX g D=>Am (h.prot _ (.head _)) λo u H z=>C ?_;exact wpAny_pyNext_dict_end hh' (it:=s.heap.objs.size) (AU o u H (Ab g.length (z))) D (Za.getElem?_eq_none (Ab g.length (ZL _))) λh' hx=>mEA P rfl (h.zM (tk:=O.toks) hx)
 ·intro target i v' O a2 P h;exact Am (h.prot _ (.head _)) λo u H z=>Cu u H z (by rfl)
 ·intro i O a2 P h;exact Am (h.prot _ (.head _)) λo u H z=>wpAny_pyIter_keyiter (it:=s.heap.objs.size) (AU o u H z) ⟨rfl,rfl⟩
noncomputable abbrev HL(a:Zo):Obj:={cls:=.type "dict_values",data:=.fields #[.ref a]}
theorem fD(hh:c.A.handled=Zs)(hx:(xv,.ref f)∈T)(hb:(f,.raw (HL a))∈L)(hl:(a,.dictE l n)∈L):CB c ⟨T,L,F⟩ xv (λi=>((l[i]?).map λp=>p.2).getD .none) l.length λL=>(a,.dictE l n)∈L:=λs G m=>by
 generalize((m.temps _ hx).zI:xv=.ref f)=ex;refine Cb λPP13 B=>?_;subst ex;refine Ag (m.live _ hl) λo j r=>Am (m.live _ hb) λo2 eb e2 z_=>?_;subst e2;refine Ag (DH j r) λks h1 h2=>B (wpAny_pyIter_values (AU _ eb rfl rfl) h2 (AZ s.heap.objs.size (λi o=>o.cls=.type "dict_valueiterator"/\o.data=.fields #[.ref a,.int i 0,.int l.length 0,.int n 0]) ([]) G rfl ?_ (λp hp=>nomatch hp) (m.zU ⟨rfl,by refine Ab h1.length ?_;rfl⟩ rfl)));intro c' hh' hk;refine Ba ?_ ?_ ?_ ?_
 ·intro i L F K O hi hR h;refine Cb λPP14 z=>Ag (h.live _ hR) λo H P=>Ag (DH (c:=c') H P) λR g C=>Am (h.prot _ (.head _)) λo j E u=>?_;generalize(Za.getElem?_eq_getElem hi:l[i]? =Zd l[i])=hv;refine Ag (g.at_ hv) λx ex rx=>z (wpAny_pyNext_values_item (it:=s.heap.objs.size) (AU o j E (Ab g.length (u))) C ex λh' Q hs=>Am Q λo2 X U I=>BW x O rfl ?_);exact Ab (by simp[hv]:(λi=>((l[i]?).map λp=>p.2).getD V.none) i=l[i].2) ((h.zN (q':=λo=>o.cls=.type "dict_valueiterator"/\o.data=.fields #[.ref a,.int (i+1:Zf) 0,.int l.length 0,.int n 0]) (tk:=K.toks) hs.extBut X ⟨U,by rw[g.length]at I;exact I⟩).zH rx)
 ·intro L F K O hR h;refine Cb λPP15 D=>Ag (h.live _ hR) λo H P=>Ag (DH (c:=c') H P) λR g C=>Am (h.prot _ (.head _)) λo j E u=>D ?_;exact wpAny_pyNext_values_end hh' (it:=s.heap.objs.size) (AU o j E (Ab g.length (u))) C (Za.getElem?_eq_none (Ab g.length (ZL _))) λh' hx=>mEA O rfl (h.zM (tk:=K.toks) hx)
 ·intro target i v' K Y O h;exact Am (h.prot _ (.head _)) λo j E u=>Cu j E u (by assumption)
 ·intro i K Y O h;exact Am (h.prot _ (.head _)) λo j E u=>wpAny_pyIter_valiter (it:=s.heap.objs.size) (AU o j E u) ⟨rfl,rfl⟩
theorem Ar.aac{lo':LO}(m:Ar c ⟨T,(a,lo)::L',F⟩ G s)(h:∃o,s.heap.get? a=Zd o/\cy c.w.params G lo' o):Ar c ⟨T,(a,lo')::L',F⟩ G s where
 base:=m.base
 gsub:=m.gsub
 temps:=m.temps
 outer:=m.outer
 kept:=m.kept
 frames:=m.frames
 live:=λp g=>(by
  rcases Zr.mp g with rfl|g
  ·exact h
  ·exact m.live p (.tail _ g))
 prot:=m.prot
 nodup:=m.nodup
 apart:=m.apart
 gens:=m.gens
 os:=m.os
 dr:=m.dr
theorem MR.aap(h:L.Perm ((a,.dictE l n)::L'))(m:MR c ⟨T,L,F⟩ s):MR c ⟨T,(a,.dict l)::L',F⟩ s:=by
 refine xE m λG m=>?_;generalize(m.perm h)=m;refine Ag (m.live _ (.head _)) λo u z=>GC z λj es g r=>?_;subst g;exact⟨G,m.aac (mEA _ u (Er j es n rfl r))⟩
end
end
section
variable{xs rest:Za Zb}{x y:Zb}{p:Zf}{expr:Zl}
noncomputable def setS(i:Zf)(v:α)(l:Za α):Za α:=if i<l.length then l.set i v else l++[v]
theorem Ay.setS(i:Zf)(h:Ay G l xs)(g:VR G D8 x):Ay G (Mine.setS i D8 l) (Mine.setS i x xs):=by
 unfold Mine.setS;refine Ab h.length ?_;split
 ·exact h.set i g
 ·exact h.append (.cons g .nil)
theorem hG(g:i<=vs.length):((vs.map Zd).toArray++Sc (i+1-(vs.map Zd).toArray.size) Zs).setIfInBounds i (Zd y)=((setS i y vs).map Zd).toArray:=by
 apply OJ;refine Ab (ZR ..) ?_;refine Ab (Zz ..) ?_;unfold setS;split
 ·rename_i h;refine Ab ((Nat.sub_eq_zero_of_le h) ..) ?_;simp
 ·rename_i h;generalize(Uq g (Ws.mp h):i=vs.length)=this;subst this;refine Ab ((WQ .. :vs.length+1-vs.length=1) ..) ?_;simp[List.set_append]
noncomputable def Hd(K:YJ)(C:Zo)(x:Zi)(p i:Zf):Bool:=plainGet K C x&&isClsIn K C&&Wj K (.ref C) x==Zd (Zd (.ref p))&&Qs K (.ref p) "__get__"==Zd (Zd (.builtin "member_descriptor.__get__"))&&OY K (.ref p)==Zd Zm&&slotIn K p C==Zd i&&
 Wj K (.ref C) "__setattr__"==Zd (Zd (.builtin "object.__setattr__"))&&Qo K C&&PO K C x==Zd (Zd (.ref p))&&Su K (.ref p)==Zd (.type "member_descriptor")&&Vl i 1000
section
theorem Mn(m:Ar c ⟨T,L,F⟩ G s)(z:(a,.slots C l)∈L):
 ∃j vs,InstAt s.heap a ⟨.ref C,Zd j,.plain,(vs.map Zd).toArray⟩ C (Zd (EZ [] 0))/\Ay G l vs/\G j (EZ [] 0):=by
 refine Ag (m.live _ z) λo u A=>An A λj vs h r g=>?_;subst h;exact At j vs ⟨u,rfl,rfl,m.gsub _ _ g⟩ r g
theorem GK{x:Zf}{v:V}(X:K.In c.h1)(D:(ov,.ref x)∈T)(B:(x,.slots n l)∈L)(hb:Hd K n name p i=Zm)(H:l[i]? =Zd v)(u:Handed v)
 (h:∀v',P v' ⟨(v',v)::T,L,F⟩):Ev c ⟨T,L,F⟩ (Ve ov name expr) P:=Ev.rw λs G R O m=>by
 have E:ov=.ref x:=(m.temps _ D).zI;refine Cb λC z=>?_;subst E;refine An (Mn m B) λU vs I r g=>?_;have X':=X.keeps m.old;simp only[Hd,Z6,Wb]at hb;refine xA hb λj b11=>?_;obtain⟨⟨⟨⟨⟨⟨⟨⟨⟨b1,b2⟩,b3⟩,b4⟩,b5⟩,b6⟩,b7⟩,b8⟩,b9⟩,wM⟩:=j;exact Ag (r.get H) λy Q A=>z (Om X' I (SO b1).1 (findObj_data b2 b3 b4 b5) (SO b1).2 (Xg (slot_get (s:={s with toks:=s.toks+1}) X' I b6 (v:=y) (by simp[Q]) (TC (u.is A) (O _ _ _ ⟨G,(m.toks (tk:=s.toks+1)).zH A⟩ (h y))))))
theorem dZ{x:Zf}{v:V}{P:ZU->St->Prop}(X:K.In c.h1)(z:(ov,.ref x)∈T)(Y:(v',v)∈T)(u:BS x (.slots nx l) (.slots nx (setS i v l)) L L')(hb:Hd K nx name p i=Zm)(Q:i<=l.length)
 (h:P () ⟨T,L',F⟩):Ev c ⟨T,L,F⟩ (QW ov name v') P:=Ev.raw λs G m=>by
 have O:ov=.ref x:=(m.temps _ z).zI;subst O;obtain⟨E,vs,I,r,g⟩:=Mn m u.mem;generalize(X.keeps m.old)=B;have rv:VR G v v':=m.temps _ Y;simp only[Hd,Z6,Wb]at hb;obtain⟨⟨⟨⟨⟨⟨⟨⟨⟨⟨b1,b2⟩,b3⟩,b4⟩,b5⟩,b6⟩,b7⟩,b8⟩,b9⟩,wM⟩,b11⟩:=hb;refine set_plain B I b7 (osa_descr (s:={s with toks:=s.toks+1}) Qb B I b8 b9 wM ?_);obtain⟨n,tn,A,j,H,d,sl,C,z,hc,U,hb,rfl⟩:=slot_of B b6;obtain⟨D,gg,dr,t,os⟩:=s;generalize(I.type (M:=c.M))=R;generalize(QL (M:=c.M) B U)=L1;have L2:Vq c.M D (Pi (.ref nx)) C.slotNames:=(QH B hc).andThen .now;generalize I.at_=hx;dsimp only at z hx R L1;generalize(SP (M:=c.M) z 0 (v:=.str n tn) rfl)=f0;generalize(SP (M:=c.M) z 1 (v:=A) rfl)=f1;generalize(SP (M:=c.M) z 3 (v:=.builtin "proto.slot#set") rfl)=f3;generalize(SP (M:=c.M) z 4 (v:=.int j H) rfl)=f4;refine codeAny_call_builtin Qb.plain KF.entry_mset (Qb.check _ _ _ _ _ _ _ _ ⟨_,z,rfl⟩ (KF.args_mset _ _ _) ?_);unfold Yx.«member_descriptor.__set__» RO TN TG TP RM;have f5:Vq c.M D (S3 (.ref p)) [.ref p]:=((Uo (part:=Zs) z).andThen .now).andThen (Rw (by kernel_rfl))
 repeat lk
 refine⟨YK _ (by decide+kernel),YU KF.entry_slotset ?_⟩;unfold Yx.«proto.slot#set» Oq
 repeat lk
 refine Ab (Yc hb ..) (Zp (Zg ?_));unfold setSlotAt;refine Ab (Yc (by rw[Y7];exact λq=>ZT (Zv q (Yf (Zw b11))) (by decide)) ..) ?_;generalize r.length=q;refine Qr hx (Zp ?_);refine⟨_,⟨G,m.change (tk:=t+1) u (Y3 _ _ _).extBut (Yo.get?_update_self (h:=D) (a:=x) (o:=⟨.ref nx,Zd E,.plain,(vs.map Zd).toArray⟩) (λo=>{o with slots:=(o.slots++Sc (C.slotNames.length-1-j.toNat+1-o.slots.size) Zs).setIfInBounds (C.slotNames.length-1-j.toNat) (Zd v')}) hx rfl) ⟨E,_,?_,r.setS _ rv,g⟩⟩,h⟩;refine Bj (hG (vs:=vs) (y:=v') (i:=C.slotNames.length-1-j.toNat) (by exact Zv Q (Z1 q.symm))) ?_;rfl
theorem mE(X:K.In c.h1)(hm:OV K C=Zm)(hi:Wj K (.ref C) "__init__"=Zd (Zd (.ref a)))(H:Su K (.ref a)=Zd (.type "function"))
 (h:∀x,Ec (c.und (.builtin "type.__call__" ⟨.ref C::rest,kw⟩)) ⟨(.ref x,.ref x)::T,(x,.slots C [])::L,F⟩ (.call (.ref a) ⟨.ref x::rest,kw⟩) λv A=>v=.none/\P (.ref x) A):Ev c ⟨T,L,F⟩ (Y8 (.ref C) rest kw) P:=Ev.raw λs G m=>by
 refine Xg ?_;generalize(X.keeps m.old)=D;refine Am (m.zP (o:=W7) (tk:=s.toks) rfl) λE le g U=>?_;generalize(U.push (lo:=.slots C []) (o:=S0 C s.heap.objs.size) (tk:=s.toks) (At s.heap.objs.size ([]) rfl .nil g))=O;obtain⟨u,I,d,t,os⟩:=s;refine make_core (makes_of D hm) (TY D hi) (λB=>OW D B H) (.inl rfl) ?_;have R:Ar (c.und (.builtin "type.__call__" ⟨.ref C::rest,kw⟩)) ⟨(.ref (u.objs.size+1),.ref (u.objs.size+1))::T,(u.objs.size+1,.slots C [])::L,F⟩ E ⟨(u.push W7).push (S0 C u.objs.size),I,d,t,os⟩:=by
  refine Ar.und.mpr ?_;generalize(O.zH (v':=.ref (u.objs.size+1)) (v:=.ref (u.objs.size+1)) VR.val)=this;simp only[X8]at this;exact this
 refine Xi (h (u.objs.size+1) _ ⟨E,R⟩) λr s' z=>?_;cases r with
 |error e=>exact z.elim
 |ok Y=>
  cases Y with
  |ret v=>
   refine Am z λA j e p=>?_;obtain⟨Q,m'⟩:=j;exact Es e A ⟨Q,Ar.und.mp m'⟩ p
  |next=>exact z.elim
  |brk=>exact z.elim
  |cont=>exact z.elim
end
end
section
variable{K:Tm}{q:Xp->Prop}{rest:Za Zb}{own' S:Za Zo}{env2:YG}{rho:Za (Zi×Ze V)}{m:Zi->Ze Zb}{i:Z7}{P:YA->St->Prop}{X:ZV}{H:St->Prop}{s1:Zj}{vs:Zf->V}{Rl:Za (Zo×LO)->Prop}{tp hp:Xf}{b₀:Yv}{suite:Za Yv}{R:Zb->Zj->Prop}
structure wv(c:Cx)(F:Fm)(env:YG):Prop where
 fr:∃l,c.A.frames=Zd (env::l)/\∀e∈env::l,e.scope.kind≠.module/\e.frame=Zd e.locals/\∃F'∈c.fms F,F'.env.locals=e.locals/\e.locals∈F'.own
structure DX(c:Cx)(env:YG)(own:Za Zo):Prop where
 fr:∃l,c.A.frames=Zd l/\∀e∈l,e.scope.kind≠.module/\e.frame=Zd e.locals/\((env.locals=e.locals/\e.locals∈own)∨∃p∈c.Fs,p.2.env.locals=e.locals/\e.locals∈p.2.own)
def uf(c:Cx)(env:YG):Prop:=∃l,c.A.frames=Zd (env::l)
section
theorem DX.keep(h:DX c env own):DX (c.keep K) env own:=⟨h.fr⟩
theorem DX.prot(h:DX c env own):DX (c.prot a q) env own:=⟨h.fr⟩
theorem DX.in1(h:DX c env own):DX c.in1 env own:=⟨h.fr⟩
theorem DX.und(h:DX c env own):DX (c.und (.builtin "type.__call__" ⟨.ref C::rest,kw⟩)) env own:=⟨h.fr⟩
theorem DX.comp(h:DX c F.env F.own):DX (c.comp T F) cenv own':=by
 refine Ag (h.fr) λl hl r=>⟨l,hl,λe j=>?_⟩;refine Du (r e j) λu s g=>Cp u s (.inr ?_);rcases g with g|⟨p,hp,g⟩
 ·exact mEA (T,F) (.head _) g
 ·exact mEA p (.tail _ hp) g
theorem DX.call(h:DX c F.env F.own)(r:Je env2 own' ks):DX (c.call T F env2) env2 own':=by
 refine Ag (h.fr) λl hl s=>?_;refine⟨env2::l,by refine(?_:c.A.frames.map _=_);refine Ab hl ?_;rfl,λe j=>?_⟩;rcases Zr.mp j with rfl|j
 ·exact Cp (by refine Ab r.ok.kind ?_;decide) r.fr (.inl ⟨rfl,r.ow.mem⟩)
 ·refine Du (s e j) λz u g=>Cp z u (.inr ?_);rcases g with g|⟨p,hp,g⟩
  ·exact mEA (T,F) (.head _) g
  ·exact mEA p (.tail _ hp) g
theorem DX.head(h:DX c F.env F.own):uf (c.call T F env2) env2:=by
 refine Ag (h.fr) λl hl g=>?_;exact⟨l,by refine(?_:c.A.frames.map _=_);refine Ab hl ?_;rfl⟩
theorem DX.frA(h:DX c env own)(s:uf c env):wv c ⟨env,own,rho⟩ env:=by
 refine xE s λl hl=>Ag (h.fr) λB g r=>?_;rw[hl]at g;cases g;refine⟨l,hl,λe u=>?_⟩;refine Du (r e u) λA z j=>Cp A z ?_;rcases j with⟨j,h4⟩|⟨p,hp,j⟩
 ·exact AU _ (.head _) j h4
 ·exact mEA p.2 (.tail _ (ZJ hp)) j
theorem je(u:∀b o,h.get? b=Zd o->b∉S->h'.get? b=Zd o)(z:∀b o,h.get? b=Zd o->b∈S->∃sl,h'.get? b=Zd {o with slots:=sl})(B:h.Ns a m):h'.Ns a m:=by
 refine Aq B λo es j s g r=>?_;by_cases ha:a∈S
 ·exact xE (z a o s ha) λsl A=>AG _ es j A g r
 ·exact AG o es j (u a o s ha) g r
theorem IY{v:Ze Zb}(j:∀b o,h.get? b=Zd o->b∉S->h'.get? b=Zd o)(s:∀b o,h.get? b=Zd o->b∈S->∃sl,h'.get? b=Zd {o with slots:=sl})(z:h.IsCell a v):h'.IsCell a v:=by
 refine Ag z λo g r=>?_;by_cases ha:a∈S
 ·exact xE (s a o g ha) λsl u=>mEA _ u r
 ·exact mEA o (j a o g ha) r
theorem lO.slots(g:∀b o,h.get? b=Zd o->b∉S->h'.get? b=Zd o)(u:∀b o,h.get? b=Zd o->b∈S->∃sl,h'.get? b=Zd {o with slots:=sl}):∀{l:Za Fm},lO G h l->lO G h' l:=by
 intro l
 induction l with
 |nil=>exact λK=>trivial
 |cons F r j=>
  intro z;obtain⟨⟨⟨m,D,E⟩,I,H⟩,rd,B,t⟩:=z;refine Ba ⟨⟨m,je g u D,λx v C=>?_⟩,λA s=>?_,H⟩ rd B (j t)
  ·generalize(E x v C)=this;split at this
   ·exact this
   ·exact Ag this λv' e r=>mEA v' (IY g u e) r
  ·exact xE (I A s) λv e=>⟨v,IY g u e⟩
theorem Ar.aa0(m:Ar c σ G s)(j:∀b o,s.heap.get? b=Zd o->b∉S->h'.get? b=Zd o)(C:∀b o,s.heap.get? b=Zd o->b∈S->∃sl,h'.get? b=Zd {o with slots:=sl})
 (A:∀b∈S,b∈(c.fms σ.F).flatMap (·.own)):Ar c σ G {s with heap:=h',toks:=tk}:=by
 generalize m.nodup=nd;unfold A3 at nd;rw[ZY]at nd;refine Du nd λB h z=>?_;rw[ZY]at h;refine Du h λB B u=>?_;generalize(λb o g hb=>m.apart b (Zq _ (Zk _ (A b hb))) o g:∀b o,G b o->b∉S)=D;exact {
  base:=m.base
  gsub:=λb o g=>j b o (m.gsub b o g) (D b o g)
  temps:=m.temps,outer:=m.outer,kept:=m.kept
  frames:=m.frames.slots j C
  live:=λp hp=>Ag (m.live p hp) λo e r=>mEA o (j _ _ e λhb=>z p.1 (ZJ hp) p.1 (Zk _ (A _ hb)) rfl) r
  prot:=λp hp=>Ag (m.prot p hp) λo e r=>mEA o (j _ _ e λhb=>u p.1 (A _ hb) p.1 (ZJ hp) rfl) r
  nodup:=m.nodup,apart:=m.apart,gens:=m.gens,os:=m.os,dr:=m.dr}
noncomputable def Cx.mark(c:Cx)(e:Ze Zb):Cx:={c with A:=c.A.mark e}
theorem Ar.mark{e:Ze Zb}:Ar (c.mark e) σ G s↔Ar c σ G s:=⟨λm=>⟨m.base,m.gsub,m.temps,m.outer,m.kept,m.frames,m.live,m.prot,m.nodup,m.apart,m.gens,m.os,m.dr⟩,λm=>⟨m.base,m.gsub,m.temps,m.outer,m.kept,m.frames,m.live,m.prot,m.nodup,m.apart,m.gens,m.os,m.dr⟩⟩
theorem jo(g:Gd c)(m:Ar c σ G s)(j:Bq env ks)(H:(x,.globalImplicit)∈ks)(h:(x,v')∈bM)(q:Q v' s):ZZ c.M A (Yk (.Name x p) env) Q E s:=by
 generalize(beq_iff_eq.mp (Yj.mp (de c.w.params) _ h))=h;refine Du (j.names x _ H) λn1 n2 I=>An (g.glob) λB C z hb r=>?_;have hg':s.heap.Ns env.globals B:=by refine Ab j.glob ?_;exact z.keeps m.old
 have hb':s.heap.Ns env.builtins C:=by refine Ab j.bi ?_;exact hb.keeps m.old
 unfold gv at h;split at h
 ·rename_i u e;cases h;exact Wu j.kind n1 (Tu hg' (mg_of g.kx z e) q) n2
 ·rename_i e;split at h
  ·cases h
  ·rename_i D;exact Wu j.kind n1 (Tj hg' (mg_none_of g.kx z e) hb' ((r x D).trans h) q) n2
 ·cases h
noncomputable abbrev oq:Za (Zi×Z7):=[(Zc "_NODE_OUT",-1),(Zc "_NODE_DONE",-2)]
noncomputable def yS(o:Ze Zb)(i:Z7):Bool:=match o with
 |none=>Zh
 |some v=>mf Zh v (i:=λj=>j==i)
theorem oh{o:Ze Zb}(h:yS o i=Zm):∃t,o=Zd (.int i t):=by
 cases o with
 |none=>exact ZK h
 |some v=>
  cases v with
  |int j t=>exact⟨t,ZH (λj=>Zd (TB j t)) (Tt h)⟩
  |_=>exact ZK h
theorem rG{P:Zb->St->Prop}(g:Gd c)(B:Bq env ks)(z:(x,.globalImplicit)∈ks)(C:(x,i)∈oq)(h:∀v',P v' ⟨(v',.int i)::T,L,F⟩):Ev c ⟨T,L,F⟩ (Yk (.Name x j9) env) P:=by
 generalize(λP=>by kernel_rfl:∀P,(oq.all λp=>yS (gv (kx P) p.1) p.2)=Zm)=u;refine xE (oh (Yj.mp (u c.w.params) _ C)) λt e=>?_
 ·exact(cD (P:=λv r=>v=.int i t/\r=⟨(.int i t,.val (.int i t))::T,L,F⟩) g B z e ⟨rfl,rfl⟩).conv λv r j=>xA j λA D=>by
   subst A D;exact mEA ⟨(.int i t,.int i)::T,L,F⟩ (λs j=>xE j λG m=>⟨G,(m.weak (λp hp=>.tail _ hp) (Vc _)).zH VR.int⟩) (h _)
def cv(c:Cx)(X:ZV)(H:St->Prop)(e:Zb)(s:Zj):Prop:=∃x G h g,e=.ref x/\Ar c g G {s with heap:=h}/\SQ h s.heap x X/\H g
def ED(c:Cx)(X:ZV)(H:St->Prop)(env:YG)(e:Zb)(s:Zj):Prop:=∃x G h j g l tp,e=.ref x/\Ar c g G {s with heap:=h}/\SQ h j x X/\Heap.NotedW (TI.gone h ((env::l).map (·.locals))) (env::l) x (.type X) tp (Xj env.locals) j s.heap/\
 env.frame=Zd env.locals/\(∀b∈(env::l).map (·.locals),b∈(c.fms g.F).flatMap (·.own))/\(∀e∈env::l,∃o,h.get? e.locals=Zd o/\∀vs,o.data≠.fields vs)/\H g
theorem JW(hF:∀a1,H a1->wv c a1.F env)(z:cv c X H v' s1):ZZ c.M c.A (Uc v' env) (λs s'=>ED c X H env v' s') E s1:=by
 refine D4 z λx G1 P O C m1 u hH=>?_;subst C;refine Ag ((hF O hH).fr) λl hfr j=>An (u.there) λob Y R U hd=>?_;have hS:∀b∈(env::l).map (·.locals),b∈(c.fms O.F).flatMap (·.own):=λb hb=>by
  refine Ag (Ye.mp hb) λv' hm D=>?_;subst D;exact Du (j v' hm) λs s q_=>Am q_ λF' L s Q=>Tz.mpr (mEA F' L Q)
 have K:∀v'∈env::l,∃o,P.get? v'.locals=Zd o/\∀vs,o.data≠.fields vs:=λv' hm=>by
  refine Du (j v' hm) λs s q_=>Am q_ λF' L T s=>?_;have:∀{fs:Za Fm},lO G1 P fs->F'∈fs->∃m,P.Ns F'.env.locals m:=by
   intro fs
   induction fs with
   |nil=>intro s h;exact(ZT h ZE)
   |cons F0 r ih=>
    intro st h;rcases Zr.mp h with rfl|h
    ·exact⟨_,st.1.ns.choose_spec.1⟩
    ·exact ih st.2.2.2 h
  refine FE (this m1.frames L) λmm o es ep Q hdd s=>?_;rw[T]at Q;exact mEA o Q (λvs q=>by rw[hdd]at q;cases q)
 have g:(TI.gone P ((env::l).map (·.locals))).StaysIn s1.heap:=λb o eb=>u.keeps b o (TI.gone_some eb).2;have G:∀es:Za YG,(∀v'∈es,v'∈env::l)->s1.heap.FunFrames (TI.gone P ((env::l).map (·.locals))) es:=by
  intro es
  induction es with
  |nil=>intro s;trivial
  |cons v' r ih=>
   intro I;exact Du (j v' (I v' (.head _))) λhk hf s=>Ag (K v' (I v' (.head _))) λo Q hnf=>Cp hk ⟨v'.locals,o,hf,TI.gone_none (ZJ (I v' (.head _))),u.keeps _ _ Q,hnf⟩ (ih λe' h=>I e' (.tail _ h))
 have B:=(j env (.head _)).2.1;unfold Uc;simp only[B];refine Zg (Xw R hd (x:=.none) rfl ?_);refine Ab (Yc (by decide) ..) (wpAny_entryW (a0:=Y) hfr (G (env::l) λs h=>h) B R g (TI.none_of (λb o eb=>(TI.gone_some eb).2) u.new) hd (by refine(?_:1<6);exact ZQ _ _) rfl λh1 k=>?_);rw[U]at k;exact gq x G1 (It P s1.heap O (Ck l Y rfl m1 u k (Ba B hS K hH)))
theorem bf(z:ED c X H env v' s1):ZZ c.M c.A (Uc v' env) (λO D=>ED c X H env v' D) E s1:=by
 generalize z=z0;refine Cb λY j=>ac z λx G1 G u=>Bt u λhx Q l tp h u=>CU u λm1 P g r O=>?_;subst h;obtain⟨k1,k2,⟨oe,vs,T,oT,ts,he,⟨B,G⟩,C,L,I,R,K,s,U⟩,k4⟩:=g;refine j ?_;unfold Uc;simp only[r];refine Zg (Xw he C L ?_);refine Ab (if_pos (by rfl:(Yn T !=Xn)=Zm) ..) (Zg (Xw K s U ?_));exact Ab (if_pos (by simp:(Xj env.locals==Xj env.locals)=Zm) ..) (Zp z0)
theorem fc(hE:∀s',ED c X H env v' s'->E v' s')(z:ED c X H env v' s1):cameBackBy c.M c.A env E v' s1:=by
 refine Cb λPP4 K=>ac z λx G1 h0 U=>Bt U λhx R l tp r U=>CU U λm1 Q j B hr=>?_;subst r;obtain⟨k1,k2,⟨oe,vs,T,oT,ts,Y,G,L,P,D,I,O,s,h3⟩,k4⟩:=j;refine K ?_;have u:3<ts.size:=(ZD.getElem?_eq_some_iff.mp h3).1;have other:∀b,b≠T->(s1.heap.update T (Rv (·.setIfInBounds 3 (Xj env.locals)))).get? b=s1.heap.get? b:=
  λb hb=>Yo.get?_update_other _ _ (PQ hb)
 have g:∀b o,s1.heap.get? b=Zd o->(∀vs,o.data≠.fields vs)->b≠T:=λb o hb h q=>by
  rw[q,O]at hb;injection hb with hb;subst hb;exact h ts s
 unfold cameBackBy;refine Zg (Xw Y L P ?_);refine Ab (Yc (by simp: ¬((Yn T==Xn)=Zm)) ..) ?_;unfold setFlight;refine Zg (Xw Y L P ?_);refine Ab (if_pos (by rfl:(Yn T !=Xn)=Zm) ..) (Ab B ?_);refine UW O s u (hE _ (gq x G1 (Ce h0 hx R l tp rfl m1 Q (Cp ⟨λb o C=>(other b λq=>by rw[q,D]at C;cases C).trans (k1 b o C),k2.of_keeps λb o hb h=>mEA o ((other b (g b o hb h)).trans hb) rfl,?_,λb o hb h=>?_⟩ B hr))))
 ·exact Ce oe vs T _ _ ((other x (PQ I)).trans Y) G L (Cp P D (Ba I (Yo.get?_update_self _ O (Xy (WA s _))) (WA s _) (by simp[u])))
 ·exact xE (k4 b o hb h) λsl hs=>⟨sl,(other b (g b _ hs h)).trans hs⟩
theorem ag(hit:CB c ⟨T,L,F⟩ xv vs N Rl)(hh:c.A.handled=Zs)(hF:∀j,H j->wv c j.F env)(J:Zf->Za (Zo×LO)->Fm->Prop)(h0:J 0 L F)(hR:∀i L F,J i L F->Rl L)
 (B:∀K it q i L F v',i<N->J i L F->Ev ((c.keep K).prot it q) ⟨[(v',vs i)],L,F⟩ (WU target env v') λh u=>∀s G,Ar ((c.keep K).prot it q) ⟨[],u.L,u.F⟩ G s->ZZ c.M c.A (VB body env) (λf C=>f=.next/\∃L' D,J (i+1) L' D/\MR ((c.keep K).prot it q) ⟨[],L',D⟩ C) (cv c X H) s)
 (done:∀L F,J N L F->P .next ⟨[],L,F⟩):
 ∀s,MR c ⟨T,L,F⟩ s->ZZ c.M c.A (RJ xv) (λit s2=>XQ c.M c.A (.forLoop target it body [] env) (λr C=>match r with|.ok f=>∃j,MR c j C/\P f j|.error e=>ED c X H env e C) s2) No s:=λs g=>xE g λG m=>by
 refine Zu (hit s G m) (λitv s2 g=>D4 g λit I K G2 e ok hK m2=>?_) λh h e=>e;subst e;generalize(λp hp=>m2.temps p (hK p hp):∀p∈K,VR G2 p.2 p.1)=kx;refine CC (ok (c.keep K) hh λp hp=>Zk _ hp) λok1 a2 a0 h=>?_;generalize((Ar.keepIn (c:=c.prot it (I 0)) m2 kx).reset)=U;refine Rd (λn s=>∃i L F G,N=i+n/\J i L F/\Ar ((c.keep K).prot it (I i)) ⟨[],L,F⟩ G s) (λn s hI=>?_) N (⟨0,(AG L F G2 (by exact(Y0 _).symm) h0 U)⟩);refine FE hI λi L F G hN E m=>?_;cases n with
 |zero=>
  generalize(by exact hN.symm:i=N)=Q;subst Q;refine Zu (a2 L F s G (hR _ _ _ E) m) (λr s1 g=>Ag g λR Y O=>?_) λh h e=>e.elim;subst Y;exact VH (mEA _ ⟨R,O.zQ⟩ (done L F E))
 |succ n=>
  generalize(by lia:i<N)=Q;refine Zu (ok1 i L F s G Q (hR _ _ _ E) m) (λr s1 g=>AV g λv' R Y O=>?_) λh h e=>e.elim;subst Y;refine Zu (a0 target _ v' s1 _ R O) (λh s2 e=>?_) λh h e=>e.elim;subst e;refine Zu (B K it _ i L F v' Q E _ ⟨R,O⟩) (λh s3 hY=>Ag hY λσ3 hX hb=>xE hX λG3 U=>?_) λh h e=>e.elim;refine Zu (hb s3 G3 U.reset) (λf s4 g=>xA g λef q_=>AV q_ λL' D a1 q_=>xE q_ λG4 m4=>?_) λe s4 z=>JW hF z;subst ef;exact⟨n,(cV (YI _) (i+1) (AG L' D G4 (by lia) a1 m4))⟩
theorem iS(g:Gd c)(he:Bq env ks)(hx:(y,.globalImplicit)∈ks)(hv:(y,Y9 X)∈bM)
 (T:X0 (.type X) (.type "BaseException")=pure Zm) (hnt:X0 (.type ((Manifest.find? X).elim "type" λx=>x.metatype)) (.type "tuple")=pure Zh) (U:X0 (.type X) (.type X)=pure Zm)
 (hR:∀e s1,R e s1->∀E:Zb->Zj->Prop,ZZ c.M c.A (Uc e env) (λB Y=>ED c X H env e Y) E s1)
 (hb:∀s G,Ar c σ G s->ZZ c.M c.A (VB body env) (λf Y=>∃j,MR c j Y/\P f j) R s)
 (hh:∀j x,H j->Ev (c.mark (Zd (.ref x))) j (VB (b₀::suite) env) P):
 Ev c σ (VW (.Try body [.ExceptHandler (Zd (.Name y tp)) Zs (b₀::suite) hp] [] [] j9) env) P:=λs a0=>xE a0 λG m=>by
 refine wpAny_Try_except (Zu (hb s G m) (λf s1 z=>?_) λe s1 z=>?_)
 ·cases f with
  |next=>exact VH z
  |_=>exact z
 refine Zu (hR e s1 z _) (λB s1 z=>?_) λB B e=>e;refine xE z λx q_=>ac q_ λG1 h0 hx0 q_=>Cd q_ λO l tp0 u m1 hx1 h henv hS L hH=>?_;subst u;refine Sp h.1 h.2.1 h.2.2.1 λK q1 q2 q3 q4=>wpAny_handleBy_builtin T hnt U ?_;have up:∀D,(TI.gone h0 ((env::l).map (·.locals))).StaysIn D->(∀b o,K.get? b=Zd o->(∀vs,o.data≠.fields vs)->D.get? b=Zd o)->Ar c O G1 {s1 with heap:=D}:=λD u1 u2=>by
  refine Ar.aa0 (s:={s1 with heap:=h0}) (h':=D) m1 (tk:=s1.toks) (S:=(env::l).map (·.locals)) (λb o I hn=>u1 b o ((TI.gone_get hn).trans I)) (λb o I hb=>?_) hS;refine Ag (Ye.mp hb) λe hm r=>?_;subst r;refine Ag (L e hm) λo' Q C=>?_;revert I;refine(?_:(h0.get? e.locals=Zd o)->_);intro I;rw[Q]at I;cases I;exact xE (h.2.2.2 _ _ (hx1.keeps _ _ Q) C) λsl hs=>⟨sl,u2 _ _ (q4 _ _ hs C) C⟩
 refine jo (c:=c) g (up K q1 λB B e B=>e) he hx hv (Cp rfl ?_ ?_)
 ·exact Ag (q3.at.there) λob h1 K=>mEA ob h1 K
 ·refine Ab (if_pos rfl ..) (Sp (s:={s1 with heap:=K}) q1 q2 q3.at λD r1 r2 r3 r4=>?_);refine Zu (hh O x hH _ ⟨G1,Ar.mark.mpr (up D r1 r4)⟩) (λf s2 hY=>Ag hY λσ2 hX p=>xE hX λG2 m2=>mEA σ2 ⟨G2,Ar.mark.mp m2⟩ p) λB B e=>e.elim
theorem pR(g:Gd c)(I:Bq env ks)(D:(y,.globalImplicit)∈ks)(K:(y,Y9 X)∈bM)
 (j:X0 (.type X) (.type "BaseException")=pure Zm) (u:X0 (.type ((Manifest.find? X).elim "type" λx=>x.metatype)) (.type "tuple")=pure Zh) (r:X0 (.type X) (.type X)=pure Zm)
 (L:∀h,H h->wv c h.F env)
 (hb:∀s G,Ar c σ G s->ZZ c.M c.A (VB body env) (λf B=>∃h,MR c h B/\P f h) (cv c X H) s)
 (C:∀h x,H h->Ev (c.mark (Zd (.ref x))) h (VB (b₀::suite) env) P):
 Ev c σ (VW (.Try body [.ExceptHandler (Zd (.Name y tp)) Zs (b₀::suite) hp] [] [] p) env) P:=
 iS g I D K j u r (λe s1 z E=>JW L z) hb C
end
end
section
variable{w:Z8}{b:Zo}{items:ZD Zb}{x:Zb}
noncomputable abbrev sz(a:Zo)(i:Zf):Obj:={cls:=.type "list_iterator",data:=.fields #[.ref a,.int i 0]}
noncomputable abbrev Gu(it:Zo):Obj:={cls:=.type "method-wrapper",data:=.fields #[.builtin "list_iterator.__next__",.ref it]}
theorem vy:V1 (.builtin "list_iterator.__next__")=pure (.type "wrapper_descriptor"):=by refine(?_:SK _=_);refine Ab Vv ?_;kernel_rfl
theorem qO:Wz (.type "wrapper_descriptor") "__get__"=pure (Zd (.builtin "wrapper_descriptor.__get__")):=by refine Ab (YF ..) ?_;refine Ab (Ya ..) ?_;kernel_rfl
theorem qN:Wz (.type "wrapper_descriptor") "__set__"=pure none:=by refine Ab (YF ..) ?_;refine Ab (Ya ..) ?_;kernel_rfl
theorem qP:Wz (.type "wrapper_descriptor") "__delete__"=pure none:=by refine Ab (YF ..) ?_;refine Ab (Ya ..) ?_;kernel_rfl
theorem Fq:Ps "list_iterator" "__getattribute__" "object.__getattribute__":=
 .of (owner:="object") (n:="__getattribute__") (by refine Ab (YF ..) ?_;refine Ab (Ya ..) ?_;kernel_rfl) (by rfl) (by rfl) (by rfl)
  (by first|exact .inl (by decide+kernel)|exact .inr (by decide+kernel)) (by refine Ab (YN ..) ?_;kernel_rfl)
theorem sy:X0 (.type "list_iterator") (.type "list_iterator")=pure true:=by refine Ab (YN ..) ?_;kernel_rfl
theorem Ku:Wf UD "wrapper_descriptor.__get__"=Zd Yx.«wrapper_descriptor.__get__»:=YP (by kernel_rfl)
theorem cj(u:s.TypeIs (.ref it) "list_iterator")(h:R (.ok (.ret (.ref s.heap.objs.size))) {s with heap:=s.heap.push (Gu it)}):
 XQ (XA prog w) A (.call (.builtin "wrapper_descriptor.__get__") ⟨[.builtin "list_iterator.__next__",.ref it,.type "list_iterator"],[]⟩) R s:=by
 refine XT ?_;refine(?_:ZZ _ _ (V2 (.builtin "wrapper_descriptor.__get__") _) _ _ _);refine(Xc (K:=[]) (λa o e=>by cases e) (r:=.again (.builtin "wrapper_descriptor.__get__" ⟨[.builtin "list_iterator.__next__",.ref it,.type "list_iterator"],[]⟩)) (by kernel_rfl)).here ?_;refine⟨YK _ (by decide+kernel),YU Ku ?_⟩;unfold Yx.«wrapper_descriptor.__get__»;refine Zg (Zp (a:=(Wm "list_iterator.__next__",Zd (Yn it),Zd (Y9 "list_iterator"))) ?_);refine Zg (Zg (Zp ?_));generalize g:(".".intercalate ("list_iterator.__next__".cutAt '.').dropLast)=nm;have j:nm="list_iterator":=by
  refine Bj (g ..) ?_;kernel_rfl
 subst j;refine Zg (Qw u sy ?_);refine Ab (Yc (by decide) ..) ?_;refine Zp ?_;exact Zg (YR (Zp h))
theorem jV(r:s.heap.get? it=Zd (sz a n))(h:∀tk,Q (.ref s.heap.objs.size) {s with heap:=s.heap.push (Gu it),toks:=tk}):
 ZZ (XA prog w) A (Ve (.ref it) (Zc "__next__") Zm) Q E s:=by
 have j:∀tk,({s with toks:=tk}:Zj).TypeIs (.ref it) "list_iterator":=λB=>mEA _ r rfl;obtain⟨u,g,d,tk,os⟩:=s;dsimp only at r;generalize Fq.lookup=f3;unfold Ve PG;refine Zg (TX (Yt (Zg (X5 (j _) (Zg (XL f3 ?_))))));dsimp only;refine Ab (Yc (by decide) ..) ?_;unfold Sf;refine Zg (Zp (Zg (W8 (Yt ?_))));unfold TF;refine Ab ((rfl:(Zm&&PH (Wm "object.__getattribute__"))=Zh) ..) (Ab (Yc (by decide) ..) ?_);unfold SN;refine Ab (Fq.bind (.ref it)) (Zg (Zp ?_));refine XZ Fq (j _) VX ?_ (VN _ _);unfold Yx.«object.__getattribute__»;generalize slot_listiter_next.lookup=f1;generalize vy=f2;generalize qO=f5;generalize qN=f6;generalize qP=f7;have z:({heap:=u,gens:=g,drawn:=d,toks:=tk+1,os:=os}:Zj).TypeIs (.ref it) "list_iterator":=j _
 repeat (any_goals (first|assumption|wp_step))
 refine cj (j _) (Zp (mEA _ rfl ?_));exact TC rfl (h _)
section
theorem ka:Wf UD "iter"=Zd Yx.«iter»:=entryFor_of_fast (by kernel_rfl)
theorem mH(u:(xv,.ref a)∈T)(hl:(a,.list l)∈L)
 (h:∀it,P (.ref it) ⟨(.ref it,.ref it)::T,(it,.raw (sz a 0))::L,F⟩):Ev c ⟨T,L,F⟩ (Y8 (.builtin "iter") [xv]) P:=Ev.raw λs G m=>by
 generalize((m.temps _ u).zI:xv=.ref a)=ex;subst ex;refine BR (m.live _ hl) λo j items n g r=>?_;subst g;refine call_function_entry (by rfl) (by rfl) ka (by unfold RL;kernel_rfl) ?_;unfold Yx.«iter»;refine Zg (m:=someArgs "iter" 1 2 _) (XL (a:=[Yn a]) (by first|rfl|kernel_rfl!) ?_)
 refine(?_:ZZ _ _ (RJ (.ref a)>>=_) _ _ _);refine Zg (Te (As j) ?_);exact Zp (Ep _ rfl _ ⟨G,(m.push (lo:=.raw (sz a 0)) (o:=sz a 0) (tk:=s.toks) ⟨rfl,rfl⟩).zH VR.val⟩ (h _))
theorem mR(r:(ov,.ref it)∈T)(hl:(it,.raw (sz a 0))∈L)
 (h:∀b,P (.ref b) ⟨(.ref b,.ref b)::T,(b,.raw (Gu it))::L,F⟩):Ev c ⟨T,L,F⟩ (Ve ov (Zc "__next__") Zm) P:=Ev.rw λs G R g m=>by
 have ex:ov=.ref it:=(m.temps _ r).zI;subst ex;refine Am (m.live _ hl) λo j e u=>?_;subst e;exact jV j λtk=>g _ _ _ ⟨G,(m.push (lo:=.raw (Gu it)) (o:=Gu it) (tk:=tk) ⟨rfl,rfl⟩).zH VR.val⟩ (h _)
def tN(a:Zo)(i:Zf)(o:Xp):Prop:=o.cls=.type "list_iterator"/\o.data=.fields #[.ref a,.int i 0]
theorem tN.alive(h:tN a i M9):M9.isFreed=false:=Xy h.2
theorem Kq{M:QJ}(e:h.get? b=Zd (Gu it)):Vq M h (V2 (.ref b) ⟨[],[]⟩) (.again (.builtin "list_iterator.__next__" ⟨[.ref it],[]⟩)):=by
 refine(Uo e).andThen ((?_:Vq M h (Pe "list_iterator.__next__" ⟨[.ref it],[]⟩>>=λg=>PB (.builtin "list_iterator.__next__" ⟨[.ref it],[]⟩)) _));exact(Xc (K:=[]) (r:=()) (λa o e=>by cases e) (by kernel_rfl)).andThen .now
theorem l9(G:s.heap.get? b=Zd (Gu it))(h:s.heap.get? it=Zd M9)(z:tN a i M9)(hl:s.heap.IsList a items)(H:items[i]? =Zd x)
 (C:∀h' u,h'.get? it=Zd u->tN a (i+1) u->Vo it s.heap h'->Q x {s with heap:=h'}):ZZ (XA prog w) A (Y8 (.ref b) []) Q E s:=by
 refine xA z λD g=>Am hl λL r K B=>xE B λI j=>Xg (XT ?_);refine(?_:ZZ _ _ (V2 (.ref b) _) _ _ _);refine(Kq G).here ⟨YK _ (by decide+kernel),YU Rb ?_⟩;refine(?_:ZZ _ _ (R9 (.ref it) 0>>=_) _ _ s);refine Zg (Xw h g (x:=.ref a) rfl ?_);refine(?_:ZZ _ _ (if(Yn a==Xn)=Zm then _ else _) _ _ s);refine Ab (Yc (XW: ¬((Yn a==Xn)=Zm)) ..) ((?_:ZZ _ _ (R9 (.ref it) 1>>=_) _ _ s));refine Zg (Xw h g (x:=.int i 0) rfl ?_);refine(?_:ZZ _ _ (seqItems? (.ref a)>>=_) _ _ s);refine Zg (V6 r j ?_);dsimp only;refine Ab H ?_;refine Zg (UW h g (by exact YI _) (Zp ?_));refine C _ _ (Yo.get?_update_self _ h (Xy (WA g _))) ⟨(Obj.cls_mapFields ..).trans D,?_⟩ (Y3 ..);refine Ab (WA g ..) ?_;rfl
theorem pz(D:A.handled=Zs)(K:s.heap.get? b=Zd (Gu it))(h:s.heap.get? it=Zd M9)(H:tN a i M9)(hl:s.heap.IsList a items)(I:items[i]? =Zs)
 (C:∀u z B x,u.get? it=Zd B->B.isFreed=Zh->Vo it s.heap u->SQ u z x "StopIteration"->E (.ref x) {s with heap:=z}):ZZ (XA prog w) A (Y8 (.ref b) []) Q E s:=by
 refine xA H λP g=>Am hl λR j O G=>xE G λL r=>Xg (XT ?_);refine(?_:ZZ _ _ (V2 (.ref b) _) _ _ _);refine(Kq K).here ⟨YK _ (by decide+kernel),YU Rb ?_⟩;refine(?_:ZZ _ _ (R9 (.ref it) 0>>=_) _ _ s);refine Zg (Xw h g (x:=.ref a) rfl ?_);refine(?_:ZZ _ _ (if(Yn a==Xn)=Zm then _ else _) _ _ s);rw[Yc (show¬((Yn a==Xn)=Zm)from XW)];refine(?_:ZZ _ _ (R9 (.ref it) 1>>=_) _ _ s);refine Zg (Xw h g (x:=.int i 0) rfl ?_);refine(?_:ZZ _ _ (seqItems? (.ref a)>>=_) _ _ s);refine Zg (V6 j r ?_);dsimp only;refine Ab I ?_;refine Zg (TZ (Zg (UW h g (by exact YY _) ?_)));refine(?_:ZZ _ _ (newExc (.type "StopIteration") []>>=_) _ _ _);refine Zg ?_;simp only[newExc,R4];refine Zg (YR ?_ (by size_fits));refine Zg (m:=Pg _ _) (XL (a:=Xn) (by first|rfl|(simp only[Pg];rfl)) ?_)
 refine YR ?_ (by size_fits);unfold raiseNew;refine Zg (wpAny_handled ?_);rw[show(A.under (V7 "list_iterator.__next__" ⟨[.ref it],[]⟩)).handled=Zs from D];refine Zg (Zp (wpAny_throw ?_));refine C _ _ _ _ (Yo.get?_update_self _ h (Xy (WA g _))) (Xy (WA g _)) (Y3 ..) ⟨λb M9 e=>Yo.get?_push_of_some _ (Yo.get?_push_of_some _ e),Yo.get?_none_of_le (by simp),?_⟩;exact At _ _ (Yo.get?_push_size _ rfl) rfl rfl
end
end
section
variable{d:Data}{x:Zb}{st:Zj}{p:Zb×V}{Q:Za Zb->Zj->Prop}{apos:Xf}{args:Za Expr}
theorem GB.aai{P:Z9}:∀{l:Za (Zi×V)} {es:Za Zy},GB P G l es->l.lookup name=Zs->es.find? (·.key.isStr name)=none:=by
 intro l
 induction l with
 |nil=>
  intro z h z;cases h;rfl
 |cons j l g=>
  obtain⟨k,u⟩:=j;intro z s hl;obtain⟨e,r,q,A,D,C,B⟩:=s;subst q;rw[YE]at hl;refine Ab (Za.find?_cons ..) ?_;refine Ab (isStr_of A ..) ?_;by_cases q:name=k
  ·subst q;simp at hl
  ·generalize(by simpa using q:(name==k)=Zh)=q1;rw[q1]at hl;exact Ab (by simpa using λx=>q x.symm:(k==name)=Zh) (g B hl)
noncomputable def isFn(d:Data):Bool:=match d with
 |.func _=>Zm
 |_=>Zh
noncomputable def yH(o:Ze Xp):Bool:=match o with
 |some o=>isFn o.data
 |none=>Zh
theorem ke(h:isFn d=Zm):∃fd,d=.func fd:=by
 cases d with
 |func fd=>exact⟨fd,rfl⟩
 |_=>exact ZK h
theorem nz{o:Ze Xp}(h:yH o=Zm):∃x fd,o=Zd x/\x.data=.func fd:=by
 cases o with
 |none=>exact ZK h
 |some o=>exact xE (ke h) λfd e=>⟨o,fd,rfl,e⟩
noncomputable def FM(K:YJ)(C:Zo)(x:Zi)(f:Zo):Bool:=plainGet K C x&&isClsIn K C&&Wj K (.ref C) x==Zd (Zd (.ref f))&&Qs K (.ref f) "__get__"==Zd (Zd (.builtin "function.__get__"))&&OY K (.ref f)==Zd Zh&&
 Su K (.ref f)==Zd (.type "function")&& !copiedNames.contains x&&Q8 K (.ref f)&&isFnIn K f
where isFnIn (K:YJ) (f:Zo):Bool:=yH (K.lookup f)
section
theorem mS(X:K.In c.h1)(D:(ov,.ref a)∈T)(O:(a,.raw (BP C it))∈L)(E:(it,.dict pv)∈L)(z:pv.lookup name=Zs)(hb:FM K C name f=Zm)
 (h:∀b,P (.ref b) ⟨(.ref b,.ref b)::(.ref a,.ref a)::T,(b,.raw (Qx (.ref f) (.ref a)))::L,F⟩):Ev c ⟨T,L,F⟩ (Ve ov name Zm) P:=Ev.raw λs G m=>by
 generalize((m.temps _ D).zI:ov=.ref a)=H;refine Cb λQ j=>?_;subst H;refine AF (EL m O E) λes n Y I r U=>?_;generalize(X.keeps m.old)=B;simp only[FM,Z6,Wb,YQ]at hb;refine xA hb λg b9=>?_;obtain⟨⟨⟨⟨⟨⟨⟨b1,b2⟩,b3⟩,b4⟩,b5⟩,b6⟩,b7⟩,b8⟩:=g;refine j ?_;generalize(by
  rw[QI];unfold O4;rw[r.aai z,r.noRef];rfl:lookIn name (Uu es n)=Zd Zs)=hl
 generalize(by
  refine xE (XB.mp b2) λA R=>?_;unfold PP;rw[R,Ud,b3,Ud];have u:Py A (Zd (Uu es n)) name=Zd none:=by
   unfold Py;split
   ·exact hl
   ·rfl
  refine(?_:(Qs K (.ref f) _).bind _=_);refine Ab b4 ((?_:(OY K _).bind _=_));refine Ab b5 ((?_:(W.ownOf A _ name).bind _=_));refine Ab u (Yc ?_);rw[b7];exact XW:PP K C (Zd (Uu es n)) name=Zd (.bind (.builtin "function.__get__") (.ref f)))=hf
 refine Om B I (SO b1).1 hf (SO b1).2 (Xg (fn_get (s:={s with toks:=s.toks+1}) B b6 ?_));exact TC rfl (mEA _ ⟨G,((m.push (lo:=.raw (Qx (.ref f) (.ref a))) (o:=Qx (.ref f) (.ref a)) (tk:=s.toks+1) ⟨rfl,rfl⟩).zH VR.val).zH VR.val⟩ (h _))
theorem Me(m:Ar c ⟨T,L,F⟩ G st):∀{vs:Za V} {xs:Za Zb},Ay G vs xs->Ar c ⟨xs.zip vs++T,L,F⟩ G st:=by
 intro vs
 induction vs with
 |nil=>
  intro s e;revert e;refine(?_:(_=_)->_);intro e;subst e;exact m
 |cons v vs h=>
  intro s e;refine An e λx ys g r j=>?_;subst g;exact(h j).zH r
theorem BA.up:∀{as:Za Zb} {vs:Za V},BA T as vs->BA (p::T) as vs:=by
 intro as vs g
 induction g with
 |nil=>exact .nil
 |cons h t j=>exact .cons (.tail _ h) (j)
theorem Mb:∀{vs:Za V} {xs:Za Zb},Ay G vs xs->BA (xs.zip vs++T) xs vs:=by
 intro vs
 induction vs with
 |nil=>
  intro r e;revert e;refine(?_:(_=_)->_);intro e;subst e;exact .nil
 |cons v vs h=>
  intro r e;refine An e λx ys g s j=>?_;subst g;exact .cons (.head _) (BA.up (h j))
theorem mt(m:Ar c ⟨T,L,F⟩ G s)(hl:SeqAt T L x l)(C:l.length<=16777216)(h:∀xs B h',(∀p∈T,p∈B)->BA B xs l->Ar c ⟨B,L,F⟩ G {s with heap:=h'}->Q xs {s with heap:=h'}):
 StarOf c.M c.A No x Q s:=by
 generalize(λr k=>h _ _ _ (λp E=>Zq _ E) (Mb r) (Me (m.grow (tk:=s.toks) k) r):∀{items:Za Zb} {h':Yo},Ay G l items->(∀b o,s.heap.get? b=Zd o->h'.get? b=Zd o)->Q items {s with heap:=h'})=fin;unfold StarOf notIterableAtAll;rcases hl with hl|hl
 ·refine Aq ((m.temps _ hl).zO) λa items n u g r=>?_;subst u;generalize(m.gsub _ _ g)=D;exact Zg (Uw (mEA _ D rfl:s.TypeIs (.ref a) "tuple") PySem.F.slot_tuple_iter.lookup (Zp ⟨rfl,Qc a (.inr rfl) D rfl rfl (λh' z=>by simpa using fin r z) (Ab ZR (Ab r.length (Ab Y7 (C))))⟩))
 ·refine Aq (hl.get m) λa items n j D r=>?_;subst j;exact Zg (Uw (mEA _ D rfl:s.TypeIs (.ref a) "list") PySem.F.slot_list_iter.lookup (Zp ⟨rfl,Qc a (.inl rfl) D rfl rfl (λh' z=>by simpa using fin r z) (Ab ZR (Ab r.length (Ab Y7 (C))))⟩))
theorem MV(r:B4 value=Zh)(g:(Y6 j9 (Ym args env)).any (·.1)=Zm):
 Yk (.Call (.Attribute value name apos) args [] j9) env=(do
  let ov<-Yk value env
  Vd apos.atName
  let (f,first)<-TS [ov] (do pure (<-Ve ov name Zm,[]))
  We j9 f first (Y6 j9 (Ym args env)) []):=by
 rw[Pl,LI r];generalize(by
  have j:(Y6 j9 (Ym args env)).all (λx=> !x.1)=false:=by
   rw[List.all_eq_false];exact Ag (Xu.mp g) λp h e=>mEA p h (by simp[e])
  unfold US;rw[j];rfl:US (args.length+([]:Za R3).length) (Y6 j9 (Ym args env)) (WT j9 (XJ [] env))=Zh)=hf
 unfold methodCall;rw[hf];unfold calleeOf Pm;rfl
noncomputable abbrev cq(f x:Zo):Obj:=Qx (.ref f) (.ref x)
theorem gh(X:K.In h)(e:h.get? a=Zd (cq f C))(j:FM.isFnIn K f=Zm):Vq c.M h (Op (.ref a)) .boundFrame:=by
 refine AV (nz j) λo fd r g=>?_;obtain⟨z,u,s,osl⟩:=o;cases(g:s=.func fd);refine(Uo e).andThen ((Uo (X _ _ r)).andThen ?_);exact .now
theorem mD(X:K.In c.h1)(hs:B4 value=Zh)(C:(Y6 j9 (Ym args env)).any (·.1)=Zm)
 (h:Ev c σ (Yk value env) λov D=>∃f x,FM.isFnIn K f=Zm/\Ev c D (Ve ov name Zm) λv u=>∃b,v=.ref b/\(b,.raw (cq f x))∈u.L/\
  ∀s,MR c u s->ZZ c.M c.A (Q9 (.ref b) Zm (Y6 j9 (Ym args env)) []) (λa H=>a.kw=[]/\∃j,MR c j H/\(b,.raw (cq f x))∈j.L/\Ec c j (.call (.ref f) ⟨.ref x::a.pos,[]⟩) P) No s):
 Ev c σ (Yk (.Call (.Attribute value name apos) args [] j9) env) P:=λs m=>by
 refine Ab (MV hs C ..) (Zg (Zu (h s m) (λov H g=>BR g λD m1 f x O h1=>Zg (XC (Zg (Yt (Zg (Zu (h1 H m1) (λv s2 g=>Ag g λu T I=>Am I λb ev hb U=>Zp ?_) λB B e=>e)))))) λB B e=>e));subst ev;refine ks_call (P:=λh=>K.In h/\h.get? b=Zd (cq f x)) C (λh g=>xA g λR k2=>mEA .boundFrame (.inr (.inr rfl)) (gh R k2 O)) (Zu (U s2 T) (λa s3 hY=>xA hY λek I=>Am I λj Y Q h3=>xE Y λG3 G=>?_) λB B e=>e);refine Am (G.live _ Q) λo3 E e3 B=>?_;subst e3;refine⟨⟨X.keeps G.old,E⟩,?_⟩;refine Ab ek (Xg (method_call E ?_));refine Xi (h3 s3 ⟨G3,G⟩) λr s4 z=>?_;rcases r with e|(v|_|_|v)
 ·exact z.elim
 ·exact z.elim
 ·exact z.elim
 ·exact z.elim
 ·exact z
end
end
section
variable{x k' d':Zb}{l:Za Zi}{attr k:Zi}{w:Z8}{S:Zi->Zl}
theorem Hp(a:Zo):PF (Yx.«bool.__new__» ⟨[.type "bool",.ref a],[]⟩) (λA R s=>∃items,s.heap.IsList a items/\items.size<=16777216/\∀tk,R (.ok (.ret (.bool (!items.isEmpty)))) {s with toks:=tk}):=
 QN λprog w A R s g=>Am g λitems hl j h=>by
  generalize F.conv_sub_bool=f1;unfold Yx.«bool.__new__»
  repeat (any_goals (first|assumption|(with_reducible refine Qd hl (by lia) ?_)|wp_step))
  all_goals first|exact mEA _ rfl (h _)|exact h _|skip
section
theorem mZ(hl:LstAt T L x ts)(u:ts.length<=16777216)(h:P (.bool (!ts.isEmpty)) ⟨(.bool (!ts.isEmpty),.bool (!ts.isEmpty))::T,L,F⟩):Ev c ⟨T,L,F⟩ (Y8 (.type "bool") [x]) P:=Ev.raw λs G m=>by
 refine Aq (hl.get m) λa items n g e r=>?_;subst g;generalize r.length=hlen;have j:items.toArray.isEmpty=ts.isEmpty:=by
  cases items<;>cases ts<;>simp at hlen<;>rfl
 refine call_bool_1 (Hp a) (AU items.toArray (As e) (Ab ZR (Ab hlen (u))) (λtk=>?_));exact Ab j (Es rfl _ ⟨G,m.toks.zH VR.val⟩ h)
theorem rA(hl:(x,.tup ts)∈T)(h:∀v',P v' ⟨(v',.int ts.length)::T,L,F⟩)(z:ts.length<=16777216):Ev c ⟨T,L,F⟩ (Y8 (.builtin "len") [x]) P:=Ev.raw λs G m=>by
 refine Aq ((m.temps _ hl).zO) λa items n j g r=>?_;subst j;generalize(by rw[ZR,r.length]:items.toArray.size=ts.length)=u;refine len_tuple (Np (m.gsub _ _ g)) (Ab u (qa z rfl)) (mEA _ ⟨G,(m.zH ?_).toks⟩ (h _));exact Ab u VR.int
theorem KN(B:B4 value=Zh)(h:Ev c σ (Yk value env) λov g=>Ev c g (Ve ov attr Zm) P):Ev c σ (Yk (.Attribute value attr p) env) P:=λs m=>Attribute_any_ (Zu (h s m) (λo z j=>Ag j λr A u=>u z A) λr r e=>e) (by refine Ab (arm_eval_Attribute ..) ?_;refine Ab (LI B ..) ?_;rfl)
theorem M3{P:Zb×Za Zb->St->Prop}(C:(v',.ref a)∈T)(A:(a,.dict pv)∈L)(j:Ps "dict" name id)(u:V1 (.builtin id)=pure (.type "method_descriptor"))(h:P (.builtin id,[v']) ⟨T,L,F⟩):Ev c ⟨T,L,F⟩ (XI v' name pl) P:=Ev.rw λs G R D m=>by
 have B:v'=.ref a:=(m.temps _ C).zI;subst B;refine FF (m.live _ A) λo z E es n g r=>?_;subst g;exact Vg (mEA _ z rfl) PySem.F.plainAttrs_dict j u (λb hb=>by cases hb;exact mEA _ z rfl) (D _ _ _ ⟨G,m⟩ h)
theorem il{l:Za (Zi×V)}(D:∃o,c.h1.get? Xv=Zd o)(E:(v',.ref a)∈T)(A:L.Perm ((a,.dict l)::L'))(h:∀b n,P (.ref b) ⟨(.ref b,.ref b)::T,(b,.raw (HL a))::(a,.dictE l n)::L',F⟩):Ev c ⟨T,L,F⟩ (Y8 (.builtin "dict.values") [v']) P:=Ev.raw λs G m=>by
 generalize((m.temps _ E).zI:v'=.ref a)=C;subst C;generalize(m.perm A)=m;refine FF (m.live _ (.head _)) λo u z es n g r=>?_;subst g;refine Ag (DS (c:=c) (l:=l) u ⟨z,es,n,rfl,r⟩) λks H j=>?_;generalize(m.aac (mEA _ u (Es z es rfl r)):Ar c ⟨T,(a,.dictE l n)::L',F⟩ G s)=B;exact PT Tn j.typeIs PySem.F.entry_dict_values (PySem.F.args_dict_values_1 _) (meets_dict_values (sk c.w) a (m.aae D (.head _))) (Es ⟨ks,j⟩ _ ⟨G,(B.push (lo:=.raw (HL a)) (o:=HL a) (tk:=s.toks) ⟨rfl,rfl⟩).zH VR.val⟩ (h _ _))
theorem aE(e:h.get? a=Zd M9)(r:gk w.params l M9):∃n,n<=l.length/\h.SetOf (sk w) a (λk=>decide (k∈l)) n:=by
 refine xA r λB z=>Cr z λes D t s H u A G I=>mEA es.size I (gq M9 es (Ck D t e B s (λe g=>?_) (Ba (λk=>?_) A G rfl)))
 ·refine AV (H e g) λk tk j E=>?_;exact⟨⟨k,by rw[j];exact Yl rfl,E⟩,by rw[j];rfl⟩
 ·rw[decide_eq_true_iff,u k];constructor
  ·rintro⟨e,g,tk,j⟩;exact mEA e g (by rw[j];exact Yl rfl)
  ·rintro⟨e,g,C⟩;exact mEA e g (Wg C)
theorem gZ(r:h.SetOf (sk w) a S n)(L:∀k,S k=Zm↔k∈l)(I:n<=l.length):∃o,h.get? a=Zd o/\gk w.params l o:=by
 refine xE r λo E=>Cd E λes K t e H B P C G O g=>?_;subst g;refine AU o e H (AG es K t B (λe u=>?_) (Ba (λk=>?_) G O I))
 ·refine Cb λQ s=>xA (P e u) λj R=>?_;obtain⟨k,z,D⟩:=j;exact xE (Wg z) λtk A=>s (BW k tk A D)
 ·rw[<-L k,C k];constructor
  ·rintro⟨e,u,z⟩;exact mEA e u (Wg z)
  ·rintro⟨e,u,tk,A⟩;exact mEA e u (by rw[A];exact Yl rfl)
theorem i7(h:∀a,P (.ref a) ⟨(.ref a,.ref a)::T,(a,.setS [])::L,F⟩):Ev c ⟨T,L,F⟩ (Y8 (.type "set") []) P:=Ev.raw λs G m=>by
 exact call_set_0 λg=>mEA _ ⟨G,(m.push (lo:=.setS []) (o:={cls:=.type "set",dict:=Zs,data:=.set #[] 0 (.fresh 0 0 g)}) (tk:=s.toks) (⟨⟨rfl,rfl,rfl⟩,(AG (#[]) 0 _ rfl (λe j=>by simp at j) (Ba (λk=>by simp) (by exact YH _) (by rfl) (ZL _)))⟩)).zH VR.val⟩ (h _)
theorem mO(j:(d',.ref a)∈T)(hl:(a,.setS l)∈L)(u:(k',.str k)∈T)(h:P (.bool (decide (k∈l))) ⟨(.bool (decide (k∈l)),.bool (decide (k∈l)))::T,L,F⟩):Ev c ⟨T,L,F⟩ (Yu .In k' d') P:=Ev.rw λs G R z m=>by
 have ex:d'=.ref a:=(m.temps _ j).zI;subst ex;refine xE ((m.temps _ u).zJ) λt g=>?_;subst g;exact Ag (m.live _ hl) λo A r=>Ag (aE A r) λn C B=>wpAny_inSet_of (k:=k) (Yl rfl) rfl B (z _ _ _ ⟨G,(m.toks (tk:=s.toks+1)).zH VR.val⟩ h)
theorem mP{P:Zb×Za Zb->St->Prop}(u:(v',.ref a)∈T)(g:(a,.setS l)∈L)(h:P (.builtin "set.add",[v']) ⟨T,L,F⟩):Ev c ⟨T,L,F⟩ (XI v' (Zc "add") pl) P:=Ev.rw λs G R z m=>by
 have j:v'=.ref a:=(m.temps _ u).zI;subst j;exact Ag (m.live _ g) λo A r=>Ag (aE A r) λn C B=>getMethod_set_add B (z _ _ _ ⟨G,m⟩ h)
theorem i8(B:(d',.ref a)∈T)(u:BS a (.setS l) (.setS (l++[k])) L L')(H:(k',.str k)∈T)(U:l.length<=1000)(h:P .none ⟨(.none,.none)::T,L',F⟩):Ev c ⟨T,L,F⟩ (Y8 (.builtin "set.add") [d',k']) P:=Ev.rw λs G R I m=>by
 have ex:d'=.ref a:=(m.temps _ B).zI;subst ex;refine xE ((m.temps _ H).zJ) λt g=>?_;subst g;refine Ag (m.live _ u.mem) λo D r=>Ag (aE D r) λn Q K=>call_set_add (k:=k) (Yl rfl) rfl K (by refine(?_:n+1<4096);lia) λh' E z=>?_;exact Ag (gZ (l:=l++[k]) z (λj=>by simp[YM]) (by split<;>simp<;>lia)) λO A C=>I _ _ _ ⟨G,(m.change (tk:=s.toks+1) u E.extBut A C).zH VR.val⟩ h
end
end
section
noncomputable section
variable{b inv:Zl}{A:Zo->Prop}{B Q P:Prop}{args:Za V}{r:V}{K:V->Prop}
set_option genCtorIdx true in
inductive W where
 |p (v:V)
 |o (l:Zf)
set_option genCtorIdx true in
inductive LW where
 |list (l:Za V)
 |listw (l:Za W)
 |dictW (l:Za (Zi×W))
 |dictI (l:Za (Zi×W)) (ep:Zf)
 |slots (C:Zo) (l:Za W)
 |setS (l:Za Zi)
 |liter (a:Zf) (i:Zf)
 |bnx (it:Zf)
 |attrs (l:Za (Zf×W))
 |deq (n:Z7) (l:Za V)
 |inst (C:Zo) (d:Zf)
 |trn (y:Zi)
structure S where
 H:Za (Zf×LW)
 nx:Zf
 rho:Za (Zf×Ze W)
inductive BI where
 |len|range|list|sorted|isinst|tuple|dict|zip|set|bool|iter|ty|int|deque|zz (n:Zf)
noncomputable def BI.v:BI->Zb
 |.len=>.builtin "len"|.range=>.type "range"|.list=>.type "list"|.sorted=>.builtin "sorted"|.isinst=>.builtin "isinstance"|.tuple=>.type "tuple"
 |.dict=>.type "dict"|.zip=>.type "zip"|.set=>.type "set"|.bool=>.type "bool"|.iter=>.builtin "iter"|.ty=>.type "type"|.int=>.type "int"|.deque=>.type "collections.deque"|.zz g=>.builtin ""
inductive PE where
 |int (i:Z7)|str (s:Zi)|bool (b:Zl)|none
 |nm (x:Zf)
 |gv (v:Zb)
 |bin (op:ZG) (l r:PE)
 |un (op:OS) (x:PE)
 |cmp (op:R6) (l r:PE)
 |bop (op:OD) (l:Za PE)
 |ife (t a b:PE)
 |callb (b:BI) (live:Zl) (args:Za PE)
 |callc (f:Zo) (args:Za PE)
 |calli (f:Zo) (args:Za PE)
 |mk (C:Zo) (args:Za PE) (kw:Za (Zf×PE))
 |meth (o:PE) (name:Zf) (args:Za PE)
 |attr (o:PE) (name:Zf)
 |sub (o i:PE)
 |sl (o:PE) (lo hi:Ze PE)
 |list (live:Zl) (l:Za PE)
 |tup (l:Za PE)
 |wal (x:Zf) (e:PE)
 |lc (live:Zl) (xs:Za Zf) (iter:PE) (cond:Ze PE) (elt:PE) (caps:Za Zf)
 |lc2 (x:Zf) (iter:PE) (y:Zf) (iter2:PE) (elt:PE) (caps:Za Zf)
 |mktr (a e:PE)
 |addrepl (a:Zi) (x:Zf) (y z:Zi)
 |gi (i:Z7)
 |dict0
 |methS (o:PE) (name:Zf) (args:Za PE) (star:PE)
 |readyC (o:PE)
 |neL (nones:Zl) (l r:PE)
 |dzip (a b:PE)
 |dcomp (x:Zf) (iter elt:PE) (caps:Za Zf)
 |any
inductive PS where
 |expr (e:PE)
 |asg (x:Zf) (e:PE)
 |asgc (x:Zf) (e:PE)
 |asgT (xs:Za Zf) (e:PE)
 |asga (o:PE) (a:Zf) (e:PE)
 |asgs (o i e:PE)
 |auga (o:PE) (a:Zf) (op:ZG) (e:PE)
 |ret (e:PE)
 |ite (t:PE) (a b:Za PS)
 |for_ (inv:Zl) (xs:Za Zf) (e:PE) (body:Za PS)
 |while_ (t:PE) (body orelse:Za PS)
 |pass|brk|cnt
 |asg2 (o i:PE) (x:Zf) (e:PE)
 |forl (x:Zf) (e:PE) (body:Za PS)
 |fork (x:Zf) (e:PE) (body:Za PS)
 |tryNx (x its n2s stk:Zf)
 |tryRm (e xs t:Zf)
 |any
structure AM where
 ps:Za Zf
 oth:Za Zf
 dflt:Za V
 frz:Zl
 body:Za PS
 kwn:Za Nat:=[]
set_option genCtorIdx true in
inductive Fl where
 |nx|br|ct|rt (w:W)
inductive Task where
 |ex (e:PE) (k:W->S->Prop)
 |exs (l:Za PE) (k:Za W->S->Prop)
 |ts (e:PE) (k:Zl->S->Prop)
 |st (s:PS) (k:Fl->S->Prop)
 |sts (l:Za PS) (k:Fl->S->Prop)
def br(b:Zl)(A B:Prop):Prop:=match b with|true=>A|false=>B
theorem Au(g:b=Zm->j7)(h:b=Zh->B):br b j7 B:=by
 cases b
 ·exact h rfl
 ·exact g rfl
noncomputable def lim:Nat:=16777216
def A4(n:Zf)(Q:Prop):Prop:=match Yr n 16777216 with|true=>Q|false=>ZP
theorem Ac(h:n<=16777216)(q:Q):A4 n Q:=by
 unfold A4;exact Ab (YZ h ..) q
theorem JH(h:A4 n Q):n<=16777216/\Q:=by
 unfold A4 at h;split at h
 ·rename_i e;exact⟨Zw e,h⟩
 ·exact h.elim
def Aj(o:Ze α)(Q:α->Prop):Prop:=match o with|some v=>Q v|none=>ZP
def jp(o:Ze Zo)(A:Zo->Prop)(B:Prop):Prop:=match o with|some f=>A f|none=>B
theorem BE{o:Ze Zo}(h:o=Zs)(q:B):jp o A B:=by subst h;exact q
theorem BU{o:Ze Zo}(h:o=Zd f)(q:A f):jp o A B:=by subst h;exact q
theorem Aa{o:Ze α}{Q:α->Prop}{v:α}(h:o=Zd v)(q:Q v):Aj o Q:=by subst h;exact q
theorem EJ{o:Ze α}{Q:α->Prop}(h:Aj o Q):∃v,o=Zd v/\Q v:=by
 cases o with
 |none=>exact h.elim
 |some v=>exact mEA v rfl h
theorem Ad{o:Ze α}{Q:α->Prop}(h:Aj o Q)(k:∀v,o=Zd v->Q v->P):P:=by
 cases o with
 |none=>exact h.elim
 |some v=>exact k v rfl h
theorem Al(h:A4 n Q)(k:n<=16777216->Q->P):P:=k (JH h).1 (JH h).2
def AS(d:Zf)(f:Zo)(args:Za V)(Q:V->Prop):Prop:=
 ∀(c:Cx),Ok c d->∀(T:Tm) (L:Za (Zo×LO)) (F:Fm),DX c F.env F.own->∀(vs:Za Zb) (P:Zb->St->Prop),BA T vs args->(∀v' r,Q r->P v' ⟨(v',r)::T,L,F⟩)->Ev c ⟨T,L,F⟩ (Y8 (.ref f) vs) P
theorem det(h:AS d f args (· =r))(k:K r):∃Q,AS d f args Q/\∀r,Q r->K r:=mEA _ h (λg e=>e▸k)
noncomputable def vInt(v:V):Ze Int:=vC Zs v (i:=Zd)
noncomputable def vStr(v:V):Ze Str:=vC Zs v (s:=Zd)
noncomputable def pV:W->Ze V
 |.p v=>Zd v
 |.o _=>Zs
noncomputable def pO:W->Ze Zf
 |.o l=>Zd l
 |.p _=>Zs
noncomputable def CN:W->Ze Z7
 |.p v=>vInt v
 |.o _=>Zs
noncomputable def Ed:W->Ze Zi
 |.p v=>vStr v
 |.o _=>Zs
noncomputable def JG(v:V):Ze Unit:=vC Zs v (a:=λu=>mf Zs u (n:=Zd ()))
noncomputable def um:V->Ze Zb
 |.val v=>Zd v
 |_=>Zs
noncomputable def ob(o:Ze α)(f:α->Ze β):Ze β:=match o with|some a=>f a|none=>Zs
theorem Ah{o:Ze α}{f:α->Ze β}{b:β}(h:ob o f=Zd b)(k:∀a,o=Zd a->f a=Zd b->P):P:=by
 cases o with
 |none=>cases h
 |some a=>exact k a rfl h
noncomputable def Dz:Za α->Ze α
 | []=>Zs
 |a::r=>(match r with| []=>Zd a|_::_=>Zs)
noncomputable def wU:Za α->Ze (α×α)
 | []=>Zs
 |a::r=>(match Dz r with|some b=>Zd (a,b)|none=>Zs)
noncomputable def bm:Za α->Ze ZU
 | []=>Zd ()
 |_::_=>Zs
noncomputable def bq(d:α)(w:LW)(a:Za V->α:=λr=>d)(b:Za W->α:=λr=>d)(c:Za (Zi×W)->α:=λr=>d)(e:Za (Zi×W)->Zf->α:=λr r=>d)(f:Zo->Za W->α:=λr r=>d)(g:Za Zi->α:=λr=>d)(h:Zf->Zf->α:=λr r=>d)(i:Zf->α:=λr=>d)(j:Za (Zf×W)->α:=λr=>d)(k:Z7->Za V->α:=λr r=>d)(l:Zo->Zf->α:=λr r=>d)(m:Zi->α:=λr=>d):α:=LW.rec (motive:=λr=>α) a b c e f g h i j k l m w
noncomputable def Eu(x:LW):Ze (Za V):=bq Zs x (a:=Zd)
noncomputable def bC(x:LW):Ze (Za W):=bq Zs x (b:=Zd)
noncomputable def bE(x:LW):Ze (Za (Zi×W)):=bq Zs x (c:=Zd)
noncomputable def jL(x:LW):Ze (Za Zi):=bq Zs x (g:=Zd)
noncomputable def nY(x:LW):Ze (Z7×Za V):=bq Zs x (k:=λn l=>Zd (n,l))
noncomputable def sD(x:LW):Ze Str:=bq Zs x (m:=Zd)
def pW(o:Ze α)(Q:α->Prop)(R:Prop):Prop:=match o with|some v=>Q v|none=>R
theorem DO{o:Ze α}{Q:α->Prop}(h:pW o Q j7)(k:∀v,o=Zd v->Q v->P)(g:j7->P):P:=by
 cases o with
 |none=>exact g h
 |some v=>exact k v rfl h
noncomputable def Ai(x:Zf):Za (Zf×α)->Ze α
 | []=>Zs
 |(y,v)::r=>match ZX x y with|true=>Zd v|false=>Ai x r
noncomputable def put(x:Zf)(v:α):Za (Zf×α)->Ze (Za (Zf×α))
 | []=>Zs
 |(y,u)::r=>match ZX x y with|true=>Zd ((y,v)::r)|false=>match put x v r with|some g=>Zd ((y,u)::g)|none=>Zs
noncomputable def tS:Za α->Zf->Ze α
 | [],_=>Zs
 |x::r,n=>match n with|0=>Zd x|n+1=>tS r n
noncomputable def Ci:Za W->Ze (Za V)
 | []=>Zd []
 |.p v::r=>match Ci r with|some l=>Zd (v::l)|none=>Zs
 |.o _::_=>Zs
noncomputable def gd(b:Zl)(x:Ze β):Ze β:=match b with|true=>x|false=>Zs
theorem AH{x:Ze β}{r:β}(h:gd b x=Zd r)(k:b=Zm->x=Zd r->P):P:=by
 cases b with
 |true=>exact k rfl h
 |false=>exact nj h
theorem Ik{o:Ze α}{a:α}{f:α->Ze β}(h:o=Zd a):ob o f=f a:=by subst h;rfl
noncomputable def uo(v:V):Ze (Za V):=vC Zs v (l:=Zd)
noncomputable def wS(v:V):Ze (Za V):=vC Zs v (t:=Zd) (l:=Zd)
noncomputable def JF(H:Za (Zf×LW))(w:W):Ze (Za V):=match w with
 |.p v=>uo v
 |.o l=>ob (Ai l H) Eu
noncomputable def NT(H:Za (Zf×LW))(w:W):Ze (Za V):=match w with
 |.p v=>wS v
 |.o l=>ob (Ai l H) Eu
noncomputable def Et(l:Za α):Ze α:=match l with
 | []=>Zs
 |x::r=>match Et r with|some y=>Zd y|none=>Zd x
def qY(w:W)(n:Z7)(s:S)(k:W->S->Prop):Prop:=match n with
 |.ofNat j=>Aj (NT s.H w) λl=>A4 l.length (Aj (tS l j) λv=>k (.p v) s)
 |.negSucc j=>match j with
  |0=>Aj (JF s.H w) λl=>A4 l.length (Aj (Et l) λv=>k (.p v) s)
  |_+1=>ZP
def xb(w:W)(n:Z7)(s:S)(k:W->S->Prop):Prop:=pW (Ed w) (λx=>0<=n/\n<x.length/\A4 x.length (k (.p (.str (Oi x n))) s)) (qY w n s k)
def uD(w:W)(x:Zi)(s:S)(k:W->S->Prop):Prop:=match w with
 |.o l=>Aj (Ai l s.H) λq=>bq ZP q (c:=λd=>Aj (d.lookup x) λv=>k v s) (e:=λd g=>Aj (d.lookup x) λv=>k v s)
 |.p _=>ZP
def uC(w j:W)(s:S)(k:W->S->Prop):Prop:=match j with
 |.p v=>vC ZP v (i:=λn=>xb w n s k) (s:=λx=>uD w x s k)
 |.o _=>ZP
def xB(w:W)(s:S)(k:W->S->Prop):Prop:=Aj (CN w) λi=>k (.p (.int (-i))) s
noncomputable def vB:Z7->Ze ZU
 |.ofNat n=>(match ZX n 2 with|true=>Zd ()|false=>Zs)
 |.negSucc _=>Zs
def addW(a b:W)(s:S)(k:W->S->Prop):Prop:=
 pW (CN a) (λi=>Aj (CN b) λj=>k (.p (.int (i+j))) s) (pW (Ed a) (λx=>Aj (Ed b) λy=>A4 (x.length+y.length) (k (.p (.str (x++y))) s))
  (Aj (JF s.H a) λl=>Aj (JF s.H b) λm=>A4 (l.length+m.length) (k (.p (.lst (l++m))) s)))
def wg(op:ZG)(a b:W)(s:S)(k:W->S->Prop):Prop:=op.casesOn (addW a b s k)
 (Aj (CN a) λi=>Aj (CN b) λj=>k (.p (.int (i-j))) s)
 (Aj (CN b) λj=>pW (Ed a) (λx=>x.length<=16/\0<=j/\j<=1048576/\k (.p (.str (UG x j))) s) (Aj (JF s.H a) λl=>Aj (Dz l) λv=>0<=j/\j<=100000/\k (.p (.lst (Yb j.toNat v))) s)) ZP ZP
 (Aj (CN a) λi=>Aj (CN b) λj=>j≠0/\k (.p (.int (i.fmod j))) s)
 (Aj (CN a) λi=>Aj (CN b) λj=>Aj (vB i) λg=>0<=j/\j<1000/\k (.p (.int (2^j.toNat))) s) ZP ZP ZP ZP ZP
 (Aj (CN a) λi=>Aj (CN b) λj=>j≠0/\j.natAbs.log2<9000/\k (.p (.int (i.fdiv j))) s)
noncomputable def yh(u v:V):Ze Bool:=vC Zs u (i:=λi=>ob (vInt v) λj=>Zd (i==j))
 (s:=λx=>match vStr v with|some y=>Zd (x==y)|none=>ob (JG v) λg=>Zd Zh)
 (a:=λw=>ob (JG (.val w)) λg=>(match JG v with|some _=>Zd Zm|none=>ob (vStr v) λg=>Zd Zh))
noncomputable def yT(a b:W):Ze Bool:=ob (pV a) λu=>ob (pV b) λv=>yh u v
noncomputable def xZ(a b:W):Ze Bool:=ob (pV b) λv=>ob (um v) λy=>match fI y with
 |true=>(match a with
  |.p u=>(match MP u with|true=>Zd (gr u y)|false=>Zs)
  |.o _=>Zd Zh)
 |false=>Zs
noncomputable def strsOf:Za V->Ze (Za Zi)
 | []=>Zd []
 |v::r=>(match v with
  |.str x=>(match strsOf r with|some l=>Zd (x::l)|none=>Zs)
  |_=>Zs)
noncomputable def Nu(y:Zi)(l:Za V):Ze Bool:=match strsOf l with
 |some ss=>Zd (ss.any (· ==y))
 |none=>Zs
noncomputable def qA(H:Za (Zf×LW))(a b:W):Ze Bool:=ob (Ed a) λy=>match b with
 |.p v=>vC Zs v (s:=λx=>Zd (ZC x y)) (t:=Nu y) (l:=Nu y)
 |.o l=>ob (Ai l H) λq=>ob (Eu q) λl=>Nu y l
noncomputable def inK(y:Zi)(x:LW):Ze Bool:=bq Zs x (c:=λd=>Zd (d.lookup y).isSome) (g:=λl=>Zd (decide (y∈l)))
noncomputable def on(H:Za (Zf×LW))(a b:W):Ze Bool:=match qA H a b with
 |some q=>Zd q
 |none=>ob (Ed a) λy=>ob (pO b) λl=>ob (Ai l H) λq=>inK y q
noncomputable def ny(f:Z7->Z7->Zl)(a b:W):Ze Bool:=ob (CN a) λi=>ob (CN b) λj=>Zd (f i j)
noncomputable def xD(u v:V):Ze Bool:=match u with
 |.int i=>ob (vInt v) λj=>Zd (i !=j)
 |.str x=>ob (vStr v) λy=>Zd (x !=y)
 |_=>Zs
noncomputable def yL(a b:W):Ze Bool:=ob (pV a) λu=>ob (pV b) λv=>xD u v
noncomputable def n9:Ze Zl->Ze Zl
 |some b=>Zd (!b)
 |none=>Zs
noncomputable def lz(H:Za (Zf×LW))(op:R6)(a b:W):Ze Bool:=op.casesOn (yT a b) (yL a b) (ny (λi j=>decide (i<j)) a b) Zs
 (ny (λi j=>decide (j<i)) a b) (ny (λi j=>decide (j<=i)) a b) (xZ a b) (n9 (xZ a b)) (on H a b) (n9 (qA H a b))
noncomputable def wW(v:Zb):Ze Bool:=mf Zs v (b:=Zd) (n:=Zd Zh)
noncomputable def xT(x:LW):Ze (Za V):=bq Zs x (a:=Zd) (k:=λg=>Zd)
def gJ(w:W)(s:S)(k:Zl->S->Prop):Prop:=match w with
 |.p v=>vC ZP v (a:=λu=>Aj (wW u) λb=>k b s) (s:=λx=>A4 x.length (k ((x.length:Z7) !=0) s)) (l:=λl=>A4 l.length (k (!l.isEmpty) s))
 |.o l=>Aj (Ai l s.H) λx=>Aj (xT x) λl=>A4 l.length (k (!l.isEmpty) s)
def CD(x:Zf)(w:W)(s:S)(k:S->Prop):Prop:=match s with|⟨H,nx,rho⟩=>Aj (put x (Zd w) rho) λr=>k ⟨H,nx,r⟩
noncomputable def K1:Za Zf->Za V->S->(S->Prop)->Prop
 | [],[],s,k=>k s
 |x::xs,v::vs,s,k=>CD x (.p v) s λg=>K1 xs vs g k
 |_,_,_,_=>ZP
def LJ(xs:Za Zf)(w:W)(s:S)(k:S->Prop):Prop:=match xs with
 | [x]=>CD x w s k
 |xs=>Aj (NT s.H w) λl=>K1 xs l s k
def vz(w:W)(s:S)(k:W->S->Prop):Prop:=match w with
 |.p v=>(match v with
  |.str x=>A4 x.length (k (.p (.int x.length)) s)
  |.tup l=>A4 l.length (k (.p (.int l.length)) s)
  |.lst l=>A4 l.length (k (.p (.int l.length)) s)
  |_=>ZP)
 |.o l=>Aj (JF s.H (.o l)) λl=>A4 l.length (k (.p (.int l.length)) s)
noncomputable def yB(v:V):Ze String:=vC Zs v (a:=λu=>mf Zs u (t:=Zd))
def xY(v t:V)(Q:Prop):Prop:=Aj (yB t) λn=>vC ZP v (s:=λg=>n="str"/\Q) (t:=λg=>n="tuple"/\Q)
def newL(g:Zl)(l:Za V)(s:S)(k:W->S->Prop):Prop:=A4 l.length (match g with
 |false=>k (.p (.lst l)) s
 |true=>match s with|⟨H,nx,rho⟩=>k (.o nx) ⟨(nx,.list l)::H,nx+1,rho⟩)
def qt(g:Zl)(w:W)(s:S)(k:W->S->Prop):Prop:=match w with
 |.p v=>vC ZP v (r:=λn=>0<=n/\n<=16777216/\k (.p (.lst ((UO n.toNat).map λ(i:Zf)=>V.int (i:Z7)))) s)
  (t:=λl=>A4 l.length (k (.p (.lst l)) s)) (l:=λl=>newL g l s k)
 |.o l=>Aj (JF s.H (.o l)) λl=>newL g l s k
def yp(b:BI)(j:Zl)(g:Za W)(s:S)(k:W->S->Prop):Prop:=b.casesOn
 (Aj (Dz g) λw=>vz w s k)
 (Aj (Dz g) λw=>Aj (CN w) λn=>k (.p (.rng n)) s)
 (Aj (Dz g) λw=>qt j w s k)
 (Aj (Dz g) λw=>∃ss h:Za Zi,JF s.H w=Zd (ss.map .str)/\ss.length<64/\(∀r:Za Zi,r.Perm ss->PM r=Zm->r=h)/\k (.p (.lst (h.map .str))) s)
 (Aj (wU g) λq=>Aj (pV q.1) λv=>Aj (pV q.2) λt=>xY v t (k (.p (.bool Zm)) s))
 (Aj (Dz g) λw=>Aj (JF s.H w) λl=>A4 l.length (k (.p (.tup l)) s))
 (ZP)
 (ZP)
 (Aj (bm g) λu=>(match s with|⟨H,nx,rho⟩=>k (.o nx) ⟨(nx,.setS [])::H,nx+1,rho⟩))
 (Aj (Dz g) λw=>Aj (JF s.H w) λl=>A4 l.length (k (.p (.bool (!l.isEmpty))) s))
 (Aj (Dz g) λw=>Aj (pO w) λl=>Aj (Ai l s.H) λq=>Aj (Eu q) λu=>(match s with|⟨H,nx,rho⟩=>k (.o nx) ⟨(nx,.liter l 0)::H,nx+1,rho⟩))
 (Aj (Dz g) λw=>Aj (pV w) λv=>Aj (wT v) λt=>k (.p (.val (.type t))) s)
 (Aj (Dz g) λw=>Aj (CN w) λi=>k (.p (.int i)) s)
 (Aj (bm g) λu=>(match s with|⟨H,nx,rho⟩=>k (.o nx) ⟨(nx,.deq 0 [])::H,nx+1,rho⟩))
 (λu=>ZP)
noncomputable def vZ:Za (Zf×Za Zf):=[(597,[22,23,24]),(732,[41,42,43,61,45,46,47,48,49,50,51,52,53,54,55,56,57,58,59,63]),(860,[91,92,93,94])]
noncomputable def jw:Za (Zf×Za (Zf×Zo)):=[(597,[(28,374),(35,381),(17,543)]),(732,[(75,693),(71,700)]),(860,[(99,803),(171,815),(172,822),(174,829),(102,850),(11,810),(173,843)])]
noncomputable def pS:Za (Zf×Za (Zf×Zo)):=[(732,[(44,663)])]
noncomputable def II:Za (Zf×Zo):=[(732,656),(860,796)]
noncomputable def putA(x:Zf)(v:W):Za (Zf×W)->Za (Zf×W)
 | []=>[(x,v)]
 |(y,u)::r=>match ZX y x with|true=>(y,v)::r|false=>(y,u)::putA x v r
structure Inst where
 C:Zo
 dl:Zf
 l:Za (Zf×W)
noncomputable def jM(x:LW):Ze (Zo×Zf):=bq Zs x (l:=λC d=>Zd (C,d))
noncomputable def bG(x:LW):Ze (Za (Zf×W)):=bq Zs x (j:=Zd)
noncomputable def IG(w:W)(H:Za (Zf×LW)):Ze Inst:=ob (pO w) λl=>ob (Ai l H) λx=>ob (jM x) λq=>ob (Ai q.2 H) λy=>ob (bG y) λa=>Zd ⟨q.1,q.2,a⟩
noncomputable def Ir(x:Zf):Za Zf->Zl
 | []=>Zh
 |y::r=>match ZX x y with|true=>Zm|false=>Ir x r
noncomputable def lE(C name:Zf):Bool:=match Ai C vZ with|some l=>Ir name l|none=>Zh
noncomputable def pT(C name:Zf):Ze Addr:=ob (Ai C pS) (Ai name)
noncomputable def cS(C name:Zf):Ze Addr:=ob (Ai C jw) (Ai name)
inductive MK where
 |zz (n:Zf)|append|pop|strip|join|dapp|dpop|trans|dget|clear|sadd|appw
noncomputable def K4(name:Zf):Ze Nat:=match ZX name 87 with
 |true=>Zd 0
 |false=>match ZX name 88 with
  |true=>Zd 1
  |false=>match ZX name 89 with
   |true=>Zd 2
   |false=>Zs
noncomputable def bA(x:LW):Ze (Za W):=bq Zs x (f:=λC g=>gd (ZX C 763) (Zd g))
noncomputable def xU(l:Zf)(x:LW):Ze Nat:=bq Zs x (h:=λg i=>(match i with|0=>Zd l|_+1=>Zs))
noncomputable def FO(H:Za (Zf×LW))(w:W):Ze (Za W):=ob (pO w) λl=>ob (Ai l H) bA
noncomputable def sx(H:Za (Zf×LW))(w:W):Ze Nat:=ob (pO w) λl=>ob (Ai l H) (xU l)
noncomputable def nD(name:Zf):Za (Zf×MK)->Ze MK:=Ai name
noncomputable def vn(name:Zf)(x:LW):Ze MK:=bq Zs x (a:=λh=>nD name [(1,.append),(2,.pop),(7,.clear)]) (k:=λh h=>nD name [(1,.dapp),(2,.dpop)]) (c:=λh=>nD name [(8,.dget)]) (g:=λh=>nD name [(11,.sadd)]) (b:=λh=>nD name [(1,.appw)])
noncomputable def yN(H:Za (Zf×LW))(w:W)(name:Zf):Ze MK:=match w with
 |.o l=>(match Ai l H with|some q=>vn name q|none=>Zs)
 |.p _=>Zs
noncomputable def MK.of(H:Za (Zf×LW))(w:W)(name:Zf):Ze MK:=match w with
 |.p v=>vC Zs v (s:=λg=>nD name [(3,.strip),(4,.join),(13,.trans)]) (l:=λg=>nD name [(1,.append),(2,.pop),(7,.clear)])
 |.o l=>yN H (.o l) name
def lX(w:W)(s:S)(f:LW->Ze α)(Q:Zf->α->Prop):Prop:=Aj (pO w) λl=>Aj (Ai l s.H) λx=>Aj (f x) λy=>Q l y
def CJ(l:Zf)(x:LW)(s:S)(k:S->Prop):Prop:=match s with|⟨H,nx,rho⟩=>Aj (put l x H) λg=>k ⟨g,nx,rho⟩
noncomputable def MS(y:Za Zf):Za Zf->Zl
 | []=>Zm
 |c::r=>(match Ir c y with|true=>Zh|false=>MS y r)
noncomputable def mj(x y:Zi):Bool:=MS y.cps.toList x.cps.toList&&(!(x.cps.all (· <128))&&Yr x.cps.size 1000)
noncomputable def KT:Za Zf->Zl
 | []=>Zm
 |c::r=>(match Ir c r with|true=>Zh|false=>KT r)
noncomputable def vm(y:Zi):Bool:=y.cps.all (· <128)&&(KT y.cps.toList&&Yr y.cps.size 1000)
def qo(m:MK)(w:W)(g:Za W)(s:S)(k:W->S->Prop):Prop:=match m with
 |.zz h=>ZP
 |.append=>Aj (Dz g) λv=>lX w s Eu λl xs=>A4 xs.length (match v with
  |.p v=>CJ l (.list (xs++[v])) s (k (.p .none))
  |.o j=>CJ l (.listw (xs.map .p++[.o j])) s (k (.p .none)))
 |.appw=>Aj (Dz g) λv=>lX w s bC λl xs=>A4 xs.length (CJ l (.listw (xs++[v])) s (k (.p .none)))
 |.clear=>Aj (bm g) λh=>lX w s Eu λl xs=>A4 xs.length (CJ l (.list []) s (k (.p .none)))
 |.dget=>Aj (Dz g) λv=>Aj (Ed v) λx=>lX w s bE λh d=>∃r,d.lookup x=r/\(match r with|some w=>k w s|none=>k (.p .none) s)
 |.sadd=>Aj (Dz g) λv=>Aj (Ed v) λx=>lX w s jL λl d=>Yr d.length 1000=Zm/\CJ l (.setS (d++[x])) s (k (.p .none))
 |.pop=>Aj (bm g) λh=>lX w s Eu λl xs=>xs.length<=16777216/\Aj (Et xs) λv=>CJ l (.list xs.dropLast) s (k (.p v))
 |.dapp=>Aj (Dz g) λv=>Aj (pV v) λv=>lX w s nY λl q=>Vl q.2.length 16777216=Zm/\CJ l (.deq (q.1+1) (q.2++[v])) s (k (.p .none))
 |.dpop=>Aj (bm g) λh=>lX w s nY λl q=>Yr q.2.length 16777216=Zm/\Aj (Et q.2) λv=>CJ l (.deq (q.1+1) q.2.dropLast) s (k (.p v))
 |.trans=>Aj (Ed w) λx=>Aj (Dz g) λv=>lX v s sD λh y=>mj x y=Zm/\k (.p (.str x)) s
 |.strip=>Aj (Ed w) λx=>Aj (Dz g) λv=>Aj (Ed v) λy=>A4 x.length (k (.p (.str (Wt x y))) s)
 |.join=>Aj (Ed w) λx=>Aj (Dz g) λw=>∃ss:Za Zi,JF s.H w=Zd (ss.map .str)/\A4 ((ss.map (·.length)).sum+ss.length*x.length) (k (.p (.str (RX x ss))) s)
noncomputable def tE(w:Ze W):Ze (Ze Z7):=match w with
 |none=>Zd Zs
 |some (.p (.int i))=>Zd (Zd i)
 |some _=>Zs
def yE(w:W)(a b:Ze Z7)(s:S)(k:W->S->Prop):Prop:=pW (Ed w) (λx=>Aj a λi=>Aj b λj=>A4 x.length (k (.p (.str (ST x (Zd i) (Zd j)))) s)) (Aj (JF s.H w) λl=>nonneg a/\nonneg b/\A4 l.length (k (.p (.lst (cut l a b))) s))
noncomputable def sK(v:V):Ze (Za V):=vC Zs v (t:=Zd) (l:=Zd)
 (r:=λn=>match n with|.ofNat n=>Zd ((UO n).map λ(i:Zf)=>V.int (i:Z7))|.negSucc _=>Zs)
 (s:=λx=>gd (x.cps.all (· <128)) (Zd ((UO x.cps.size).map (sign x))))
noncomputable def itemsOf(H:Za (Zf×LW))(w:W):Ze (Za V):=ob (pV w) sK
def yf(nx:S->Prop)(k:Fl->S->Prop)(f:Fl)(s:S):Prop:=match f with
 |.nx=>nx s
 |.ct=>nx s
 |.br=>k .nx s
 |.rt w=>k (.rt w) s
noncomputable def Gp(stp:V->S->(Fl->S->Prop)->Prop)(k:Fl->S->Prop):Za V->S->Prop
 | [],s=>k .nx s
 |v::r,s=>stp v s (yf (Gp stp k r) k)
def uI(l:Zf)(xs:Za V)(n:Z7)(v:V)(s:S)(k:S->Prop):Prop:=match n with
 |.ofNat m=>m<xs.length/\A4 xs.length (CJ l (.list (xs.set m v)) s k)
 |.negSucc m=>match m with
  |0=>xs≠[]/\xs.length<=16777216/\CJ l (.list (xs.dropLast++[v])) s k
  |_+1=>ZP
def setL(l:Zf)(n:Z7)(v:V)(s:S)(k:S->Prop):Prop:=Aj (Ai l s.H) λx=>match x with
 |.list xs=>uI l xs n v s k
 |_=>ZP
def setD(l:Zf)(x:Zi)(w:W)(s:S)(k:S->Prop):Prop:=Aj (Ai l s.H) λq=>match q with
 |.dictW d=>Yr d.length 1000=Zm/\CJ l (.dictW (putD x w d)) s k
 |_=>ZP
def rf(a j w:W)(s:S)(k:S->Prop):Prop:=Aj (pO a) λl=>pW (CN j) (λn=>Aj (pV w) λv=>setL l n v s k) (Aj (Ed j) λx=>setD l x w s k)
noncomputable def Kj(l:Zf)(h:LW)(stp:V->S->(Fl->S->Prop)->Prop)(k:Fl->S->Prop):Za V->S->Prop
 | [],s=>k .nx s
 |v::r,s=>stp v s (yf (λg=>Ai l g.H=Zd h/\Kj l h stp k r g) k)
def NF(l:Zf)(d:Za (Zi×W))(g:Zf)(k:Fl->S->Prop)(f:Fl)(s:S):Prop:=Ai l s.H=Zd (.dictI d g)/\CJ l (.dictW d) s (k f)
noncomputable def rj(g:Za W):Ze (Zi×Z7):=match g with
 | []=>Zs
 |a::r=>(match r with| []=>Zs|b::_=>ob (Ed a) λy=>ob (CN b) λn=>Zd (y,n))
noncomputable def Mw(n:Z7)(y:Zi):Za V:=if n=0 then[.str y]else[]
noncomputable def DK(H:Za (Zf×LW)):Za (Zi×W)->Ze (Za V)
 | []=>Zd []
 |q::r=>ob (FO H q.2) λg=>ob (rj g) λt=>ob (DK H r) λl=>Zd (Mw t.2 t.1++l)
def vK(inv:Zl)(stp:V->S->(Fl->S->Prop)->Prop)(k:Fl->S->Prop)(l:Za V)(s:S):Prop:=match inv with
 |false=>Gp stp k l s
 |true=>∃g,g=l/\Gp stp k g s
theorem fM{stp:V->S->(Fl->S->Prop)->Prop}{k:Fl->S->Prop}{s:S}(h:vK inv stp k l s):Gp stp k l s:=by
 cases inv with
 |false=>exact h
 |true=>obtain⟨g,rfl,h⟩:=h;exact h
noncomputable abbrev Rec:=Zf->Task->S->Prop
def pK(w:W)(j:Zf)(v:W)(s:S)(k:S->Prop):Prop:=match w with
 |.o l=>Aj (FO s.H (.o l)) λg=>Yr j g.length=Zm/\CJ l (.slots 763 (setS j v g)) s k
 |.p _=>ZP
def setA(w:W)(name:Zf)(v:W)(s:S)(k:S->Prop):Prop:=match K4 name with
 |some j=>pK w j v s k
 |none=>Aj (IG w s.H) λi=>match lE i.C name with
 |true=>(match Yr i.l.length 100 with
  |true=>CJ i.dl (.attrs (putA name v i.l)) s k
  |false=>ZP)
 |false=>ZP
def qy(op:ZG)(a b:W)(s:S)(k:W->S->Prop):Prop:=op.casesOn
 (pW (CN a) (λi=>Aj (CN b) λj=>k (.p (.int (i+j))) s) (Aj (Ed a) λx=>Aj (Ed b) λy=>A4 (x.length+y.length) (k (.p (.str (x++y))) s)))
 (Aj (CN a) λi=>Aj (CN b) λj=>k (.p (.int (i-j))) s) ZP ZP ZP ZP ZP ZP ZP ZP ZP ZP ZP
def xF(g:Zl)(H:Za (Zf×LW))(a b:W)(K:Zl->Prop):Prop:=match g with
 |true=>∃n:Zf,JF H a=Zd (Yb n .none)/\JF H b=Zd (Yb n .none)/\K Zh
 |false=>∃ss h:Za Zi,JF H a=Zd (ss.map .str)/\JF H b=Zd (h.map .str)/\(∀x∈ss,Wi x=Zm)/\(∀x∈h,Wi x=Zm)/\K (!decide (ss=h))
noncomputable def hnd(w:W):Bool:=match w with
 |.p v=>(match v with|.val x=>Q4 x|_=>Zm)
 |.o _=>Zm
def fJ(k:W->S->Prop)(w:W)(s:S):Prop:=match hnd w with
 |true=>k w s
 |false=>ZP
noncomputable def yi:Za Zf->Za Zf->Zl
 | [],ys=>ys.isEmpty
 |x::xs,ys=>(match ys with| []=>Zh|y::r=>ZX x y&&yi xs r)
def MQ(k:S->Prop)(r:W)(s:S):Prop:=match r with
 |.p v=>(match v with
  |.val x=>(match x with|.none=>k s|_=>ZP)
  |_=>ZP)
 |.o _=>ZP
noncomputable def NP:Za Zf->Za W->Za Zf->Ze (Za (Zf×Ze W))
 | [],ws,oth=>(match ws with| []=>Zd (oth.map λx=>(x,Zs))|_::_=>Zs)
 |x::xs,ws,oth=>(match ws with| []=>Zs|w::ws=>ob (NP xs ws oth) λr=>Zd ((x,Zd w)::r))
noncomputable def GE(tst:(Zl->S->Prop)->S->Prop)(h:S->(Fl->S->Prop)->Prop)(g:S->(Fl->S->Prop)->Prop)(k:Fl->S->Prop):Zf->S->Prop
 |0,_=>ZP
 |n+1,s=>tst (λb j=>br b (h j (yf (GE tst h g k n) k)) (g j k)) s
def xk(x:Zf)(s:S)(k:W->Prop):Prop:=Aj (Ai x s.rho) λo=>Aj o k
inductive yy(its:Zf)(s:S)(li:Zf)(ws:Za W)(b it a i:Zf)(l:Za V):Prop
 |mk (e1:Ai its s.rho=Zd (Zd (.o li))) (e2:Ai li s.H=Zd (.listw (ws++[.o b]))) (e3:Ai b s.H=Zd (.bnx it)) (e4:Ai it s.H=Zd (.liter a i)) (e5:Ai a s.H=Zd (.list l)) (hz:ws.length<=1000):yy its s li ws b it a i l
inductive yX(n2s stk:Zf)(s:S)(li:Zf)(ws:Za W)(b it a i:Zf)(H1:Za (Zf×LW))(ls ld:Zf)(xs:Za V)(key:Zi)(d:Za (Zi×W)):Prop
 |mk (hp:s.H.Perm ((b,.bnx it)::(it,.liter a i)::H1)) (f1:Ai stk s.rho=Zd (Zd (.o ls))) (f2:Ai ls H1=Zd (.list (xs++[.str key]))) (f3:Ai n2s s.rho=Zd (Zd (.o ld))) (f4:Ai ld H1=Zd (.dictW d)) (f5:Ai li H1=Zd (.listw (ws++[.o b]))) (n1:ls≠ld) (n2:ls≠li) (n3:ld≠li) (f6:(d.lookup key).isSome=Zm) (f7:d.length<=1000) (f8:xs.length<=1000):yX n2s stk s li ws b it a i H1 ls ld xs key d
inductive gI(x its n2s stk:Zf)(s:S)(k:Fl->S->Prop):Prop
 |nx (li:Zf) (ws:Za W) (b it a i:Zf) (l:Za V) (p:yy its s li ws b it a i l) (v:V) (hv:l[i]? =Zd v) (h:CJ it (.liter a (i+1)) s λs1=>CD x (.p v) s1 λs2=>k .br s2)
 |st (li:Zf) (ws:Za W) (b it a i:Zf) (l:Za V) (p:yy its s li ws b it a i l) (hv:l[i]? =Zs) (H1:Za (Zf×LW)) (ls ld:Zf) (xs:Za V) (key:Zi) (d:Za (Zi×W)) (q:yX n2s stk s li ws b it a i H1 ls ld xs key d)
  (h:CJ ls (.list xs) ⟨H1,s.nx,s.rho⟩ λs1=>CJ ld (.dictW (delD key d)) s1 λs2=>CJ li (.listw ws) s2 λs3=>k .nx s3)
noncomputable def AT:Za Zi->Za Zi->Ze (Za Zi)
 |l,[]=>Zd l
 |l,x::r=>if x∈l then AT (l.erase x) r else Zs
def zf(r:Ze (Za Zi))(k:Fl->S->Prop)(s:S):Prop:=match r with
 |some _=>k .nx s
 |none=>k (.rt (.p (.bool Zh))) s
inductive yW(e xs t:Zf)(s:S)(ss:Za Zi)(lt:Zf)(rs:Za Zi):Prop
 |mk (ne:ZX e t=Zh) (e1:Ai xs s.rho=Zd (Zd (.p (.lst (ss.map .str))))) (e2:Ai t s.rho=Zd (Zd (.o lt))) (e3:Ai lt s.H=Zd (.list (rs.map .str))) (z1:ss.length<=1000) (z2:rs.length<=1000):yW e xs t s ss lt rs
inductive gG(e xs t:Zf)(s:S)(k:Fl->S->Prop):Prop
 |mk (ss:Za Zi) (lt:Zf) (rs:Za Zi) (p:yW e xs t s ss lt rs) (r:Ze (Za Zi)) (er:AT rs ss=r) (h:∀oe rs',(r=Zs∨r=Zd rs')->CJ lt (.list (rs'.map .str)) s λs1=>Aj (put e oe s1.rho) λrho'=>zf r k ⟨s1.H,s1.nx,rho'⟩)
noncomputable def ER(f:Zo):Ze Nat:=match ZX f 810 with
 |true=>Zd 2
 |false=>match ZX f 843 with
  |true=>Zd 1
  |false=>Zs
section
variable(ft:Zo->Ze AM)(rec:Rec)(d:Zf)
def Bs(rho:Za (Zf×Ze W))(k:W->S->Prop)(f:Fl)(s:S):Prop:=match s with
 |⟨H,nx,_⟩=>match f with
  |.rt w=>k w ⟨H,nx,rho⟩
  |.nx=>k (.p .none) ⟨H,nx,rho⟩
  |_=>ZP
def bJ(f:Zo)(ws:Za W)(vs:Za V)(k:W->S->Prop)(s:S):Prop:=Aj (ft f) λD=>match d with
 |0=>ZP
 |d'+1=>match s with
  |⟨H,nx,rho⟩=>Aj (NP D.ps (ws++[.p (.tup vs)]) D.oth) λr=>(match D.frz with
   |true=>∃u:ZU,rec d' (.sts D.body (Bs rho k)) ⟨H,nx,r⟩
   |false=>ZP)
noncomputable def arr(n:Zf)(g h:Za α):Za α:=g.take (g.length-n)++(h++g.drop (g.length-n))
def Hr(f:Zo)(g:Za Zf)(h:Za W)(k:W->S->Prop)(s:S):Prop:=match ER f with
 |some _=>ZP
 |none=>Aj (ft f) λD=>match d with
 |0=>ZP
 |d'+1=>match yi D.kwn g with
  |false=>ZP
  |true=>match s with
   |⟨H,nx,rho⟩=>Aj (NP D.ps (arr D.kwn.length h (D.dflt.map .p)) D.oth) λr=>(match D.frz with|true=>∃u:ZU,rec d' (.sts D.body (Bs rho k)) ⟨H,nx,r⟩|false=>rec d' (.sts D.body (Bs rho k)) ⟨H,nx,r⟩)
def qI(w:W)(name:Zf)(k:W->S->Prop)(s:S):Prop:=Aj (IG w s.H) λi=>pW (pT i.C name) (λf=>match d with
 |0=>ZP
 |d'+1=>Hr ft rec d' f [] [w] (fJ k) s) (br (lE i.C name) (Aj (Ai name i.l) λv=>fJ k v s) ZP)
def lD(w:W)(name:Zf)(k:W->S->Prop)(s:S):Prop:=pW (K4 name) (λj=>Aj (FO s.H w) λg=>Aj (tS g j) λv=>fJ k v s)
 (br (ZX name 18) (Aj (sx s.H w) λl=>(match s with|⟨H,nx,rho⟩=>k (.o nx) ⟨(nx,.bnx l)::H,nx+1,rho⟩)) (qI ft rec d w name k s))
noncomputable def xI(C:Zo)(g:Za Zf)(h:Za W):Ze Addr:=match ZX C 597 with
 |true=>(match g with
  | []=>(match h with
   | [_]=>Zd 367
   |_=>Zs)
  |_=>Zs)
 |false=>Ai C II
def iZ(k:S->Prop)(s:S):Prop:=match s with|⟨H,nx,rho⟩=>∃g,g.Perm H/\k ⟨g,nx,rho⟩
def yM(g:Za W)(k:W->S->Prop)(s:S):Prop:=match d with
 |0=>ZP
 |d'+1=>match s with
  |⟨H,nx,rho⟩=>Hr ft rec d' 759 [] (.o nx::g) (MQ (iZ (k (.o nx)))) ⟨(nx,.slots 763 [])::H,nx+1,rho⟩
def xJ(C:Zo)(g:Za Zf)(h:Za W)(k:W->S->Prop)(s:S):Prop:=match d with
 |0=>ZP
 |d'+1=>match s with
  |⟨H,nx,rho⟩=>Aj (xI C g h) λf=>Hr ft rec d' f g (.o nx::h) (MQ (k (.o nx))) ⟨(nx,.inst C (nx+1))::(nx+1,.attrs [])::H,nx+2,rho⟩
noncomputable def IH(H:Za (Zf×LW))(w:W)(name:Zf):Ze Addr:=ob (IG w H) λi=>gd (i.l.all (λp=> !ZX p.1 name&&Vl p.1 192)&&Vl name 192) (cS i.C name)
def qF(k:Za W->S->Prop)(w:W)(g:Za W)(s:S):Prop:=k (w::g) s
def xx(k:Za W->S->Prop)(w:W)(s:S):Prop:=k [w] s
def uF(k:Ze W->S->Prop)(w:W)(s:S):Prop:=k (Zd w) s
def yg(r:Za PE)(k:Za W->S->Prop)(w:W)(s:S):Prop:=rec d (.exs r (qF k w)) s
def vP(l:Za PE)(k:Za W->S->Prop)(s:S):Prop:=match l with
 | []=>k [] s
 |e::r=>rec d (.ex e (yg rec d r k)) s
def Fb(l:Za PE)(k:Za W->S->Prop)(s:S):Prop:=match l with
 | []=>k [] s
 |e::r=>rec d (.exs (e::r) k) s
def uE(l:Za PE)(k:Za W->S->Prop)(s:S):Prop:=match l with
 | []=>k [] s
 | [e]=>rec d (.ex e (xx k)) s
 |_=>ZP
noncomputable def xW:Za (Zf×PE)->(Za W->S->Prop)->S->Prop
 | [],k,s=>k [] s
 |e::r,k,s=>rec d (.ex e.2 λw g=>xW r (qF k w) g) s
def rV(e:Ze PE)(k:Ze W->S->Prop)(s:S):Prop:=match e with
 |none=>k Zs s
 |some e=>rec d (.ex e (uF k)) s
def qG(e:Ze PE)(k:Zl->S->Prop)(s:S):Prop:=match e with
 |none=>k Zm s
 |some e=>rec d (.ts e k) s
noncomputable def Jv(stp:V->Za V->S->(Za V->S->Prop)->Prop)(fin:Za V->S->Prop):Za V->Za V->S->Prop
 | [],acc,s=>fin acc s
 |v::r,acc,s=>stp v acc s λg h=>Jv stp fin r g h
noncomputable def Fa:Za Zf->Za (Zf×Ze W)->Ze (Za (Zf×Ze W))
 | [],_=>Zd []
 |x::r,rho=>match Ai x rho with
  |some o=>match Fa r rho with|some t=>Zd ((x,o)::t)|none=>Zs
  |none=>Zs
def cY(xs:Za Zf)(g:Ze PE)(elt:PE)(v:V)(acc:Za V)(s:S)(j:Za V->S->Prop):Prop:=
 LJ xs (.p v) s λu=>qG rec d g (λb h=>br b (rec d (.ex elt λw r=>match w with|.p v'=>A4 acc.length (j (acc++[v']) r)|.o _=>ZP) h) (j acc h)) u
def jF(x:Zf)(it:PE)(y:Zf)(elt:PE)(v:V)(acc:Za V)(s:S)(h:Za V->S->Prop):Prop:=
 LJ [x] (.p v) s λj=>rec d (.ex it λw g=>Aj (itemsOf g.H w) λl=>A4 l.length (Jv (cY rec d [y] Zs elt) h l acc g)) j
def jG(xs:Za Zf)(iter:PE)(caps:Za Zf)(stp:V->Za V->S->(Za V->S->Prop)->Prop)(k:Za V->S->Prop)(s:S):Prop:=
 rec d (.ex iter λw g=>Aj (itemsOf g.H w) λl=>A4 l.length (match g with
  |⟨H,nx,rho⟩=>Aj (Fa caps rho) λj=>Jv stp (λacc h=>match h with|⟨H2,nx2,_⟩=>k acc ⟨H2,nx2,rho⟩) l [] ⟨H,nx,xs.map (λx=>(x,Zs))++j⟩)) s
def jH(g:Zl)(k:W->S->Prop)(acc:Za V)(s:S):Prop:=match g with
 |false=>k (.p (.lst acc)) s
 |true=>match s with|⟨H,nx,rho⟩=>k (.o nx) ⟨(nx,.list acc)::H,nx+1,rho⟩
def lu(x:Zf)(elt:PE)(v:V)(acc:Za (Zi×V))(s:S)(j:Za (Zi×V)->S->Prop):Prop:=
 LJ [x] (.p v) s λh=>Aj (Ai x h.rho) λo=>Aj o λw=>Aj (Ed w) λg=>rec d (.ex elt λu r=>Aj (pV u) λv'=>A4 acc.length (j (putD g v' acc) r)) h
noncomputable def fZ(stp:V->Za (Zi×V)->S->(Za (Zi×V)->S->Prop)->Prop)(fin:Za (Zi×V)->S->Prop):Za V->Za (Zi×V)->S->Prop
 | [],acc,s=>fin acc s
 |v::r,acc,s=>stp v acc s λg h=>fZ stp fin r g h
def yV(x:Zf)(iter elt:PE)(caps:Za Zf)(k:W->S->Prop)(s:S):Prop:=
 rec d (.ex iter λw g=>Aj (itemsOf g.H w) λl=>Yr l.length 900=Zm/\(match g with
  |⟨H,nx,rho⟩=>Aj (Fa caps rho) λj=>fZ (lu rec d x elt) (λacc h=>match h with|⟨H2,nx2,_⟩=>k (.o nx2) ⟨(nx2,.dictW (acc.map λp=>(p.1,.p p.2)))::H2,nx2+1,rho⟩) l [] ⟨H,nx,(x,Zs)::j⟩)) s
def v3(e:PE)(k:W->S->Prop)(s:S):Prop:=e.casesOn
 (λg=>ZP)
 (λg=>ZP)
 (λg=>ZP)
 (ZP)
 (λg=>ZP)
 (λg=>ZP)
 (λg g g=>ZP)
 (λg g=>ZP)
 (λg g g=>ZP)
 (λg g=>ZP)
 (λg g g=>ZP)
 (λg g g=>ZP)
 (λg g=>ZP)
 (λg g=>ZP)
 (λg g g=>ZP)
 (λg g g=>ZP)
 (λg g=>ZP)
 (λg g=>ZP)
 (λg g g=>ZP)
 (λg g=>ZP)
 (λg=>ZP)
 (λg g=>ZP)
 (λj xs iter h elt caps=>jG rec d xs iter caps (cY rec d xs h elt) (jH j k) s)
 (λx iter y r elt caps=>jG rec d [x,y] iter caps (jF rec d x r y elt) (jH Zh k) s)
 (λg g=>ZP)
 (λg g g g=>ZP)
 (λg=>ZP)
 (ZP)
 (λg g g g=>ZP)
 (λg=>ZP)
 (λg g g=>ZP)
 (λg g=>ZP)
 (λx iter elt caps=>yV rec d x iter elt caps k s)
 (ZP)
def wR(k:W->S->Prop)(s:S)(w:W):Prop:=k w s
def zo(k:W->S->Prop)(s:S)(o:Ze W):Prop:=Aj o (wR k s)
def wh(op:ZG)(a:W)(k:W->S->Prop)(b:W)(s:S):Prop:=wg op a b s k
def yo(op:ZG)(r:PE)(k:W->S->Prop)(a:W)(s:S):Prop:=rec d (.ex r (wh op a k)) s
def xC(k:W->S->Prop)(w:W)(s:S):Prop:=xB w s k
def vg(k:W->S->Prop)(b:Zl)(s:S):Prop:=k (.p (.bool (!b))) s
def xz(k:W->S->Prop)(w:W)(s:S):Prop:=gJ w s (vg k)
def wf(k:W->S->Prop)(s:S)(c:Zl):Prop:=k (.p (.bool c)) s
def vY(op:R6)(a:W)(k:W->S->Prop)(b:W)(s:S):Prop:=Aj (lz s.H op a b) (wf k s)
def yl(op:R6)(r:PE)(k:W->S->Prop)(a:W)(s:S):Prop:=rec d (.ex r (vY op a k)) s
def ya(a b:PE)(k:W->S->Prop)(c:Zl)(s:S):Prop:=br c (rec d (.ex a k) s) (rec d (.ex b k) s)
def zx(b:BI)(g:Zl)(k:W->S->Prop)(h:Za W)(s:S):Prop:=yp b g h s k
def we(f:Zo)(k:W->S->Prop)(s:S)(vs:Za V):Prop:=∃Q,AS d f vs Q/\∀r,Q r->k (.p r) s
def yn(f:Zo)(k:W->S->Prop)(g:Za W)(s:S):Prop:=Aj (Ci g) (we d f k s)
def vp(f:Zo)(w:W)(k:W->S->Prop)(g:Za W)(s:S):Prop:=match ER f with
 |none=>Hr ft rec d f [] (w::g) k s
 |some n=>Aj (Ci ((w::g).drop n)) λvs=>A4 vs.length (bJ ft rec d f ((w::g).take n) vs k s)
def vo(m:MK)(w:W)(k:W->S->Prop)(g:Za W)(s:S):Prop:=qo m w g s k
def vr(args:Za PE)(w:W)(k:W->S->Prop)(s:S)(f:Zo):Prop:=Fb rec d args (vp ft rec d f w k) s
def vq(args:Za PE)(w:W)(k:W->S->Prop)(s:S)(m:MK):Prop:=Fb rec d args (vo m w k) s
def vt(name:Zf)(args:Za PE)(k:W->S->Prop)(w:W)(s:S):Prop:=jp (IH s.H w name) (vr ft rec d args w k s) (Aj (MK.of s.H w name) (vq rec d args w k s))
def ym(f:Zo)(k:W->S->Prop)(g:Za W)(s:S):Prop:=Hr ft rec d f [] g k s
def yO(C:Zo)(k:W->S->Prop)(g:Za W)(s:S):Prop:=match ZX C 763 with
 |true=>yM ft rec d g k s
 |false=>xJ ft rec d C [] g k s
def yr(name:Zf)(k:W->S->Prop)(w:W)(s:S):Prop:=lD ft rec d w name k s
def uB(w:W)(k:W->S->Prop)(j:W)(s:S):Prop:=uC w j s k
def xc(i:PE)(k:W->S->Prop)(w:W)(s:S):Prop:=rec d (.ex i (uB w k)) s
def x0(g:Zl)(k:W->S->Prop)(s:S)(vs:Za V):Prop:=newL g vs s k
def xQ(g:Zl)(k:W->S->Prop)(h:Za W)(s:S):Prop:=Aj (Ci h) (x0 g k s)
def uq(k:W->S->Prop)(s:S)(vs:Za V):Prop:=A4 vs.length (k (.p (.tup vs)) s)
def tupK(k:W->S->Prop)(g:Za W)(s:S):Prop:=Aj (Ci g) (uq k s)
def wQ(x:Zf)(k:W->S->Prop)(w:W)(s:S):Prop:=CD x w s (k w)
def HH(e:PE)(k:W->S->Prop)(s:S):Prop:=e.casesOn
 (λi=>k (.p (.int i)) s)
 (λx=>k (.p (.str x)) s)
 (λb=>k (.p (.bool b)) s)
 (k (.p .none) s)
 (λx=>Aj (Ai x s.rho) (zo k s))
 (λv=>k (.p (.val v)) s)
 (λop l r=>rec d (.ex l (yo rec d op r k)) s)
 (λop x=>match op with
 |.USub=>rec d (.ex x (xC k)) s
 |.Not=>rec d (.ex x (xz k)) s
 |_=>ZP)
 (λop l r=>rec d (.ex l (yl rec d op r k)) s)
 (λop l=>match l with
 | [x,y]=>rec d (.ex x λw j=>gJ w j λb h=>match op with
  |.And=>br b (rec d (.ex y k) h) (k w h)
  |.Or=>br b (k w h) (rec d (.ex y k) h)) s
 |_=>ZP)
 (λt a b=>rec d (.ts t (ya rec d a b k)) s)
 (λb g args=>Fb rec d args (zx b g k) s)
 (λf args=>Fb rec d args (yn d f k) s)
 (λf args=>Fb rec d args (ym ft rec d f k) s)
 (λC args kw=>match kw with
 | []=>Fb rec d args (yO ft rec d C k) s
 |q::kw=>(match args with
  | []=>ZP
  |a::args=>rec d (.exs (a::args) λG j=>xW rec d (q::kw) (λB h=>B.length=kw.length+1/\xJ ft rec d C ((q::kw).map (·.1)) (G++B) k h) j) s))
 (λo name args=>rec d (.ex o (vt ft rec d name args k)) s)
 (λo name=>rec d (.ex o (yr ft rec d name k)) s)
 (λo i=>rec d (.ex o (xc rec d i k)) s)
 (λo lo R=>rec d (.ex o λw j=>rV rec d lo (λO h=>rV rec d R (λP I=>Aj (tE O) λa=>Aj (tE P) λb=>yE w a b I k) h) j) s)
 (λg l=>rec d (.exs l (xQ g k)) s)
 (λl=>rec d (.exs l (tupK k)) s)
 (λx e=>rec d (.ex e (wQ x k)) s)
 (λg xs iter D elt caps=>v3 rec d (.lc g xs iter D elt caps) k s)
 (λx iter y K elt caps=>v3 rec d (.lc2 x iter y K elt caps) k s)
 (λa e=>rec d (.ex a λw j=>Aj (Ed w) λA=>rec d (.ex e λu h=>Aj (Ed u) λy=>vm y=Zm/\(match h with|⟨H,nx,rho⟩=>k (.o nx) ⟨(nx,.trn y)::H,nx+1,rho⟩)) j) s)
 (λa x y z=>Aj (Ai x s.rho) λo=>Aj o λw=>Aj (Ed w) λv=>(y==z)=Zh/\v.length<=1048576/\a.length<=1048576/\z.length<=14/\(WW v y z).length<=1048576/\k (.p (.str (a++WW v y z))) s)
 (λi=>k (.p (.int i)) s)
 ((match s with|⟨H,nx,rho⟩=>k (.o nx) ⟨(nx,.dictW [])::H,nx+1,rho⟩))
 (λo name args star=>rec d (.ex o λw j=>Aj (IH j.H w name) λf=>Aj (ER f) λn=>uE rec d args (λG h=>rec d (.ex star λQ I=>Aj (NT I.H Q) λitems=>A4 items.length (Aj (Ci ((w::G).drop n)) λvs=>A4 (vs.length+items.length) (bJ ft rec d f ((w::G).take n) (vs++items) k I))) h) j) s)
 (λo=>rec d (.ex o λw j=>match w with
 |.o l=>Aj (Ai l j.H) λq=>match q with
  |.dictW L=>∃E,DK j.H L=Zd E/\A4 L.length (newL Zm E j k)
  |_=>ZP
 |.p _=>ZP) s)
 (λA A A=>ZP)
 (λa b=>rec d (.ex a λx j=>rec d (.ex b λy h=>∃(ks:Za Zi) (vs:Za V),JF h.H x=Zd (ks.map .str)/\JF h.H y=Zd vs/\ks.Nodup/\ks.length=vs.length/\ks.length<=900/\(match h with
 |⟨H,nx,rho⟩=>k (.o nx) ⟨(nx,.dictW ((ks.zip vs).map λp=>(p.1,.p p.2)))::H,nx+1,rho⟩)) j) s)
 (λA A A A=>ZP)
 (ZP)
def nK(k:Zl->S->Prop)(b:Zl)(s:S):Prop:=k (!b) s
def uA(k:Zl->S->Prop)(s:S)(c:Zl):Prop:=k c s
def xa(op:R6)(a:W)(k:Zl->S->Prop)(b:W)(s:S):Prop:=Aj (lz s.H op a b) (uA k s)
def zj(op:R6)(r:PE)(k:Zl->S->Prop)(a:W)(s:S):Prop:=rec d (.ex r (xa op a k)) s
def yx(r:Za PE)(k:Zl->S->Prop)(b:Zl)(s:S):Prop:=br b (rec d (.ts (.bop .And r) k) s) (k Zh s)
def zn(r:Za PE)(k:Zl->S->Prop)(b:Zl)(s:S):Prop:=br b (k Zm s) (rec d (.ts (.bop .Or r) k) s)
def xG(q:Zl)(a:W)(k:Zl->S->Prop)(b:W)(s:S):Prop:=xF q s.H a b (uA k s)
def zr(q:Zl)(r:PE)(k:Zl->S->Prop)(a:W)(s:S):Prop:=rec d (.ex r (xG q a k)) s
def wX(k:Zl->S->Prop)(w:W)(s:S):Prop:=gJ w s k
def wB(e:PE)(k:Zl->S->Prop)(s:S):Prop:=match e with
 |.un .Not x=>rec d (.ts x (nK k)) s
 |.cmp op l r=>rec d (.ex l (zj rec d op r k)) s
 |.bop .And l=>match l with
  | []=>k Zm s
  |x::r=>rec d (.ts x (yx rec d r k)) s
 |.bop .Or l=>match l with
  | []=>k Zh s
  |x::r=>rec d (.ts x (zn rec d r k)) s
 |.ife _ _ _=>ZP
 |.any=>ZP
 |.gi _=>ZP
 |.dict0=>ZP
 |.methS _ _ _ _=>ZP
 |.readyC _=>ZP
 |.dzip _ _=>ZP
 |.dcomp _ _ _ _=>ZP
 |.neL q l r=>rec d (.ex l (zr rec d q r k)) s
 |e=>rec d (.ex e (wX k)) s
def yJ(k:Fl->S->Prop)(w:W)(s:S):Prop:=k .nx s
def wo(x:Zf)(k:Fl->S->Prop)(w:W)(s:S):Prop:=CD x w s (k .nx)
def yw(xs:Za Zf)(k:Fl->S->Prop)(w:W)(s:S):Prop:=LJ xs w s (k .nx)
def wm(w a:W)(k:Fl->S->Prop)(j:W)(s:S):Prop:=rf a j w s (k .nx)
def wn(i:PE)(w:W)(k:Fl->S->Prop)(a:W)(s:S):Prop:=rec d (.ex i (wm w a k)) s
def yt(o i:PE)(k:Fl->S->Prop)(w:W)(s:S):Prop:=rec d (.ex o (wn rec d i w k)) s
def wq(a:Zf)(w:W)(k:Fl->S->Prop)(g:W)(s:S):Prop:=setA g a w s (k .nx)
def yu(o:PE)(a:Zf)(k:Fl->S->Prop)(w:W)(s:S):Prop:=rec d (.ex o (wq a w k)) s
def wi(g:W)(a:Zf)(k:Fl->S->Prop)(w:W)(s:S):Prop:=setA g a w s (k .nx)
def wj(g:W)(a:Zf)(op:ZG)(old:W)(k:Fl->S->Prop)(v:W)(s:S):Prop:=qy op old v s (wi g a k)
def wk(g:W)(a:Zf)(op:ZG)(e:PE)(k:Fl->S->Prop)(old:W)(s:S):Prop:=rec d (.ex e (wj g a op old k)) s
def yq(a:Zf)(op:ZG)(e:PE)(k:Fl->S->Prop)(g:W)(s:S):Prop:=lD ft rec d g a (wk rec d g a op e k) s
def zl(k:Fl->S->Prop)(w:W)(s:S):Prop:=k (.rt w) s
def xX(a b:Za PS)(k:Fl->S->Prop)(c:Zl)(s:S):Prop:=br c (rec d (.sts a k) s) (rec d (.sts b k) s)
def gf(xs:Za Zf)(body:Za PS)(v:V)(s:S)(g:Fl->S->Prop):Prop:=LJ xs (.p v) s (rec d (.sts body g))
def vL(inv:Zl)(xs:Za Zf)(body:Za PS)(k:Fl->S->Prop)(s:S)(l:Za V):Prop:=A4 l.length (vK inv (gf rec d xs body) k l s)
def ye(inv:Zl)(xs:Za Zf)(body:Za PS)(k:Fl->S->Prop)(w:W)(s:S):Prop:=Aj (itemsOf s.H w) (vL rec d inv xs body k s)
def gR(r:Za PS)(k:Fl->S->Prop)(f:Fl)(s:S):Prop:=match f with
 |.nx=>rec d (.sts r k) s
 |.br=>k .br s
 |.ct=>k .ct s
 |.rt w=>k (.rt w) s
def tQ(t:PS)(k:Fl->S->Prop)(s:S):Prop:=t.casesOn
 (λe=>rec d (.ex e (yJ k)) s)
 (λx e=>rec d (.ex e (wo x k)) s)
 (λx e=>v3 rec d e (wo x k) s)
 (λxs e=>rec d (.ex e (yw xs k)) s)
 (λo a e=>rec d (.ex e (yu rec d o a k)) s)
 (λo i e=>rec d (.ex e (yt rec d o i k)) s)
 (λo a op e=>rec d (.ex o (yq ft rec d a op e k)) s)
 (λe=>rec d (.ex e (zl k)) s)
 (λt a b=>rec d (.ts t (xX rec d a b k)) s)
 (λinv xs e body=>rec d (.ex e (ye rec d inv xs body k)) s)
 (λt body z=>∃N,GE (λu g=>rec d (.ts t u) g) (λg u=>rec d (.sts body u) g) (λg u=>rec d (.sts z u) g) k N s)
 (k .nx s)
 (k .br s)
 (k .ct s)
 (λo i x e=>rec d (.ex e λw g=>rec d (.ex o λa B=>rec d (.ex i λj I=>rf a j w I λG=>CD x w G λK=>k .nx K) B) g) s)
 (λx e body=>rec d (.ex e λw g=>match w with
 |.o l=>Aj (Ai l g.H) λq=>match q with
  |.list xs=>A4 xs.length (∃h,h=xs/\Kj l (.list xs) (gf rec d [x] body) k h g)
  |_=>ZP
 |.p _=>ZP) s)
 (λx e body=>rec d (.ex e λw g=>match w with
 |.o l=>Aj (Ai l g.H) λq=>match q with
  |.dictW r=>A4 r.length (∀A,∃ks,ks=r.map (λp=>V.str p.1)/\CJ l (.dictI r A) g λB=>Kj l (.dictI r A) (gf rec d [x] body) (NF l r A k) ks B)
  |_=>ZP
 |.p _=>ZP) s)
 (λx E D C=>gI x E D C s k)
 (λe xs t=>gG e xs t s k)
 (ZP)
def LP(t:Task)(s:S):Prop:=match t with
 |.ex e k=>HH ft rec d e k s
 |.exs l k=>vP rec d l k s
 |.ts e k=>wB rec d e k s
 |.st t k=>tQ ft rec d t k s
 |.sts l k=>match l with
  | []=>k .nx s
  |t::r=>rec d (.st t (gR rec d r k)) s
end
noncomputable def go(ft:Zo->Ze AM)(n:Zf):Zf->Task->S->Prop:=Wh (motive:=λg=>Zf->Task->S->Prop) (λg g g=>ZP) (λg h d t s=>LP ft h d t s) n
end
end
variable{k:W->S->Prop}{rho:Za (Zf×Ze W)}{H H' E9 F6:Za (Zf×LW)}{ft:Zo->Ze AM}{w H6 H7:W}{ws E5 E6:Za W}{kk K5:Fl->S->Prop}{rec:Rec}{args:Za PE}{pe D5 D6 D7:PE}{j5 j6:S}{E7 E8:LW}{K6:S->Prop}
section
noncomputable section
variable{x y l n':Zf}{a b:Zl}{t:Expr}{s:S}{G:Prop}{T':Tm}
theorem EW{v:α}{r:Za (Zf×α)}:Ai x ((y,v)::r)=match ZX x y with|true=>Zd v|false=>Ai x r:=rfl
theorem DC{u v:α}{r:Za (Zf×α)}:put x v ((y,u)::r)=match ZX x y with|true=>Zd ((y,v)::r)|false=>match put x v r with|some g=>Zd ((y,u)::g)|none=>none:=rfl
noncomputable def KW:Za String:=["","append","pop","strip","join","replace","remove","clear","get","values","items","add","maketrans","translate","appendleft","popleft","find","read","__next__","self","initial_value","newline","_StringIO__newline","_StringIO__buf","_StringIO__pos","str","_wall","ValueError","_StringIO__translated","type","s","size","start","stop","_index","_StringIO__check","len","n","what","int","bool","instream","infile","posix","punctuation_chars","commenters","wordchars","whitespace","whitespace_split","quotes","escape","escapedquotes","state","pushback","lineno","debug","token","filestack","source","_punctuation_chars","isinstance","eof","deque","_pushback_chars","t","StringIO","fromkeys","dict","property","raw","tok","read_token","spec","print","sourcehook","get_token","pop_source","newfile","newstream","push_source","repr","quoted","escapedstate","result","nextchar","readline","_find_unsafe","node","npredecessors","successors","graph","_node2info","_ready_nodes","_npassedout","_nfinished","predecessors","_NodeInfo","nodeinfo","pred","_get_nodeinfo","pred_info","cycle","_find_cycle","i","CycleError","n2i","tuple","_NODE_OUT","nodes","stat","_NODE_DONE","successor","successor_info","stack","itstack","seen","node2stacki","set","StopIteration","iter","unhashable_params","new_unhashable","first_args","second_args","first_unhashable","second_unhashable","_deduplicate_unhashable","list","elem","script","cells","place","range","rest","row","turn","at","part","kind","texts","sorted","left","right","_law_text","parts","cell","pieces","_law_writings","_law_names","_law_joined","blanks","tokens","run","text","sign","line","lexer","shlex","quote","steps","one","other","names","held","sorter","name","answers","early","late","TopologicalSorter","group","prepare","get_ready","done","is_active","after","ahead","_compare_args_orderless","rows","twins","zip","_law_twins","each","_law_cells","_law_drawn","plan","_law_plan","_law_tokens","_law_steps","_law_tokens_due","_law_late","_law_folded"]
noncomputable def Af(n:Zf):Str:=Zc (KW.getD n "")
noncomputable def uc:Za Addr:=[63,737,744,871,878,885,892,899,906,913,920,925,932,939,944,949,956,961]
noncomputable def BH(ks:Za (Zi×Zx))(x:Zi)(k:Zx):Bool:=ks.any λp=>p.1==x&&p.2==k
theorem Aw{k:Zx}(h:BH ks line k=Zm):(line,k)∈ks:=by
 obtain⟨⟨y,j⟩,g,e⟩:=Xu.mp h;simp only[Z6,Wb]at e;obtain⟨rfl,rfl⟩:=e;exact g
noncomputable def Bh(ks:Za (Zi×Zx))(x:Zi)(v:Zb):Bool:=BH ks x .globalImplicit&&bM.any λp=>p.1==x&&p.2==v
noncomputable def DA(ks:Za (Zi×Zx))(ck:Zl)(x:Zi):Bool:=BH ks x .local||(ck&&BH ks x .cell)
noncomputable def Ju(ks:Za (Zi×Zx))(g:Yh)(xs caps:Za Zf):Bool:=
 GU g&&((g.names.all λp=>p.2 !=.free||BH ks p.1 .cell)&&((caps.all λx=>BH g.names (Af x) .free)&&decide (((xs++caps).map Af).Nodup)))
noncomputable def p0:Pos:=⟨0,0,0,0⟩
noncomputable def jE:Expr:=.Name Qj p0
noncomputable def jS:Stmt:=.Pass p0
noncomputable def vI(gs:Za Zn):Za Expr:=gs.flatMap λg=>g.target::g.iter::g.ifs
structure EI where
 g:Nat:=0
 l:Za Expr:=[]
 kp:Za Pos:=[]
 k:Nat:=0
 s:Str:=Qj
 sc:Scope:=⟨.function,[],Zh,Zh,[]⟩
noncomputable def ei(t:Expr):EI:=t.casesOn (λj vs j=>{l:=vs}) (λt v j=>{l:=[t,v]}) (λl j r j=>{l:=[l,r]}) (λj a j=>{l:=[a]}) (λj j j j=>{}) (λa b c j=>{l:=[a,b,c]}) (λj j j=>{}) (λj j j=>{g:=2}) (λA gs sc j=>{g:=4,l:=A::vI gs,sc:=sc}) (λj j j j=>{g:=5}) (λk v gs sc j=>{g:=6,l:=k::v::vI gs,sc:=sc}) (λj j j j=>{}) (λj j=>{}) (λj j=>{}) (λj j=>{}) (λa j z j=>{l:=a::z}) (λf as u j=>{l:=f::(as++u.map (·.value)),kp:=u.map (·.pos)}) (λj j j j=>{}) (λj j=>{}) (λj k j=>{k:=k}) (λa j j=>{l:=[a]}) (λa b j=>{l:=[a,b]}) (λe j=>{l:=[e]}) (λx j=>{s:=x}) (λes j=>{l:=es}) (λes k j=>{g:=3,l:=es,k:=k}) (λl h j j=>{g:=1,l:=[l.getD jE,h.getD jE]})
noncomputable abbrev kids(t:Expr):Za Expr:=(ei t).l
noncomputable abbrev kd(t:Expr)(i:Zf):Expr:=(kids t).getD i jE
noncomputable abbrev zw(t:Expr):Za Pos:=(ei t).kp
noncomputable abbrev eK(t:Expr):Nat:=(ei t).k
noncomputable abbrev eS(t:Expr):Str:=(ei t).s
noncomputable abbrev Km(t:Expr):Scope:=(ei t).sc
noncomputable def isSlice(t:Expr):Bool:=ZX (ei t).g 1
noncomputable def isSet(t:Expr):Bool:=ZX (ei t).g 2
noncomputable def isTup(t:Expr):Bool:=ZX (ei t).g 3
noncomputable def IF(t:Expr):Bool:=Vl 3 (ei t).g
noncomputable def ik(f:PE->Expr->Expr):Za PE->Za Expr->Za Expr
 | [],_=>[]
 |p::r,ts=>f p (ts.headD jE)::ik f r ts.tail
noncomputable def wE(f:PE->Expr->Expr):Ze PE->Expr->Ze Expr
 |none,_=>Zs
 |some p,t=>Zd (f p t)
noncomputable def xn(f:PE->Expr->Expr):Za (Zf×PE)->Za Expr->Za Xf->Za R3
 | [],_,_=>[]
 |p::r,ts,ps=>⟨Zd (Af p.1),f p.2 (ts.headD jE),ps.headD p0⟩::xn f r ts.tail ps.tail
noncomputable abbrev Hx(x:Zf)(t:Expr):Expr:=.Name (Af x) t.pos
noncomputable abbrev gP(t:Expr):Expr:=.Name (eS t) t.pos
noncomputable def wZ:Za Zf->Za Expr->Za Expr
 | [],_=>[]
 |x::r,ts=>Hx x (ts.headD jE)::wZ r ts.tail
noncomputable def wY(xs:Za Zf)(t:Expr):Expr:=match xs with
 | []=>.Tuple [] (eK t) t.pos
 |x::r=>match r with
  | []=>Hx x t
  |y::r=>.Tuple (wZ (x::y::r) (kids t)) (eK t) t.pos
noncomputable def zi(xs:Za Zf):Bool:=Yr 1 xs.length&&Yr xs.length 3
noncomputable def wC(ks:Za (Zi×Zx))(ck:Zl)(xs:Za Zf):Bool:=zi xs&&xs.all λx=>DA ks ck (Af x)
noncomputable abbrev nG(f:Expr)(name:Zi)(as:Za Expr)(t:Expr):Expr:=.Call (.Attribute f name (kd t 0).pos) as [] t.pos
noncomputable def xK(f:Expr)(t:Expr):Bool:= !B4 f&&(kd t 0).pos.endLine==t.pos.line
noncomputable def zm(f:PE->Expr->Expr)(pe:PE)(t:Expr):Expr:=pe.casesOn
 (λi=>.Constant (.int i) (eK t) t.pos)
 (λx=>.Constant (.str x) (eK t) t.pos)
 (λb=>.Constant (.bool b) (eK t) t.pos)
 (.Constant .none (eK t) t.pos)
 (λx=>Hx x t)
 (λg=>gP t)
 (λop l r=>.BinOp (f l (kd t 0)) op (f r (kd t 1)) t.pos)
 (λop x=>.UnaryOp op (f x (kd t 0)) t.pos)
 (λop l r=>.Compare (f l (kd t 0)) [op] [f r (kd t 1)] t.pos)
 (λop l=>.BoolOp op (ik f l (kids t)) t.pos)
 (λa b c=>.IfExp (f a (kd t 0)) (f b (kd t 1)) (f c (kd t 2)) t.pos)
 (λg g args=>.Call (gP (kd t 0)) (ik f args (kids t).tail) [] t.pos)
 (λg args=>.Call (gP (kd t 0)) (ik f args (kids t).tail) [] t.pos)
 (λg args=>.Call (gP (kd t 0)) (ik f args (kids t).tail) [] t.pos)
 (λg args kw=>.Call (gP (kd t 0)) (ik f args (kids t).tail) (xn f kw ((kids t).drop (args.length+1)) (zw t)) t.pos)
 (λo name args=>nG (f o (kd (kd t 0) 0)) (Af name) (ik f args (kids t).tail) t)
 (λo name=>.Attribute (f o (kd t 0)) (Af name) t.pos)
 (λo i=>.Subscript (f o (kd t 0)) (f i (kd t 1)) t.pos)
 (λo lo s=>.Subscript (f o (kd t 0)) (.Slice (wE f lo (kd (kd t 1) 0)) (wE f s (kd (kd t 1) 1)) Zs (kd t 1).pos) t.pos)
 (λg l=>.List (ik f l (kids t)) t.pos)
 (λl=>.Tuple (ik f l (kids t)) (eK t) t.pos)
 (λx v=>.NamedExpr (Hx x (kd t 0)) (f v (kd t 1)) t.pos)
 (λg xs it h elt g=>.ListComp (f elt (kd t 0)) [⟨wY xs (kd t 1),f it (kd t 2),(wE f h (kd t 3)).toList,0⟩] (Km t) t.pos)
 (λx it y j elt g=>.ListComp (f elt (kd t 0)) [⟨Hx x (kd t 1),f it (kd t 2),[],0⟩,⟨Hx y (kd t 3),f j (kd t 4),[],0⟩] (Km t) t.pos)
 (λa e=>nG (f a (kd (kd t 0) 0)) (Zc "maketrans") [nG (.Name (Zc "dict") (kd (kd (kd t 1) 0) 0).pos) (Zc "fromkeys") [f e (kd (kd t 1) 1)] (kd t 1)] t)
 (λa x y z=>.BinOp (.Constant (.str a) (eK (kd t 0)) (kd t 0).pos) .Add (nG (Hx x (kd (kd (kd t 1) 0) 0)) (Zc "replace") [.Constant (.str y) (eK (kd (kd t 1) 1)) (kd (kd t 1) 1).pos,.Constant (.str z) (eK (kd (kd t 1) 2)) (kd (kd t 1) 2).pos] (kd t 1)) t.pos)
 (λg=>gP t)
 (.Dict [] [] t.pos)
 (λo name args star=>nG (f o (kd (kd t 0) 0)) (Af name) (match args with
  | []=>[.Starred (f star (kd (kd t 1) 0)) (kd t 1).pos]
  |x::_=>[f x (kd t 1),.Starred (f star (kd (kd t 2) 0)) (kd t 2).pos]) t)
 (λo=>.ListComp (.Attribute (gP (kd (kd t 0) 0)) (Af 87) (kd t 0).pos)
  [⟨.Name (eS (kd (kd t 0) 0)) (kd t 1).pos,nG (f o (kd (kd (kd t 2) 0) 0)) (Zc "values") [] (kd t 2),
   [.Compare (.Attribute (.Name (eS (kd (kd t 0) 0)) (kd (kd (kd t 3) 0) 0).pos) (Af 88) (kd (kd t 3) 0).pos) [.Eq] [.Constant (.int 0) (eK (kd (kd t 3) 1)) (kd (kd t 3) 1).pos] (kd t 3).pos],0⟩] (Km t) t.pos)
 (λg l r=>.Compare (f l (kd t 0)) [.NotEq] [f r (kd t 1)] t.pos)
 (λa b=>.Call (gP (kd t 0)) [.Call (gP (kd (kd t 1) 0)) [f a (kd (kd t 1) 1),f b (kd (kd t 1) 2)] [] (kd t 1).pos] [] t.pos)
 (λx it elt g=>.DictComp (Hx x (kd t 0)) (f elt (kd t 1)) [⟨Hx x (kd t 2),f it (kd t 3),[],0⟩] (Km t) t.pos)
 (t)
noncomputable def rb(n:Zf):PE->Expr->Expr:=Wh (λg t=>t) (λg f=>zm f) n
noncomputable def hU(g:PE->Expr->Zl):Za PE->Za Expr->Zl
 | [],_=>Zm
 |p::r,ts=>g p (ts.headD jE)&&hU g r ts.tail
noncomputable def wD(g:PE->Expr->Zl):Ze PE->Expr->Zl
 |none,_=>Zm
 |some p,t=>g p t
noncomputable def xg(g:PE->Expr->Zl):Za (Zf×PE)->Za Expr->Zl
 | [],_=>Zm
 |p::r,ts=>g p.2 (ts.headD jE)&&xg g r ts.tail
noncomputable def zk(n:Zf)(g:Za (Zi×Zx)->Zl->PE->Expr->Zl)(ks:Za (Zi×Zx))(ck:Zl)(pe:PE)(t:Expr):Bool:=pe.casesOn
 (λh=>Zm)
 (λh=>Zm)
 (λh=>Zm)
 (Zm)
 (λx=>BH ks (Af x) .local||(BH ks (Af x) .cell||BH ks (Af x) .free))
 (λv=>Bh ks (eS t) v)
 (λh l r=>g ks ck l (kd t 0)&&g ks ck r (kd t 1))
 (λh x=>g ks ck x (kd t 0))
 (λop l r=>g ks ck l (kd t 0)&&(g ks ck r (kd t 1)&& !VC op (rb n r (kd t 1))))
 (λh l=>hU (g ks ck) l (kids t))
 (λa b c=>g ks ck a (kd t 0)&&(g ks ck b (kd t 1)&&g ks ck c (kd t 2)))
 (λb h args=>Bh ks (eS (kd t 0)) b.v&&hU (g ks ck) args (kids t).tail)
 (λf args=>uc.contains f&&(Bh ks (eS (kd t 0)) (.ref f)&&hU (g ks ck) args (kids t).tail))
 (λf args=>uc.contains f&&(Bh ks (eS (kd t 0)) (.ref f)&&hU (g ks ck) args (kids t).tail))
 (λC args kw=>(C==597||(C==763||II.any λp=>p.1==C))&&(Bh ks (eS (kd t 0)) (.ref C)&&(hU (g ks ck) args (kids t).tail&&xg (g ks ck) kw ((kids t).drop (args.length+1)))))
 (λo h args=>xK (rb n o (kd (kd t 0) 0)) t&&(Vl args.length 29&&(g ks ck o (kd (kd t 0) 0)&&hU (g ks ck) args (kids t).tail)))
 (λo h=> !B4 (rb n o (kd t 0))&&g ks ck o (kd t 0))
 (λo i=> !isSlice (rb n i (kd t 1))&&(g ks ck o (kd t 0)&&g ks ck i (kd t 1)))
 (λo lo u=>g ks ck o (kd t 0)&&(wD (g ks ck) lo (kd (kd t 1) 0)&&wD (g ks ck) u (kd (kd t 1) 1)))
 (λh l=>hU (g ks ck) l (kids t))
 (λl=>hU (g ks ck) l (kids t))
 (λx v=>DA ks ck (Af x)&&g ks ck v (kd t 1))
 (λh xs it j elt caps=>wC (EX (Km t).names) Zh xs&&(g ks ck it (kd t 2)&&(!isSet (rb n it (kd t 2))&&(wD (g (EX (Km t).names) Zh) j (kd t 3)&&(g (EX (Km t).names) Zh elt (kd t 0)&&Ju ks (Km t) xs caps)))))
 (λx it y s elt caps=>DA (EX (Km t).names) Zh (Af x)&&(g ks ck it (kd t 2)&&(!isSet (rb n it (kd t 2))&&(DA (EX (Km t).names) Zh (Af y)&&(g (EX (Km t).names) Zh s (kd t 4)&&(!isSet (rb n s (kd t 4))&&(g (EX (Km t).names) Zh elt (kd t 0)&&Ju ks (Km t) [x,y] caps)))))))
 (λa e=>xK (rb n a (kd (kd t 0) 0)) t&&((kd (kd t 1) 0).pos.endLine==(kd t 1).pos.line&&(Bh ks (Zc "dict") (.type "dict")&&(g ks ck a (kd (kd t 0) 0)&&g ks ck e (kd (kd t 1) 1)))))
 (λh x h h=>BH ks (Af x) .local&&(kd (kd t 1) 0).pos.endLine==(kd t 1).pos.line)
 (λi=>BH ks (eS t) .globalImplicit&&oq.any λp=>p.1==eS t&&p.2==i)
 (Zm)
 (λo h args star=> !B4 (rb n o (kd (kd t 0) 0))&&(g ks ck o (kd (kd t 0) 0)&&(match args with
  | []=>g ks ck star (kd (kd t 1) 0)
  |x::r=>r.isEmpty&&(g ks ck x (kd t 1)&&g ks ck star (kd (kd t 2) 0)))))
 (λo=>BH (EX (Km t).names) (eS (kd (kd t 0) 0)) .local&&(xK (rb n o (kd (kd (kd t 2) 0) 0)) (kd t 2)&&(g ks ck o (kd (kd (kd t 2) 0) 0)&&Ju ks (Km t) [] [])))
 (λh l r=>g ks ck l (kd t 0)&&(g ks ck r (kd t 1)&& !VC .NotEq (rb n r (kd t 1))))
 (λa b=>Bh ks (eS (kd t 0)) (.type "dict")&&(Bh ks (eS (kd (kd t 1) 0)) (.type "zip")&&(g ks ck a (kd (kd t 1) 1)&&g ks ck b (kd (kd t 1) 2))))
 (λx it elt caps=>g ks ck it (kd t 3)&&(!isSet (rb n it (kd t 3))&&((BH (Km t).names (Af x) .local||BH (Km t).names (Af x) .cell)&&(g (EX (Km t).names) Zh elt (kd t 1)&&Ju ks (Km t) [x] caps))))
 (!isStar t)
noncomputable def sd(n:Zf):Za (Zi×Zx)->Zl->PE->Expr->Bool:=Wh (λh h h h=>Zh) (λn g=>zk n g) n
inductive Cq(ks:Za (Zi×Zx))(ck:Zl):Expr->PE->Prop
 |mk (n:Zf) (t:Expr) (pe:PE) (h:sd n ks ck pe t=Zm):Cq ks ck (rb n pe t) pe
inductive NW(ks:Za (Zi×Zx))(ck:Zl):Za Expr->Za PE->Prop
 |nil:NW ks ck [] []
 |cons {e:Expr} {p:PE} {es:Za Expr} {ps:Za PE} (h:Cq ks ck e p) (r:NW ks ck es ps):NW ks ck (e::es) (p::ps)
inductive pJ(ks:Za (Zi×Zx))(ck:Zl):Ze Expr->Ze PE->Prop
 |none:pJ ks ck Zs Zs
 |some {e:Expr} {p:PE} (h:Cq ks ck e p):pJ ks ck (Zd e) (Zd p)
inductive tO(ks:Za (Zi×Zx))(ck:Zl):Za R3->Za (Zf×PE)->Prop
 |nil:tO ks ck [] []
 |cons {e:Expr} {x:Zf} {p:PE} {pos:Xf} {es:Za R3} {ps:Za (Zf×PE)} (h:Cq ks ck e p) (r:tO ks ck es ps):tO ks ck (⟨Zd (Af x),e,pos⟩::es) ((x,p)::ps)
theorem Ak(h:(a&&b)=Zm):a=true:=by cases a;exact h;rfl
theorem Ae(h:(a&&b)=Zm):b=true:=by cases a;cases h;exact h
theorem Ey(h:Bh ks line v'=Zm):(line,NameKind.globalImplicit)∈ks:=Aw (Ak h)
theorem Ex(h:Bh ks line v'=Zm):(line,v')∈bM:=by
 refine Ag (Xu.mp (Ae h)) λg j e=>?_;generalize(beq_iff_eq.mp (Ak e):g.1=line)=r;generalize(beq_iff_eq.mp (Ae e):g.2=v')=s;subst r s;exact j
theorem Cy(h:(!a)=Zm):a=false:=by cases a;rfl;cases h
inductive Tq(ks:Za (Zi×Zx))(ck:Zl):Expr->Za Zf->Prop
 |mk (t:Expr) (xs:Za Zf) (h:wC ks ck xs=Zm):Tq ks ck (wY xs t) xs
theorem Cq.star(h:Cq ks ck value pe):isStar value=false:=by
 cases h with
 |mk n t pe h=>
 cases n with
 |zero=>cases h
 |succ n=>
  cases pe with
  |any=>exact Cy h
  |_=>exact V0 Zh
section
theorem EA(l:Za PE):∀{ts:Za Expr},hU (sd n ks ck) l ts=Zm->NW ks ck (ik (rb n) l ts) l:=by
 induction l with
 |nil=>exact λj=>.nil
 |cons p r g=>exact λh=>.cons (.mk n _ _ (Ak h)) (g (Ae h))
theorem LF{o:Ze PE}(h:wD (sd n ks ck) o t=Zm):pJ ks ck (wE (rb n) o t) o:=by
 cases o with
 |none=>exact .none
 |some p=>exact .some (.mk n _ _ h)
theorem tC(l:Za (Zf×PE)):∀{ts:Za Expr} {ps:Za Xf},xg (sd n ks ck) l ts=Zm->tO ks ck (xn (rb n) l ts ps) l:=by
 induction l with
 |nil=>exact λj=>.nil
 |cons p r g=>exact λh=>.cons (.mk n _ _ (Ak h)) (g (Ae h))
end
noncomputable def qw(ks:Za (Zi×Zx))(ck:Zl)(t:Zi)(h:Xf)(e:Expr):Bool:=
 (BH ks t .local&&(h.line==e.pos.line&& !((Km e).names.any λ(n,k)=>n==t&&(k==.local||k==.cell))))||(ZX (ei e).g 4&&(ck&&BH ks t .cell))
structure SI where
 e:Za Expr:=[]
 b:Za Stmt:=[]
 o:Za Stmt:=[]
 h:Expr×Za Yv×Pos:=(jE,[],p0)
noncomputable def si(t:Yv):SI:=t.casesOn (λg g g g g g g g g g=>{}) (λg g g g g g g g g g=>{}) (λg g g g g g g g g g g=>{}) (λa g=>{e:=[a.getD jE]}) (λts g=>{e:=ts}) (λts v g=>{e:=v::ts}) (λg g g g g g g=>{}) (λt g v g=>{e:=[v,t]}) (λg g g g g=>{}) (λt i b g g=>{e:=[i,t],b:=b}) (λg g g g g=>{}) (λx b o g=>{e:=[x],b:=b,o:=o}) (λx b o g=>{e:=[x],b:=b,o:=o}) (λg g g=>{}) (λg g g=>{}) (λg g g=>{}) (λg g g=>{}) (λb j g g g=>{b:=b,h:=match j with|⟨e,_,b,p⟩::_=>(e.getD jE,b,p)| []=>(jE,[],p0)}) (λg g g g g=>{}) (λg g g=>{}) (λg g=>{}) (λg g g g=>{}) (λg g=>{}) (λg g=>{}) (λa g=>{e:=[a]}) (λg=>{}) (λg=>{}) (λg=>{})
noncomputable abbrev se(t:Yv)(i:Zf):Expr:=(si t).e.getD i jE
noncomputable abbrev sB(t:Yv):Za Stmt:=(si t).b
noncomputable abbrev sO(t:Yv):Za Stmt:=(si t).o
noncomputable abbrev Jf(t:Yv)(i:Zf):Stmt:=(sB t).getD i jS
noncomputable abbrev sH(t:Yv):Expr×Za Yv×Pos:=(si t).h
noncomputable abbrev hb(t:Yv)(i:Zf):Stmt:=(sH t).2.1.getD i jS
noncomputable def Jn(f:PS->Yv->Yv):Za PS->Za Yv->Za Yv
 | [],_=>[]
 |p::r,ts=>f p (ts.headD jS)::Jn f r ts.tail
noncomputable def xl(n:Zf)(f:PS->Yv->Yv)(ps:PS)(t:Yv):Stmt:=ps.casesOn
 (λe=>.Expr (rb n e (se t 0)) t.pos)
 (λx e=>.Assign [Hx x (se t 1)] (rb n e (se t 0)) t.pos)
 (λx e=>.Assign [Hx x (se t 1)] (rb n e (se t 0)) t.pos)
 (λxs e=>.Assign [.Tuple (wZ xs (kids (se t 1))) (eK (se t 1)) (se t 1).pos] (rb n e (se t 0)) t.pos)
 (λo x e=>.Assign [.Attribute (rb n o (kd (se t 1) 0)) (Af x) (se t 1).pos] (rb n e (se t 0)) t.pos)
 (λo i e=>.Assign [.Subscript (rb n o (kd (se t 1) 0)) (rb n i (kd (se t 1) 1)) (se t 1).pos] (rb n e (se t 0)) t.pos)
 (λo x op e=>.AugAssign (.Attribute (rb n o (kd (se t 1) 0)) (Af x) (se t 1).pos) op (rb n e (se t 0)) t.pos)
 (λe=>.Return (Zd (rb n e (se t 0))) t.pos)
 (λc a b=>.If (rb n c (se t 0)) (Jn f a (sB t)) (Jn f b (sO t)) t.pos)
 (λs xs e body=>.For (wY xs (se t 1)) (rb n e (se t 0)) (Jn f body (sB t)) [] t.pos)
 (λc b h=>.While (rb n c (se t 0)) (Jn f b (sB t)) (Jn f h (sO t)) t.pos)
 (.Pass t.pos)
 (.Break t.pos)
 (.Continue t.pos)
 (λo i x e=>.Assign [.Subscript (rb n o (kd (se t 1) 0)) (rb n i (kd (se t 1) 1)) (se t 1).pos,Hx x (se t 2)] (rb n e (se t 0)) t.pos)
 (λx e body=>.For (Hx x (se t 1)) (rb n e (se t 0)) (Jn f body (sB t)) [] t.pos)
 (λx e body=>.For (Hx x (se t 1)) (rb n e (se t 0)) (Jn f body (sB t)) [] t.pos)
 (λx g r j=>.Try [.Assign [Hx x (se (Jf t 0) 1)] (.Call (.Subscript (Hx g (kd (kd (se (Jf t 0) 0) 0) 0)) (.UnaryOp .USub (.Constant (.int 1) (eK (kd (kd (kd (se (Jf t 0) 0) 0) 1) 0)) (kd (kd (kd (se (Jf t 0) 0) 0) 1) 0).pos) (kd (kd (se (Jf t 0) 0) 0) 1).pos) (kd (se (Jf t 0) 0) 0).pos) [] [] (se (Jf t 0) 0).pos) (Jf t 0).pos,.Break (Jf t 1).pos]
  [⟨Zd (gP (sH t).1),Zs,[.Delete [.Subscript (Hx r (kd (se (hb t 0) 0) 0)) (nG (Hx j (kd (kd (kd (se (hb t 0) 0) 1) 0) 0)) (Zc "pop") [] (kd (se (hb t 0) 0) 1)) (se (hb t 0) 0).pos] (hb t 0).pos,
   .Expr (nG (Hx g (kd (kd (se (hb t 1) 0) 0) 0)) (Zc "pop") [] (se (hb t 1) 0)) (hb t 1).pos],(sH t).2.2⟩] [] [] t.pos)
 (λe xs u=>.Try [.For (Hx e (se (Jf t 0) 1)) (Hx xs (se (Jf t 0) 0)) [.Expr (nG (Hx u (kd (kd (se (Jf (Jf t 0) 0) 0) 0) 0)) (Zc "remove") [Hx e (kd (se (Jf (Jf t 0) 0) 0) 1)] (se (Jf (Jf t 0) 0) 0)) (Jf (Jf t 0) 0).pos] [] (Jf t 0).pos]
  [⟨Zd (gP (sH t).1),Zs,[.Return (Zd (.Constant (.bool Zh) (eK (se (hb t 0) 0)) (se (hb t 0) 0).pos)) (hb t 0).pos],(sH t).2.2⟩] [] [] t.pos)
 (t)
noncomputable def xm(n:Zf):PS->Yv->Stmt:=Wh (λg t=>t) (λn f=>xl n f) n
noncomputable def Jl(g:PS->Yv->Zl):Za PS->Za Yv->Zl
 | [],_=>Zm
 |p::r,ts=>g p (ts.headD jS)&&Jl g r ts.tail
noncomputable def jB(e:Expr):Bool:=(kd e 0).pos.endLine==e.pos.line
noncomputable def xe(n:Zf)(f:Za (Zi×Zx)->Zl->PS->Yv->Zl)(ks:Za (Zi×Zx))(ck:Zl)(ps:PS)(t:Yv):Bool:=ps.casesOn
 (λe=>sd n ks ck e (se t 0)&& !IF (rb n e (se t 0)))
 (λx e=>DA ks ck (Af x)&&(sd n ks ck e (se t 0)&& !IF (rb n e (se t 0))))
 (λx e=>sd n ks ck e (se t 0)&&qw ks ck (Af x) (se t 1).pos (rb n e (se t 0)))
 (λxs e=>(Yr 2 xs.length&&wC ks ck xs)&&(sd n ks ck e (se t 0)&&(!IF (rb n e (se t 0))&& !isTup (rb n e (se t 0)))))
 (λo s e=>sd n ks ck o (kd (se t 1) 0)&&sd n ks ck e (se t 0))
 (λo i e=>sd n ks ck o (kd (se t 1) 0)&&(sd n ks ck i (kd (se t 1) 1)&&sd n ks ck e (se t 0)))
 (λo s s e=>sd n ks ck o (kd (se t 1) 0)&&sd n ks ck e (se t 0))
 (λe=>sd n ks ck e (se t 0))
 (λc a b=>sd n ks ck c (se t 0)&&(Jl (f ks ck) a (sB t)&&Jl (f ks ck) b (sO t)))
 (λs xs e body=>wC ks ck xs&&(sd n ks ck e (se t 0)&&(Jl (f ks ck) body (sB t)&& !isSet (rb n e (se t 0)))))
 (λc b g=>sd n ks ck c (se t 0)&&(Jl (f ks ck) b (sB t)&&Jl (f ks ck) g (sO t)))
 (Zm)
 (Zm)
 (Zm)
 (λo i x e=>DA ks ck (Af x)&&(sd n ks ck o (kd (se t 1) 0)&&(sd n ks ck i (kd (se t 1) 1)&&sd n ks ck e (se t 0))))
 (λx e body=>DA ks ck (Af x)&&(sd n ks ck e (se t 0)&&(Jl (f ks ck) body (sB t)&& !isSet (rb n e (se t 0)))))
 (λx e body=>DA ks ck (Af x)&&(sd n ks ck e (se t 0)&&(Jl (f ks ck) body (sB t)&& !isSet (rb n e (se t 0)))))
 (λx r j h=>ck&&(Bh ks (eS (sH t).1) (.type "StopIteration")&&(BH ks (Af x) .local&&(BH ks (Af r) .local&&(BH ks (Af j) .local&&(BH ks (Af h) .local&&(jB (kd (se (hb t 0) 0) 1)&&jB (se (hb t 1) 0))))))))
 (λe xs u=>ck&&(Bh ks (eS (sH t).1) (.type "ValueError")&&(BH ks (Af e) .local&&(BH ks (Af xs) .local&&(BH ks (Af u) .local&&jB (se (Jf (Jf t 0) 0) 0))))))
 (Zm)
noncomputable def xf(n:Zf):Za (Zi×Zx)->Zl->PS->Yv->Bool:=Wh (λg g g g=>Zh) (λn f=>xe n f) n
inductive Sq(ks:Za (Zi×Zx))(ck:Zl):Yv->PS->Prop
 |mk (n:Zf) (t:Yv) (ps:PS) (h:xf n ks ck ps t=Zm):Sq ks ck (xm n ps t) ps
inductive d3(ks:Za (Zi×Zx))(ck:Zl):Za Yv->Za PS->Prop
 |nil:d3 ks ck [] []
 |cons {e:Yv} {p:PS} {es:Za Yv} {ps:Za PS} (h:Sq ks ck e p) (r:d3 ks ck es ps):d3 ks ck (e::es) (p::ps)
theorem Ei(l:Za PS):∀{ts:Za Yv},Jl (xf n ks ck) l ts=Zm->d3 ks ck (Jn (xm n) l ts) l:=by
 induction l with
 |nil=>exact λj=>.nil
 |cons p r g=>exact λh=>.cons (.mk n _ _ (Ak h)) (g (Ae h))
noncomputable abbrev Mp:=Zf->Zo
noncomputable def WR(m:Mp)(n:Zf):W->V->Prop
 |.p v,u=>u=v
 |.o l,u=>l<n/\u=.ref (m l)
noncomputable def Fc(m:Mp)(n:Zf):Za W->Za V->Prop
 | [],vs=>vs=[]
 |w::r,vs=>∃v t,vs=v::t/\WR m n w v/\Fc m n r t
noncomputable def NX(m:Mp)(n:Zf):Za (Zf×W)->Za (Zi×V)->Prop
 | [],vs=>vs=[]
 |(x,w)::r,vs=>∃v t,vs=(Af x,v)::t/\WR m n w v/\NX m n r t
noncomputable def FC(m:Mp)(n:Zf):Za (Zi×W)->Za (Zi×V)->Prop
 | [],vs=>vs=[]
 |(x,w)::r,vs=>∃v t,vs=(x,v)::t/\WR m n w v/\FC m n r t
noncomputable def LR(m:Mp)(n:Zf):LW->LO->Prop
 |.list l,lo=>lo=.list l
 |.listw l,lo=>∃vs,lo=.list vs/\Fc m n l vs
 |.dictW l,lo=>∃vs,lo=.dict vs/\FC m n l vs
 |.dictI l ep,lo=>∃vs,lo=.dictE vs ep/\FC m n l vs
 |.slots C l,lo=>∃vs,lo=.slots C vs/\Fc m n l vs
 |.setS l,lo=>lo=.setS l
 |.liter a i,lo=>a<n/\∃o,lo=.raw o/\tN (m a) i o/\(i=0->o=sz (m a) 0)
 |.bnx it,lo=>it<n/\lo=.raw (Gu (m it))
 |.attrs l,lo=>(∀p∈l,p.1<192)/\∃vs,lo=.dict vs/\NX m n l vs
 |.inst C d,lo=>d<n/\lo=.raw (BP C (m d))
 |.deq k l,lo=>lo=gu k l
 |.trn y,lo=>∃o,lo=.raw o/\lZ y o
noncomputable def HR(m:Mp)(n:Zf):Za (Zf×LW)->Za (Zo×LO)->Prop
 | [],L=>L=[]
 |(l,x)::H,L=>∃lo L',L=(m l,lo)::L'/\l<n/\LR m n x lo/\HR m n H L'
noncomputable def RR(m:Mp)(n:Zf):Za (Zf×Ze W)->Za (Zi×Ze V)->Prop
 | [],r=>r=[]
 |(x,Zs)::t,r=>∃g,r=(Af x,Zs)::g/\RR m n t g
 |(x,Zd w)::t,r=>∃v g,r=(Af x,Zd v)::g/\WR m n w v/\RR m n t g
structure Ext(m:Mp)(n:Zf)(m':Mp)(n':Zf):Prop where
 le:n<=n'
 eq:∀l,l<n->m' l=m l
theorem Ext.refl{m:Mp}:Ext m n m n:=⟨ZL _,λg g=>rfl⟩
theorem Ext.trans{m m1 g:Mp}{n2:Zf}(h:Ext m n m1 d)(k:Ext m1 d g n2):Ext m n g n2:=⟨Zv h.le k.le,λl hl=>(k.eq l (ZB hl h.le)).trans (h.eq l hl)⟩
section
variable{m m':Mp}
theorem WR.ext(x:Ext m n m' n'):∀{w:W} {v:V},WR m n w v->WR m' n' w v:=by
 intro w;cases w with
 |p g=>exact @λg h=>h
 |o l=>exact @λg h=>⟨ZB h.1 x.le,by refine Ab (h.2 ..) ?_;refine Ab (x.eq l h.1 ..) ?_;rfl⟩
theorem Fc.ext(x:Ext m n m' n'):∀{w:Za W} {v:Za V},Fc m n w v->Fc m' n' w v:=by
 intro w
 induction w with
 |nil=>exact @λg h=>h
 |cons g g j=>exact @λg q=>An q λv t e h r=>At v t e (h.ext x) (j r)
theorem NX.ext(x:Ext m n m' n'):∀{w:Za (Zf×W)} {v:Za (Zi×V)},NX m n w v->NX m' n' w v:=by
 intro w
 induction w with
 |nil=>exact @λg h=>h
 |cons s g j=>
  obtain⟨g,g⟩:=s;exact @λg q=>An q λv t e h r=>At v t e (h.ext x) (j r)
theorem FC.ext(x:Ext m n m' n'):∀{w:Za (Zi×W)} {v:Za (Zi×V)},FC m n w v->FC m' n' w v:=by
 intro w
 induction w with
 |nil=>exact @λj h=>h
 |cons s j g=>
  exact @λj q=>An q λv t e h r=>At v t e (h.ext x) (g r)
theorem LR.ext(x:Ext m n m' n'){w:LW}{v:LO}(h:LR m n w v):LR m' n' w v:=by
 cases w with
 |list=>exact h
 |listw=>exact Ag h λvs e r=>mEA vs e (r.ext x)
 |dictW=>exact Ag h λvs e r=>mEA vs e (r.ext x)
 |dictI=>exact Ag h λvs e r=>mEA vs e (r.ext x)
 |slots=>exact Ag h λvs e r=>mEA vs e (r.ext x)
 |setS=>exact h
 |liter a=>exact GC h λh o e r=>Es (ZB h x.le) o e ((x.eq a h).symm▸r)
 |bnx a=>exact⟨ZB h.1 x.le,(x.eq a h.1).symm▸h.2⟩
 |attrs=>exact GC h λhb vs e r=>Es hb vs e (r.ext x)
 |inst g d=>exact⟨ZB h.1 x.le,by refine Ab (h.2 ..) ?_;refine Ab (x.eq d h.1 ..) ?_;rfl⟩
 |deq=>exact h
 |trn=>exact h
theorem HR.ext(x:Ext m n m' n'):∀{H:Za (Zf×LW)} {L:Za (Zo×LO)},HR m n H L->HR m' n' H L:=by
 intro H
 induction H with
 |nil=>exact @λs h=>h
 |cons j s g=>
  exact @λs q=>AF q λlo L' e hl h r=>Bw lo L' (by refine Ab (x.eq j.1 hl ..) ?_;exact e) (ZB hl x.le) (h.ext x) (g r)
theorem RR.ext(x:Ext m n m' n'):∀{H:Za (Zf×Ze W)} {L:Za (Zi×Ze V)},RR m n H L->RR m' n' H L:=by
 intro H
 induction H with
 |nil=>exact @λs h=>h
 |cons q H j=>
  obtain⟨y,u⟩:=q;intro L h;cases u with
  |none=>exact Ag h λg e r=>mEA g e (j r)
  |some w=>exact An h λv g e h r=>At v g e (h.ext x) (j r)
end
theorem lkp_mem{v:α}:∀{l:Za (Zf×α)},Ai x l=Zd v->(x,v)∈l:=by
 intro l
 induction l with
 |nil=>
  intro h;trivial
 |cons g r j=>
  obtain⟨y,u⟩:=g;intro h;rw[EW]at h;split at h
  ·rename_i e;generalize(Z4 e)=this;subst this;cases h;exact .head _
  ·exact .tail _ (j h)
theorem lkp_put{u v:α}:∀{l j:Za (Zf×α)},Ai x l=Zd u->put x v l=Zd j->Ai x j=Zd v:=by
 intro l
 induction l with
 |nil=>
  intro A h A;exact nj h
 |cons g r s=>
  obtain⟨y,w⟩:=g;intro j h k;rw[EW]at h;rw[DC]at k
  set_option tactic.hygienic true in split at h
  ·rename_i e;rw[e]at k;cases k;rw[EW];rw[e]
  ·rename_i e;rw[e]at k;dsimp only at k
   set_option tactic.hygienic true in split at k
   ·rename_i B z;cases k;rw[EW];rw[e];exact s h z
   ·cases k
theorem RR.mem{m:Mp}:∀{r:Za (Zf×Ze W)} {g:Za (Zi×Ze V)} {x:Zf} {w:W},RR m n r g->(x,Zd w)∈r->∃v,(Af x,Zd v)∈g/\WR m n w v:=by
 intro r
 induction r with
 |nil=>exact @λz z z z h=>ZT h ZE
 |cons q t B=>
  obtain⟨y,u⟩:=q;intro g x w A h;cases u with
  |none=>
   refine Ag A λg e r=>?_;subst e;rcases Zr.mp h with h|h
   ·cases h
   ·exact Ag (B r h) λv s j=>mEA v (.tail _ s) j
  |some u=>
   refine An A λv g e C r=>?_;subst e;rcases Zr.mp h with h|h
   ·cases h;exact mEA v (.head _) C
   ·exact Ag (B r h) λv s j=>mEA v (.tail _ s) j
theorem RR.put{m:Mp}(I:WR m n w D8):∀{r C:Za (Zf×Ze W)} {A:Za (Zi×Ze V)},RR m n r A->put x (Zd w) r=Zd C->∃j,F4 (Af x) D8 A j/\RR m n C j:=by
 intro r
 induction r with
 |nil=>
  intro G G G h;trivial
 |cons D t g=>
  obtain⟨y,u⟩:=D;intro C A s h;rw[DC]at h;split at h
  ·rename_i e;have:=Z4 e;subst this;cases h;cases u with
   |none=>refine Ag s λq e r=>?_;subst e;exact mEA _ .head (At D8 q rfl I r)
   |some u=>refine An s λz q e G r=>?_;subst e;exact mEA _ .head (At D8 q rfl I r)
  ·split at h
   ·rename_i O K;cases h;cases u with
    |none=>
     refine Ag s λq e r=>?_;subst e;refine Ag (g r K) λH E B=>?_;exact Ep _ (.tail E) H rfl B
    |some u=>
     refine An s λz q e L r=>?_;subst e;refine Ag (g r K) λH E B=>?_;exact mEA _ (.tail E) (At z H rfl L B)
   ·cases h
theorem HR.get{m:Mp}{x:LW}:∀{H:Za (Zf×LW)} {L:Za (Zo×LO)},HR m n H L->Ai l H=Zd x->∃lo,(m l,lo)∈L/\LR m n x lo/\l<n:=by
 intro H
 induction H with
 |nil=>
  intro E E h;trivial
 |cons s t j=>
  obtain⟨y,u⟩:=s;intro L z h;obtain⟨lo,L',e,hl,B,r⟩:=z;subst e;rw[EW]at h;split at h
  ·rename_i e;generalize(Z4 e)=this;refine Cb λC g=>?_;subst this;cases h;refine g ?_;exact AU lo (.head _) B hl
  ·refine Ag (j r h) λlo D A=>?_;exact mEA lo (.tail _ D) A
theorem HR.put{m:Mp}:∀{H H':Za (Zf×LW)} {L:Za (Zo×LO)},HR m n H L->Ai l H=Zd E7->put l E8 H=Zd H'->
 ∃lo s g,L=s++(m l,lo)::g/\LR m n E7 lo/\∀j,LR m n E8 j->HR m n H' (s++(m l,j)::g):=by
 intro H
 induction H with
 |nil=>
  intro D D D h D;exact nj h
 |cons C t B=>
  obtain⟨y,u⟩:=C;intro H' L z h k;obtain⟨lo,L',e,hl,E,r⟩:=z;subst e;rw[EW]at h;rw[DC]at k
  set_option tactic.hygienic true in split at h
  ·rename_i e;rw[e]at k;generalize(Z4 e)=this;subst this;cases h;cases k;exact AG lo ([]) L' rfl E (λj h'=>Bw j L' rfl hl h' r)
  ·rename_i e;rw[e]at k;dsimp only at k
   set_option tactic.hygienic true in split at k
   ·rename_i P O;cases k;refine Aq (B r h O) λA s g G K I=>?_;exact AG A ((m y,lo)::s) g (by rw[G];rfl) K (λj h'=>Bw lo _ rfl hl E (I j h'))
   ·cases k
section
theorem Ev.aao{t:ZN α}{P:α->St->Prop}{w:Zb}(g:(v',.val w)∈σ.T)(h:v'=w->Ev c σ t P):Ev c σ t P:=λs m=>by
 generalize(by
  refine xE m λG m=>?_;exact(m.temps _ g:VR G (.val w) v').zI:v'=w)=e
 exact h e s m
end
structure Fx where
 R:Za (Zo×LO)
 env:YG
 own:Za Zo
inductive Rel(m:Mp)(s:S)(X:Fx):St->Prop
 |mk {T:Tm} {L:Za (Zo×LO)} {rho:Za (Zi×Ze V)} {L1:Za (Zo×LO)} (hr:RR m s.nx s.rho rho) (hh:HR m s.nx s.H L1) (hp:L.Perm (L1++X.R)):Rel m s X ⟨T,L,⟨X.env,X.own,rho⟩⟩
@[elab_as_elim] theorem Rel.cp{m:Mp}{X:Fx}{M:Fm->Prop}(h:Rel m s X σ)(k:∀{rho L1},RR m s.nx s.rho rho->HR m s.nx s.H L1->σ.L.Perm (L1++X.R)->M ⟨X.env,X.own,rho⟩):M σ.F:=by
 cases h with|mk r j g=>exact k r j g
theorem Rel.cp0{m:Mp}{X:Fx}(h:Rel m s X σ)(k:∀{rho L1},RR m s.nx s.rho rho->HR m s.nx s.H L1->σ.L.Perm (L1++X.R)->G):G:=by
 cases h with|mk r j g=>exact k r j g
def BO(m:Mp)(n:Zf)(T:Tm)(w:W)(v':Zb):Prop:=∃v,WR m n w v/\(v',v)∈T
noncomputable def AK(m:Mp)(n:Zf)(T:Tm):Za W->Za Zb->Prop
 | [],vs=>vs=[]
 |w::r,vs=>∃v' t,vs=v'::t/\BO m n T w v'/\AK m n T r t
theorem BO.ext{m m':Mp}(x:Ext m n m' n')(t:∀p∈T,p∈T'):BO m n T w v'->BO m' n' T' w v':=λg=>Ag g λv j h=>mEA v (j.ext x) (t _ h)
theorem AK.ext{m m':Mp}(x:Ext m n m' n')(t:∀p∈T,p∈T'):∀{ws:Za W} {vs:Za Zb},AK m n T ws vs->AK m' n' T' ws vs:=by
 intro ws
 induction ws with
 |nil=>exact @λg h=>h
 |cons g g j=>exact @λg q=>An q λv' r e h s=>At v' r e (h.ext x t) (j s)
structure Gx(c:Cx)(d:Zf)(ks:Za (Zi×Zx))(ck:Zl)(X:Fx):Prop where
 ok:Ok c d
 en:Bq X.env ks
 ow:Gz X.env X.own
 cl:ck=Zm->∀p∈X.env.cells,p.2∈X.own
 fa:DX c X.env X.own
 fr:ck=Zm->uf c X.env
inductive Ap(m:Mp)(n:Zf)(X:Fx)(T:Tm)(k:W->S->Prop)(v':Zb)(σ':St):Prop
 |mk (m':Mp) (s':S) (x:Ext m n m' s'.nx) (r:Rel m' s' X σ') (i:∀p∈T,p∈σ'.T) (w:W) (hw:BO m' s'.nx σ'.T w v') (hk:k w s')
inductive FB(m:Mp)(n:Zf)(X:Fx)(T:Tm)(k:Za W->S->Prop)(vs:Za Zb)(σ':St):Prop
 |mk (m':Mp) (s':S) (x:Ext m n m' s'.nx) (r:Rel m' s' X σ') (i:∀p∈T,p∈σ'.T) (ws:Za W) (hw:AK m' s'.nx σ'.T ws vs) (hk:k ws s')
inductive Ds(m:Mp)(n:Zf)(X:Fx)(T:Tm)(k:Zl->S->Prop)(b:Zl)(σ':St):Prop
 |mk (m':Mp) (s':S) (x:Ext m n m' s'.nx) (r:Rel m' s' X σ') (i:∀p∈T,p∈σ'.T) (hk:k b s')
inductive Dr(m:Mp)(n:Zf)(X:Fx)(T:Tm)(k:S->Prop)(u:ZU)(σ':St):Prop
 |mk (m':Mp) (s':S) (x:Ext m n m' s'.nx) (r:Rel m' s' X σ') (i:∀p∈T,p∈σ'.T) (hk:k s')
noncomputable def zb(m:Mp)(n:Zf)(T:Tm):Fl->YA->Prop
 |.nx,f=>f=.next
 |.br,f=>f=.brk
 |.ct,f=>f=.cont
 |.rt w,f=>∃v',f=.ret v'/\BO m n T w v'
inductive Bx(m:Mp)(n:Zf)(X:Fx)(k:Fl->S->Prop)(f:YA)(σ':St):Prop
 |mk (m':Mp) (s':S) (x:Ext m n m' s'.nx) (r:Rel m' s' X σ') (g:Fl) (hg:zb m' s'.nx σ'.T g f) (hk:k g s')
noncomputable def ue(m:Mp)(n:Zf)(T:Tm):Ze W->Zb->Prop
 |none,v=>(v,.none)∈T
 |some w,v=>BO m n T w v
inductive lL(m:Mp)(n:Zf)(X:Fx)(T:Tm)(k:Ze W->S->Prop)(v':Zb)(σ':St):Prop
 |mk (m':Mp) (s':S) (x:Ext m n m' s'.nx) (r:Rel m' s' X σ') (i:∀p∈T,p∈σ'.T) (w:Ze W) (hw:ue m' s'.nx σ'.T w v') (hk:k w s')
section
variable{m m1:Mp}{n1:Zf}{X:Fx}{T1:Tm}{σ':St}
theorem Ap.up(x:Ext m n m1 n1)(t:∀p∈T,p∈T1):Ap m1 n1 X T1 k v' σ'->Ap m n X T k v' σ':=
 Ap.rec λm' h s j z w r u=>⟨m',h,x.trans s,j,λp g=>z p (t p g),w,r,u⟩
theorem Ds.up{k:Zl->S->Prop}(x:Ext m n m1 n1)(t:∀p∈T,p∈T1):Ds m1 n1 X T1 k q σ'->Ds m n X T k q σ':=
 Ds.rec λm' h r j u s=>⟨m',h,x.trans r,j,λp g=>u p (t p g),s⟩
theorem Dr.up{k:S->Prop}{v':ZU}(x:Ext m n m1 n1)(t:∀p∈T,p∈T1):Dr m1 n1 X T1 k v' σ'->Dr m n X T k v' σ':=
 Dr.rec λm' h r j u s=>⟨m',h,x.trans r,j,λp g=>u p (t p g),s⟩
theorem Bx.up{k:Fl->S->Prop}{v':YA}(x:Ext m n m1 n1):Bx m1 n1 X k v' σ'->Bx m n X k v' σ':=
 Bx.rec λm' g r h w j s=>⟨m',g,x.trans r,h,w,j,s⟩
end
structure Co(ft:Zo->Ze AM)(rec:Rec):Prop where
 ex:∀{c d ks ck X},Gx c d ks ck X->∀{e pe k s m σ},Cq ks ck e pe->Rel m s X σ->rec d (.ex pe k) s->Ev c σ (Yk e X.env) (Ap m s.nx X σ.T k)
 exs:∀{c d ks ck X},Gx c d ks ck X->∀{es ps pos k s m σ},NW ks ck es ps->Rel m s X σ->rec d (.exs ps k) s->Ev c σ (UI (Y6 pos (Ym es X.env))) (FB m s.nx X σ.T k)
 ts:∀{c d ks ck X},Gx c d ks ck X->∀{e pe k s m σ},Cq ks ck e pe->Rel m s X σ->rec d (.ts pe k) s->Ev c σ (isTrue e X.env (Yk e X.env)) (Ds m s.nx X σ.T k)
 st:∀{c d ks ck X},Gx c d ks ck X->∀{e pe k s m σ},Sq ks ck e pe->Rel m s X σ->rec d (.st pe k) s->Ev c σ (VW e X.env) (Bx m s.nx X k)
 sts:∀{c d ks ck X},Gx c d ks ck X->∀{es ps k s m σ},d3 ks ck es ps->Rel m s X σ->rec d (.sts ps k) s->Ev c σ (VB es X.env) (Bx m s.nx X k)
end
end
variable{m:Mp}{X:Fx}
section
variable{b:Zl}{u:ZU}{f:YA}
section
variable{σ':St}{G:Prop}
theorem Ap.cp(z:Ap m n X T k v' σ')(f:∀(m':Mp) (s':S) (x:Ext m n m' s'.nx) (r:Rel m' s' X σ') (i:∀p∈T,p∈σ'.T) (w:W) (hw:BO m' s'.nx σ'.T w v') (hk:k w s'),G):G:=z.casesOn f
theorem FB.cp{k:Za W->S->Prop}(z:FB m n X T k vs σ')(f:∀(m':Mp) (s':S) (x:Ext m n m' s'.nx) (r:Rel m' s' X σ') (i:∀p∈T,p∈σ'.T) (ws:Za W) (hw:AK m' s'.nx σ'.T ws vs) (hk:k ws s'),G):G:=z.casesOn f
theorem Ds.cp{k:Zl->S->Prop}(z:Ds m n X T k b σ')(f:∀(m':Mp) (s':S) (x:Ext m n m' s'.nx) (r:Rel m' s' X σ') (i:∀p∈T,p∈σ'.T) (hk:k b s'),G):G:=z.casesOn f
theorem Dr.cp{k:S->Prop}(z:Dr m n X T k u σ')(f:∀(m':Mp) (s':S) (x:Ext m n m' s'.nx) (r:Rel m' s' X σ') (i:∀p∈T,p∈σ'.T) (hk:k s'),G):G:=z.casesOn f
theorem Bx.cp{k:Fl->S->Prop}(z:Bx m n X k f σ')(h:∀(m':Mp) (s':S) (x:Ext m n m' s'.nx) (r:Rel m' s' X σ') (g:Fl) (hg:zb m' s'.nx σ'.T g f) (hk:k g s'),G):G:=z.casesOn h
theorem lL.cp{k:Ze W->S->Prop}(z:lL m n X T k v' σ')(f:∀(m':Mp) (s':S) (x:Ext m n m' s'.nx) (r:Rel m' s' X σ') (i:∀p∈T,p∈σ'.T) (w:Ze W) (hw:ue m' s'.nx σ'.T w v') (hk:k w s'),G):G:=z.casesOn f
end
end
section
variable{P:Zl->Prop}{i:Z7}{x xo:LW}{u:ZU}{A:Type}{T':Tm}{a b:W}{post:Za (Zo×LO)}{t:Expr}{b':Zb}{cb live:Zl}{d:Za (Zi×W)}{vs:Za (Zi×V)}{r:Ze W}
theorem nn{a:α}{P:Prop}(h:Zs=Zd a):P:=(by cases h)
theorem HM(h:vInt D8=Zd i):D8=.int i:=by
 cases D8 with
 |int j=>cases h;rfl
 |_=>exact nn h
theorem FH{x:Zi}(h:vStr D8=Zd x):D8=.str x:=by
 cases D8 with
 |str j=>cases h;rfl
 |_=>exact nn h
theorem MJ(h:CN w=Zd i):w=.p (.int i):=by
 cases w with
 |p v=>exact ZH _ (HM h)
 |o g=>exact nn h
theorem MH(h:Ed w=Zd y):w=.p (.str y):=by
 cases w with
 |p v=>exact ZH _ (FH h)
 |o g=>exact nn h
theorem rU{v:V}(h:pV w=Zd v):w=.p v:=by
 cases w with
 |p v=>cases h;rfl
 |o g=>exact nn h
theorem Fj{l:Zf}(h:pO w=Zd l):w=.o l:=by
 cases w with
 |p v=>exact nn h
 |o g=>cases h;rfl
theorem MM{l:Za α}{a:α}(h:Dz l=Zd a):l=[a]:=by
 cases l with
 |nil=>exact nn h
 |cons x r=>cases r with
  |nil=>cases h;rfl
  |cons g g=>exact nn h
theorem jm{l:Za α}(h:bm l=Zd u):l=[]:=by
 cases l with
 |nil=>rfl
 |cons x r=>exact nn h
theorem n1{M:A->Prop}{l:α}(x:A)(h:Zs=Zd l):M x:=nn h
theorem n2{M:A->β->Prop}{l:α}(x:A)(y:β)(h:Zs=Zd l):M x y:=nn h
theorem DD(h:Eu x=Zd l):x=.list l:=
 LW.rec (motive:=λx=>Eu x=Zd l->x=.list l) (λy h=>ZH _ (Yd h)) n1 n1 n2 n2 n1 n2 n1 n1 n2 n2 n1 x h
theorem bB{l:Za W}(h:bC x=Zd l):x=.listw l:=
 LW.rec (motive:=λx=>bC x=Zd l->x=.listw l) n1 (λy h=>ZH _ (Yd h)) n1 n2 n2 n1 n2 n1 n1 n2 n2 n1 x h
theorem bD{l:Za (Zi×W)}(h:bE x=Zd l):x=.dictW l:=
 LW.rec (motive:=λx=>bE x=Zd l->x=.dictW l) n1 n1 (λy h=>ZH _ (Yd h)) n2 n2 n1 n2 n1 n1 n2 n2 n1 x h
theorem f9{l:Za Zi}(h:jL x=Zd l):x=.setS l:=
 LW.rec (motive:=λx=>jL x=Zd l->x=.setS l) n1 n1 n1 n2 n2 (λy h=>ZH _ (Yd h)) n2 n1 n1 n2 n2 n1 x h
theorem Ng{q:Z7×Za V}(h:nY x=Zd q):x=.deq q.1 q.2:=
 LW.rec (motive:=λx=>nY x=Zd q->x=.deq q.1 q.2) n1 n1 n1 n2 n2 n1 n2 n1 n1 (λy z h=>Yd h▸rfl) n2 n1 x h
theorem jK(h:sD x=Zd y):x=.trn y:=
 LW.rec (motive:=λx=>sD x=Zd y->x=.trn y) n1 n1 n1 n2 n2 n1 n2 n1 n1 n2 n2 (λy h=>ZH _ (Yd h)) x h
section
variable{s:S}
theorem Rel.tmp:Rel m s X ⟨T,L,F⟩->Rel m s X ⟨T',L,F⟩:=by
 intro g;cases g with
 |mk r h j=>exact .mk r h j
theorem fin(rel:Rel m s X ⟨T,L,F⟩)(g:WR m s.nx w D8)(j:k w s):Ap m s.nx X T k v' ⟨(v',D8)::T,L,F⟩:=
 ⟨m,s,Ext.refl,rel.tmp,λr h=>.tail _ h,w,⟨D8,g,.head _⟩,j⟩
theorem Bb(rel:Rel m s X ⟨T,L,F⟩)(g:k (.p D8) s):Ap m s.nx X T k v' ⟨(v',D8)::T,L,F⟩:=fin (w:=.p D8) rel rfl g
theorem wp(h:(v',D8)∈T):BO m n T (.p D8) v':=⟨D8,rfl,h⟩
theorem pin(h:BO m n T (.p D8) v'):(v',D8)∈T:=by
 refine Ag h λu j g=>?_;cases j;exact g
theorem gC(h:uo D8=Zd l):D8=.lst l:=by
 cases D8 with
 |lst=>cases h;rfl
 |_=>exact nn h
theorem Bp(rel:Rel m s X σ)(h:JF s.H w=Zd l)(j:BO m s.nx σ.T w v'):LstAt σ.T σ.L v' l:=by
 cases w with
 |p v=>exact .inl (gC h▸pin j)
 |o l0=>
  refine Ah h λq e h=>Ag j λv z g=>?_;rw[DD h]at e;cases rel with
  |mk B A u=>exact Am (A.get e) λlo r hl C=>.inr (mEA (m l0) (z.2▸g) (u.mem_iff.mpr (Zk _ ((hl:lo=.list l)▸r))))
theorem Jb(rel:Rel m s X σ)(h:NT s.H w=Zd l)(g:BO m s.nx σ.T w v'):SeqAt σ.T σ.L v' l:=by
 cases w with
 |o l0=>exact .inr (Bp (w:=.o l0) rel h g)
 |p v=>cases v with
  |tup=>cases h;exact .inl (pin g)
  |lst=>exact .inr (Bp (w:=.p (.lst _)) rel h g)
  |_=>exact nn h
theorem BS.mid:∀(g:Za (Zo×LO)),BS f lo H8 (g++(f,lo)::post) (g++(f,H8)::post):=by
 intro g
 induction g with
 |nil=>exact .head
 |cons p r h=>exact .tail (h)
theorem Ch{k:S->Prop}(rel:Rel m s X ⟨T,L,F⟩)(E:Ai n s.H=Zd x)(h:CJ n E7 s k):
 ∃(lo:LO) (A:Za (Zo×LO)),L.Perm A/\LR m s.nx x lo/\∀g,LR m s.nx E7 g->∃z u,BS (m n) lo g A z/\u.nx=s.nx/\Rel m u X ⟨T,z,F⟩/\k u:=by
 refine Ad h λH' e G=>?_;cases rel with
 |mk D C B=>
  refine Aq (C.put E e) λlo j post I hl r=>?_;subst I;refine At lo _ B hl (λg h'=>Bw ((j++(m n,g)::post)++X.R) ⟨H',s.nx,s.rho⟩ ?_ rfl (.mk D (r g h') (Xl _)) G);refine Ab (ZS ..) ?_;refine Ab (ZS ..) ?_;exact BS.mid j
end
section
variable{d:Zf}{s:S}
theorem AR{k:S->Prop}(G:Gx c d ks ck X)(g:DA ks ck (Af n)=Zm)(rel:Rel m s X σ)(I:BO m s.nx σ.T w v')(h:CD n w s k):Ev c σ (XY X.env (Af n) v') (Dr m s.nx X σ.T k):=by
 cases rel with
 |mk u C z=>
  refine Ad h λr A E=>Ag I λv K j=>Ag (RR.put K u A) λrho' B D=>?_;simp only[DA,YM,Z6]at g;rcases g with g|⟨hc,g⟩
  ·exact KI G.en G.ow (Aw g) j B ⟨m,⟨s.H,s.nx,r⟩,Ext.refl,.mk D C z,λL h=>h,E⟩
  ·exact ir G.en G.ow (G.cl hc) (Aw g) j B ⟨m,⟨s.H,s.nx,r⟩,Ext.refl,.mk D C z,λL h=>h,E⟩
theorem Dk:∀{vs:Za V} {s:S} {k:S->Prop},K1 xs vs s k->vs.length=xs.length:=by
 induction xs with
 |nil=>intro vs s k h;cases vs with|nil=>rfl|cons v vs=>exact(h:ZP).elim
 |cons x xs g=>
  intro vs s k h;cases vs with
  |nil=>exact(h:ZP).elim
  |cons v vs=>
   exact Ag (EJ (h:CD _ _ _ _)) λj j q=>ZH UU (g q)
theorem Tq.one(h:DA ks ck (Af n)=Zm):Tq ks ck (Hx n t) [n]:=.mk t [n] (by show(Zm&&(DA ks ck (Af n)&&Zm))=Zm;refine Ab h ?_;rfl)
theorem EP(G:Gx c d ks ck X)(hx:Tq ks ck value xs)(rel:Rel m s X σ)(Q:BO m s.nx σ.T w v')(h:LJ xs w s K6):Ev c σ (WU value X.env v') (Dr m s.nx X σ.T K6):=by
 cases hx with
 |mk t xs A=>
 cases xs with
 |nil=>cases A
 |cons x xs=>
 have H:DA ks ck (Af x)=true:=Ak (Ae A);cases xs with
 |nil=>exact Ax (AR G H rel Q h)
 |cons y xs=>
 have O:DA ks ck (Af y)=true:=Ak (Ae (Ae A));refine Ad h λl value h=>?_;generalize(Jb rel value Q)=P;cases l with
 |nil=>exact h.elim
 |cons a l=>
 cases l with
 |nil=>exact ZT (Dk h) (by simp)
 |cons b l=>
 cases xs with
 |nil=>
  cases l with
  |cons r r=>exact ZT (Dk h) (by simp)
  |nil=>
   exact dS G.ok.han P λa' b'=>(AR G H (rel.tmp (T':=(a',a)::(b',b)::σ.T)) (wp (.head _)) h).mono λr E j=>j.cp λY t1 K C u B=>(AR G O C (wp (u _ (.tail _ (.head _)))) B).mono λr I z=>z.up K λp D=>u _ (.tail _ (.tail _ D))
 |cons z xs=>
 have s3:DA ks ck (Af z)=true:=Ak (Ae (Ae (Ae A)));cases xs with
 |cons r r=>cases A
 |nil=>
  cases l with
  |nil=>exact ZT (Dk h) (by exact(Yq _).symm)
  |cons g l=>
   cases l with
   |cons r r=>exact ZT (Dk h) (by simp)
   |nil=>
    exact dR G.ok.han P λa' b' U=>(AR G H (rel.tmp (T':=(a',a)::(b',b)::(U,g)::σ.T)) (wp (.head _)) h).mono λr E j=>j.cp λY t1 K C u B=>(AR G O C (wp (u _ (.tail _ (.head _)))) B).mono λr I j=>j.cp λm2 t2 x2 r2 L k2=>(AR G s3 r2 (wp (L _ (u _ (.tail _ (.tail _ (.head _)))))) k2).mono λr R z=>z.up (K.trans x2) λp D=>L _ (u _ (.tail _ (.tail _ (.tail _ D))))
end
section
variable{s:S}
theorem AB(h:CN w=Zd i)(g:BO m n T w v'):(v',.int i)∈T:=pin (MJ h▸g)
theorem B3(h:Ed w=Zd y)(g:BO m n T w v'):(v',.str y)∈T:=pin (MH h▸g)
theorem EV(h:pV w=Zd D8)(g:BO m n T w v'):(v',D8)∈T:=pin (rU h▸g)
theorem kf(h:vB i=Zd u):i=2:=by
 cases i with
 |ofNat n=>
  cases e:ZX n 2 with
  |true=>refine Ab (Z4 e ..) ?_;rfl
  |false=>
   have g:(match ZX n 2 with|true=>Zd ()|false=>Zs)=Zd u:=h;rw[e]at g;exact nn g
 |negSucc j=>exact nn h
theorem p8(rel:Rel m s X σ)(r:BO m s.nx σ.T a a')(hb:BO m s.nx σ.T b b')(h:wg op a b s k):Ev c σ (Wy op a' b') (Ap m s.nx X σ.T k):=by
 cases op with
 |Add=>exact DO h (λi ei h=>Ad h λj g h=>vc (AB ei r) (AB g hb) λv'=>Bb rel h) λh=>DO h (λx ex h=>Ad h λy H h=>Al h λC h=>iR (B3 ex r) (B3 H hb) (λv'=>Bb rel h) C) λh=>Ad h λl A h=>Ad h λl2 z h=>Al h λC h=>rL (Bp rel A r) (Bp rel z hb) C λv'=>Bb rel h
 |Sub=>exact Ad h λi ei h=>Ad h λj g h=>uO (AB ei r) (AB g hb) λv'=>Bb rel h
 |Mult=>exact Ad h λj g h=>DO h (λx ex h=>ru (B3 ex r) (AB g hb) h.1 h.2.1 h.2.2.1 λv'=>Bb rel h.2.2.2) λh=>Ad h λl A h=>Ad h λv G h=>rz (Bp rel (MM G▸A) r) (AB g hb) h.1 h.2.1 λv'=>Bb rel h.2.2
 |Mod=>exact Ad h λi ei h=>Ad h λj g h=>uU (AB ei r) (AB g hb) h.1 λv'=>Bb rel h.2
 |FloorDiv=>exact Ad h λi ei h=>Ad h λj g h=>rH (AB ei r) (AB g hb) h.1 h.2.1 λv'=>Bb rel h.2.2
 |Pow=>
  refine Ad h λi ei h=>Ad h λj g h=>Ad h λK B h'=>Du h' λE I D=>?_;generalize(kf B)=B;subst B;generalize(AB g hb)=u;rw[<-UB E]at u;exact rp (n:=j.toNat) (AB ei r) u (tn h'.1 h'.2.1) λv'=>Bb rel D
 |_=>exact(h:ZP).elim
abbrev Dd(σ:St)(cb:Zl)(v:Zb)(σ':St):Prop:=v=.bool cb/\σ'=⟨(.bool cb,.bool cb)::σ.T,σ.L,σ.F⟩
theorem GF(h:JG D8=Zd u):D8=.none:=by
 cases D8 with
 |val w=>cases w with
  |none=>rfl
  |_=>exact nn h
 |_=>exact nn h
theorem gB{u:Zb}(h:um D8=Zd u):D8=.val u:=by
 cases D8 with
 |val w=>cases h;rfl
 |_=>exact nn h
theorem seq{a b:α}(h:Zd a=Zd b):a=b:=by cases h;rfl
theorem tu(r:BO m s.nx σ.T a a')(hb:BO m s.nx σ.T b b')(h:yT a b=Zd cb):Ev c σ (Yu .Eq a' b') (Dd σ cb):=by
 obtain⟨T,L,F⟩:=σ;refine Ah h λu D E=>Ah E λv C z=>?_;have r:=EV D r;have hb:=EV C hb;cases u with
 |int i=>exact Ah z λj B h=>pQ r (HM B▸hb) (seq h▸⟨rfl,rfl⟩)
 |str x=>
  have g:(match vStr v with|some y=>Zd (x==y)|none=>ob (JG v) λA=>Zd Zh)=Zd cb:=z;cases e:vStr v with
  |some y=>rw[e]at g;exact va r (FH e▸hb) (seq g▸⟨rfl,rfl⟩)
  |none=>rw[e]at g;exact Ah g λA e h=>rI r (GF e▸hb) (seq h▸⟨rfl,rfl⟩)
 |val w=>
  refine Ah z λA G g=>?_;have r:(a',V.none)∈T:=GF G▸r;cases e:JG v with
  |some y=>rw[e]at g;exact rK r (GF e▸hb) (seq g▸⟨rfl,rfl⟩)
  |none=>rw[e]at g;exact Ah g λA e h=>rJ r (FH e▸hb) (seq h▸⟨rfl,rfl⟩)
 |_=>exact nn z
theorem rZ(g:BO m s.nx σ.T a a')(hb:BO m s.nx σ.T b b')(h:yL a b=Zd cb):Ev c σ (Yu .NotEq a' b') (Dd σ cb):=by
 refine Ah h λu B C=>Ah C λv A z=>?_;generalize(EV B g)=g;generalize(EV A hb)=hb;cases u with
 |int i=>exact Ah z λj r h=>uS g (HM r▸hb) (seq h▸⟨rfl,rfl⟩)
 |str x=>exact Ah z λy r h=>uR g (FH r▸hb) (seq h▸⟨rfl,rfl⟩)
 |_=>exact nn z
theorem cZ{P:Prop}(A:BO m s.nx T a a')(hb:BO m s.nx T b b')(h:xZ a b=Zd cb)(k:∀u y,(a',u)∈T->(b',.val y)∈T->fI y=Zm->MP u=Zm->gr u y=cb->P):P:=by
 refine Ah h λv B D=>Ah D λy C j=>?_;have hb:(b',V.val y)∈T:=gB C▸EV B hb;cases hy:fI y with
 |false=>rw[hy]at j;exact nn j
 |true=>
  rw[hy]at j;cases a with
  |p u=>
   cases hn:MP u with
   |false=>
    have r:(match MP u with|true=>Zd (gr u y)|false=>Zs)=Zd cb:=j;rw[hn]at r;exact nn r
   |true=>
    have r:(match MP u with|true=>Zd (gr u y)|false=>Zs)=Zd cb:=j;rw[hn]at r;exact k u y (pin A) hb hy hn (seq r)
  |o l=>
   refine Ag A λu g z=>?_;obtain⟨E,e⟩:=g;subst e;exact k _ y z hb hy rfl ((show gr (.ref (m l)) y=Zh by cases y<;>first|rfl|cases hy).trans (seq j))
theorem aw:∀{l:Za V} {ss:Za Zi},strsOf l=Zd ss->l=ss.map .str:=by
 intro l
 induction l with
 |nil=>
  intro j h;cases h;rfl
 |cons v r g=>
  intro ss h;cases v with
  |str x=>
   revert h;refine(?_:((match strsOf r with|some l=>Zd (x::l)|none=>Zs)=Zd ss)->_);intro h;cases e:strsOf r with
   |none=>rw[e]at h;exact nj h
   |some l=>rw[e]at h;cases h;refine Ab (g e ..) ?_;rfl
  |_=>exact nj h
theorem IJ(h:Nu y l=Zd q):∃ss:Za Zi,l=ss.map .str/\q=ss.any (· ==y):=by
 unfold Nu at h
 set_option tactic.hygienic true in split at h
 ·rename_i ss e;cases h;exact mEA ss (aw e) rfl
 ·cases h
theorem dc(rel:Rel m s X σ)(B:BO m s.nx σ.T a a')(hb:BO m s.nx σ.T b b')(h:qA s.H a b=Zd q)
 (E:∀y x,(a',.str y)∈σ.T->(b',.str x)∈σ.T->P (ZC x y)) (K:∀y (ss:Za Zi),(a',.str y)∈σ.T->(b',.tup (ss.map .str))∈σ.T->P (ss.any (· ==y))) (D:∀y (ss:Za Zi),(a',.str y)∈σ.T->LstAt σ.T σ.L b' (ss.map .str)->P (ss.any (· ==y))):P q:=by
 refine Ah h λy Q C=>?_;have B:=B3 Q B;cases b with
 |o l=>
  refine Ah C λx ex G=>Ah G λl0 O I=>Ag (IJ I) λss A g=>?_;subst A;subst g;exact D y ss B (Bp rel (w:=.o l) ((Ik ex).trans O) hb)
 |p v=>
  cases v with
  |str x=>exact seq C▸E y x B (pin hb)
  |tup l=>refine Ag (IJ C) λss u r=>?_;subst u;subst r;exact K y ss B (pin hb)
  |lst l=>refine Ag (IJ C) λss z j=>?_;subst z;subst j;exact D y ss B (.inl (pin hb))
  |_=>exact nn C
theorem FC.look{x:Zi}:∀{d:Za (Zi×W)} {vs:Za (Zi×V)},FC m n d vs->(match d.lookup x with|some w=>∃v,vs.lookup x=Zd v/\WR m n w v|none=>vs.lookup x=Zs):=by
 intro d
 induction d with
 |nil=>
  intro z e;generalize(e:_=[])=e;subst e;rfl
 |cons s r j=>
  intro z g;obtain⟨v,t,e,u,h⟩:=g;subst e;refine Ab YE (Ab YE ?_);cases q:x==s.1 with
  |true=>exact mEA v rfl u
  |false=>exact j h
theorem FC.aav(h:FC m n d vs)(e:d.lookup y=r):match(generalizing:=false) r with|some w=>∃v,vs.lookup y=Zd v/\WR m n w v|none=>vs.lookup y=none:=by
 subst e;exact h.look
theorem FC.aab{x:Zi}(h:FC m n d vs):(vs.lookup x).isSome=(d.lookup x).isSome:=by
 generalize(h.look (x:=x))=this;split at this
 ·rename_i e;refine Ag this λv g j=>Ab e (Ab g ?_);rfl
 ·rename_i e;refine Ab e (Ab this ?_);rfl
theorem Go(rel:Rel m s X ⟨T,L,F⟩)(e:Ai n s.H=Zd x):∃lo,(m n,lo)∈L/\LR m s.nx x lo:=by
 exact rel.cp0 λr j g=>Am (j.get e) λlo h hl u=>mEA lo (g.mem_iff.mpr (Zk _ h)) hl
theorem be(h:BO m n T (.o tk) w'):(w',.ref (m tk))∈T:=by
 exact Ag h λu g j=>g.2▸j
theorem sP(z:∃o,c.h1.get? Xv=Zd o)(rel:Rel m s X σ)(r:(a',.str y)∈σ.T)(hb:BO m s.nx σ.T (.o n) b')(A:Ai n s.H=Zd x)(h:inK y x=Zd q):Ev c σ (Yu .In a' b') (Dd σ q):=by
 refine Ag (Go rel A) λlo j hl=>?_;cases x with
 |dictW d=>
  refine Ag hl λvs g u=>?_;subst g;exact seq h▸u.aab▸uY z (be hb) j r ⟨rfl,rfl⟩
 |setS ss=>
  cases hl;exact seq h▸mO (be hb) j r ⟨rfl,rfl⟩
 |_=>exact nn h
theorem MO{o:Ze Zl}{b:Zl}(h:n9 o=Zd b)(k:∀q,o=Zd q->P (!q)):P b:=by
 cases o with
 |none=>exact nn h
 |some q=>exact seq h▸k q rfl
theorem ds{op:R6}(B:∃o,c.h1.get? Xv=Zd o)(rel:Rel m s X σ)(z:BO m s.nx σ.T a a')(hb:BO m s.nx σ.T b b')(h:lz s.H op a b=Zd cb):
 Ev c σ (Yu op a' b') (Dd σ cb):=by
 have A:∀{f:Z7->Z7->Zl} {P:Zl->Prop},ny f a b=Zd cb->(∀i j,(a',.int i)∈σ.T->(b',.int j)∈σ.T->P (f i j))->P cb:=λh k=>Ah h λi ei h=>Ah h λj G h=>seq h▸k i j (AB ei z) (AB G hb);cases op with
 |Eq=>exact tu z hb h
 |NotEq=>exact rZ z hb h
 |Lt=>exact A (P:=λcb=>Ev c ⟨σ.T,σ.L,σ.F⟩ (Yu .Lt a' b') (Dd ⟨σ.T,σ.L,σ.F⟩ cb)) h λi j r g=>xp r g ⟨rfl,rfl⟩
 |Gt=>exact A (P:=λcb=>Ev c ⟨σ.T,σ.L,σ.F⟩ (Yu .Gt a' b') (Dd ⟨σ.T,σ.L,σ.F⟩ cb)) h λi j r g=>xr r g ⟨rfl,rfl⟩
 |GtE=>exact A (P:=λcb=>Ev c ⟨σ.T,σ.L,σ.F⟩ (Yu .GtE a' b') (Dd ⟨σ.T,σ.L,σ.F⟩ cb)) h λi j r g=>xt r g ⟨rfl,rfl⟩
 |Is=>exact cZ z hb h λu y r g C D E=>xq r g C D (E▸⟨rfl,rfl⟩)
 |IsNot=>exact MO (P:=λcb=>Ev c ⟨σ.T,σ.L,σ.F⟩ (Yu .IsNot a' b') (Dd ⟨σ.T,σ.L,σ.F⟩ cb)) h λq e=>cZ z hb e λu y r g C D E=>mL r g C D (E▸⟨rfl,rfl⟩)
 |In=>
  have g:(match qA s.H a b with
   |some q=>Zd q
   |none=>ob (Ed a) λy=>ob (pO b) λl=>ob (Ai l s.H) λq=>inK y q)=Zd cb:=h
  cases e:qA s.H a b with
  |none=>
   rw[e]at g;exact Ah g λy K h=>Ah h λl I h=>Ah h λq eq h=>sP B rel (B3 K z) (Fj I▸hb) eq h
  |some q=>
   rw[e]at g;exact seq g▸dc (P:=λcb=>Ev c ⟨σ.T,σ.L,σ.F⟩ (Yu .In a' b') (Dd ⟨σ.T,σ.L,σ.F⟩ cb)) rel z hb e (λy x r g=>uW r g ⟨rfl,rfl⟩) (λy ss r g=>uV r g ⟨rfl,rfl⟩) (λy ss r g=>uX r g ⟨rfl,rfl⟩)
 |NotIn=>exact MO (P:=λcb=>Ev c ⟨σ.T,σ.L,σ.F⟩ (Yu .NotIn a' b') (Dd ⟨σ.T,σ.L,σ.F⟩ cb)) h λq e=>dc (P:=λq=>Ev c ⟨σ.T,σ.L,σ.F⟩ (Yu .NotIn a' b') (Dd ⟨σ.T,σ.L,σ.F⟩ (!q))) rel z hb e (λy x r g=>iE r g ⟨rfl,rfl⟩) (λy ss r g=>iD r g ⟨rfl,rfl⟩) (λy ss r g=>iF r g ⟨rfl,rfl⟩)
 |_=>exact nn h
theorem HW{k:Zl->S->Prop}(rel:Rel m s X σ)(g:k q s):Ds m s.nx X σ.T k q σ:=⟨m,s,Ext.refl,rel,λj h=>h,g⟩
theorem Hw{k:Zl->S->Prop}(rel:Rel m s X σ)(g:BO m s.nx σ.T w v')(h:gJ w s k):Ev c σ (VL v') (Ds m s.nx X σ.T k):=by
 cases w with
 |p v=>
  cases v with
  |val u=>
   cases u with
   |bool b=>exact dT (pin g) (HW rel h)
   |none=>exact Ev.aao (pin g) λe=>by subst e;exact dW (HW rel h)
   |_=>exact(h:ZP).elim
  |str x=>exact Al h λj h=>dU (pin g) (HW rel h) j
  |lst l=>exact Al h λj h=>JP (.inl (pin g)) (HW rel h) j
  |_=>exact(h:ZP).elim
 |o l=>
  refine Ad h λx ex D=>Ad D λl r C=>Al C λj z=>Ag (Go rel ex) λlo A hl=>?_;cases x with
  |list B=>cases r;cases hl;exact JP (.inr (mEA _ (be g) A)) (HW rel z) j
  |deq B B=>cases r;cases hl;exact dX (be g) A j (HW rel z)
  |_=>exact nn r
set_option tactic.hygienic true in
theorem BY{a:Zo}(rel:Rel m ⟨H,nx,rho⟩ X ⟨T,L,F⟩){k:W->S->Prop}
 (A:∀g,Ext m nx g (nx+1)->LR g (nx+1) xo lo) (h:k (.o nx) ⟨(nx,xo)::H,nx+1,rho⟩) {T':Tm} (z:∀p∈T,p∈T') (r:(Yn a,V.ref a)∈T'):Ap m nx X T k (.ref a) ⟨T',(a,lo)::L,F⟩:=by
 generalize(⟨YY _,λl hl=>Yc (Yp hl)⟩:Ext m nx (λl=>if l=nx then a else m l) (nx+1))=x;cases rel with
 |mk u s j=>
  rename_i rho' L1;exact⟨_,⟨(nx,xo)::H,nx+1,rho⟩,x,.mk (L1:=(a,lo)::L1) (u.ext x) (Bw lo L1 (by simp) (YI _) (A _ x) (s.ext x)) (j.cons _),z,.o nx,⟨_,⟨YI _,by simp⟩,r⟩,h⟩
theorem nB(rel:Rel m s X σ)(g:BA σ.T items l)(h:newL live l s k):Ev c σ (UJ items) (Ap m s.nx X σ.T k):=by
 refine Al h λr h=>?_;cases live with
 |false=>exact aN g (λv'=>Bb rel h) r
 |true=>
  exact aM g (λa=>BY (xo:=.list l) (lo:=.list l) rel (λj j=>rfl) h (λj h=>.tail _ h) (.head _)) r
theorem En:∀{ws:Za W} {vs:Za Zb} {l:Za V},AK m n T ws vs->Ci ws=Zd l->BA T vs l:=by
 intro ws
 induction ws with
 |nil=>exact @λvs l e h=>sj h (M:=λl=>BA T vs l) ((e:vs=[])▸ .nil)
 |cons w r s=>
  intro vs l g h;cases w with
  |o=>exact nj h
  |p v=>
   refine An g λv' t e z j=>?_;subst e;cases e:Ci r with
   |none=>exact nj ((show Ci (.p v::r)=Zs by refine Ab ((show Ci (.p v::r)=(match Ci r with|some l=>Zd (v::l)|none=>Zs)from rfl) ..) ?_;refine Ab e ?_;rfl).symm.trans h)
   |some u=>exact sj ((show Ci (.p v::r)=Zd (v::u) by refine Ab ((show Ci (.p v::r)=(match Ci r with|some l=>Zd (v::l)|none=>Zs)from rfl) ..) ?_;refine Ab e ?_;rfl).symm.trans h) (M:=λl=>BA T (v'::t) l) (.cons (pin z) (s j e))
end
end
section
variable{b a:Expr}{i':Zb}{P:Zb×Za Zb->St->Prop}{u:ZU}{live:Zl}{t:ZN Zb}{name:Zf}{l:Za (Zf×MK)}{mk:MK}
theorem cN(l:Za α):∀(n:Zf),tS l n=l[n]? :=by
 induction l with
 |nil=>exact λh=>rfl
 |cons x r g=>
  intro n;cases n with
  |zero=>rfl
  |succ n=>exact g n
theorem Lc{x:α}{r:Za α}:Et (x::r)=match Et r with|some y=>Zd y|none=>Zd x:=rfl
theorem bx{x:α}{r:Za α}:∃z,Et (x::r)=Zd z:=by
 rw[Lc];cases Et r with
 |none=>exact⟨_,rfl⟩
 |some w=>exact⟨_,rfl⟩
theorem I0:∀{l:Za α} {v:α},Et l=Zd v->l=l.dropLast++[v]:=by
 intro l
 induction l with
 |nil=>exact λh=>nj h
 |cons x r g=>
  intro v h;cases r with
  |nil=>exact sj h (M:=λv=>[x]=[]++[v]) rfl
  |cons y r=>
   refine xE (bx (x:=y) (r:=r)) λz e=>?_;rw[Lc,e]at h;exact sj h (M:=λv=>x::y::r=(x::y::r).dropLast++[v]) (ZH (x:: ·) (g e))
section
variable{s:S}
theorem JZ(value:Expr)(w:Zi)(t:QE)(r:Zb):UV value (.str w t) r=pure ():=by
 cases value<;>rfl
theorem BL(h:isSlice b=Zh)(o i:Zb):Un b Zh o i=SX [o,i] (SY o i):=by
 cases b with
 |Slice=>cases h
 |_=>exact V0 (SX [o,i] (SY o i))
set_option tactic.hygienic true in
theorem c6(hb:isSlice b=Zh)(rel:Rel m s X σ)(B:BO m s.nx σ.T w w')(z:(i',.int dn)∈σ.T)(h:qY w dn s k):
 Ev c σ (XD a b w' i') (Ap m s.nx X σ.T k):=by
 unfold qY at h;split at h
 ·rename_i j;refine Ad h λl u h=>Al h λA h=>Ad h λv g h=>?_;rw[cN]at g;generalize((Za.getElem?_eq_some_iff.mp g).1:j<l.length)=E;generalize(ZI j:(0:Z7)<=QC j)=D;generalize(by have:QC j=(j:Z7):=rfl;exact qb E A rfl:QC j<2^63)=C;rcases Jb rel u B with r|r
  ·exact mI r z D g (λv'=>Bb rel h) C (BL hb)
  ·exact rD r z D g (λv'=>Bb rel h) C (BL hb)
 ·split at h
  ·refine Ad h λl u h=>Al h λA h=>Ad h λv g h=>?_;generalize(Bp rel u B)=r;rw[I0 g]at r;exact Ib r z (λv'=>Bb rel h) (Ab List.length_dropLast (Zv (Q0 ..) A)) (BL hb)
  ·exact h.elim
theorem mo(hb:isSlice b=Zh)(rel:Rel m s X σ)(G:BO m s.nx σ.T w w')(O:(i',.str x)∈σ.T)(h:uD w x s k):
 Ev c σ (XD a b w' i') (Ap m s.nx X σ.T k):=by
 cases w with
 |p=>exact h.elim
 |o l0=>
  refine Ad h λq eq h=>Ag G λu I B=>?_;cases I.2;have z:=rel;cases rel with
  |@mk T L E E Y K H=>
   refine Am (K.get eq) λlo C hl E=>?_;have j:=H.mem_iff.mpr (Zk X.R C);have g:∀{d:Za (Zi×W)} {vs:Za (Zi×V)},FC m s.nx d vs->d6 L (m l0) vs->Aj (d.lookup x) (λv=>k v s)->Ev c ⟨T,L,_⟩ (XD a b w' i') (Ap m s.nx X T k):=λ{d vs} r hL h=>Ad h λv P h=>by
    have A:=r.look (x:=x);rw[P]at A;exact Ag A λU Q D=>mK B hL O Q (λv'=>fin z D h) (BL hb)
   cases q with
   |dictW=>exact Ag hl λvs e r=>g r (.inl (e▸j)) h
   |dictI=>exact Ag hl λvs e r=>g r (.inr ⟨_,e▸j⟩) h
   |_=>exact h.elim
theorem ml(hb:isSlice b=Zh)(rel:Rel m s X σ)(g:BO m s.nx σ.T w w')(j:BO m s.nx σ.T H6 i')(h:uC w H6 s k):
 Ev c σ (XD a b w' i') (Ap m s.nx X σ.T k):=by
 cases H6 with
 |o=>exact h.elim
 |p v=>cases v with
  |str x=>exact mo hb rel g (pin j) h
  |int n=>exact DO h (λx ex h=>Du h λz u h=>Al h λA h=>mJ (B3 ex g) (pin j) z u A (λv'=>Bb rel h) (BL hb) λt r=>JZ _ _ _ _) λh=>c6 hb rel g (pin j) h
  |_=>exact(h:ZP).elim
theorem one{w:W}{n:Zf}{vs:Za Zb}(h:AK m n T [w] vs):∃v',vs=[v']/\BO m n T w v':=by
 refine An h λv' t e j g=>?_;generalize(g:t=[])=g;subst g;exact mEA v' e j
theorem nR(rel:Rel m s X σ)(j:BO m s.nx σ.T w v')(h:vz w s k):Ev c σ (Y8 (.builtin "len") [v']) (Ap m s.nx X σ.T k):=by
 cases w with
 |p v=>
  cases v with
  |str x=>exact Al h λg h=>rB (pin j) (λv'=>Bb rel h) g
  |tup l=>exact Al h λg h=>rA (pin j) (λv'=>Bb rel h) g
  |lst l=>exact Al h λg h=>pN (.inl (pin j)) (λv'=>Bb rel h) g
  |_=>exact(h:ZP).elim
 |o l=>exact Ad h λl r h=>Al h λg h=>pN (Bp rel r j) (λv'=>Bb rel h) g
theorem BD{P:Prop}(e:Dz ws=Zd w)(h:AK m n T ws vs)(k:∀v',vs=[v']->BO m n T w v'->P):P:=by
 exact Ag (one (MM e▸h)) λv' g j=>k v' g j
theorem Im(e:bm ws=Zd u)(h:AK m n T ws vs):vs=[]:=(jm e▸h:AK m n T [] vs)
theorem j4(C:c.A.handled=Zs)(rel:Rel m s X σ)(r:BO m s.nx σ.T w v')(h:qt live w s k):Ev c σ (Y8 (.type "list") [v']) (Ap m s.nx X σ.T k):=by
 have g:∀{l:Za V},LstAt σ.T σ.L v' l->newL live l s k->Ev c ⟨σ.T,σ.L,σ.F⟩ (Y8 (.type "list") [v']) (Ap m s.nx X σ.T k):=by
  intro l j h;refine Al h λu h=>?_;cases live with
  |false=>exact aO j u λv'=>Bb rel h
  |true=>
   exact M2 j u λa=>BY (xo:=.list l) (lo:=.list l) rel (λB B=>rfl) h (λB h=>.tail _ h) (.head _)
 cases w with
 |o l=>exact Ad h λl j h=>g (Bp rel j r) h
 |p v=>
  cases v with
  |rng n=>
   generalize(pin r)=z;rw[<-UB h.1]at z;exact M0 C z (zg h.2.1) λv'=>Bb rel h.2.2
  |tup l=>exact Al h λu h=>M1 (pin r) u λv'=>Bb rel h
  |lst l=>exact g (.inl (pin r)) h
  |_=>exact(h:ZP).elim
theorem mh(h:yB D8=Zd id):D8=.val (.type id):=by
 cases D8 with
 |val u=>cases u with
  |type id=>cases h;rfl
  |_=>exact nn h
 |_=>exact nn h
theorem tF{b:BI}(Q:c.A.handled=Zs)(rel:Rel m s X σ)(z:AK m s.nx σ.T ws vs)(h:yp b live ws s k):Ev c σ (Y8 b.v vs) (Ap m s.nx X σ.T k):=by
 cases b with
 |len=>exact Ad h λw e h=>BD e z λv' j g=>j▸nR rel g h
 |ty=>exact Ad h λw e h=>BD e z λv' j g=>Ad h λv e h=>Ad h λt I h=>j▸rk (EV e g) I (Bb rel h)
 |int=>exact Ad h λw e h=>BD e z λv' j g=>Ad h λv e h=>j▸mN (AB e g) λv'=>Bb rel h
 |isinst=>
  refine Ad h λq e H=>Ad H λv j E=>Ad E λt I Y=>Ad Y λn R G=>?_;cases ws with
  |nil=>exact nn e
  |cons w ws=>
  cases ws with
  |nil=>exact nn e
  |cons w2 ws=>
  cases ws with
  |cons u u=>exact nn e
  |nil=>
  cases e;obtain⟨v',r,rfl,g,C⟩:=z;obtain⟨t',r,rfl,O,C⟩:=C;generalize(C:r=[])=C;subst C;generalize(EV j g)=g;refine Ev.aao (w:=.type n) (mh R▸EV I O) λe=>?_;subst e;cases v with
  |str u=>obtain⟨rfl,h⟩:=G;exact eI g (Bb rel h)
  |tup u=>obtain⟨rfl,h⟩:=G;exact eG g (Bb rel h)
  |_=>exact(G:ZP).elim
 |deque=>
  exact Ad h λu e h=>Im e z▸mU λa=>BY (xo:=.deq 0 []) (lo:=gu 0 []) rel (λu u=>rfl) h (λu h=>.tail _ h) (.head _)
 |range=>exact Ad h λw e h=>BD e z λv' j g=>Ad h λv e h=>j▸mC (AB e g) λv'=>Bb rel h
 |list=>exact Ad h λw e h=>BD e z λv' j g=>j▸j4 Q rel g h
 |tuple=>exact Ad h λw e h=>BD e z λv' j g=>Ad h λl B h=>Al h λK h=>j▸ip (Bp rel B g) K λv'=>Bb rel h
 |bool=>exact Ad h λw e h=>BD e z λv' j g=>Ad h λl B h=>Al h λK h=>j▸mZ (Bp rel B g) K (Bb rel h)
 |set=>
  exact Ad h λu e h=>Im e z▸i7 λa=>BY (xo:=.setS []) (lo:=.setS []) rel (λu u=>rfl) h (λu h=>.tail _ h) (.head _)
 |iter=>
  refine Ad h λw e h=>BD e z λv' j g=>Ad h λl B h=>Ad h λq eq h=>Ad h λxs ex h=>?_;subst j;generalize(Fj B▸g:BO m s.nx σ.T (.o l) v')=g;obtain⟨lo,hm,hl⟩:=Go rel eq;generalize(DD ex)=e;subst e;cases hl;generalize(by obtain⟨u,⟨D,u⟩,u⟩:=g;exact D:l<s.nx)=D;exact mH (be g) hm λit=>BY (xo:=.liter l 0) (lo:=.raw (sz (m l) 0)) rel (λm' x=>⟨Xh D,_,rfl,by refine Ab (x.eq _ D ..) ?_;exact⟨⟨rfl,rfl⟩,λu=>rfl⟩⟩) h (λu h=>.tail _ h) (.head _)
 |sorted=>
  refine Ad h λw e h=>BD e z λv' j g=>?_;obtain⟨ss,P,B,L,U,h⟩:=h;exact j▸iu (Bp rel B g) L λv' r H E=>by refine Ab (U r H E ..) ?_;exact Bb rel h
 |_=>exact(h:ZP).elim
noncomputable def MK.v:MK->Zb
 |.zz g=>.builtin "list.append"
 |.append=>.builtin "list.append"
 |.pop=>.builtin "list.pop"
 |.strip=>.builtin "str.strip"
 |.join=>.builtin "str.join"
 |.dapp=>.builtin "collections.deque.append"
 |.dpop=>.builtin "collections.deque.pop"
 |.trans=>.builtin "str.translate"
 |.dget=>.builtin "dict.get"
 |.clear=>.builtin "list.clear"
 |.sadd=>.builtin "set.add"
 |.appw=>.builtin "list.append"
theorem DR(h:nD name l=Zd mk):(name,mk)∈l:=lkp_mem h
theorem sr(rel:Rel m s X σ)(C:BO m s.nx σ.T w w')(h:yN s.H w name=Zd mk)(u:P (mk.v,[w']) σ):Ev c σ (XI w' (Af name) pl) P:=by
 obtain⟨T,L,F⟩:=σ;cases w with
 |p v=>exact nn h
 |o l=>
  have A:(match Ai l s.H with|some q=>vn name q|none=>Zs)=Zd mk:=h;cases eq:Ai l s.H with
  |none=>rw[eq]at A;exact nn A
  |some q=>
   refine Ag (Go rel eq) λlo z hl=>?_;have g:=be C;rw[eq]at A;have h:vn name q=Zd mk:=A;cases q with
   |list xs=>
    cases hl;have B:LstAt T L w' xs:=.inr (mEA _ g z);rcases Zr.mp (DR (l:=[(1,.append),(2,.pop),(7,.clear)]) h)with e|e
    ·cases e;exact EU (name:=Af 1) B VG PySem.F.type_list_append u
    rcases Zr.mp e with e|e
    ·cases e;exact EU (name:=Af 2) B V9 Ua u
    ·cases Yz.mp e;exact EU (name:=Af 7) B VV TM u
   |deq n xs=>
    cases hl;rcases Zr.mp (DR (l:=[(1,.dapp),(2,.dpop)]) h)with e|e
    ·cases e;exact pP (name:=Af 1) g z E2 IS u
    ·cases Yz.mp e;exact pP (name:=Af 2) g z Hl NA u
   |dictW d=>
    cases Yz.mp (DR (l:=[(8,.dget)]) h);refine Ag hl λvs j D=>?_;subst j;exact M3 (name:=Af 8) g z Sn PySem.F.type_dict_get u
   |setS d=>
    cases Yz.mp (DR (l:=[(11,.sadd)]) h);cases hl;exact mP g z u
   |listw d=>
    cases Yz.mp (DR (l:=[(1,.appw)]) h);refine Ag hl λvs r D=>?_;subst r;exact EU (name:=Af 1) (.inr (mEA _ g z)) VG PySem.F.type_list_append u
   |_=>exact nn h
theorem vl:Kp c mk.v:=by cases mk<;>exact Kp.builtin
theorem vk(rel:Rel m s X σ)(j:BO m s.nx σ.T w w')(h:MK.of s.H w name=Zd mk)(g:P (mk.v,[w']) σ):Ev c σ (XI w' (Af name) pl) P:=by
 cases w with
 |o l=>exact sr rel j h g
 |p v=>
  obtain⟨T,L,F⟩:=σ;cases v with
  |str x=>
   rcases Zr.mp (DR (l:=[(3,.strip),(4,.join),(13,.trans)]) h)with e|e
   ·cases e;exact iH (name:=Af 3) (pin j) PySem.F.slot_str_strip PySem.F.type_str_strip g
   rcases Zr.mp e with e|e
   ·cases e;exact iH (name:=Af 4) (pin j) PySem.F.slot_str_join PySem.F.type_str_join g
   ·cases Yz.mp e;exact iH (name:=Af 13) (pin j) UY PySem.F.type_str_translate g
  |lst xs=>
   generalize(.inl (pin j):LstAt T L w' xs)=r;rcases Zr.mp (DR (l:=[(1,.append),(2,.pop),(7,.clear)]) h)with e|e
   ·cases e;exact EU (name:=Af 1) r VG PySem.F.type_list_append g
   rcases Zr.mp e with e|e
   ·cases e;exact EU (name:=Af 2) r V9 Ua g
   ·cases Yz.mp e;exact EU (name:=Af 7) r VV TM g
  |_=>exact nn h
theorem Fc.app:∀{ws:Za W} {vs:Za V},Fc m n ws vs->WR m n w D8->Fc m n (ws++[w]) (vs++[D8]):=by
 intro ws
 induction ws with
 |nil=>
  intro j e h;generalize(e:_=[])=e;subst e;exact At D8 ([]) rfl h rfl
 |cons j j s=>
  intro j g h;obtain⟨u,t,e,z,r⟩:=g;subst e;exact At u _ rfl z (s r h)
theorem Fc.aaw:∀l:Za V,Fc m n (l.map .p) l:=by
 intro l
 induction l with
 |nil=>exact rfl
 |cons v r g=>exact At v r rfl rfl (g)
theorem Fc.length:∀{ws:Za W} {vs:Za V},Fc m n ws vs->vs.length=ws.length:=by
 intro ws
 induction ws with
 |nil=>
  intro g e;generalize(e:_=[])=e;subst e;rfl
 |cons g g h=>exact @λg q=>An q λg g e g r=>e▸ZH UU (h r)
theorem cU:∀{l:Za Zf},n∈l->Ir n l=true:=by
 intro l
 induction l with
 |nil=>exact λh=>(ZT h ZE)
 |cons y r g=>
  intro h;refine(?_:(match ZX _ y with|true=>Zm|false=>Ir _ r)=Zm);split
  ·rfl
  ·rename_i e;rcases Zr.mp h with rfl|h
   ·rw[WJ]at e;cases e
   ·exact g h
theorem jh{y:Za Zf}:∀{l:Za Zf},MS y l=Zm->∀c∈l,c∉y:=by
 intro l
 induction l with
 |nil=>exact λu u h=>(ZT h ZE)
 |cons x r g=>
  intro h c j;revert h;refine(?_:((match Ir x y with|true=>Zh|false=>MS y r)=Zm)->_);intro h;split at h
  ·cases h
  ·rename_i e;rcases Zr.mp j with rfl|j
   ·intro s;rw[cU s]at e;cases e
   ·exact g h c j
theorem Gn{f:LW->Ze α}{Q:Zf->α->Prop}{P:Prop}(rel:Rel m s X ⟨T,L,F⟩)(g:BO m s.nx T w w')(h:lX w s f Q)(k:∀l x y lo,Ai l s.H=Zd x->f x=Zd y->(w',.ref (m l))∈T->(m l,lo)∈L->LR m s.nx x lo->Q l y->P):P:=
 Ad h λl r h=>Ad h λx ex h=>Ad h λy u h=>by
  exact Ag (Go rel ex) λlo j hl=>k l x y lo ex u (be (Fj r▸g)) j hl h
theorem Eg(rel:Rel m s X ⟨T,L,F⟩)(P:Ai n s.H=Zd E7)(h:CJ n E8 s (k (.p D8)))
 (r:∀lo,LR m s.nx E7 lo->∃g,LR m s.nx E8 g/\∀E C,BS (m n) lo g E C->(∀v' z,(∀p∈T,p∈z)->(v',D8)∈z->Ap m s.nx X T k v' ⟨z,C,F⟩)->Ev c ⟨T,E,F⟩ t (Ap m s.nx X T k)):Ev c ⟨T,L,F⟩ t (Ap m s.nx X T k):=by
 exact An (Ch rel P h) λlo E G D j=>Ag (r lo D) λg A B=>AF (j _ A) λC I u K q Q=>Ev.perm G (B _ _ u λv' z O R=>⟨m,I,K▸Ext.refl,q.tmp,O,.p D8,wp R,Q⟩)
theorem uw(h:mj x y=Zm):MS y.cps.toList x.cps.toList=true:=Ak h
theorem uu(h:mj x y=Zm):(x.cps.all (· <128))=false:=Cy (Ak (Ae h))
theorem ut(h:mj x y=Zm):x.cps.size<=1000:=Zw (Ae (Ae h))
theorem jv(hm:∃o,c.h1.get? Xv=Zd o)(hh:c.A.handled=Zs)(rel:Rel m s X σ)(I:BO m s.nx σ.T w w')(B:AK m s.nx σ.T ws vs)(h:qo mk w ws s k):Ev c σ (Y8 mk.v (w'::vs)) (Ap m s.nx X σ.T k):=by
 generalize(λH h=>.tail _ h:∀{a:Zb×V},∀p∈σ.T,p∈a::σ.T)=R;cases mk with
 |zz n=>exact(h:ZP).elim
 |append=>
  refine Ad h λu D h=>BD D B λv' C G=>Gn rel I h λl x xs lo ex z g H H h=>Al h λE h=>?_;subst C;generalize(DD z)=z;subst z;cases u with
  |p v=>exact Eg rel ex h λlo e=>mEA _ rfl (λL1 L2 u fin=>by cases e;exact El g (pin G) u E (fin _ _ R (.head _)))
  |o j=>
   exact Ag G λv2 K L=>Eg rel ex h λlo e=>mEA _ ⟨_,rfl,(Fc.aaw _).app K⟩ (λL1 L2 u fin=>by cases e;exact El g L u E (fin _ _ R (.head _)))
 |appw=>
  refine Ad h λu D h=>BD D B λv' C G=>Gn rel I h λl x xs lo ex z g H H h=>Al h λE h=>?_;subst C;generalize(bB z)=z;subst z;refine Ag G λv2 K L=>Eg rel ex h λlo e=>Ag e λvs1 P hl1=>?_;subst P;exact mEA _ ⟨_,rfl,hl1.app K⟩ (λL1 L2 u fin=>El g L u (Ab hl1.length (E)) (fin _ _ R (.head _)))
 |clear=>
  refine Ad h λu D h=>Gn rel I h λl x xs lo ex z g H H h=>Al h λE h=>?_;generalize(Im D B)=C;generalize(DD z)=z;subst C z;exact Eg rel ex h λlo e=>mEA _ rfl (λL1 L2 u fin=>by cases e;exact mX g u E (fin _ _ R (.head _)))
 |dget=>
  refine Ad h λu D h=>BD D B λv' C G=>Ad h λx ex h=>Gn rel I h λl q d lo eq z g U hl h=>?_;generalize(bD z)=z;subst C z;refine Ag h λr er h=>Ag hl λvs Q hd=>?_;subst Q;generalize(hd.aav er)=hlk;refine eL hm g U (B3 ex G) λv'=>?_;cases r with
  |some w2=>
   exact Ag hlk λv2 e2 K=>Ab e2 (fin rel K h)
  |none=>
   exact Ab hlk (Bb rel h)
 |sadd=>
  refine Ad h λu D h=>BD D B λv' C G=>Ad h λy z h=>Gn rel I h λl x d lo ex ed g H H h=>?_;generalize(f9 ed)=ed;subst C ed;exact Eg rel ex h.2 λlo e=>mEA _ rfl (λL1 L2 u fin=>by cases e;exact i8 g u (B3 z G) (Zw h.1) (fin _ _ R (.head _)))
 |pop=>
  refine Ad h λu D h=>Gn rel I h λl x xs lo ex z g H H h=>Ad h.2 λv C h2=>?_;generalize(Im D B)=e0;generalize(DD z)=z;subst e0 z;generalize(I0 C)=Y;refine Eg rel ex h2 λlo e=>mEA _ rfl (λL1 L2 u fin=>?_);cases e;generalize h.1=E;rw[Y,Zt]at E;exact pL (l:=xs.dropLast) (e:=v) g (Y▸u) E λv'=>fin _ _ R (.head _)
 |dapp=>
  refine Ad h λu D h=>BD D B λv' C G=>Ad h λv e h=>Gn rel I h λl x q lo ex z g H H h=>?_;generalize(Ng z)=z;subst C z;exact Eg rel ex h.2 λlo e2=>mEA _ rfl (λL1 L2 u fin=>by cases e2;exact aP g (EV e G) u (Zw h.1) (fin _ _ R (.head _)))
 |dpop=>
  refine Ad h λu D h=>Gn rel I h λl x q lo ex z g H H h=>Ad h.2 λv C h2=>?_;generalize(Im D B)=e0;generalize(Ng z)=z;subst e0 z;generalize(I0 C)=Y;refine Eg rel ex h2 λlo e=>mEA _ rfl (λL1 L2 u fin=>?_);cases e;generalize(Zw h.1)=E;rw[Y,Zt]at E;exact mT (l:=q.2.dropLast) (e:=v) g (Bj Y (u)) E λv'=>fin _ _ R (.head _)
 |trans=>
  refine Ad h λx ex h=>Ad h λu D h=>BD D B λv' C G=>Gn rel G h λl q y lo eq z g U hl h=>?_;generalize(jK z)=z;subst C z;refine Ag hl λo O tr=>?_;subst O;exact Mx hm hh (B3 ex I) g U tr (jh (uw h.1)) (uu h.1) (ut h.1) λv'=>Bb rel h.2
 |strip=>exact Ad h λx ex h=>Ad h λu D h=>BD D B λv' C G=>Ad h λy z h=>Al h λE h=>C▸mB (B3 ex I) (B3 z G) E λv'=>Bb rel h
 |join=>
  exact Ad h λx ex h=>Ad h λu D h=>BD D B λv' C G=>Ag h λss Y h=>Al h λE h=>C▸rC (B3 ex I) (Bp rel Y G) (λv'=>Bb rel h) E
end
end
section
variable{R:Za (Zo×LO)->Prop}{σ1:St}
section
variable{s:S}
theorem jY(hh:c.A.handled=Zs)(hl:(xv,.rng n)∈T)(P:n<=16777216):CB c ⟨T,L,F⟩ xv (λi=>.int i) n λI=>True:=λs G m=>by
 refine Bt (m.temps _ hl) λa t u v h g=>?_;subst h;have C:WV 0 (n:Z7) 1=(n:Z7):=by
  unfold WV;simp only[show(1:Z7)>0 by exact QG _,SU];split
  ·lia
  ·lia
 refine wpAny_pyIter_range (m.gsub _ _ g) (small_one (by exact ZI _) (by exact ZI _) (by exact ZI _) (by exact qa P rfl)) (Ab C ?_);refine AZ s.heap.objs.size (λi o=>o={cls:=.type "range_iterator",dict:=Zs,data:=.fields #[Xj i,Xj ((n:Z7)-i),Xj 1],slots:= #[]}) ([]) G rfl ?_ (λp Q=>(ZT Q ZE)) (m.zU (by rfl) rfl);intro Y H hk;refine Ba ?_ ?_ ?_ ?_
 ·intro i L F z B hi I j;refine Ag (j.prot _ (.head _)) λo r e=>?_;subst e;refine wpAny_pyNext_range_item (it:=s.heap.objs.size) r (by lia) λh' D R=>BW _ B rfl ?_;have K:=j.zN (q':=λo=>o={cls:=.type "range_iterator",dict:=Zs,data:=.fields #[Xj ((i+1:Zf):Z7),Xj ((n:Z7)-((i+1:Zf):Z7)),Xj 1],slots:= #[]}) (tk:=z.toks+1) R.extBut D (by
   have X:(i:Z7)+1=((i+1:Zf):Z7):=by rfl
   have O:(n:Z7)-i-1=(n:Z7)-((i+1:Zf):Z7):=by lia
   refine Ab X ?_;refine Ab O ?_;rfl)
  exact K.zH VR.int
 ·intro L F z B I j;refine Ag (j.prot _ (.head _)) λo r e=>?_;subst e;exact wpAny_pyNext_range_end H (it:=s.heap.objs.size) r (by lia) λh' U=>mEA B rfl (j.zM (tk:=z.toks) U)
 ·intro target i v' z E B j;refine Ag (j.prot _ (.head _)) λo r e=>?_;subst e;exact Cu r rfl rfl (by rfl)
 ·intro i z E B j;refine Ag (j.prot _ (.head _)) λo r e=>?_;subst e;exact wpAny_pyIter_rangeiter (it:=s.heap.objs.size) r ⟨rfl,rfl⟩
theorem CB.of_eq{vs vs':Zf->V}(h:CB c σ xv vs N R)(e:∀i,i<N->vs i=vs' i):CB c σ xv vs' N R:=λs G m=>Zu (h s G m) (λr X g=>D4 g λit I K B H ok Q u=>AZ it I K B H (λC A E=>by
 refine CC (ok C A E) λT z D O=>?_;exact Ba (λi L F s G j P m=>by refine Bj (e i j ..) ?_;exact T i L F s G j P m) z D O) Q u) λU U e=>e
theorem Gg(j:c.A.handled=Zs)(g:BO m s.nx σ1.T w xv)(h:itemsOf s.H w=Zd l)(u:l.length<=16777216):CB c σ1 xv (λi=>(l[i]?).getD .none) l.length λB=>True:=by
 cases w with
 |o=>exact nj h
 |p v=>cases v with
  |tup=>cases h;exact jW j (pin g)
  |lst=>cases h;exact Nj j (pin g)
  |rng n=>cases n with
   |negSucc=>exact nj h
   |ofNat n=>
    cases h;rw[Zz,Y5]at u⊢;exact(jY j (pin g) u).of_eq λi r=>by refine Ab (Za.getElem?_map ..) ?_;refine Ab (Za.getElem?_range r ..) ?_;rfl
  |str x=>
   refine AH h λz h=>?_;cases h;refine Ab (Zz ..) ?_;refine Ab (Y5 ..) ?_;exact(jX j (pin g) z).of_eq λi r=>by refine Ab (Za.getElem?_map ..) ?_;refine Ab (Za.getElem?_range r ..) ?_;rfl
  |_=>exact nj h
end
end
section
variable{σ4:St}{Q:Zj->Prop}{g:Zn}{lo0:LO}{own0:Za Zo}{r' cr':Za (Zi×Ze V)}{x:Zf}{sc:Yh}{K T':Tm}{q q':Xp->Prop}{c':Cx}{m2:Mp}{s2:S}{R:Za (Zo×LO)}{k kk:Za V->S->Prop}{el tg:Expr}{pos':Xf}{iter:PE}{y:Zb}{t:ZN Fin}{cond:Ze PE}{ks':Za (Zi×Zx)}
section
def pH(c:Cx)(use:Ze (Zb->ZN ZU))(P:Zb->St->Prop)(C acc:Zo)(σ:St):Prop:=match use with
 |none=>∃σ4,(∀s,MR c σ s->MR c σ4 s)/\P (.ref acc) σ4
 |some u=>∀q,Ev (c.prot C q) σ (u (.ref acc)) λg σ4=>P .none σ4
def pG(c:Cx)(use:Ze (Zb->ZN ZU))(P:Zb->St->Prop)(C:Zo)(v:Zb)(σ:St):Prop:=match use with
 |none=>P v σ
 |some u=>∀q,Ev (c.prot C q) σ (u v) λg σ4=>P .none σ4
theorem pG.fr(h:pG c use P C (.ref acc) σ4)(fr:∀{c':Cx} {s},MR c' σ s->MR c' σ4 s):pH c use P C acc σ:=by
 cases use with
 |none=>exact mEA σ4 (λs m=>fr m) h
 |some u=>exact λq s m=>h q s (fr m)
def Gy(c:Cx)(j e:Expr)(tail:Zb->Zb->YG->ZN Fin)(it acc:Zo)(cenv:YG)(v':Zb)(v:V)(L:Za (Zo×LO))(F:Fm)(Q:St->Prop):Prop:=
 Ev c ⟨[(v',v)],L,F⟩ (WU j cenv v') λr g=>Ev c ⟨[],g.L,g.F⟩ (tail (.ref it) (.ref acc) cenv) λfin h=>fin=.again (.compLoop e 0 (.ref it) (.ref acc) cenv)/\Q h
theorem Gy.mono{Q g:St->Prop}(h:Gy c value target tail it acc cenv v' D8 L F Q)(k:∀σ,Q σ->g σ):Gy c value target tail it acc cenv v' D8 L F g:=
 Ev.mono h λj j z=>Ev.mono z λj σ z=>⟨z.1,k σ z.2⟩
structure CG(c:Cx)(e:Expr)(p0:Xf)(tgt:Expr)(tail:Zb->Zb->YG->ZN Fin):Prop where
 tree:∀(it acc:Zo) (cenv:YG),R7 e 0 (.ref it) (.ref acc) cenv=(Vd p0>>=λz_=>Vu (.ref it)>>=λr=>match r with
  |none=>pure (.done .next)
  |some v=>W6 tgt (.ref it) v>>=λz_=>WU tgt cenv v>>=λz_=>tail (.ref it) (.ref acc) cenv)
 gen:∀(it acc:Zo) (cenv:YG),OE (.compLoop e 0 (.ref it) (.ref acc) cenv)=Zm
 und:∀(it acc:Zo) (cenv:YG),c.A.under (.compLoop e 0 (.ref it) (.ref acc) cenv)=c.A
 den:∀(it acc:Zo) (cenv:YG),c.M.den (.compLoop e 0 (.ref it) (.ref acc) cenv)=(R7 e 0 (.ref it) (.ref acc) cenv).onRaise (λx=>do Uc x cenv;QR x)
inductive CI(c:Cx)(env:YG)(own0:Za Zo)(lo0:LO)(names:Za (Zi×Zx))(tgt e:Expr)(tail:Zb->Zb->YG->ZN Fin)(use:Ze (Zb->ZN ZU))(P:Zb->St->Prop)(x:Zb):St->Prop
 |mk {T:Tm} {L:Za (Zo×LO)} {rho0:Za (Zi×Ze V)} (rho:Za (Zi×Ze V)) (nd:(rho.map (·.1)).Nodup) (hr:∀x v,(x,Zd v)∈rho->(x,XE)∈names/\(x,Zd v)∈rho0)
  (vs:Zf->V) (N:Zf) (R:Za (Zo×LO)->Prop) (J:Zo->YG->Za Zo->Zf->Za (Zo×LO)->Fm->Prop) (hi:CB c ⟨T,L,⟨env,own0,rho0⟩⟩ x vs N R) (j0:∀acc cenv own,J acc cenv own 0 ((acc,lo0)::L) ⟨cenv,own,rho⟩) (jr:∀acc cenv own i L F,J acc cenv own i L F->R L)
  (turn:∀acc cenv own K it q i L F v',GA cenv own names->i<N->J acc cenv own i L F->Gy (((c.comp T ⟨env,own0,rho0⟩).keep K).prot it q) tgt e tail it acc cenv v' (vs i) L F λσ=>J acc cenv own (i+1) σ.L σ.F)
  (fin:∀acc cenv own L' F',J acc cenv own N L' F'->(F'.env=cenv/\F'.own=own)/\pH c use P cenv.locals acc ⟨T,L',⟨env,own0,rho0⟩⟩):CI c env own0 lo0 names tgt e tail use P x ⟨T,L,⟨env,own0,rho0⟩⟩
theorem jf(m:Ar (c.prot a NsObj) σ G s)(k:∀j,Ar c σ G j->Q j):∃h,s.heap.Ns a h/\∀h',Vo a s.heap h'->Q {s with heap:=h'}:=
 Ag (m.prot _ (.head _)) λo r u=>xE (jg r u) λh z=>mEA h z λh' g=>k _ (m.zM (tk:=s.toks) g.extBut)
theorem Fz{e:Expr}{p0:Xf}{z first:ZN Zb}
 (hcl:clausesOf e=g::gs) (hs:∀x,Vf g.iter env x=pure x) (he:Bq env ks) (ho:Gz env own0) (hc:GU scope=Zm) (E:∀p∈scope.names,p.2=.free->(p.1,Xd)∈ks)
 (hacc:∀c' T L F,Ev c' ⟨T,L,F⟩ z λa σ'=>∃j,a=.ref j/\σ'=⟨T,(j,lo0)::L,F⟩)
 (O:∀it acc cenv R s,XQ c.M c.A (.compLoop e 0 it acc cenv) R s->ZZ c.M c.A (RJ it) (λit' D=>XQ c.M c.A (.compLoop e 0 it' acc cenv) R D) (notedBy c.M c.A cenv λx D=>R (.error x) D) s->XQ c.M c.A (.compStart e 0 it acc cenv) R s)
 (hg:CG c e p0 g.target tail) (hh:c.A.handled=Zs) (h:Ev c σ first (CI c env own0 lo0 scope.names g.target e tail use P)):
 Ev c σ (Wn e scope env j9 z Zh first use) P:=λs m=>by
 have hfc:∀p∈scope.names,p.2=.free->∃a,env.cells.lookup p.1=Zd a:=λp G e=>(he.names _ _ (E p G e)).2.2.2.1 (.inl rfl);generalize hc=hc';simp only[GU,Z6,WM,Wb,Yj,Q3]at hc';refine wpAny_comprehension_free hcl hs (J8 hfc) hc'.1.2 (λx hx e=>Bz hc'.1.1 ((Oh rfl e:x=(x.1,NameKind.local))▸hx)) (Zu (h s m) (λx s1 H=>Ag H λσ1 hX H=>?_) λB B e=>e);cases H with|@mk T1 L1 rho0 rho hnd hrho vs N R J hIt hJ0 hJR X hfin=>
 refine xE hX λG1 m1=>Zu (hIt s1 G1 m1) (λitv s2 C=>D4 C λit I K G2 e ok hK m2=>?_) λB B e=>e;subst e;refine Zu (hacc (c.prot it (I 0)) _ _ _ s2 ⟨G2,m2⟩) (λa s3 H=>Ag H λσ3 hX H=>Ag H λj e e2=>xE hX λG3 m3=>?_) λB B e=>e;subst e e2;refine Zu (ly (c:=c.prot it (I 0)) (rho:=rho) he ho hc E hnd hrho m3) (λcenv s4 C=>Ag C λown hce m4=>?_) λB B e=>e;have m4':Ar ((c.comp T1 ⟨env,own0,rho0⟩).prot it (I 0)) ⟨[],(j,lo0)::L1,⟨{cenv with scope:=UK scope env},own,rho⟩⟩ G3 s4:=m4;have kx:∀p∈K,VR G3 p.2 p.1:=λp G=>m3.temps p (hK p G);have m5:Ar (((c.comp T1 ⟨env,own0,rho0⟩).keep K).prot it (I 0)) ⟨[],(j,lo0)::L1,⟨{cenv with scope:=UK scope env},own,rho⟩⟩ G3 s4:=Ar.keepIn (c:=(c.comp T1 ⟨env,own0,rho0⟩).prot it (I 0)) m4' kx;have U:XQ c.M c.A (.compLoop e 0 (.ref it) (.ref j) {cenv with scope:=UK scope env}) (compPost c.M c.A No use (λa D=>∃σ',MR c σ' D/\P a σ') (.ref j) cenv.locals) s4:=by
  refine Xi (IV (c:=(c.comp T1 ⟨env,own0,rho0⟩).keep K) (J j {cenv with scope:=UK scope env} own) (hg.gen it j _) (hg.den it j _) (hg.und it j _) (hg.tree it j _) ok hh (λp G=>Zk _ G) (λi L F hj=>hJR _ _ _ i L F hj)
   (λi L F q v' hi hj=>X j _ own K it q i L F v' hce hi hj) N 0 _ _ s4 G3 (Y0 N).symm (hJ0 j _ own) m5) λr s5 hr=>?_
  cases r with
  |error x=>exact hr.elim
  |ok f=>
   refine Dg hr λL5 F5 G5 m6 hj=>?_;have Y:=hfin j _ own L5 F5 hj;have m7:Ar (c.prot F5.env.locals NsObj) ⟨T1,L5,⟨env,own0,rho0⟩⟩ G5 s5:=Ar.aas (σ':=⟨[],L5,F5⟩) m6.zQ (Ab Y.1.1 (Ab Y.1.2 (hce.ow.mem)));rw[Y.1.1]at m7;have Y:=Y.2;cases use with
   |none=>exact Ag Y λσ4 hmr G=>jf (Q:=λD=>∃σ',MR c σ' D/\P (.ref j) σ') m7 λD m'=>mEA σ4 (hmr _ ⟨G5,m'⟩) G
   |some u=>exact Zu (Y NsObj s5 ⟨G5,m7⟩) (λB s6 H=>Ag H λσ6 hX G=>xE hX λG6 m8=>jf (Q:=λD=>∃σ',MR c σ' D/\P .none σ') m8 λD m'=>mEA σ6 ⟨G6,m'⟩ G) λB B e=>e
 refine O _ _ _ _ _ U (Zu ((ok ((c.comp T1 ⟨env,own0,rho0⟩).keep K) hh λp G=>Zk _ G).2.2.2 0 s4 _ G3 m5) (λv s5 C=>xA C λe1 e2=>?_) λB B e=>e.elim);subst e1 e2;exact U
end
inductive lM(m:Mp)(n:Zf)(R0:Za (Zo×LO))(env:YG)(own:Za Zo)(acc:Zo)(kk:Za V->S->Prop)(σ':St):Prop
 |mk (m':Mp) (s':S) (done':Za V) (x:Ext m n m' s'.nx) (r:Rel m' s' ⟨(acc,.list done')::R0,env,own⟩ σ') (hk:kk done' s')
theorem RR.aak(h:RR m n rho r'):∀xs:Za Zf,RR m n (xs.map (λx=>(x,Zs))++rho) ((xs.map Af).map (λx=>(x,Zs))++r'):=by
 intro xs
 induction xs with
 |nil=>exact h
 |cons x xs g=>exact mEA _ rfl (g)
theorem py:Fa (x::r) rho=match Ai x rho with
 |some o=>match Fa r rho with|some t=>Zd ((x,o)::t)|none=>Zs
 |none=>none:=rfl
set_option tactic.hygienic true in
theorem du(h:RR m n rho rho'):∀{caps:Za Zf} {B:Za (Zf×Ze W)},Fa caps rho=Zd B->∃cr',RR m n B cr'/\cr'.map (·.1)=caps.map Af/\∀x v,(x,Zd v)∈cr'->(∃y∈caps,x=Af y)/\(x,Zd v)∈rho':=by
 intro caps
 induction caps with
 |nil=>
  intro H e;cases e;exact AU ([]) rfl rfl (λH H h=>(ZT h ZE))
 |cons x r A=>
  intro B e;rw[py]at e;split at e
  ·rename_i o L;split at e
   ·rename_i t P;cases e;refine Am (A P) λu G D E=>?_;cases o with
    |none=>
     refine AU ((Af x,Zs)::u) ⟨u,rfl,G⟩ (by exact ZH _ D) (λy v g=>?_);rcases Zr.mp g with g|g
     ·cases g
     ·refine xA (E y v g) λj q=>?_;obtain⟨z,C,e⟩:=j;exact⟨⟨z,.tail _ C,e⟩,q⟩
    |some w=>
     refine Ag (RR.mem h (lkp_mem L)) λI O K=>AU ((Af x,Zd I)::u) ⟨I,u,rfl,K,G⟩ (by exact ZH _ D) (λy v g=>?_);rcases Zr.mp g with g|g
     ·cases g;exact⟨⟨x,.head _,rfl⟩,O⟩
     ·refine xA (E y v g) λs q=>?_;obtain⟨z,C,e⟩:=s;exact⟨⟨z,.tail _ C,e⟩,q⟩
   ·cases e
  ·cases e
theorem Iy(h:Ju ks sc xs caps=Zm):GU sc=Zm/\(∀p∈sc.names,p.2=.free->(p.1,Xd)∈ks)/\(∀x∈caps,(Af x,XE)∈sc.names)/\((xs++caps).map Af).Nodup:=by
 refine Ba (Ak h) (λp g e=>?_) (λx j=>Aw (Yj.mp (Ak (Ae (Ae h))) x j)) (of_decide_eq_true (Ae (Ae (Ae h))));generalize(Yj.mp (Ak (Ae h)) p g)=this;rw[e]at this;exact Aw this
theorem CT(h:isSet value=Zh)(x:Zb):Vf value env x=pure x:=by
 cases value with
 |Set=>cases h
 |_=>exact V0 (pure x)
section
variable{s:S}
theorem Gx.keep(G:Gx c d ks ck X):Gx (c.keep K) d ks ck X:=⟨G.ok.keep,G.en,G.ow,G.cl,G.fa.keep,G.fr⟩
theorem Gx.prot(G:Gx c d ks ck X):Gx (c.prot a q) d ks ck X:=⟨G.ok.prot,G.en,G.ow,G.cl,G.fa.prot,G.fr⟩
theorem JX:Ev c' ⟨T,L,F⟩ (UJ []) λa h=>∃j,a=.ref j/\h=⟨T,(j,.list [])::L,F⟩:=λs g=>xE g λG m=>by
 exact YR (Ep _ ⟨G,(m.push (lo:=.list []) (o:=Cz [] 0) (tk:=s.toks) (BW ([]) 0 rfl Ay.nil))⟩ _ rfl rfl) (by refine(?_:(#[]:ZD Zb).size<=VE);exact XG _)
theorem dj(h:i<l.length):l.drop i=(l[i]?).getD .none::l.drop (i+1):=by refine Ab (Yg h ..) ?_;refine Ab (Za.getElem?_eq_getElem h ..) ?_;rfl
theorem dw(e:cr'.map (·.1)=caps.map Af)(h:((xs++caps).map Af).Nodup):(((xs.map Af).map (λx=>(x,(Zs:Ze V)))++cr').map (·.1)).Nodup:=by
 refine Ab (ZA ..) ?_;refine Ab (e ..) ?_;refine Ab (YX ..) ?_;refine Ab ((show((λx:Zi×Ze V=>x.1)∘λx=>(x,(Zs:Ze V)))=id from rfl) ..) ?_;refine Ab (Sr ..) ?_;refine Bj (ZA ..) ?_;exact h
theorem dy{rho:Za (Zi×Ze V)}(h:∀x v,(x,Zd v)∈cr'->(∃y∈caps,x=Af y)/\(x,Zd v)∈rho)(r:∀x∈caps,(Af x,XE)∈names):
 ∀x v,(x,Zd v)∈B8.map (λx=>(x,(Zs:Ze V)))++cr'->(x,XE)∈names/\(x,Zd v)∈rho:=λx v g=>(ZW.mp g).elim (λg=>Ag (Ye.mp g) λs s e=>nj (SD e).2) λg=>⟨Ag (h x v g).1 λy j e=>e▸r y j,(h x v g).2⟩
theorem Rel.back(g:RR m s.nx s.rho rho')(x:Ext m s.nx m2 s2.nx)(r:Rel m2 s2 ⟨R,cenv,own⟩ ⟨T',L,F⟩):
 (F.env=cenv/\F.own=own)/\∀T env own0,Rel m2 ⟨s2.H,s2.nx,s.rho⟩ ⟨R,env,own0⟩ ⟨T,L,⟨env,own0,rho'⟩⟩:=by
 cases r with|mk z h j=>exact⟨⟨rfl,rfl⟩,λu u u=>.mk (g.ext x) h j⟩
theorem bw{stp:V->Za V->S->(Za V->S->Prop)->Prop} (h:Aj (itemsOf s.H w) λl=>A4 l.length (match s with
 |⟨H,nx,rho⟩=>Aj (Fa caps rho) λg=>Jv stp (λacc s2=>match s2 with|⟨H2,nx2,_⟩=>k acc ⟨H2,nx2,rho⟩) l [] ⟨H,nx,xs.map (λx=>(x,Zs))++g⟩)) {P:Prop}
 (kk:∀l g,itemsOf s.H w=Zd l->l.length<=16777216->Fa caps s.rho=Zd g->Jv stp (λacc s2=>k acc ⟨s2.H,s2.nx,s.rho⟩) l [] ⟨s.H,s.nx,xs.map (λx=>(x,Zs))++g⟩->P):P:=
 Ad h λl e h=>Al h λr h=>Ad h λg j h=>kk l g e r j h
inductive JL(m1:Mp)(n:Zf)(R0:Za (Zo×LO))(lo:Za V->LO)(stp:V->Za V->S->(Za V->S->Prop)->Prop)(fin:Za V->S->Prop)(l:Za V)(acc:Zo)(cenv:YG)(own:Za Zo)(i:Zf)(L:Za (Zo×LO))(F:Fm):Prop
 |mk (m':Mp) (s':S) (done:Za V) (x:Ext m1 n m' s'.nx) (r:Rel m' s' ⟨(acc,lo done)::R0,cenv,own⟩ ⟨[],L,F⟩) (k:Jv stp fin (l.drop i) done s'):JL m1 n R0 lo stp fin l acc cenv own i L F
theorem Gx.inner(G:Gx c d ks ck X)(h:GA cenv own names):Gx (((c.comp T ⟨X.env,X.own,rho'⟩).keep K).prot it q') d (EX names) Zh ⟨R,cenv,own⟩:=
 ⟨(G.ok.comp.keep).prot,h.ok,h.ow,(λh=>(ZK h)),((DX.comp (F:=⟨X.env,X.own,rho'⟩) G.fa).keep).prot,λh=>(ZK h)⟩
theorem MY(hr:Co ft rec)(G:Gx c d ks ck X){el tg i:Expr}{ifs:Za Expr}{gs:Za Zn}{sc:Yh}{pos pos':Xf}{use:Ze (Zb->ZN ZU)}{xs caps:Za Zf}{iter:PE}{stp:V->Za V->S->(Za V->S->Prop)->Prop}{k:Za V->S->Prop}{tail:Zb->Zb->YG->ZN Fin}{P:Zb->St->Prop}
 (hi:isSet i=Zh) (hce:Cq ks ck i iter) (hlc:Ju ks sc xs caps=Zm) (hg:CG c (.ListComp el (⟨tg,i,ifs,0⟩::gs) sc pos) i.pos tg tail)
 (E:∀{c':Cx} {R0:Za (Zo×LO)} {cenv:YG} {own:Za Zo} {acc:Zo} {it:Zo} {done:Za V} {m s L F v v' kk},Gx c' d (EX sc.names) Zh ⟨(acc,.list done)::R0,cenv,own⟩->Rel m s ⟨(acc,.list done)::R0,cenv,own⟩ ⟨[(v',v)],L,F⟩->stp v done s kk->
  Gy c' tg (.ListComp el (⟨tg,i,ifs,0⟩::gs) sc pos) tail it acc cenv v' v L F (lM m s.nx R0 cenv own acc kk))
 (A:∀(acc:Zo) (done:Za V) (m':Mp) (s':S) (I:Tm) (L':Za (Zo×LO)) (F':Fm) (C:Zo),Ext m s.nx m' s'.nx->Rel m' s' ⟨(acc,.list done)::X.R,X.env,X.own⟩ ⟨I,L',F'⟩->(∀p∈σ.T,p∈I)->k done s'->pH c use P C acc ⟨I,L',F'⟩)
 (rel:Rel m s X σ) (h:jG rec d xs iter caps stp k s):Ev c σ (Wn (.ListComp el (⟨tg,i,ifs,0⟩::gs) sc pos) sc X.env pos' (UJ []) Zh (Yk i X.env) use) P:=by
 refine CC (Iy hlc) λh1 h2 h3 h4=>?_;refine Fz (g:=⟨tg,i,ifs,0⟩) rfl (CT hi) G.en G.ow h1 h2 (λj j j j=>JX) (λit acc cenv R s=>Sb) hg G.ok.han
  ((hr.ex G hce rel h).mono λxv σ1 a0=>a0.cp λm1 B x1 z i1 w hw k1=>bw k1 λl cr el' hz ec k1=>?_)
 have r:=Gg (σ1:=σ1) G.ok.han hw el' hz;cases z with
 |@mk I L1 O Lh U hh hp=>
  refine Am (du U ec) λcr' hc1 hc2 hc3=>?_;refine .mk ((xs.map Af).map (λx=>(x,Zs))++cr') (dw hc2 h4) (dy hc3 h3) _ l.length _ (JL m1 B.nx X.R .list stp (λacc s2=>k acc ⟨s2.H,s2.nx,B.rho⟩) l) r
   (λacc cenv own=>.mk m1 ⟨B.H,B.nx,xs.map (λx=>(x,Zs))++cr⟩ [] Ext.refl (.mk (hc1.aak xs) hh ((hp.cons _).trans Yw.symm)) k1) (λj j j j j j j=>trivial) (λacc cenv own K it q' i' L F v' Q a1 hJ=>?_) λacc cenv own L F hJ=>?_
  ·refine hJ.casesOn ?_;intro m2 s2 done Y r2 D;rw[dj a1]at D;refine(E (G.inner Q) (r2.tmp (T':=[(v',(l[i']?).getD .none)])) D).mono λσ4 h=>?_;cases h with|mk m4 s4 u x4 r4 k4=>exact .mk m4 s4 u (Y.trans x4) r4.tmp k4
  ·refine hJ.casesOn ?_;intro m2 s2 done Y r2 D;rw[YV]at D;have b:=Rel.back U Y r2;exact⟨b.1,A acc done m2 ⟨s2.H,s2.nx,B.rho⟩ I L ⟨X.env,X.own,O⟩ cenv.locals (x1.trans Y) (b.2 ..) i1 D⟩
theorem Jc{P:Fin->St->Prop}(H:done.length<=16777216)(rel:Rel m s ⟨(acc,.list done)::R0,cenv,own⟩ σ)(z:(y,D8)∈σ.T)
 (h:∀g,Rel m s ⟨(acc,.list (done++[D8]))::R0,cenv,own⟩ g->Ev c g t P):Ev c σ (Y8 (.builtin "list.append") [.ref acc,y]>>=λj=>(pure ():ZN ZU)) λj g=>Ev c g t P:=by
 cases rel with
 |@mk T L rho E B A u=>
  refine Ev.bind (Ev.perm (u.trans Yw) (Ev.mono (P:=λj g=>Rel m s ⟨(acc,.list (done++[D8]))::R0,cenv,own⟩ g) (λst C=>(El (.head _) (.tail _ z) BS.head H (.mk B A Yw.symm):Ev c ⟨(.ref acc,.ref acc)::T,(acc,.list done)::(E++R0),⟨cenv,own,rho⟩⟩ (Y8 (.builtin "list.append") [.ref acc,y]) λj g=>Rel m s ⟨(acc,.list (done++[D8]))::R0,cenv,own⟩ g) st ?_) λj g r=>Ev.pure (h g r)));obtain⟨G,D⟩:=C;exact⟨G,D.zH VR.val⟩
theorem pi(j:Co ft rec)(G:Gx c d ks ck X){o:Ze Expr}{cond:Ze PE}{k:Zl->S->Prop}(g:pJ ks ck o cond)(rel:Rel m s X σ)(h:qG rec d cond k s):Ev c σ (tests o.toList X.env) (Ds m s.nx X σ.T k):=by
 cases g with
 |none=>exact iq (HW rel h)
 |some g=>exact My (j.ts G g rel h)
theorem jD(C:Co ft rec){c':Cx}{el tg e:Expr}{ifs:Ze Expr}{ks':Za (Zi×Zx)}{xs:Za Zf}{cond:Ze PE}{elt:PE}{R0:Za (Zo×LO)}{cenv:YG}{own:Za Zo}{acc:Zo}{it:Zo}{done:Za V}{m:Mp}{s:S}{L:Za (Zo×LO)}{F:Fm}{v:V}{v':Zb}{kk:Za V->S->Prop}
 (O:Tq ks' Zh tg xs) (hc:pJ ks' Zh ifs cond) (r:Cq ks' Zh el elt)
 (G:Gx c' d ks' Zh ⟨(acc,.list done)::R0,cenv,own⟩) (rel:Rel m s ⟨(acc,.list done)::R0,cenv,own⟩ ⟨[(v',v)],L,F⟩) (h:cY rec d xs cond elt v done s kk):
 Gy c' tg e (λit acc cenv=>Ix el ifs.toList e it acc cenv) it acc cenv v' v L F (lM m s.nx R0 cenv own acc kk):=by
 refine(EP G O rel (wp (.head _)) h).mono λz_ σ2 g=>g.cp λm2 s2 D X i2 Y=>Ev.bind ((pi C G hc (X.tmp (T':=[])) Y).mono λb E g=>g.cp λH s3 A z i3 B=>?_);cases b with
 |false=>exact Ev.pure ⟨rfl,H,s3,done,D.trans A,z,B⟩
 |true=>
  refine Ev.bind (Ev.bind ((C.ex G r z B).mono λy σ4 g=>g.cp λm4 I K P i4 w U j=>?_));cases w with
  |o l=>exact j.elim
  |p u=>
   exact Al j λT j=>Jc T P (pin U) λQ R=>Ev.pure ⟨rfl,m4,I,done++[u],D.trans (A.trans K),R,j⟩
theorem fw(hr:Co ft rec){c':Cx}{el O i0 t1 D:Expr}{sc:Yh}{pos:Xf}{ks':Za (Zi×Zx)}{x y:Zf}{I elt:PE}{R0:Za (Zo×LO)}{cenv:YG}{own:Za Zo}{acc:Zo}{it:Zo}{done:Za V}{m:Mp}{s:S}{L:Za (Zo×LO)}{F:Fm}{v:V}{v':Zb}{kk:Za V->S->Prop}
 (A:Tq ks' Zh O [x]) (C:Tq ks' Zh t1 [y]) (hs:isSet D=Zh) (U:Cq ks' Zh D I) (Q:Cq ks' Zh el elt)
 (G:Gx c' d ks' Zh ⟨(acc,.list done)::R0,cenv,own⟩) (rel:Rel m s ⟨(acc,.list done)::R0,cenv,own⟩ ⟨[(v',v)],L,F⟩) (h:jF rec d x I y elt v done s kk):
 Gy c' O (.ListComp el [⟨O,i0,[],0⟩,⟨t1,D,[],0⟩] sc pos) (λit acc cenv=>JV D (.ListComp el [⟨O,i0,[],0⟩,⟨t1,D,[],0⟩] sc pos) it acc cenv) it acc cenv v' v L F (lM m s.nx R0 cenv own acc kk):=by
 refine(EP G A rel (wp (.head _)) h).mono λH σ2 r=>r.cp λm2 s2 x2 r2 i2 k2=>KR G.ok.han (CT hs) ((hr.ex G U (r2.tmp (T':=[])) k2).mono λxv σ3 r=>r.cp λm3 s3 x3 r3 i3 w T B=>?_);refine Ad B λl el' B=>Al B λR B=>?_;refine⟨_,l.length,_,λj L F=>∃m' X z,Ext m s.nx m' X.nx/\Rel m' X ⟨(acc,.list z)::R0,cenv,own⟩ ⟨[],L,F⟩/\Jv (cY rec d [y] Zs elt) kk (l.drop j) z X,Gg G.ok.han T el' R,⟨m3,s3,done,x2.trans x3,r3.tmp,by refine Ab UT ?_;exact B⟩,λH H H H=>trivial,?_,?_⟩
 ·rintro K it' q' j L F v1 hj ⟨m4,s4,g,Y,r4,E⟩;generalize(by refine Ab (Za.getElem?_eq_getElem hj ..) ?_;rfl:(l[j]?).getD V.none=l[j])=ev;rw[Yg hj]at E;simp only[ev];generalize(⟨G.ok.keep.prot,G.en,G.ow,(λh=>nomatch h),G.fa.keep.prot,λh=>nomatch h⟩:Gx ((c'.keep K).prot it' q') d ks' Zh ⟨(acc,.list g)::R0,cenv,own⟩)=G';refine(EP G' C (r4.tmp (T':=[(v1,l[j])])) (wp (.head _)) E).mono λH σ5 r=>r.cp λm5 s5 x5 r5 i5 k5=>Ev.bind (Ev.bind ((hr.ex G' Q (r5.tmp (T':=[])) k5).mono λy σ6 r=>r.cp λm6 s6 x6 r6 i6 w T P=>?_));cases w with
  |o l=>exact P.elim
  |p u=>
   exact Al P λR P=>Jc R r6 (pin T) λσ7 r7=>Ev.pure (⟨rfl,(AG m6 s6 (g++[u]) (Y.trans (x5.trans x6)) r7.tmp P)⟩)
 ·rintro L F ⟨m4,s4,g,Y,r4,E⟩;rw[YV]at E;exact⟨rfl,m4,s4,g,Y,r4,E⟩
inductive Lq(ks:Za (Zi×Zx))(ck:Zl):Expr->Expr->Expr->Za Expr->Za Zn->Yh->Xf->PE->Prop
 |lc {el tg i:Expr} {o:Ze Expr} {sc:Yh} {pos:Xf} {live:Zl} {xs:Za Zf} {it:PE} {cond:Ze PE} {elt:PE} {caps:Za Zf} (h1:Cq ks ck i it) (h2:isSet i=Zh) (h3:Tq (EX sc.names) Zh tg xs) (h4:pJ (EX sc.names) Zh o cond) (h5:Cq (EX sc.names) Zh el elt) (h6:Ju ks sc xs caps=Zm):
  Lq ks ck el tg i o.toList [] sc pos (.lc live xs it cond elt caps)
 |lc2 {el t0 i0 t1 i1:Expr} {sc:Yh} {pos:Xf} {x y:Zf} {it it2 elt:PE} {caps:Za Zf} (h1:Cq ks ck i0 it) (h2:isSet i0=Zh) (h3:Tq (EX sc.names) Zh t0 [x]) (h4:Cq (EX sc.names) Zh i1 it2) (h5:isSet i1=Zh) (h6:Tq (EX sc.names) Zh t1 [y]) (h7:Cq (EX sc.names) Zh el elt) (h8:Ju ks sc [x,y] caps=Zm):
  Lq ks ck el t0 i0 [] [⟨t1,i1,[],0⟩] sc pos (.lc2 x it y it2 elt caps)
theorem Lb(O:Co ft rec)(G:Gx c d ks ck X){el tg i:Expr}{ifs:Za Expr}{gs:Za Zn}{sc:Yh}{pos pos':Xf}{use:Ze (Zb->ZN ZU)}{pe:PE}{k:W->S->Prop}{P:Zb->St->Prop}
 (he:Lq ks ck el tg i ifs gs sc pos pe)
 (B:∀(v:Zb) (z:Mp) (j:S) (u:St) (C:Zo) (w:W),Ext m s.nx z j.nx->Rel z j X u->(∀p∈σ.T,p∈u.T)->BO z j.nx u.T w v->k w j->pG c use P C v u)
 (rel:Rel m s X σ) (h:v3 rec d pe k s):Ev c σ (Wn (.ListComp el (⟨tg,i,ifs,0⟩::gs) sc pos) sc X.env pos' (UJ []) Zh (Yk i X.env) use) P:=by
 have K:∀(r:Zl) (acc:Zo) (done:Za V) (z:Mp) (j:S) (A:Tm) (L':Za (Zo×LO)) (F':Fm) (C:Zo),Ext m s.nx z j.nx->Rel z j ⟨(acc,.list done)::X.R,X.env,X.own⟩ ⟨A,L',F'⟩->(∀p∈σ.T,p∈A)->jH r k done j->pH c use P C acc ⟨A,L',F'⟩:=by
  intro r acc done z j A L' F' C x' I ht hk;cases I with
  |@mk g g rho' L E hh D=>
   have hp':L'.Perm ((acc,.list done)::(L++X.R)):=D.trans Yw;cases r with
   |false=>exact(B (.ref acc) z j ⟨(.ref acc,.lst done)::A,L++X.R,⟨X.env,X.own,rho'⟩⟩ C (.p (.lst done)) x' (.mk E hh (Xl _)) (λp D=>.tail _ (ht p D)) (wp (.head _)) hk).fr λh=>xE h λG1 m1=>MR.freeze ⟨G1,m1.perm hp'⟩
   |true=>
    exact(BY (xo:=.list done) (lo:=.list done) (k:=k) (a:=acc) (.mk E hh (Xl (L++X.R)):Rel z ⟨j.H,j.nx,j.rho⟩ X ⟨(.ref acc,.ref acc)::A,L++X.R,⟨X.env,X.own,rho'⟩⟩) (λg g=>rfl) hk (T':=(.ref acc,.ref acc)::A) (λp D=>D) (.head _)).cp λm2 s2 x2 r2 i2 w hw Q=>(B (.ref acc) m2 s2 ⟨(.ref acc,.ref acc)::A,(acc,.list done)::(L++X.R),⟨X.env,X.own,rho'⟩⟩ C w (x'.trans x2) r2 (λp D=>.tail _ (ht p D)) hw Q).fr λh=>xE h λG1 m1=>⟨G1,(m1.perm hp').zH VR.val⟩
 cases he with
 |lc h1 Y h3 h4 h5 h6=>exact MY O G Y h1 h6 ⟨λg g g=>rfl,λg g g=>rfl,λg g g=>rfl,λg g g=>rfl⟩ (λU r' k'=>jD O h3 h4 h5 U r' k') (K _) rel h
 |lc2 h1 Y h3 h4 h5 h6 h7 h8=>exact MY O G Y h1 h8 ⟨λg g g=>rfl,λg g g=>rfl,λg g g=>rfl,λg g g=>rfl⟩ (λU r' k'=>fw O h3 h6 h5 h4 h7 U r' k') (K Zh) rel h
end
end
section
variable{x y name l:Zf}{D:AM}{xs:Za Zi}{rest:Za Zb}{cd:Code}{Q:St->Prop}{a:Za (Zf×W)}{kwn:Za Zf}{items:Za V}{q:Zo×Zf}{i:Inst}
theorem su:Ir x (y::r)=match ZX x y with|true=>Zm|false=>Ir x r:=rfl
theorem iV{r:Za (Zf×W)}:putA x H6 ((y,w)::r)=match ZX y x with|true=>(y,H6)::r|false=>(y,w)::putA x H6 r:=rfl
noncomputable def vN(P:Z9)(f:Zo)(D:AM):Bool:=(ud.lookup f).isSome&&(PV (kx P) (.ref (D1 f).co) (Zc (D1 f).q)&&(E4 (Fv (D1 f).s).2.2.2 (D.ps.map Af) (D.oth.map Af)&&Jl (xf 60 (Fv (D1 f).s).2.2.2.names Zm) D.body (Fv (D1 f).s).2.2.1))
structure pI(P:Z9)(f:Zo)(D:AM):Prop where
 b:vN P f D=Zm
 r:Jn (xm 60) D.body (Fv (D1 f).s).2.2.1=(Fv (D1 f).s).2.2.1
theorem EM{P:Z9}(h:pI P f D):(kx P).lookup f=Zd (D1 f).o/\PV (kx P) (.ref (D1 f).co) (Zc (D1 f).q)=Zm/\E4 (Fv (D1 f).s).2.2.2 (D.ps.map Af) (D.oth.map Af)=Zm/\d3 (Fv (D1 f).s).2.2.2.names Zm (Fv (D1 f).s).2.2.1 D.body:=
 ⟨qx (Ak h.b),Ak (Ae h.b),Ak (Ae (Ae h.b)),h.r▸Ei D.body (Ae (Ae (Ae h.b)))⟩
structure LQ(f:Zo)(D:AM)(P:Z9):Prop where
 hc:pI P f D
 hb:∀vs:Za Zb,vs.length=D.ps.length-D.dflt.length->∃dv:Za Zb,(∀G,Ay G D.dflt dv)/\∀S,Qk (kx P) S (U0 (D1 f).fd ⟨vs.take (vs.length-D.kwn.length),(D.kwn.map Af).zip (vs.drop (vs.length-D.kwn.length))⟩)=Zd ((D.ps.map Af).zip (arr D.kwn.length vs dv))
theorem d4:∀g:Za Zf,RR m n (g.map λx=>(x,Zs)) ((g.map Af).map λx=>(x,Zs)):=by
 intro g
 induction g with
 |nil=>exact rfl
 |cons j r h=>exact mEA _ rfl (h)
theorem DW(h:BA T vs' ts)(e:ts.length=xs.length):CK T (xs.zip vs') (xs.zip ts):=by
 induction h generalizing xs with
 |nil=>cases xs with
  |nil=>exact .nil
  |cons=>exact W4 e
 |cons h t g=>cases xs with
  |nil=>exact W4 e
  |cons x xs=>exact .cons h (g (WF e))
theorem BA.length:∀{vs':Za Zb} {vs:Za V},BA T vs' vs->vs'.length=vs.length:=by
 intro vs' vs h
 induction h with
 |nil=>exact rfl
 |cons j t g=>exact by exact ZH _ g
theorem Hv:∀{vs:Za V},vs.length=xs.length->(xs.zip vs).map (·.1)=xs:=by
 induction xs with
 |nil=>intro vs j;rfl
 |cons x xs g=>intro vs h;cases vs with
  |nil=>cases h
  |cons v vs=>exact ZH (Qm x) (g (WF h))
structure y4(f:Zo)(D:AM)(P:Z9):Prop where
 hc:pI P f D
 hb:∀vs:Za Zb,vs.length=D.ps.length-1->∀rest:Za Zb,U0 (D1 f).fd ⟨vs++rest,[]⟩=(R4 rest>>=λt=>pure ((D.ps.map Af).zip (vs++[t])))
def CR(ft:Zo->Ze AM):Prop:=∀f D,ft f=Zd D->∀P,match ER f with
 |none=>LQ f D P
 |some _=>y4 f D P
theorem Ok.in1(o:Ok c (d+1)):Ok c.in1 d:=⟨⟨o.gd.kx,o.gd.nolimit,o.gd.mods,o.gd.glob⟩,by have:=o.dep;show c.A.depth+d<=_;exact YB this,o.han,by
 exact unq o.un (by decide)⟩
theorem Ok.und(o:Ok c (d+1)):Ok (c.und (.builtin "type.__call__" ⟨.ref C::rest,kw⟩)) d:=⟨⟨o.gd.kx,o.gd.nolimit,o.gd.mods,o.gd.glob⟩,by
 generalize(by
  unfold Code.weight;refine Ab ((show(V7 "type.__call__" ⟨.ref C::rest,kw⟩).isCreation=Zm from rfl) ..) (Ab ((show(V7 "type.__call__" ⟨.ref C::rest,kw⟩).isGuard=Zh from(show guardIds.contains "type.__call__"=Zh by decide+kernel)) ..) ?_);refine Ab ((show(V7 "type.__call__" ⟨.ref C::rest,kw⟩).isCaller=Zh from rfl) ..) ?_;rfl:(V7 "type.__call__" ⟨.ref C::rest,kw⟩).weight=1)=this
 exact dpq this o.dep,o.han,by
 exact unq o.un (Zv (Zw rfl:(V7 "type.__call__" ⟨.ref C::rest,kw⟩).cUnits<=50) (by decide))⟩
section
theorem Ec.temps{vs:Za V}{xs:Za Zb}(j:∀G,Ay G vs xs)(h:Ec c ⟨xs.zip vs++T,L,F⟩ cd P):Ec c ⟨T,L,F⟩ cd P:=λst g=>xE g λG m=>h st ⟨G,Me m (j G)⟩
theorem Ec.aaa(h:Ec c σ cd λv g=>(v,.val v')∈g.T/\Q g):Ec c σ cd λv g=>v=v'/\Q g:=λs m=>Xi (h s m) λr C z=>by
 rcases r with e|(_|_|_|v)
 ·exact z
 ·exact z
 ·exact z
 ·exact z
 ·refine Am z λg j B A=>?_;obtain⟨G,u⟩:=j;exact AU g ⟨G,u⟩ ((u.temps _ B:VR G (.val v') v).zI) A
end
theorem NO:∀{xs:Za Zf} {ws:Za W} {vs:Za Zb} {g:Za Zf} {r:Za (Zf×Ze W)},NP xs ws g=Zd r->AK m n T ws vs->
 ∃pv:Za V,pv.length=xs.length/\BA T vs pv/\RR m n r (DY ((xs.map Af).zip pv) (g.map Af)):=by
 intro xs
 induction xs with
 |nil=>
  intro ws vs g r h e;cases ws with
  |cons=>exact nj h
  |nil=>
   revert e;refine(?_:(vs=[])->_);intro e;subst e;exact sj h (M:=λr=>∃pv:Za V,pv.length=0/\BA T [] pv/\RR m n r (DY (([]:Za Zi).zip pv) (g.map Af))) (AU ([]) rfl .nil (d4 g))
 |cons x xs C=>
  intro ws vs g r h e;cases ws with
  |nil=>exact nj h
  |cons w ws=>
   refine An e λv' t e s A=>Ag s λv u j=>?_;subst e;exact Ah h λE hb h=>Am (C hb A) λpv D z B=>sj h (M:=λr=>∃pv:Za V,pv.length=(x::xs).length/\BA T (v'::t) pv/\RR m n r (DY (((x::xs).map Af).zip pv) (g.map Af))) (AU (v::pv) (ZH _ D) (.cons j z) (At v _ rfl u B))
theorem AK.length:∀{vs:Za Zb},AK m n T ws vs->vs.length=ws.length:=by
 induction ws with
 |nil=>exact λe=>ZH XS (e:_=[])
 |cons g g j=>exact λh=>An h λg g e g h=>(ZH XS e).trans (ZH UU (j h))
theorem AK.app(g:AK m n T ws vs)(h:AK m n T E5 vs'):AK m n T (ws++E5) (vs++vs'):=by
 revert vs
 induction ws with
 |nil=>exact λe=>(e:_=[])▸h
 |cons u u r=>exact λg=>An g λv' t e s j=>e▸At v' (t++vs') rfl s (r j)
theorem AK.dflt:∀{l:Za V} {g:Za Zb},g.length=l.length->AK m n (g.zip l++T) (l.map .p) g:=by
 intro l
 induction l with
 |nil=>exact @λg h=>VO.mp h
 |cons v l r=>
  intro g h;cases g with
  |nil=>exact W4 h
  |cons x g=>exact At x g rfl ⟨v,rfl,.head _⟩ (AK.ext Ext.refl (λp j=>.tail _ j) (r (WF h)))
theorem AK.take:∀{ws:Za W} {vs:Za Zb} (i:Zf),AK m n T ws vs->AK m n T (ws.take i) (vs.take i):=by
 intro ws
 induction ws with
 |nil=>intro vs i e;refine Ab ((e:vs=[]) ..) ?_;refine Ab Vw ?_;refine Ab Vw ?_;rfl
 |cons w ws g=>
  intro vs i e;cases i with
  |zero=>rfl
  |succ i=>exact An e λv' t e j h=>e▸At v' _ rfl j (g i h)
theorem AK.drop:∀{ws:Za W} {vs:Za Zb} (i:Zf),AK m n T ws vs->AK m n T (ws.drop i) (vs.drop i):=by
 intro ws
 induction ws with
 |nil=>intro vs i e;refine Ab ((show vs=[]from e) ..) ?_;refine Ab Vx ?_;refine Ab Vx ?_;rfl
 |cons w ws g=>
  intro vs i e;cases i with
  |zero=>exact e
  |succ i=>exact An e λv' t e j h=>e▸g i h
theorem AK.arr(i:Zf)(h:AK m n T ws vs)(k:AK m n T E5 vs'):AK m n T (Mine.arr i ws E5) (Mine.arr i vs vs'):=by
 unfold Mine.arr;exact Ab h.length ((h.take _).app (k.app (h.drop _)))
section
variable{s:S}
theorem tv:∀{b:Za Zf},yi r b=Zm->r=b:=by
 induction r with
 |nil=>exact λ{b} h=>(List.isEmpty_iff.mp h).symm
 |cons x xs g=>
  intro b h;cases b with
  |nil=>exact ZK h
  |cons y ys=>
   have h:=Yi.mp h;refine Ab (Z4 h.1 ..) (Ab (g h.2 ..) ?_);rfl
theorem Kr:∀{ws:Za W} {g:Za Zf} {r:Za (Zf×Ze W)},NP rd ws g=Zd r->ws.length=rd.length:=by
 induction rd with
 |nil=>
  intro ws g r h;cases ws with
  |nil=>rfl
  |cons=>exact nj h
 |cons x rd j=>
  intro ws g r h;cases ws with
  |nil=>exact nj h
  |cons w ws=>exact Ah h λs e s=>ZH UU (j e)
theorem dz(hr:Co ft rec)(ok:Ok c (d+1))(fb:DX c X.env X.own){D:AM}{body:Za Yv}{scope:Yh}{env:YG}{own:Za Zo}{T G:Tm}{L L1:Za (Zo×LO)}{H:Za (Zf×LW)}{nx:Zf}{rho r:Za (Zf×Ze W)}{rho' Y:Za (Zi×Ze V)}{k:W->S->Prop}
 (hq:d3 scope.names Zm body D.body) (I:Je env own scope.names) (hT:∀p∈T,p∈G) (Q:RR m nx r Y) (B:RR m nx rho rho') (hh:HR m nx H L1) (A:L.Perm (L1++X.R)) (h:rec d (.sts D.body (Bs rho k)) ⟨H,nx,r⟩):
 Ev (c.call G ⟨X.env,X.own,rho'⟩ env) ⟨[],L,⟨env,own,Y⟩⟩ (VB body env) (wN (Ap m nx X T k) G ⟨X.env,X.own,rho'⟩):=by
 refine(hr.sts (⟨ok.call,I.ok,I.ow,λz_=>I.cl,DX.call (F:=⟨X.env,X.own,rho'⟩) fb I,λz_=>DX.head (F:=⟨X.env,X.own,rho'⟩) fb⟩:Gx (c.call G ⟨X.env,X.own,rho'⟩ env) d _ Zm ⟨X.R,env,own⟩) hq (.mk Q hh A:Rel m ⟨H,nx,r⟩ ⟨X.R,env,own⟩ ⟨[],L,⟨env,own,Y⟩⟩) h).mono λfl σ1 O=>O.cp λm1 s1 K r1 g hg E=>?_;obtain⟨H1,C,rho1⟩:=s1;cases r1 with
 |@mk T1 L1' P L2 hr1 z s=>
  cases g with
  |nx=>
   cases hg;exact⟨m1,⟨H1,C,rho⟩,K,.mk (B.ext K) z s,λp A=>.tail _ (hT _ A),.p .none,wp (.head _),E⟩
  |br=>exact E.elim
  |ct=>exact E.elim
  |rt w=>
   refine Ag hg λv' e j=>?_;obtain⟨u,wr,U⟩:=j;subst e;exact⟨u,U,m1,⟨H1,C,rho⟩,K,.mk (B.ext K) z s,λp A=>.tail _ (hT _ A),w,⟨u,wr,.head _⟩,E⟩
theorem Gl(hf:CR ft)(hr:Co ft rec)(ok:Ok c d)(fb:DX c X.env X.own){f:Zo}{kwn:Za Zf}{ws:Za W}{vs:Za Zb}{k:W->S->Prop}(rel:Rel m s X σ)(u:AK m s.nx σ.T ws vs)(h:Hr ft rec d f kwn ws k s):
 Ec c σ (.call (.ref f) ⟨vs.take (vs.length-kwn.length),(kwn.map Af).zip (vs.drop (vs.length-kwn.length))⟩) (Ap m s.nx X σ.T k):=by
 unfold Hr at h;split at h
 ·exact h.elim
 rename_i eS;refine Ad h λD eD j=>?_;clear h;cases d with
 |zero=>exact j.elim
 |succ d=>
  dsimp only at j;split at j
  ·exact j.elim
  rename_i E;generalize j=h;clear j;generalize(tv E)=E;subst E;refine Ad h λr Q h=>?_;generalize(by
   split at h
   ·exact xE h λR h=>h
   ·exact h:rec d (.sts D.body (Bs s.rho k)) ⟨s.H,s.nx,r⟩)=h
  generalize(hf f D eD c.w.params)=g;rw[eS]at g;dsimp only at g;cases g with
  |mk hc hb=>
   refine CC (EM hc) λhl P chk hq=>?_;cases rel with
   |@mk T L rho' L1 I hh A=>
    generalize(by
     have:=Kr Q;unfold Mine.arr at this;simp only[Zt,Qz,QB,Zz]at this;exact if1 this u.length:vs.length=D.ps.length-D.dflt.length)=hlen
    refine Ag (hb vs hlen) λC B K=>?_;generalize((B λR R=>ZP).length:C.length=D.dflt.length)=O;refine Am (NO Q (AK.arr _ (u.ext Ext.refl λp A=>Zq _ A) (AK.dflt O):AK m s.nx (C.zip D.dflt++T) (Mine.arr D.kwn.length ws (D.dflt.map .p)) (Mine.arr D.kwn.length vs C))) λpv z hts G=>Ec.temps B (iK (D.ps.map Af) (D.oth.map Af) ok.wd ok.kx hl P ok.room ?_ (DW hts (by rw[Zz];exact z)) (Hv (by rw[Zz];exact z)) chk λenv own he=>?_)
    ·intro st Y;exact xE Y λGm U=>kp_binds (ok.kx.keeps (Ar.in1.mp U).old) K _ _ _ _ (AU _ ⟨Gm,U⟩ rfl rfl)
    ·exact dz hr ok fb hq he (λp A=>Zq _ A) G I hh A h
theorem BA.aa1(h:AK m n T ws vs)(g:(v',D8)∈T):AK m n T (ws++[.p D8]) (vs++[v']):=AK.app h (At v' [] rfl ⟨D8,rfl,g⟩ rfl:AK m n T [.p D8] [v'])
theorem da(Q:CR ft)(U:Co ft rec)(ok:Ok c d)(Y:DX c X.env X.own){f n:Zf}(eS:ER f=Zd n){ws:Za W}{vs xs:Za Zb}{items:Za V}{k:W->S->Prop}(rel:Rel m s X σ)(j:AK m s.nx σ.T ws vs)(hi:BA σ.T xs items)(P:items.length<=16777216)(h:bJ ft rec d f ws items k s):
 Ec c σ (.call (.ref f) ⟨vs++xs,[]⟩) (Ap m s.nx X σ.T k):=by
 refine Ad h λD K G=>?_;clear h;cases d with
 |zero=>exact G.elim
 |succ d=>
  refine Ad G λr I h=>?_;generalize(by
   split at h
   ·exact xE h λz_ h=>h
   ·exact h.elim:rec d (.sts D.body (Bs s.rho k)) ⟨s.H,s.nx,r⟩)=h
  generalize(Q f D K c.w.params)=g;rw[eS]at g;dsimp only at g;cases g with
  |mk hc hb=>
   refine CC (EM hc) λhl E chk O=>?_;cases rel with
   |@mk T L rho' L1 C R A=>
    generalize(by
     have:=Kr I;rw[Zt,<-j.length]at this;exact Uk this:vs.length=D.ps.length-1)=hlen
    refine aR (D.ps.map Af) (D.oth.map Af) ok.wd ok.kx hl E ok.room chk (Ab (hb vs hlen xs ..) ?_);refine Ev.bind (Fg hi (λv'=>Ev.pure ?_) P);generalize(BA.aa1 (j.ext Ext.refl λp A=>.tail _ A) (.head _):AK m s.nx ((v',.tup items)::T) (ws++[.p (.tup items)]) (vs++[v']))=u;refine Am (NO I u) λpv z hts B=>?_;exact Dm _ _ _ rfl (DW hts (by refine Ab (Zz ..) ?_;exact z)) (Hv (by refine Ab (Zz ..) ?_;exact z)) (λenv own he=>dz U ok Y O he (λp A=>.tail _ A) B C R A h)
noncomputable def sT(K:YJ)(C:Zo)(x:Zi):Bool:=Wj K (.ref C) "__getattribute__"==Zd (Zd (.builtin "object.__getattribute__"))&&SZ K C&&(match Wj K (.ref C) x with|some a=>noGet K a|none=>Zh)
noncomputable def setB(K:YJ)(C:Zo)(x:Zi):Bool:=Wj K (.ref C) "__setattr__"==Zd (Zd (.builtin "object.__setattr__"))&&Qo K C&&PO K C x==Zd Zs&&SZ K C
noncomputable def jx(K:YJ)(C:Zo)(x:Zi)(f:Zo):Bool:=Wj K (.ref C) "__getattribute__"==Zd (Zd (.builtin "object.__getattribute__"))&&Wj K (.ref C) "__getattr__"==Zd Zs&&Wj K (.ref C) x==Zd (Zd (.ref f))&&Su K (.ref f)==Zd (.type "function")&&Q8 K (.ref f)
noncomputable def Kf(K:YJ)(C f:Zo):Bool:=OV K C&&Wj K (.ref C) "__init__"==Zd (Zd (.ref f))&&Su K (.ref f)==Zd (.type "function")&&Q8 K (.ref C)
theorem pj(P:Z9):(vZ.all λp=>p.2.all λx=>sT (kx P) p.1 (Af x)&&setB (kx P) p.1 (Af x)&&Vl x 192)=true:=by kernel_rfl
theorem ju(P:Z9):(jw.all λp=>p.2.all λq=>jx (kx P) p.1 (Af q.1) q.2)=true:=by kernel_rfl
theorem Nt(P:Z9):(II.all λp=>Kf (kx P) p.1 p.2)=true:=by kernel_rfl
theorem iW(P:Z9):pS=[(732,[(44,663)])]/\(Wj (kx P) (.ref 732) "__getattribute__"=Zd (Zd (.builtin "object.__getattribute__"))/\Wj (kx P) (.ref 732) "__getattr__"=Zd Zs)/\∃rest,recIn (kx P) 664 "property"=Zd (.ref 663::rest):=by
 refine⟨rfl,⟨by kernel_rfl,by kernel_rfl⟩,[.none,.none,.none,.str (Zc "punctuation_chars") 1119,.bool Zh],by kernel_rfl⟩
theorem eW(P:Z9)(es:Za Zy)(n:Zf):PP (kx P) 732 (Zd (Uu es n)) (Af 44)=Zd (.bind (.builtin "property.__get__") (.ref 664)):=by kernel_rfl
theorem jz:∀{l:Za Zf},Ir x l=Zm->x∈l:=by
 intro l
 induction l with
 |nil=>
  intro h;exact ZK h
 |cons y r g=>
  intro h;rw[su]at h;split at h
  ·rename_i e;exact Ab (Z4 e ..) (.head _)
  ·exact .tail _ (g h)
theorem jj:(KW.map Zc).Nodup:=by decide+kernel
theorem Ip:KW.length=192:=by rfl
theorem bj(j:x<192)(g:y<192)(h:Af x=Af y):x=y:=by
 generalize(λn h=>by
  refine Ab (List.getElem_map ..) ?_;unfold Af;refine Ab (Za.getD_eq_getElem?_getD ..) ?_;refine Ab (Za.getElem?_eq_getElem (by rw[Ip];exact h) ..) ?_;rfl:∀n,(h:n<192)->Af n=(KW.map Zc)[n]'(by refine Ab (Zz ..) ?_;refine Ab (Ip ..) ?_;exact h))=e
 rw[e x j,e y g]at h;exact(List.getElem_inj jj).mp h
theorem NX.find(D:x<192):∀{l:Za (Zf×W)} {vs:Za (Zi×V)} {w:W},(∀p∈l,p.1<192)->NX m n l vs->Ai x l=Zd w->∃v,vs.lookup (Af x)=Zd v/\WR m n w v:=by
 intro l
 induction l with
 |nil=>
  intro g g g g h;trivial
 |cons s l r=>
  obtain⟨y,u⟩:=s;intro g w hb j h;obtain⟨v,t,e,E,B⟩:=j;subst e;rw[EW]at h;split at h
  ·rename_i q;generalize(Z4 q)=this;subst this;cases h;exact mEA v (by simp) E
  ·rename_i q;refine Ag (r (λp z=>hb p (.tail _ z)) B h) λC G A=>mEA C ?_ A;generalize(by
    rw[Rg];intro e;have:=bj D (hb (y,u) (.head _)) e;subst this;simp at q:(Af x==Af y)=Zh)=ne
   rw[YE,ne];exact G
theorem NX.none(z:x<192):∀{l:Za (Zf×W)} {vs:Za (Zi×V)},(∀p∈l,p.1<192/\p.1≠x)->NX m n l vs->vs.lookup (Af x)=none:=by
 intro l
 induction l with
 |nil=>
  intro r r e;generalize(e:_=[])=e;subst e;rfl
 |cons g l j=>
  intro r hb h;obtain⟨v,t,e,A,u⟩:=h;subst e;generalize(by
   rw[Rg];intro e;exact(hb (g.1,g.2) (.head _)).2 (bj z (hb (g.1,g.2) (.head _)).1 e).symm:(Af x==Af g.1)=Zh)=ne
  rw[YE,ne];exact j (λp s=>hb p (.tail _ s)) u
theorem NX.put(B:x<192)(r:WR m n w D8):∀{l:Za (Zf×W)} {vs:Za (Zi×V)},(∀p∈l,p.1<192)->NX m n l vs->NX m n (putA x w l) (putD (Af x) D8 vs):=by
 intro l
 induction l with
 |nil=>
  intro u u e;have e:_=[]:=e;subst e;exact At D8 ([]) rfl r rfl
 |cons g l j=>
  intro u hb h;obtain⟨A,t,e,C,s⟩:=h;subst e;rw[iV];refine Ab DM ?_;split
  ·rename_i q;generalize(Z4 q)=this;subst this;exact Ab (if_pos (by simp) ..) (At D8 t rfl r s)
  ·rename_i q;have D: ¬Af g.1=Af x:=by
    intro e;generalize(bj (hb (g.1,g.2) (.head _)) B e)=this;subst this;simp at q
   exact Ab (Yc D ..) (At A _ rfl C (j (λp z=>hb p (.tail _ z)) s))
theorem nu(r:x<192):∀{l:Za (Zf×W)},(∀p∈l,p.1<192)->∀p∈putA x w l,p.1<192:=by
 intro l
 induction l with
 |nil=>
  intro s p g;rcases Zr.mp g with rfl|g
  ·exact r
  ·exact(ZT g ZE)
 |cons h l j=>
  intro hb p g;rw[iV]at g;split at g
  ·rcases Zr.mp g with rfl|g
   ·exact hb (h.1,h.2) (.head _)
   ·exact hb p (.tail _ g)
  ·rcases Zr.mp g with rfl|g
   ·exact hb (h.1,h.2) (.head _)
   ·exact j (λp g=>hb p (.tail _ g)) p g
theorem fA(h:jM E7=Zd q):E7=.inst q.1 q.2:=
 LW.rec (motive:=λE7=>jM E7=Zd q->E7=.inst q.1 q.2) n1 n1 n1 n2 n2 n1 n2 n1 n1 n2 (λy z h=>Yd h▸rfl) n1 E7 h
theorem bF(h:bG E7=Zd a):E7=.attrs a:=
 LW.rec (motive:=λE7=>bG E7=Zd a->E7=.attrs a) n1 n1 n1 n2 n2 n1 n2 n1 (λy h=>ZH _ (Yd h)) n2 n2 n1 E7 h
theorem HE(rel:Rel m s X σ)(I:BO m s.nx σ.T w w')(h:IG w s.H=Zd i):
 ∃(x z:Zo) (vs:Za (Zi×V)),(w',.ref x)∈σ.T/\WR m s.nx w (.ref x)/\(x,.raw (BP i.C z))∈σ.L/\(z,.dict vs)∈σ.L/\z=m i.dl/\(∀p∈i.l,p.1<192)/\NX m s.nx i.l vs/\Ai i.dl s.H=Zd (.attrs i.l):=by
 refine Ah h λl K h=>Ah h λx G h=>Ah h λq Q h=>Ah h λy A h=>Ah h λa U h=>?_;cases h;cases Fj K;rw[fA Q]at G;rw[bF U]at A;refine Ag I λu D j=>?_;cases D.2;refine rel.cp0 λhr E B=>Am (E.get G) λlo P hl Y=>Am (E.get A) λO r g Y=>GC g λhb vs g R=>?_;cases hl.2;cases g;exact Ga _ _ vs j (Ba D (B.mem_iff.mpr (Zk _ P)) (B.mem_iff.mpr (Zk _ r)) (Ba rfl hb R A))
theorem bL{v:V}(h:hnd w=Zm)(g:WR m n w v):Handed v:=by
 cases w with
 |p u=>
  generalize(g:v=u)=e;subst e;cases v with
  |val x=>exact h
  |_=>trivial
 |o l=>
  obtain⟨j,e⟩:=g;subst e;rfl
theorem l5(P:Z9)(h:lE n x=Zm):sT (kx P) n (Af x)=Zm/\setB (kx P) n (Af x)=Zm/\x<192:=by
 unfold lE at h
 set_option tactic.hygienic true in split at h
 ·rename_i l e;generalize(Yj.mp (pj P) _ (lkp_mem e))=j;generalize(Yj.mp j _ (jz h))=g;simp only[Z6]at g;exact Cp g.1.1 g.1.2 (Zw g.2)
 ·cases h
theorem iX(h:pT n name=Zd d):n=732/\name=44/\d=663:=Ah h λl e h=>by
 have e:=Yz.mp (lkp_mem e:(n,l)∈ [(732,[(44,663)])]);cases e;have h:=Yz.mp (lkp_mem h);cases h;exact⟨rfl,rfl,rfl⟩
theorem NX.length:∀{l:Za (Zf×W)} {vs:Za (Zi×V)},NX m n l vs->vs.length=l.length:=by
 intro l
 induction l with
 |nil=>
  intro g e;generalize(e:_=[])=e;subst e;rfl
 |cons r g j=>
  exact @λg q=>An q λg g e g h=>e▸ZH UU (j h)
theorem lC(hf:CR ft)(hr:Co ft rec)(ok:Ok c d)(fb:DX c X.env X.own){w:W}{w':Zb}{name:Zf}{k:W->S->Prop}(rel:Rel m s X σ)(U:BO m s.nx σ.T w w')(h:qI ft rec d w name k s):Ev c σ (Ve w' (Af name) Zm) (Ap m s.nx X σ.T k):=by
 refine Ad h λi ei h=>Cd (HE rel U ei) λx dx vs L I H O edx hb ha e4=>DO h (λf ep h=>?_) λh=>?_
 ·skip
  refine Du (iW c.w.params) λe0 j q_=>xE q_ λrest g3=>Du (iX ep) λeC r z=>?_;subst r;subst z;rw[eC]at H;cases d with
  |zero=>exact h.elim
  |succ d=>
  refine rm ok.kx L H O j.1 j.2 g3 (λes n=>eW _ es n) ((Gl hf hr ok.in1 fb.in1 (kwn:=[]) (ws:=[w]) (vs:=[.ref x]) (rel.tmp (T':=(.ref x,.ref x)::σ.T)) (At _ _ rfl ⟨_,I,.head _⟩ rfl) h).mono λv σ' q=>q.cp λm1 s1 x1 Q i1 P q1 D=>Ag q1 λu A B=>?_);unfold fJ at D;split at D
  ·rename_i K;exact⟨u,B,bL K A,m1,s1,x1,Q,λp Y=>i1 _ (.tail _ Y),P,⟨u,A,B⟩,D⟩
  ·exact D.elim
 ·cases ea:lE i.C name with
  |false=>rw[ea]at h;exact h.elim
  |true=>
   rw[ea]at h;refine Ad h λv R h=>?_;unfold fJ at h;split at h
   ·rename_i K;refine Du (l5 c.w.params ea) λq1 q2 q3=>Ag (ha.find q3 hb R) λvv hv A=>?_;simp only[sT,Z6,Wb]at q1;refine xA q1 λg E=>?_;split at E
    ·rename_i a G;exact iI ok.kx L H O hv (bL K A) g.1 g.2 G E λv'=>fin rel A h
    ·cases E
   ·exact h.elim
theorem Mo(P:Z9):Hd (kx P) 763 (Af 87) 764 0=Zm/\Hd (kx P) 763 (Af 88) 765 1=Zm/\Hd (kx P) 763 (Af 89) 766 2=true:=⟨by kernel_rfl,by kernel_rfl,by kernel_rfl⟩
theorem JJ(P:Z9)(h:K4 name=Zd j):∃p,Hd (kx P) 763 (Af name) p j=true:=by
 refine Du (Mo P) λr g s=>?_;unfold K4 at h;split at h
 ·rename_i e;refine Ab (Z4 e ..) ?_;cases h;exact⟨_,r⟩
 ·split at h
  ·rename_i e;refine Ab (Z4 e ..) ?_;cases h;exact⟨_,g⟩
  ·split at h
   ·rename_i e;refine Ab (Z4 e ..) ?_;cases h;exact⟨_,s⟩
   ·cases h
theorem bz(h:bA E7=Zd ws):E7=.slots 763 ws:=
 LW.rec (motive:=λE7=>bA E7=Zd ws->E7=.slots 763 ws) n1 n1 n1 n2 (λC l h=>AH h λe h=>sj h (M:=λws=>LW.slots C l=.slots 763 ws) (Z4 e▸rfl)) n1 n2 n1 n1 n2 n2 n1 E7 h
theorem GH{P:Prop}(h:FO H w=Zd ws)(k:∀l,w=.o l->Ai l H=Zd (.slots 763 ws)->P):P:=Ah h λl e h=>Ah h λq g h=>k l (Fj e) (bz h▸g)
theorem dK(h:FO H w=Zd ws):∃l,w=.o l/\Ai l H=Zd (.slots 763 ws):=GH h λl e g=>mEA l e g
theorem j3{P:Prop}(h:sx H w=Zd l)(k:∀a,w=.o l->Ai l H=Zd (.liter a 0)->P):P:=Ah h λl e h=>Ah h λq g h=>by
 cases q with
 |liter a i=>cases i with
  |zero=>cases h;exact k a (Fj e) g
  |succ=>exact nj h
 |_=>exact nj h
theorem Fc.aa2:∀{ws:Za W} {vs:Za V} {j:Zf},Fc m n ws vs->tS ws j=Zd w->∃v,vs[j]? =Zd v/\WR m n w v:=by
 intro ws
 induction ws with
 |nil=>exact @λg g g h=>nj h
 |cons x r D=>
  intro vs j A e;refine An A λv t B C z=>?_;subst B;cases j with
  |zero=>cases e;exact mEA v rfl C
  |succ j=>exact Ag (D z e) λu E s=>mEA u E s
theorem Fc.aa3(h:WR m n w D8):∀{ws:Za W} {vs:Za V} (j:Zf),Fc m n ws vs->Fc m n (ws.set j w) (vs.set j D8):=by
 intro ws
 induction ws with
 |nil=>
  intro vs j e;revert e;refine(?_:(vs=[])->_);intro e;subst e;rfl
 |cons x r s=>
  intro vs j e;refine An e λu t e z g=>?_;subst e;cases j with
  |zero=>exact At D8 t rfl h g
  |succ j=>exact At u _ rfl z (s j g)
theorem Fc.setS{vs:Za V}(j:Zf)(g:Fc m n ws vs)(h:WR m n w D8):Fc m n (Mine.setS j w ws) (Mine.setS j D8 vs):=by
 unfold Mine.setS;refine Ab g.length ?_;split
 ·exact g.aa3 h j
 ·exact g.app h
theorem NS(U:CR ft)(hr:Co ft rec)(ok:Ok c d)(fb:DX c X.env X.own){w:W}{w':Zb}{name:Zf}{k:W->S->Prop}(rel:Rel m s X σ)(G:BO m s.nx σ.T w w')(h:lD ft rec d w name k s):Ev c σ (Ve w' (Af name) Zm) (Ap m s.nx X σ.T k):=by
 refine DO h (λj Y h=>?_) λh=>?_
 ·refine Ad h λws D h=>Ad h λv P g=>GH D λl O C=>xE (JJ c.w.params Y) λp hb=>Ag G λu A z=>?_;subst O;cases A.2;refine rel.cp0 λK I H=>Am (I.get C) λlo r hl E=>Ag hl λvs e L=>Ag (L.aa2 P) λv2 R B=>?_;subst e;unfold fJ at g
  set_option tactic.hygienic true in split at g
  ·rename_i Q;exact GK ok.kx z (H.mem_iff.mpr (Zk _ r)) hb R (bL Q B) λv'=>fin rel B g
  ·exact g.elim
 ·cases en:ZX name 18 with
  |false=>rw[en]at h;exact lC U hr ok fb rel G h
  |true=>
   rw[en]at h;cases Z4 en;refine Ad h λl C g=>j3 C λa D eq=>Ag G λu A z=>?_;subst D;cases A.2;refine rel.cp0 λK I H=>Am (I.get eq) λlo r hl E=>Am hl.2 λo e E hi=>?_;subst e;cases hi rfl;exact mR z (H.mem_iff.mpr (Zk _ r)) λb=>BY (xo:=.bnx _) (lo:=.raw (Gu (m _))) rel (λm' x=>⟨Xh A.1,by refine Ab (x.eq _ A.1 ..) ?_;rfl⟩) g (λE h=>.tail _ h) (.head _)
set_option tactic.hygienic true in
theorem cC(ok:Ok c d){w v:W}{w' v':Zb}{name:Zf}{k:S->Prop}(rel:Rel m s X σ)(hw:BO m s.nx σ.T w w')(hv:BO m s.nx σ.T v v')(h:setA w name v s k):Ev c σ (QW w' (Af name) v') (Dr m s.nx X σ.T k):=by
 unfold setA at h;split at h
 ·rename_i j ej;unfold pK at h;split at h
  ·refine Ad h λws ew h=>Cb λPP17 C=>Ag (dK ew) λl el0 el=>?_;cases el0;refine xA h λhj h=>xE (JJ c.w.params ej) λp hb=>?_;obtain⟨T,L,F⟩:=σ;refine An (Ch rel el h) λlo L1 K z g=>?_;obtain⟨vs,rfl,H⟩:=z;refine Ag hv λu wr D=>AF (g _ ⟨_,rfl,H.setS j wr⟩) λL2 O up en q Q=>Ag hw λu1 A I=>?_;obtain⟨R,U⟩:=A;subst U;exact C (Ev.perm K (dZ ok.kx I D up hb (Ab H.length (Zw hj)) ⟨m,O,en▸Ext.refl,q,λR h=>h,Q⟩))
  ·exact h.elim
 refine Ad h λi ei h=>Cd (HE rel hw ei) λx dx vs h1 hwx h2 h3 Y hb ha e4=>?_;obtain⟨T,L,F⟩:=σ;split at h
 ·rename_i ea;split at h
  ·rename_i G;refine Cb λPP18 B=>Du (l5 c.w.params ea) λq1 q2 q3=>An (Ch rel e4 h) λlo L1 K hlo g=>GC hlo λR P e5 E=>?_;subst e5;refine Ag hv λu wr D=>AF (g (.dict (putD (Af name) u P)) ⟨nu q3 hb,_,rfl,E.put q3 wr hb⟩) λL2 O up en q Q=>?_;simp only[setB,Z6,Wb]at q2;refine xA q2 λr p4=>?_;obtain⟨⟨p1,p2⟩,p3⟩:=r;refine B ?_;rw[<-Y]at up;exact Ev.perm K (iz ok.kx h1 (K.mem_iff.mp h2) D up p1 p2 p3 p4 (Ab E.length (Zv (Zw G) (ZQ _ _))) ⟨m,O,en▸Ext.refl,q,λR h=>h,Q⟩)
  ·exact h.elim
 ·exact h.elim
end
end
section
theorem b1(P:Z9):Qk (kx P) ⟨ZM,P⟩ (Yu .IsNot (.ref 597) (.ref 350))=Zd (.bool Zm):=by kernel_rfl
theorem b2(P:Z9):Qk (kx P) ⟨ZM,P⟩ (Yu .IsNot (.ref 597) (.ref 597))=Zd (.bool Zh):=by kernel_rfl
theorem b3(P:Z9):Qk (kx P) ⟨ZM,P⟩ (Rq "object.__new__" (.ref 597))=Zd ():=by kernel_rfl
theorem b4(P:Z9):Qk (kx P) ⟨ZM,P⟩ (Vm "object.__new__" ⟨[.ref 597],[]⟩)=Zd ():=by kernel_rfl
theorem b5:QV [] (.type "object") (.type "type") "__new__"=Zd (.val (.builtin "object.__new__")):=by kernel_rfl
theorem b6:Sd "object"=false:=by kernel_rfl
theorem b7:V1 (.type "object")=pure (.type "type"):=by kernel_rfl
theorem b8(P:Z9):EK (kx P) 597=true:=by kernel_rfl
section
theorem vj(ok:Ok c (d+1))(A:(Yn 597,V.val (.ref 597))∈T)(z:(v',D8)∈T)
 (h:∀x r s,(∀p∈T,p∈s)->(.ref x,V.val (.ref x))∈s->P (.ref x) ⟨s,(x,.raw (BP 597 r))::(r,.dict [])::L,F⟩):Ec c ⟨T,L,F⟩ (.call (.ref 90) ⟨[.ref 597,v'],[]⟩) P:=by
 generalize ok.kx=X;refine' aR (K:=kx c.w.params) [Zc "cls",Zc "args",Zc "kwargs"] [] ok.wd X (qx (f:=90) rfl) ?hcd ok.room ?chk ?_
 case hcd=>kernel_rfl
 case chk=>kernel_rfl
 refine(?_:Ev c.in1 ⟨T,L,F⟩ (R4 [v']>>=λt=>alloc {cls:=.type "dict",data:=.dict #[]}>>=λq=>pure [(Zc "cls",.ref 597),(Zc "args",t),(Zc "kwargs",.ref q)]) _);refine Ev.bind (Fg (.cons z .nil) (λt=>Ev.bind (iQ rfl λq=>Ev.pure ?_)) (by exact YH _));refine Dm _ _ ([(Zc "cls",.val (.ref 597)),(Zc "args",.tup [D8]),(Zc "kwargs",.val (.ref q))]) rfl ?_ rfl (λenv own j=>?_)
 ·exact .cons (.tail _ (.tail _ A)) (.cons (.tail _ (.head _)) (.cons (.head _) .nil))
 ·generalize(ok.call:Ok (c.call ((Yn q,V.val (Yn q))::(t,V.tup [D8])::T) F env) d)=g;refine Bv (ve (DZ (Dy (Bl ?_ rfl))));refine Ia j.ok (by exact .head _) (.head _) (CH g.gd j.ok (by decide) (by decide) (iB g.kx (b1 _) ?_));refine CS (Dy (Bl ?_ rfl));refine Ia j.ok (by exact .head _) (.head _) (CH g.gd j.ok (by decide) (by decide) (iB g.kx (b2 _) ?_));refine CS (Dl ?_);refine Bv (Ih ?_);refine CY ?_ (CO rfl (by decide) rfl (by exact ZQ _ _));refine CH g.gd j.ok (by decide) (by decide) (rE b7 b6 b5 rfl ?_);refine cF Kp.builtin ?_ (Av rfl) (Cs (by decide));refine BB ?_ (Av rfl);refine Ia j.ok (by exact .head _) (.head _) (Ct ?_);exact iC g.kx (b8 _) (b3 _) (b4 _) λx r=>mEA _ (.head _) (h x r _ (λp u=>.tail _ (.tail _ (.tail _ u))) (.head _))
end
theorem b9(P:Z9):readsIn (kx P) 597 (.type "type")=true:=by kernel_rfl
theorem wM(P:Z9):QV (kx P) (.ref 597) (.type "type") "__new__"=Zd (.get (.builtin "staticmethod.__get__") (.ref 94) .none (.ref 597)):=by kernel_rfl
theorem b11(P:Z9):recIn (kx P) 94 "staticmethod"=Zd [.ref 90]:=by kernel_rfl
theorem zz(P:Z9):Wj (kx P) (.ref 597) "__init__"=Zd (Zd (.ref 367)):=by kernel_rfl
theorem zy(P:Z9):Su (kx P) (.ref 367)=Zd (.type "function"):=by kernel_rfl
end
section
variable{r:W}{kwn:Za Zf}{l:Za (Zf×W)}{name:Zf}{P:Zb×Za Zb->St->Prop}
section
variable{s:S}
theorem db(j:CR ft)(r:Co ft rec)(ok:Ok c d)(u:DX c X.env X.own){f:Zo}{ws:Za W}{vs:Za Zb}{k:W->S->Prop}(rel:Rel m s X σ)(g:AK m s.nx σ.T ws vs)(h:Hr ft rec d f [] ws k s):Ev c σ (Y8 (.ref f) vs) (Ap m s.nx X σ.T k):=by
 generalize(Gl j r ok u rel g h)=this;simp only[Xo,UL,XK,YV,X3,Vh]at this;exact this.call
theorem oj(P:Z9)(h:Ai n II=Zd d):Kf (kx P) n d=true:=Yj.mp (Nt P) _ (lkp_mem h)
theorem GO(h:MQ K6 r s):r=.p .none/\K6 s:=by
 cases r with
 |o=>exact(h:ZP).elim
 |p v=>
  cases v with
  |val w=>
   cases w with
   |none=>exact⟨rfl,h⟩
   |_=>exact(h:ZP).elim
  |_=>exact(h:ZP).elim
theorem jt(hf:CR ft)(hr:Co ft rec){H:Za (Zf×LW)}{nx:Zf}{rho:Za (Zf×Ze W)}{T:Tm}{L:Za (Zo×LO)}{F:Fm}(ok:Ok c (d+1))(fb:DX c X.env X.own){w:W}{vs:Za Zb}{k:W->S->Prop}(rel:Rel m ⟨H,nx,rho⟩ X ⟨T,L,F⟩)(I:AK m nx T [w] vs)
 (h:Hr ft rec d 367 [] (.o nx::[w]) (MQ (k (.o nx))) ⟨(nx,.inst 597 (nx+1))::(nx+1,.attrs [])::H,nx+2,rho⟩):
 Ev c ⟨T,L,F⟩ (Y8 (.ref 597) (vs.take (vs.length-([]:Za Zf).length)) ((([]:Za Zf).map Af).zip (vs.drop (vs.length-([]:Za Zf).length)))) (Ap m nx X T k):=by
 simp only[Xo,UL,XK,YV,X3,Vh];refine An I λv' r j hv A=>?_;subst j;revert A;refine(?_:(r=[])->_);intro A;subst A;cases d with
 |zero=>refine Ag (EJ h) λD U h=>?_;exact h.elim
 |succ d=>
  refine mF ok.kx (b8 _) (b9 _) (wM _) (b11 _) (zz _) (zy _) ?_;have ok':Ok (c.und (.builtin "type.__call__" ⟨[.ref 597,v'],[]⟩)) (d+1):=ok.und;refine Ag hv λv wr E=>Ec.temps (vs:=[.val (.ref 597)]) (xs:=[.ref 597]) (λG=>Ay.cons VR.val Ay.nil) (vj ok' (.head _) (.tail _ E) λx s T' R Y=>Dm x s ([]) rfl (.head _) (.tail _ (.head _)) ?_);have l1:nx<nx+2:=by exact YY _
  have l2:nx+1<nx+2:=by exact YI _
  obtain⟨B,e0,e1,ex⟩:∃B:Mp,B nx=x/\B (nx+1)=s/\Ext m nx B (nx+2):=
   ⟨λl=>if l=nx then x else if l=nx+1 then s else m l,by simp,by simp,⟨by exact ZF _ _,λl hl=>by simp[Yp hl,show l≠nx+1 by exact Yp (ZB hl (ZF _ _))]⟩⟩
  have rel':Rel B ⟨(nx,.inst 597 (nx+1))::(nx+1,.attrs [])::H,nx+2,rho⟩ X ⟨T',(x,.raw (BP 597 s))::(s,.dict [])::L,F⟩:=by
   cases rel with
   |@mk U U rho' L1 O hh C=>
    refine .mk (L1:=(x,.raw (BP 597 s))::(s,.dict [])::L1) (O.ext ex) (Bw (.raw (BP 597 s)) ((s,.dict [])::L1) (Ab e0 (rfl)) l1 ⟨l2,by refine Ab e1 ?_;rfl⟩ (Bw (.dict []) L1 (Ab e1 (rfl)) l2 ⟨(λp C=>(ZT C ZE)),[],rfl,rfl⟩ (hh.ext ex))) ((C.cons _).cons _)
  have hws':AK B (nx+2) T' (.o nx::[w]) [.ref x,v']:=At _ _ rfl ⟨.ref x,⟨l1,by refine Ab e0 ?_;rfl⟩,Y⟩ (At v' ([]) rfl ⟨v,wr.ext ex,R _ (.tail _ E)⟩ rfl);have u:=Gl hf hr ok' fb.und rel' hws' h;simp only[Xo,UL,XK,YV,X3,Vh]at u;refine Ec.aaa (u.mono λv σ' K=>K.cp λm1 s1 Q r1 i1 w1 P z=>?_);refine xA (GO z) λg z=>?_;subst g;exact⟨pin P,m1,s1,ex.trans Q,r1,λp C=>i1 _ (R _ (.tail _ C)),.o nx,⟨.ref x,⟨ZB l1 Q.le,by refine Ab (Q.eq nx l1 ..) ?_;refine Ab e0 ?_;rfl⟩,i1 _ Y⟩,z⟩
theorem eY(h:iZ K6 s):∃H',H'.Perm s.H/\K6 ⟨H',s.nx,s.rho⟩:=h
theorem HR.perm(p:H.Perm H'):∀{L:Za (Zo×LO)},HR m n H L->∃L',L.Perm L'/\HR m n H' L':=by
 induction p with
 |nil=>intro L h;exact⟨L,Xl _,h⟩
 |cons x p K=>
  obtain⟨l,y⟩:=x;rintro L ⟨lo,G,rfl,hl,j,h⟩;exact Ag (K h) λE z s=>mEA _ (z.cons _) (Bw lo E rfl hl j s)
 |swap x y r=>
  obtain⟨l,u⟩:=x;obtain⟨l2,P⟩:=y;rintro L ⟨lo,Q,rfl,hl,j,g,G,rfl,D,C,h⟩;exact mEA _ (X7 _ _ _) (Bw g _ rfl D C (Bw lo G rfl hl j h))
 |trans p q A B=>
  intro L h;exact Ag (A h) λG I O=>Ag (B O) λE z s=>mEA E (I.trans z) s
theorem Rel.aay(p:H'.Perm H)(rel:Rel m ⟨H,nx,rho⟩ X σ):Rel m ⟨H',nx,rho⟩ X σ:=by
 cases rel with
 |mk s r h=>
  exact Ag (HR.perm p.symm r) λL' j g=>.mk s g (h.trans (j.append_right _))
theorem om(P:Z9):Kf (kx P) 763 759=true:=by kernel_rfl
theorem sq(U:CR ft)(hr:Co ft rec)(ok:Ok c d)(fb:DX c X.env X.own){ws:Za W}{vs:Za Zb}{k:W->S->Prop}(rel:Rel m s X σ)(D:AK m s.nx σ.T ws vs)(h:yM ft rec d ws k s):
 Ev c σ (Y8 (.ref 763) vs) (Ap m s.nx X σ.T k):=by
 cases d with
 |zero=>exact h.elim
 |succ d=>
  generalize(om c.w.params)=P;simp only[Kf,Z6,Wb]at P;refine xA P λg z_=>?_;obtain⟨⟨B,R⟩,Y⟩:=g;refine mE ok.kx B R Y λx=>?_;have l1:s.nx<s.nx+1:=YI _;obtain⟨A,e0,ex⟩:∃A:Mp,A s.nx=x/\Ext m s.nx A (s.nx+1):=mEA (λl=>if l=s.nx then x else m l) (by simp) ⟨by exact YY _,λl hl=>by simp[Yp hl]⟩;have rel':Rel A ⟨(s.nx,.slots 763 [])::s.H,s.nx+1,s.rho⟩ X ⟨(.ref x,.ref x)::σ.T,(x,.slots 763 [])::σ.L,σ.F⟩:=by
   exact rel.cp λ{rho' L1} hrr hh z=>.mk (L1:=(x,.slots 763 [])::L1) (hrr.ext ex) (Bw (.slots 763 []) L1 (Ab e0 (rfl)) l1 ⟨[],rfl,rfl⟩ (hh.ext ex)) (z.cons _)
  have hws':AK A (s.nx+1) ((.ref x,.ref x)::σ.T) (.o s.nx::ws) (.ref x::vs):=At _ _ rfl ⟨.ref x,⟨l1,by refine Ab e0 ?_;rfl⟩,.head _⟩ (D.ext ex λp z=>.tail _ z);have h:Hr ft rec d 759 [] (.o s.nx::ws) (MQ (iZ (k (.o s.nx)))) ⟨(s.nx,.slots 763 [])::s.H,s.nx+1,s.rho⟩:=h;generalize(Gl U hr (Ok.und (C:=763) (rest:=vs) (kw:=[]) ok) fb.und rel' hws' h)=r;simp only[Xo,UL,XK,YV,X3,Vh]at r;refine Ec.aaa (r.mono λv σ' E=>E.cp λm1 O K Q B w1 I u=>?_);refine xA (GO u) λj u=>?_;subst j;refine Ag (eY u) λH' z G=>?_;exact⟨pin I,m1,⟨H',O.nx,O.rho⟩,ex.trans K,Rel.aay z Q,λp z=>B _ (.tail _ z),.o s.nx,⟨.ref x,⟨ZB l1 K.le,by refine Ab (K.eq s.nx l1 ..) ?_;refine Ab e0 ?_;rfl⟩,B _ (.head _)⟩,G⟩
theorem nE(h:xI C kwn ws=Zd f):(∃w:W,C=597/\kwn=[]/\ws=[w]/\f=367)∨Ai C II=Zd f:=by
 unfold xI at h;cases e:ZX C 597 with
 |false=>exact .inr (by rw[e]at h;exact h)
 |true=>
  rw[e]at h;cases kwn with
  |cons=>exact nj h
  |nil=>
   cases ws with
   |nil=>exact nj h
   |cons w r=>
    cases r with
    |nil=>exact .inl ⟨w,Z4 e,rfl,rfl,(Yd h).symm⟩
    |cons=>exact nj h
theorem js(R:CR ft)(U:Co ft rec)(ok:Ok c d)(Y:DX c X.env X.own){C:Zo}{kwn:Za Zf}{ws:Za W}{vs:Za Zb}{k:W->S->Prop}(rel:Rel m s X σ)(E:AK m s.nx σ.T ws vs)(hk:kwn.length<=vs.length)(h:xJ ft rec d C kwn ws k s):
 Ev c σ (Y8 (.ref C) (vs.take (vs.length-kwn.length)) ((kwn.map Af).zip (vs.drop (vs.length-kwn.length)))) (Ap m s.nx X σ.T k):=by
 cases d with
 |zero=>exact h.elim
 |succ d=>
  refine Ad h λf K h=>(nE K).elim (λz=>EQ z λw0 I e2 e3 e4=>?_) λK=>?_
  ·subst I e2 e3;cases e4;exact jt R U ok Y rel E h
  generalize(oj c.w.params K)=hi;simp only[Kf,Z6,Wb]at hi;refine xA hi λB z_=>?_;obtain⟨⟨G,i2⟩,i3⟩:=B;refine r9 ok.kx G i2 i3 λx r=>?_;have l1:s.nx<s.nx+2:=YT (YH 1);have l2:s.nx+1<s.nx+2:=YI _;obtain⟨D,e0,I,ex⟩:∃D:Mp,D s.nx=x/\D (s.nx+1)=r/\Ext m s.nx D (s.nx+2):=
   ⟨λl=>if l=s.nx then x else if l=s.nx+1 then r else m l,by simp,by simp,⟨ZF _ _,λl hl=>by simp[Yp hl,(Yp (Xh hl):l≠s.nx+1)]⟩⟩
  have rel':Rel D ⟨(s.nx,.inst C (s.nx+1))::(s.nx+1,.attrs [])::s.H,s.nx+2,s.rho⟩ X ⟨(.ref x,.ref x)::σ.T,(x,.raw (BP C r))::(r,.dict [])::σ.L,σ.F⟩:=by
   refine rel.cp λ{rho' L1} hrr hh A=>.mk (L1:=(x,.raw (BP C r))::(r,.dict [])::L1) (hrr.ext ex) (Bw (.raw (BP C r)) ((r,.dict [])::L1) (by rw[e0]) l1 ⟨l2,by rw[I]⟩ (Bw (.dict []) L1 (by rw[I]) l2 ⟨(λp A=>nomatch A),[],rfl,rfl⟩ (hh.ext ex))) ((A.cons _).cons _)
  have hws':AK D (s.nx+2) ((.ref x,.ref x)::σ.T) (.o s.nx::ws) (.ref x::vs):=At _ _ rfl ⟨.ref x,⟨l1,by rw[e0]⟩,.head _⟩ (E.ext ex λp A=>.tail _ A);generalize(Gl R U (Ok.und (C:=C) (rest:=vs.take (vs.length-kwn.length)) (kw:=(kwn.map Af).zip (vs.drop (vs.length-kwn.length))) ok) Y.und rel' hws' h)=j;have e9:(Yn x::vs).length-kwn.length=(vs.length-kwn.length)+1:=PK hk;rw[e9,List.take_succ_cons,List.drop_succ_cons]at j;refine Ec.aaa (j.mono λv σ' O=>O.cp λm1 s1 Q r1 G w1 P u=>?_);refine xA (GO u) λg u=>?_;subst g;exact⟨pin P,m1,s1,ex.trans Q,r1,λp A=>G _ (.tail _ A),.o s.nx,⟨.ref x,⟨ZB l1 Q.le,by rw[Q.eq s.nx l1,e0]⟩,G _ (.head _)⟩,u⟩
theorem nF(P:Z9)(h:cS n d=Zd i):jx (kx P) n (Af d) i=true:=Ah h λl e h=>Yj.mp (Yj.mp (ju P) (n,l) (lkp_mem e)) (d,i) (lkp_mem h)
theorem Nq(h:(l.all (λp=> !ZX p.1 name&&Vl p.1 192)&&Vl name 192)=Zm):name<192/\∀p∈l,p.1≠name:=
 have h:=Yi.mp h
 ⟨Zw h.2,λp g e=>ZT ((Yi.mp (Yj.mp h.1 p g)).1) (Ab e (Ab ((WJ name:ZX name name=Zm) ..) (XW)))⟩
theorem kg(ok:Ok c d){w:W}{w':Zb}{name f:Zf}{pl:ZN Zl}{P:Zb×Za Zb->St->Prop}(rel:Rel m s X σ)(A:BO m s.nx σ.T w w')(h:IH s.H w name=Zd f)
 (E:∀x,WR m s.nx w (.ref x)->Kp c (.ref f)->P (.ref f,[.ref x]) ⟨(.ref x,.ref x)::σ.T,σ.L,σ.F⟩):Ev c σ (XI w' (Af name) pl) P:=by
 refine Ah h λi ei h=>AH h λj h=>Cd (HE rel A ei) λx O vs I r C D B hb G K=>?_;have z:=Nq j;have g:=nF c.w.params h;simp only[jx,Z6,Wb]at g;exact uZ ok.kx I C D (NX.none z.1 (λp u=>⟨hb p u,z.2 p u⟩) G) g.1.1.1.1 g.1.1.1.2 g.1.1.2 g.1.2 (E x r (Kp.of ok.kx g.2))
theorem kh(rel:Rel m s X σ)(r:BO m s.nx σ.T w a')(hb:BO m s.nx σ.T H6 v')(h:qy op w H6 s k):Ev c σ (inplaceOp op a' v') (Ap m s.nx X σ.T k):=by
 cases op with
 |Add=>
  refine DO h (λi ei h=>Ad h λj z h=>?_) λh=>Ad h λx ex h=>Ad h λy A h=>Al h λB h=>?_
  ·generalize(AB ei r)=r;generalize(AB z hb)=hb;exact Ev.raw λst G g=>by
    obtain⟨t,rfl⟩:=(g.temps _ r).zK;obtain⟨u,rfl⟩:=(g.temps _ hb).zK;exact wpAny_iadd_int ⟨_,⟨G,(g.toks (tk:=st.toks+1)).zH VR.int⟩,Bb rel h⟩
  ·generalize(B3 ex r)=r;generalize(B3 A hb)=hb;exact Ev.raw λst G g=>by
    obtain⟨t,rfl⟩:=(g.temps _ r).zJ;obtain⟨u,rfl⟩:=(g.temps _ hb).zJ;exact Oa (λC tk=>⟨_,⟨G,(g.toks (tk:=tk)).zH VR.str⟩,Bb rel h⟩) B
 |Sub=>
  refine Ad h λi ei h=>Ad h λj z h=>?_;generalize(AB ei r)=r;generalize(AB z hb)=hb;exact Ev.raw λst G g=>by
   obtain⟨t,rfl⟩:=(g.temps _ r).zK;obtain⟨u,rfl⟩:=(g.temps _ hb).zK;exact Ob ⟨_,⟨G,(g.toks (tk:=st.toks+1)).zH VR.int⟩,Bb rel h⟩
 |_=>exact(h:ZP).elim
end
end
section
variable{d:Za (Zi×W)}{t:Zi×Z7}{P:Fin->St->Prop}{ksx:Za (Zi×Zx)}{vi:V}{vs:Za V}{r:Ze V}{Q:St->Prop}{m1:Mp}{s1:S}{σ1:St}
theorem FC.at_:∀{vs:Za (Zi×V)} {i:Zf} {p:Zi×W},FC m n d vs->d[i]? =Zd p->∃v,vs[i]? =Zd (p.1,v)/\WR m n p.2 v:=by
 induction d with
 |nil=>exact @λg g g g e=>nj e
 |cons q l s=>
  intro vs i p z e;refine An z λv t r j h=>?_;subst r;cases i with
  |zero=>exact sj (M:=λp=>∃v',Zd (q.1,v)=Zd (p.1,v')/\WR m n p.2 v') e (mEA v rfl j)
  |succ i=>exact(s h e:∃u,t[i]? =Zd (p.1,u)/\WR m n p.2 u)
theorem FC.length:∀{vs:Za (Zi×V)},FC m n d vs->vs.length=d.length:=by
 induction d with
 |nil=>exact λe=>ZH XS (e:_=[])
 |cons g g j=>exact λh=>An h λv t e g h=>(ZH XS e).trans (ZH UU (j h))
theorem ij{P:Prop}(h:rj ws=Zd t)(k:∀r,ws=.p (.str t.1)::.p (.int t.2)::r->P):P:=by
 cases ws with
 |nil=>exact nj h
 |cons a r=>cases r with
  |nil=>exact nj h
  |cons b r=>
   refine Ah h λy g h=>Ah h λn j h=>?_;cases h;refine k r (Ab (MH g ..) ?_);refine Ab (MJ j ..) ?_;rfl
section
variable{d:Zf}{s:S}{q:Zf}
theorem lK{t:ZN Fin}(B:done.length<=16777216)(z:(v',D8)∈T)(h:∀u,Ev c ⟨u,(acc,.list (done++[D8]))::L,F⟩ t P):
 Ev c ⟨T,(acc,.list done)::L,F⟩ (Y8 (.builtin "list.append") [.ref acc,v']>>=λj=>(pure ():ZN ZU)) λj g=>Ev c g t P:=by
 refine Ev.bind (Ev.mono (P:=λj g=>Ev c g t P) (λst A=>(El (.head _) (.tail _ z) BS.head B (h _):Ev c ⟨(.ref acc,.ref acc)::T,(acc,.list done)::L,F⟩ (Y8 (.builtin "list.append") [.ref acc,v']) λj g=>Ev c g t P) st ?_) λj g r=>Ev.pure r);exact xE A λG s=>⟨G,s.zH VR.val⟩
structure mc where
 x:Zi
 p1:Xf
 p2:Xf
 p3:Xf
 p4:Xf
 p5:Xf
 p6:Xf
 p7:Xf
 pc:Xf
 ap:Xf
 pos:Xf
 kk:Zf
 a:Expr
 sc:Yh
noncomputable def mc.elt(p:mc):Expr:=.Attribute (.Name p.x p.p1) (Af 87) p.p2
noncomputable def mc.tst(p:mc):Za Expr:=[.Compare (.Attribute (.Name p.x p.p4) (Af 88) p.p5) [.Eq] [.Constant (.int 0) p.kk p.p6] p.p7]
noncomputable def mc.gen(p:mc):Comprehension:=⟨.Name p.x p.p3,.Call (.Attribute p.a (Zc "values") p.ap) [] [] p.pc,p.tst,0⟩
noncomputable def mc.e(p:mc):Expr:=.ListComp p.elt [p.gen] p.sc p.pos
inductive JR(m1:Mp)(H:Za (Zf×LW))(dd:Za (Zi×W))(res:Za V)(x:Zi)(L0:Za (Zo×LO))(acc:Zo)(cenv:YG)(own:Za Zo)(i:Zf):Za (Zo×LO)->Fm->Prop
 |mk (r:Ze V) (done rest:Za V) (h1:DK H (dd.drop i)=Zd rest) (h2:done++rest=res):JR m1 H dd res x L0 acc cenv own i ((acc,.list done)::L0) ⟨cenv,own,[(x,r)]⟩
theorem aJ(p:mc)
 (ok:Ok c d) (s:Bq cenv ksx) (A:Gz cenv own) (j:(p.x,NameKind.local)∈ksx) (h:vi=.ref a) (z:(a,.slots 763 (.str y::.int dn::vs))∈L) (G:done.length<=16777216) (u:∀T,Q ⟨T,(acc,.list (done++Mw dn y))::L,⟨cenv,own,[(p.x,Zd vi)]⟩⟩):
 Gy c (.Name p.x p.p3) p.e (λit acc cenv=>Ix p.elt p.tst p.e it acc cenv) it acc cenv v' vi ((acc,.list done)::L) ⟨cenv,own,[(p.x,r)]⟩ Q:=by
 subst h;refine Du (Mo c.w.params) λB b1 I=>Ax (KI s A j (.head _) F4.head ?_);dsimp only;refine Ev.bind (My ?_);refine Bl (KN rfl (EG s j (.head _) λE=>GK ok.kx (.head _) (.tail _ z) b1 (v:=.int dn) rfl trivial λC=>iG λH=>pQ (.tail _ (.head _)) (.head _) (CS ?_))) rfl;by_cases g:dn=0
 ·refine Ab ((beq_iff_eq.mpr g:(dn==0)=Zm) ..) (Ev.bind (Ev.bind (KN rfl (EG s j (.head _) λE=>GK ok.kx (.head _) (.tail _ z) B (v:=.str y) rfl trivial λC=>?_))));exact lK G (.head _) λD=>Ev.pure ⟨rfl,(if_pos g:Mw dn y=[.str y])▸u D⟩
 ·refine Ab ((beq_eq_false_iff_ne.mpr g:(dn==0)=Zh) ..) ?_;have e:done++Mw dn y=done:=(ZH _ (Yc g)).trans (YL _);refine Ev.pure ⟨rfl,?_⟩;exact Bj e (u _)
@[elab_as_elim] theorem uM{M:St->Prop}(rel:Rel m1 s1 X σ1)(hw:BO m1 s1.nx σ1.T w a') (h:match(generalizing:=false) w with
 |.o l=>Aj (Ai l s1.H) λq=>match q with
  |.dictW s=>∃g,DK s1.H s=Zd g/\A4 s.length (newL Zm g s1 k)
  |_=>ZP
 |.p I=>ZP)
 (K:∀l s g z A B j vs,(a',.ref (m1 l))∈z->FC m1 s1.nx s vs->DK s1.H s=Zd g->g.length<=16777216->k (.o s1.nx) ⟨(s1.nx,.list g)::s1.H,s1.nx+1,s1.rho⟩->Rel m1 s1 X ⟨z,(m1 l,.dict vs)::(A++B),⟨X.env,X.own,j⟩⟩->
  (∀r ws,Ai r s1.H=Zd (.slots 763 ws)->∃D,(m1 r,LO.slots 763 D)∈A++B/\Fc m1 s1.nx ws D)->M ⟨z,A++(m1 l,.dict vs)::B,⟨X.env,X.own,j⟩⟩):M σ1:=by
 cases w with
 |p=>exact h.elim
 |o l=>
  refine Ad h λqq eq h=>?_;cases qq with
  |dictW s=>
   refine Ag h λg C h=>Al h λI h=>Al h λhz h=>Ag hw λu wr Q=>?_;cases wr.2;cases rel with
   |@mk z L1 j Lh U Y P=>
    refine Am (Y.get eq) λlo E G I=>Ag G λvs e hd=>?_;subst e;refine gy (RT (P.mem_iff.mpr (Zk X.R E))) λA B L=>?_;subst L;refine K l s g z A B j vs Q hd C hz h (.mk U Y (Yw.symm.trans P)) λr ws e=>Am (Y.get e) λlo2 O G I=>Ag G λD e hu=>mEA D ?_ hu;subst e;rcases ZW.mp (P.mem_iff.mpr (Zk X.R O))with h|h
    ·exact Zk _ h
    ·exact Zq _ ((Zr.mp h).resolve_left λe=>LO.noConfusion (SD e).2)
  |_=>exact h.elim
theorem ie(hr:Co ft rec)(G:Gx c d ks ck X)(p:mc)(hx:(p.x,NameKind.local)∈EX p.sc.names)(hs:B4 p.a=Zh)(hl:(p.ap.endLine==p.pc.line)=Zm)(h1:Cq ks ck p.a pe)(h2:Ju ks p.sc [] []=Zm)(rel:Rel m s X σ)
 (h:rec d (.ex pe λw s1=>match w with
  |.o l=>Aj (Ai l s1.H) λq=>match q with
   |.dictW dd=>∃u,DK s1.H dd=Zd u/\A4 dd.length (newL Zm u s1 k)
   |_=>ZP
  |.p j=>ZP) s):Ev c σ (Yk p.e X.env) (Ap m s.nx X σ.T k):=by
 refine CC (Iy h2) λl1 l2 l3 l4=>?_;refine DL (Fz (e:=p.e) (g:=p.gen) (gs:=[]) (p0:=p.pc) (lo0:=.list []) (tail:=λit acc cenv=>Ix p.elt p.tst p.e it acc cenv)
  rfl (λj=>rfl) G.en G.ow l1 l2 (λj j j j=>JX) (λit acc cenv R s=>Sb) ⟨λj j j=>rfl,λj j j=>rfl,λj j j=>rfl,λj j j=>rfl⟩ G.ok.han ?_)
 refine CY ((hr.ex G h1 rel h).mono λa' σ1 h1Z=>h1Z.cp λm1 s1 x1 E i1 w hw k1=>?_) (CO hs (λj h=>(ZT h ZE)) hl (by decide));revert i1;refine uM E hw k1 λl dd u T1 A B U vs a0 hd O hz2 k5 r2 Q i1=>M3 (name:=Zc "values") a0 (Zq _ (.head _)) Tn PySem.F.type_dict_values (KL Kp.builtin ?_);refine il G.ok.gd.mods a0 Yw λb n=>?_;refine .mk [(p.x,Zs)] (Z0.mpr ⟨ZE,.nil⟩) (λy v hy=>nj (SD (Yz.mp hy)).2.symm) (λi=>((vs[i]?).map λp=>p.2).getD .none) vs.length (λL=>(m1 l,.dictE vs n)∈L) (JR m1 s1.H dd u p.x ((b,.raw (HL (m1 l)))::(m1 l,.dictE vs n)::(A++B)))
  (fD G.ok.han (.head _) (.head _) (.tail _ (.head _))) (λacc cenv own=>.mk Zs [] u O rfl) (λacc cenv own i L F P=>by cases P;exact .tail _ (.tail _ (.head _))) (λacc cenv own K it q' i L F v' Y hi P=>?_) λacc cenv own L' F' P=>?_
 ·refine P.casesOn ?_;intro r done rest z D;have hi:i<dd.length:=hd.length▸hi;rw[Yg hi]at z;refine Ah z λws e1 z=>Ah z λt e2 z=>Ah z λC e3 g3=>ij e2 λtl ew=>GH e1 λI el e4=>Ag (Q I ws e4) λus hm hu=>Ag (hd.at_ (Za.getElem?_eq_getElem hi)) λvi evi a1=>?_;subst ew;refine An hu λy0 t0 q0 w0 hu=>An hu λy1 t1 q1 w1 j=>?_;subst q0 q1;cases w0;cases w1;rw[el]at a1;refine aJ p (ok:=(G.ok.comp.keep).prot) Y.ok Y.ow hx (a:=m1 I) (by refine Ab (evi ..) ?_;exact a1.2) (.tail _ (.tail _ hm)) ?_ λT=>.mk (Zd _) (done++Mw t.2 t.1) C e3 (by refine Ab (ZS ..) ?_;refine Ab (Yd g3 ..) ?_;exact D);exact Zv (Zt▸ZF _ _:done.length<=(done++rest).length) (D▸hz2)
 ·refine P.casesOn ?_;intro r done rest z D;rw[hd.length,YV]at z;have D:done=u:=by refine Bj (D ..) ?_;refine Bj (Yd z ..) ?_;refine Ab (YL ..) ?_;rfl
  subst D;refine⟨⟨rfl,rfl⟩,mEA ⟨(.ref acc,.ref acc)::T1,(acc,.list done)::(m1 l,.dict vs)::(A++B),⟨X.env,X.own,U⟩⟩ (λst ms=>?_) ?_⟩
  ·exact xE (MR.aap (L':=(acc,.list done)::(b,.raw (HL (m1 l)))::(A++B)) (((X7 _ _ _).cons _).trans (X7 _ _ _)) ms) λGh mg=>⟨Gh,((mg.perm (L':=(b,.raw (HL (m1 l)))::(acc,.list done)::(m1 l,.dict vs)::(A++B)) (((X7 _ _ _).trans ((X7 _ _ _).cons _)).trans (X7 _ _ _))).weak (T:=T1) (L:=(acc,.list done)::(m1 l,.dict vs)::(A++B)) (λp hp=>.tail _ hp) (Wk _ _)).zH VR.val⟩
  ·exact(BY (xo:=.list done) (lo:=.list done) r2 (λj j=>rfl) k5 (λj h=>.tail _ h) (.head _)).up x1 i1
end
end
section
variable{x its li b y kk it:Zf}{p1 p2 px pa pb:Xf}{vs:Za V}{K:S->Prop}{k:Fl->S->Prop}{key:Zi}{Q:YA->Zj->Prop}{R:Zb->Zj->Prop}{st:Zj}
theorem WR.inj{v:V}(h:WR m n w D8)(k:WR m n w v):D8=v:=by
 cases w with
 |p=>exact Eq.trans h (Eq.symm k)
 |o=>exact h.2.trans k.2.symm
theorem Fc.inj:∀{g vs:Za V},Fc m n ws g->Fc m n ws vs->g=vs:=by
 induction ws with
 |nil=>exact @λz z h k=>Eq.trans h (Eq.symm k)
 |cons q ws s=>exact λh k=>An h λv t e h r=>An k λC B A u j=>e.trans ((congr (ZH Qm (h.inj u)) (s r j)).trans A.symm)
theorem Fc.aad:∀{g:Za V},Fc m n (ws++[w]) g->∃vs v,g=vs++[v]/\Fc m n ws vs/\WR m n w v:=by
 induction ws with
 |nil=>exact λh=>An h λv t e h r=>At [] v (e.trans (ZH (v:: ·) (r:t=[]))) rfl h
 |cons x ws j=>exact λh=>An h λv t e h r=>An (j r) λvs u A z s=>At (v::vs) u (e.trans (ZH (v:: ·) A)) (At v vs rfl h z) s
section
variable{s:S}{q:Zf}
theorem Hg(r:Bq X.env ks)(z:(Af x,NameKind.local)∈ks)(rel:Rel m s X σ)(e:Ai x s.rho=Zd (Zd w))(h:∀v' v,WR m s.nx w v->P v' ⟨(v',v)::σ.T,σ.L,σ.F⟩):Ev c σ (Yk (.Name (Af x) p) X.env) P:=by
 cases rel with
 |mk g B A=>
  exact Ag (RR.mem g (lkp_mem e)) λv u j=>EG r z u λv'=>h v' v j
theorem iA(I:Bq X.env ks){lw':LW}{v:V}(E:(Af x,NameKind.local)∈ks)(hl:(j9.endLine==p.line)=Zm)(rel:Rel m s X σ)(e:Ai x s.rho=Zd (Zd (.o n)))(O:Ai n s.H=Zd E7)
 (L:∀lo,LR m s.nx E7 lo->lo=.list (vs++[v])) (C:LR m s.nx lw' (.list vs)) (Q:vs.length<16777216) (r:CJ n lw' s K)
 (h:∀v' T' L' j,(∀p∈σ.T,p∈T')->(v',v)∈T'->j.nx=s.nx->Rel m j X ⟨T',L',σ.F⟩->K j->P v' ⟨T',L',σ.F⟩):Ev c σ (Yk (.Call (.Attribute (.Name (Af x) p1) (Zc "pop") j9) [] [] p) X.env) P:=by
 refine CY (Hg I E rel e λv' R A=>?_) (CO rfl (λe h=>(ZT h ZE)) hl (by exact YH _));refine xA A λU A=>?_;subst A;refine An (Ch (rel.tmp (T':=(v',.ref (m n))::σ.T)) O r) λlo L1 z B g=>?_;have:=L _ B;subst this;exact AF (g _ C) λY j u D q G=>EU (name:=Zc "pop") (.inr (mEA _ (.head _) (z.mem_iff.mpr u.mem))) V9 Ua (iO Kp.builtin (Ev.perm z (pL (.head _) u Q λw'=>h w' _ _ j (λp z=>.tail _ (.tail _ z)) (.head _) D q.tmp G)))
theorem mG(he:Bq X.env ks){p3 p4:Xf}{k:Zf}(R:(Af its,NameKind.local)∈ks)(rel:Rel m s X σ)(Y:Ai its s.rho=Zd (Zd (.o li)))(K:Ai li s.H=Zd (.listw (ws++[.o b])))(hz:ws.length<=1000)
 (h:∀v' D,(∀p∈σ.T,p∈D)->(v',.ref (m b))∈D->P v' ⟨D,σ.L,σ.F⟩):Ev c σ (Yk (.Subscript (.Name (Af its) p1) (.UnaryOp .USub (.Constant (.int 1) k p2) p3) p4) X.env) P:=by
 refine Cb λI r=>?_;obtain⟨T,L,F⟩:=σ;refine r (Em (Hg he R rel Y λv' v C=>GL (iG λi'=>pM (.head _) λj'=>?_)));refine xA C λwl C=>?_;subst C;cases rel with
 |mk E O B=>
  refine Cb λPP5 u=>Am (O.get K) λlo U j z_=>?_;obtain⟨vs,e,z⟩:=j;subst e;refine An (Fc.aad z) λvs' v2 g Q A=>?_;subst g;refine xA A λwb A=>?_;subst A;refine u ?_;have G:=Q.length;exact Ib (.inr (mEA _ (.tail _ (.tail _ (.head _))) (B.mem_iff.mpr (Zk _ U)))) (.head _) (λw'=>h w' _ (λp B=>.tail _ (.tail _ (.tail _ (.tail _ B)))) (.head _)) (by lia) (BL rfl)
theorem iU{P:YA->St->Prop}(h:Ev c σ (Yk value env) λov r=>Ev c r (Yk target env) λiv u=>Ev c u (delItem ov iv) λj A=>P .next A):Ev c σ (VW (.Delete [.Subscript value target p] j9) env) P:=λs m=>by
 refine wpAny_Delete (wpAny_deleteEach_cons ?_);refine Ab (arm_delete_Subscript ..) ?_;refine Zg (Zu (h s m) (λov D g=>Ag g λr E H=>?_) λj j e=>e);refine Zg (Yt (Zu (H D E) (λiv G g=>Ag g λu B C=>?_) λj j e=>e));refine Zg (XC (Zg (Yt (Zu (C G B) (λj I z=>?_) λj j e=>e))));exact wpAny_release (wpAny_deleteEach_nil z)
theorem Fo{v:α}(u:x≠y){l:Za (Zf×α)}:∀{g:Za (Zf×α)},put x v l=Zd g->Ai y g=Ai y l:=by
 induction l with
 |nil=>exact λh=>nj h
 |cons p r s=>
  intro g h;revert h;refine(?_:((match ZX x p.1 with|true=>Zd ((p.1,v)::r)|false=>match put x v r with|some j=>Zd (p::j)|none=>Zs)=Zd g)->_);intro h;cases e:ZX x p.1 with
  |true=>
   rw[e]at h;refine sj h (M:=λg=>Ai y g=Ai y (p::r)) ((?_:(match ZX y p.1 with|true=>Zd v|false=>Ai y r)=(match ZX y p.1 with|true=>Zd p.2|false=>Ai y r)));refine Ab (DQ λh=>u ((Z4 e).trans h.symm) ..) ?_;rfl
  |false=>
   rw[e]at h;cases er:put x v r with
   |none=>rw[er]at h;exact nj h
   |some j=>
    rw[er]at h;refine sj h (M:=λg=>Ai y g=Ai y (p::r)) ((?_:(match ZX y p.1 with|true=>Zd p.2|false=>Ai y j)=(match ZX y p.1 with|true=>Zd p.2|false=>Ai y r)));refine Ab (s er ..) ?_;rfl
theorem GN(j:n≠y)(h:CJ n E7 s K):CJ n E7 s λg=>Ai y g.H=Ai y s.H/\g.rho=s.rho/\K g:=by
 exact Ad h λH' e k=>Aa e (Cp (Fo j e) rfl k)
theorem FC.del{d:Za (Zi×W)}:∀{vs:Za (Zi×V)},FC m n d vs->FC m n (delD key d) (delD key vs):=by
 induction d with
 |nil=>exact λh=>(h:_=[])▸rfl
 |cons p d g=>
  intro vs j;refine An j λv t e h r=>?_;subst e;by_cases hx:p.1=key
  ·refine Ab ((show delD key (p::d)=delD key d from VT λk=>of_decide_eq_true k hx) ..) (Ab ((show delD key ((p.1,v)::t)=delD key t from VT λk=>of_decide_eq_true k hx) ..) ?_);exact g r
  ·refine Ab ((show delD key (p::d)=p::delD key d from VS (Yl hx)) ..) (Ab ((show delD key ((p.1,v)::t)=(p.1,v)::delD key t from VS (Yl hx)) ..) ?_);exact At v _ rfl h (g r)
theorem cM(he:Bq X.env ks)(hx:(Af its,NameKind.local)∈ks)(rel:Rel m s X ⟨T,L,F⟩)(e1:Ai its s.rho=Zd (Zd (.o li)))(e2:Ai li s.H=Zd (.listw (ws++[.o b])))(hz:ws.length<=1000)
 (hb:(m b,LO.raw (Gu (m it)))∈L) (ms:MR c ⟨T,L,F⟩ st)
 (r:∀T' D U,Ar c ⟨T',L,F⟩ U D->ZZ c.M c.A (Y8 (.ref (m b)) []) (λv' B=>ZZ c.M c.A (XY X.env (Af x) v') (λg z=>Q .brk z) R B) R D):
 ZZ c.M c.A (VB [.Assign [.Name (Af x) px] (.Call (.Subscript (.Name (Af its) p) (.UnaryOp .USub (.Constant (.int 1) kk j9) A5) A6) [] [] A7) pa,.Break pb] X.env) Q R st:=by
 refine Vn (R5 (Zu (Q:=λv' B=>ZZ c.M c.A (XY X.env (Af x) v') (λg z=>Q .brk z) R B) (E:=R) ?_ (λv' B h=>Zu h (λg z h=>?_) λg g e=>e) λg g e=>e) (by unfold XX;rfl))
 ·have ev:=mG (c:=c) (σ:=⟨T,L,F⟩) (p1:=p) (p2:=j9) (p3:=A5) (p4:=A6) (k:=kk) (P:=λv' j=>(v',.ref (m b))∈j.T/\j.L=L/\j.F=F) he hx rel e1 e2 hz (λv' T' g h=>Cp h rfl rfl);have I:Yk (.Call (.Subscript (.Name (Af its) p) (.UnaryOp .USub (.Constant (.int 1) kk j9) A5) A6) [] [] A7) X.env=(do We A7 (<-Yk (.Subscript (.Name (Af its) p) (.UnaryOp .USub (.Constant (.int 1) kk j9) A5) A6) X.env) [] (Y6 A7 (Ym [] X.env)) (WT A7 (XJ [] X.env))):=rfl;refine Ab (I ..) ?_;refine Ab (UC ..) (Zg (Zu (ev st ms) (λv' D hY=>EQ hY λC hX Y K O=>xE hX λU G=>?_) λg g e=>e.elim));refine Cb λPP8 u=>?_;obtain⟨T1,L1,F1⟩:=C;dsimp only at Y K O;subst K O;have ev':v'=.ref (m b):=(G.temps _ Y).zI;subst ev';refine Am (G.live _ hb) λo eo e g=>?_;subst e;refine u (Tf (P:=λh=>h.get? (m b)=Zd (Gu (m it))) rfl (λh e=>mEA .machine (.inr (.inl rfl)) ?_) ?_)
  ·exact(Uo e).andThen .now
  ·exact Pu ⟨eo,r _ _ _ G⟩
 ·exact Vn (wpAny_Break h)
theorem Md(rel:Rel m s X ⟨T,L,F⟩)(I:Ai b s.H=Zd (.bnx it))(O:Ai it s.H=Zd (.liter n i))(z:Ai n s.H=Zd (.list l)):∃o,(m b,LO.raw (Gu (m it)))∈L/\(m it,LO.raw o)∈L/\tN (m n) i o/\(m n,LO.list l)∈L:=by
 cases rel with
 |mk r g u=>
  have up:∀{p},p∈_->p∈L:=λh=>u.mem_iff.mpr (Zk _ h);exact Am (g.get I) λR G P j=>Am (g.get O) λQ A B j=>Am (g.get z) λlo3 D E j=>Am B.2 λo C K j=>⟨o,(Ba (P.2▸up G) (C▸up A) K ((E:lo3=LO.list l)▸up D))⟩
theorem gH(G:Gx c d ks ck X)(hf:uf c X.env){pe q1 q2 q3 q4 q5 w1 w2 w3 u1 u2 u3:Xf}(gn:Bh ks name (.type "StopIteration")=Zm)(hx:BH ks (Af x) .local=Zm)(j:BH ks (Af its) .local=Zm)(hn2:BH ks (Af n) .local=Zm)(A:BH ks (Af N) .local=Zm)
 (hl1:(w2.endLine==w3.line)=Zm) (hl2:(u2.endLine==u3.line)=Zm) (rel:Rel m s X σ) (h:gI x its n N s k):
 Ev c σ (VW (.Try [.Assign [.Name (Af x) px] (.Call (.Subscript (.Name (Af its) q1) (.UnaryOp .USub (.Constant (.int 1) kk q2) q3) q4) [] [] q5) pa,.Break pb]
  [⟨Zd (.Name name j9),Zs,[.Delete [.Subscript (.Name (Af n) p2) (.Call (.Attribute (.Name (Af N) w1) (Zc "pop") w2) [] [] w3) A7] A6,.Expr (.Call (.Attribute (.Name (Af its) u1) (Zc "pop") u2) [] [] u3) pe],A5⟩] [] [] p) X.env) (Bx m s.nx X k):=by
 generalize(Ey gn)=g1;generalize(Ex gn)=g2;replace hx:=Aw hx;replace j:=Aw j;replace hn2:=Aw hn2;replace A:=Aw A;generalize(by refine Ab (YN ..) ?_;kernel_rfl:X0 (.type "StopIteration") (.type "BaseException")=pure Zm)=fx;generalize(by refine Ab (YN ..) ?_;kernel_rfl:X0 (.type ((Manifest.find? "StopIteration").elim "type" λx=>x.metatype)) (.type "tuple")=pure Zh)=ft;cases h with
 |nx li ws b it a i l pp v el h=>
  refine pp.casesOn ?_;intro e1 e2 e3 e4 e5 hz;obtain⟨T,L,F⟩:=σ;refine EQ (Md rel e3 e4 e5) λo hb hi a8 ha=>pR (H:=λg=>ZP) G.ok.gd G.en g1 g2 fx ft SS (λg h=>h.elim) (λs0 G0 m0=>?_) λg g h=>h.elim;refine cM G.en j rel e1 e2 hz hb ⟨G0,m0⟩ λT' s1 G1 B=>Cb λPP10 b0=>An (Ch (rel.tmp (T':=T')) e4 h) λlo L1 z K D=>?_;obtain⟨wa,o2,rfl,ho2,g⟩:=K;generalize(B.perm z)=B;refine Am (B.live _ (z.mem_iff.mp hb)) λob1 a9 c0 g=>?_;subst c0;refine Am (B.live _ (z.mem_iff.mp hi)) λob2 eo2 a2 g=>?_;subst a2;refine BR (B.live _ (z.mem_iff.mp ha)) λob3 c3 items nn Y rl=>?_;subst Y;refine Ag (rl.get el) λy ey ry=>b0 (l9 a9 eo2 a8 (As c3) (x:=y) (by refine Ab (Za.getElem?_toArray ..) ?_;exact ey) λh' o' g1 g2 g3=>?_);refine AF (D (.raw o') ⟨wa,o',rfl,g2,λe=>by lia⟩) λL2 s' u en q hk=>?_;refine Zu ((AR (w:=.p v) G (by simp only[DA,YM];exact .inl (Xu.mpr (mEA _ hx (by simp)))) q.tmp (wp (.head _)) hk) _ ⟨_,((B.change (tk:=s1.toks) u g3.extBut g1 ⟨rfl,g2.alive⟩).zH ry)⟩) (λg s3 hY=>Ag hY λσ3 m3 hY=>hY.cp λm' s4 x4 r4 i4 k4=>?_) λg g e=>e.elim;exact⟨σ3,m3,m',s4,en▸x4,r4,.br,rfl,k4⟩
 |st li ws b it a i l pp el H1 ls ld xs key dd qq h=>
  refine pp.casesOn ?_;intro e1 e2 e3 e4 e5 hz;refine qq.casesOn ?_;intro z f1 f2 f3 f4 f5 n1 n2 n3 f6 f7 f8;obtain⟨T,L,F⟩:=σ;refine EQ (Md rel e3 e4 e5) λo hb hi a8 ha=>pR (H:=λa4=>Rel m ⟨H1,s.nx,s.rho⟩ X a4) G.ok.gd G.en g1 g2 fx ft SS (λa4 r=>?_) (λs0 G0 m0=>?_) λa4 ax r=>?_
  ·cases r with
   |mk hr hh A5=>exact G.fa.frA hf
  ·refine cM G.en j rel e1 e2 hz hb ⟨G0,m0⟩ λT' s1 G1 B=>Cb λPP12 a6=>Am (B.live _ hb) λob1 a9 a1 g=>?_;subst a1;refine Am (B.live _ hi) λob2 eo2 E g=>?_;subst E;refine BR (B.live _ ha) λob3 c3 items nn Q rl=>?_;subst Q;refine a6 ?_;generalize rl.length=hlen;refine pz G.ok.han a9 eo2 a8 (As c3) (by rw[Za.getElem?_toArray,Za.getElem?_eq_none_iff,hlen];exact Za.getElem?_eq_none_iff.mp el) λh1 h2 o' x g1 g2 g3 g4=>?_;cases rel with
   |@mk g g rho' L1 hr hh A5=>
    refine Cb λPP13 hPP13=>Ag (HR.perm z hh) λL' pl q_=>AF q_ λlo1 L2 a3 w1 O q_=>AF q_ λlo2 L3 P w2 C hh1=>?_;subst a3;obtain⟨g,rfl⟩:=O;subst P;obtain⟨g,o2,rfl,g,g⟩:=C;refine hPP13 ?_;generalize(A5.trans (pl.append_right _):L.Perm ((m b,.raw (Gu (m it)))::(m it,.raw o2)::(L3++X.R)))=p2;exact AZ x G1 h1 ⟨T',L3++X.R,⟨X.env,X.own,rho'⟩⟩ rfl (((B.perm p2).change (tk:=s1.toks) (o':=.raw o') (BS.tail BS.head) g3.extBut g1 ⟨rfl,g2⟩).weak (λg h=>h) ((Wk _ _).trans (Wk _ _))) g4 (.mk hr hh1 (Xl _))
  ·generalize(G.en:Bq X.env ks)=G';refine Cb λPP14 c1=>?_;obtain⟨T1,L1,F1⟩:=a4;refine c1 (Bv (iU (Hg G' hn2 r f3 λv' v wr=>?_)));refine xA wr λwl wr=>?_;subst wr;refine iA (σ:=⟨(v',.ref (m ld))::T1,L1,F1⟩) G' A hl1 r.tmp f1 f2 (λlo h=>h) (lw':=.list xs) (vs:=xs) (v:=.str key) rfl (by exact qg f8 rfl) (GN n2 (GN n1 h)) λv1 T2 L2 s2 t2 hv1 en r2 c2=>CU c2 λk1 k2 k3 k4 h=>Cb λPP15 a7=>An (Ch r2 (k3.trans f4) (GN n3 h)) λlo L3 hp3 a0 D=>?_;obtain⟨vs,rfl,hd⟩:=a0;refine AV (D _ ⟨_,rfl,hd.del (key:=key)⟩) λL4 s3 u q_=>CU q_ λen3 r3 k5 k6 h=>a7 (Ev.perm hp3 (aQ (t2 _ (.head _)) u hv1 (Ab hd.aab (f6)) (Ab hd.length (f7)) ?_));refine Bv (aS ?_ G'.int (by unfold XX;rfl));generalize(k5.trans (k1.trans f5))=eli;generalize(by
    cases r3 with
    |mk hr hh A5=>
     refine Am (hh.get eli) λlo g U g=>?_;obtain⟨us,g,hw⟩:=U;refine An (hw.aad) λvs v I q1 q2=>?_;subst I;exact BW vs v hw q1:∃vs v,Fc m s3.nx (ws++[.o b]) (vs++[v])/\Fc m s3.nx ws vs)=hus
   refine AV hus λus u1 hus1 a5=>?_;generalize a5.length=hlen;refine iA (σ:=⟨[],L4,F1⟩) G' j hl2 r3.tmp (Ab k6 (Ab k2 (e1))) eli (vs:=us) (v:=u1) (λlo c2=>Ag c2 λus' e hw=>by refine Ab e ?_;refine Ab (hw.inj hus1 ..) ?_;rfl) (lw':=.listw ws) (mEA _ rfl a5) (by lia) h λv2 T5 L5 s5 t5 hv5 en5 r5 h=>?_;refine Dl ⟨m,s5,⟨by refine Ab en5 ?_;refine Ab en3 ?_;refine Ab en ?_;exact ZL _,λg g=>rfl⟩,r5.tmp,.nx,rfl,h⟩
end
end
section
variable{z TI TO T i1 i2 d:Zo}{Q:Ze Zb->Zj->Prop}{k1 k2:Zf}{xs:ZD Zb}{x y:Zb}{ks:Za Zi}{k:Zi}{S zs:Za (Zo×LO)}
noncomputable abbrev FD(f0 f1:Zb)(TI TO:Zo):Obj:={cls:=.type "zip",dict:=Zs,data:=.fields #[f0,f1,.bool Zh,.ref TI,.ref TO],slots:= #[]}
noncomputable abbrev JT(a b:Zb):Obj:={cls:=.type "tuple",data:=.seq #[a,b]}
theorem Fd:Ps "zip" "__getattribute__" "zip.__getattribute__":=
 .of (owner:="zip") (n:="__getattribute__") (by refine Ab (YF ..) ?_;refine Ab (Ya ..) ?_;kernel_rfl) (by rfl) (by rfl) (by rfl)
  (by first|exact .inl (by decide+kernel)|exact .inr (by decide+kernel)) (by refine Ab (YN ..) ?_;kernel_rfl)
theorem LV:Wf UD "zip.__getattribute__"=Zd Yx.«object.__getattribute__»:=
 entryFor_alias (id':="object.__getattribute__") (by kernel_rfl) (by rfl) (by decide+kernel) (by kernel_rfl)
theorem ab(a b:Zb):RL "zip.__getattribute__" ⟨[a,b],[]⟩:=by unfold RL;kernel_rfl
theorem aa:Wz (.type "zip") "__getattr__"=pure none:=by refine Ab (YF ..) ?_;refine Ab (Ya ..) ?_;kernel_rfl
theorem NZ:Wz (.type "zip") "keys"=pure none:=by refine Ab (YF ..) ?_;refine Ab (Ya ..) ?_;kernel_rfl
section
variable{w:Z8}
theorem me(z TI TO:Zo)(r f1:Zb)(u:QE):
 PF (Yx.«object.__getattribute__» ⟨[.ref z,.str (Zc "keys") u],[]⟩) (λA R s=>s.heap.get? z=Zd (FD r f1 TI TO)/\raisesAttr (.ref z) (Zc "keys") A R s):=
 QN λprog w A R s g=>by
  refine xA g λj g=>?_;have B:(⟨s.heap,s.gens,s.drawn,s.toks,s.os⟩:Zj).TypeIs (.ref z) "zip":=mEA _ j rfl;have h:Wz (.type "zip") (Zc "keys")=pure none:=NZ;unfold Yx.«object.__getattribute__»
  repeat (any_goals (first|assumption|wp_step))
  exact wpAny_raiseAttrError g.1 g.2 (attrMsg_fits (by decide+kernel) (Ab Y7 (ZQ _ _)))
theorem LU(u:s.heap.get? z=Zd (FD v' f1 TI TO))(G:A.handled=Zs)
 (h:∀h' tk,(∀b o,s.heap.get? b=Zd o->h'.get? b=Zd o)->Q Zs {s with heap:=h',toks:=tk}):ZZ (XA prog w) A (getAttr? (.ref z) "keys") Q E s:=by
 obtain⟨C,g,d,tk,D⟩:=s;dsimp only at u;generalize(λK=>mEA _ u rfl:∀r,(⟨C,g,d,r,D⟩:Zj).TypeIs (.ref z) "zip")=B;generalize sub_AttributeError=f1;generalize Fd.lookup=f3;generalize aa=f5;unfold getAttr? getAttrBy?;refine Zg (TX (Zg (W8 ?_)));unfold PG;refine Yt (Zg (X5 (B _) (Zg (XL f3 ?_))));dsimp only;refine Ab (Yc (by decide) ..) ?_;unfold Sf;refine Zg (Zp (Zg (W8 (Yt ?_))));unfold TF;refine Ab ((rfl:(Zh&&PH (Wm "zip.__getattribute__"))=Zh) ..) (Ab (Yc (by decide) ..) ?_);unfold SN;refine Ab (Fd.bind (.ref z)) (Zg (Zp ?_));refine Ug Fd (B _) LV (ab _ _) (me z TI TO _ _ _) (Cp u G (λh' r e j=>?_));refine gy (j.there) λH L I=>(?_:ZZ _ _ (RP _ _ _ _ _ _ _) _ _ _);unfold RP
 repeat (any_goals (first|assumption|wp_step))
 exact h _ _ j.keeps
theorem gx{Q:Ze Xp->Zj->Prop}(j:s.heap.get? a=Zd M9)(h:Q (Zd M9) s):ZZ (XA prog w) A (loadIfAlive a) Q E s:=by
 have h':Q (s.heap.get? a) s:=by refine Ab j ?_;exact h
 exact λg g g=>h'
theorem JU(r:s.heap.get? z=Zd (FD (Xj T) f1 TI TO))(C:f1=.bool Zh∨f1=.bool Zm)(u:∃o,s.heap.get? T=Zd o):
 ZZ (XA prog w) A (XF (.ref z)) (λa D=>a=Zh/\∃g,D={s with heap:=g}/\g.get? z=Zd (FD (Xj T) (.bool Zm) TI TO)/\(∀c o,c≠z->s.heap.get? c=Zd o->g.get? c=Zd o)/\g.objs.size=s.heap.objs.size) E s:=by
 refine xE u λH u=>?_;unfold XF;refine Zg (Xw r rfl (x:=Xj T) rfl ?_);unfold Xj;dsimp only;refine Ab (Vb ..) ?_;refine Zg (gx u ?_);refine Ab (Yc (by simp) ..) ?_;refine Zg (Xw r rfl (x:=f1) rfl ?_);rcases C with rfl|rfl
 ·refine Ab (if_pos (by rfl) ..) (Zg (wpAny_setField_rec r (by exact ZQ _ _) λg j h=>Zp (cV rfl g (Ba rfl j (λc o G e=>h.extBut _ _ G e) h.1))))
 ·exact Ab (Yc (by decide) ..) (Zp (cV rfl s.heap (Ba rfl r (λB B B e=>e) rfl)))
theorem Rr{M:QJ}{f:α->β->ZN (ForInStep β)}{a:α}{l:Za α}{b:β}{Q:β->Zj->Prop}(h:ZZ M A (f a b) (λr g=>ZZ M A (r.casesOn pure λb=>N2 l b f) Q E g) E s):ZZ M A (N2 (a::l) b f) Q E s:=
 (Ut f a l b).symm▸Zg (Zu h (λr g z=>by cases r<;>exact z) λj j z=>z)
theorem HJ{Q:Zb->Zj->Prop}(D:TH z TI TO i1 i2 f C)
 (O:s.heap.get? z=Zd (FD (Xj T) f1 TI TO)) (hf:f1=.bool Zh∨f1=.bool Zm) (hT:∃o,s.heap.get? T=Zd o) (I:U2 s.heap TI (.ref i1) (.ref i2))
 (h1:s.heap.IsListIter i1 f k1) (h2:s.heap.IsListIter i2 C k2) (U:s.heap.IsList f xs) (K:s.heap.IsList C ys) (hx:xs[k1]? =Zd x) (hy:ys[k2]? =Zd y)
 (hQ:∀h',h'.get? z=Zd (FD (Xj T) (.bool Zm) TI TO)->h'.IsListIter i1 f (k1+1)->h'.IsListIter i2 C (k2+1)->U2 h' s.heap.objs.size x y->h'.objs.size=s.heap.objs.size+1->
  (∀c o,c≠z->c≠i1->c≠i2->s.heap.get? c=Zd o->h'.get? c=Zd o)->Q (.ref s.heap.objs.size) {s with heap:=h'}):
 ZZ (XA prog w) A (Yx.«zip.__next__» ⟨[.ref z],[]⟩) (λfin X=>∃v,fin=.done (.ret v)/\Q v X) E s:=by
 refine(?_:ZZ _ _ (R9 (.ref z) 2>>=_) _ _ _);refine Zg (Xw O rfl (x:=.bool Zh) rfl ?_);refine(?_:ZZ _ _ (R9 (.ref z) 3>>=_) _ _ _);refine Zg (Xw O rfl (x:=.ref TI) rfl ?_);refine Zg (V6 I rfl ?_);refine(?_:ZZ _ _ (XF (.ref z)>>=_) _ _ _);refine Zg (Zu (JU O hf hT) (λa X H=>xA H λea q_=>EQ q_ λB es g1 Y g3=>?_) λz_ z_ e=>e);subst ea es;refine W5 rfl ?_;refine Zg (Bj (RQ (m:=ZN)) ?_);have G:∀c,c≠z->∀o,s.heap.get? c=Zd o->B.get? c=Zd o:=λc hc o e=>Y c o hc e;refine Rr (Zg (Yt ?_));refine(?_:ZZ _ _ (Vr (.ref i1)>>=_) _ _ _);refine Zg (T8 (h1.at λo e=>G _ D.i1z o e) (U.at λo e=>G _ D.l1z o e) hx λa0 u g=>Zp ?_);refine Zp ((?_:ZZ _ _ (N2 [Yn i2] _ _) _ _ _));refine Rr (Zg (Yt ?_));refine(?_:ZZ _ _ (Vr (.ref i2)>>=_) _ _ _);refine Zg (T8 ((h2.at λo e=>G _ D.i2z o e).extBut g.extBut D.i12.symm) ((K.at λo e=>G _ D.l2z o e).extBut g.extBut D.l2i1) hy λj r h=>Zp ?_);refine Zp (Zp ?_);dsimp only;refine Zg (Q1 (hsz:=by refine(?_:2<=VE);refine Ab Y7 ?_;exact ZQ _ _) ?_);have hsz:j.objs.size=s.heap.objs.size:=by refine Ab h.1 ?_;refine Ab g.1 ?_;refine Ab g3 ?_;rfl
 refine Zp (mEA _ rfl ?_);have k3:∀c o,c≠z->c≠i1->c≠i2->s.heap.get? c=Zd o->j.get? c=Zd o:=λc o L P R e=>h.extBut _ _ R (g.extBut _ _ P (Y c o L e));refine(?_:Q (.ref j.objs.size) _);refine Ab (hsz ..) ?_;refine hQ _ (Yo.get?_push_of_some _ (h.extBut _ _ D.i2z.symm (g.extBut _ _ D.i1z.symm g1))) ((u.extBut h.extBut D.i12).at λo e=>Yo.get?_push_of_some _ e) (r.at λo e=>Yo.get?_push_of_some _ e) ?_ (by refine Ab (X8 ..) ?_;refine Ab (hsz ..) ?_;rfl) λc o L P R e=>Yo.get?_push_of_some _ (k3 c o L P R e);have e0:∀o:Xp,o.isFreed=Zh->(j.push o).get? s.heap.objs.size=Zd o:=λo ho=>by refine Bj hsz ?_;exact Yo.get?_push_size _ ho
 exact e0 _ rfl
theorem Jg{Q:Fin->Zj->Prop}(L:A.handled=Zs)(j:i1≠z)(B:f≠z)
 (D:s.heap.get? z=Zd (FD (Xj T) f1 TI TO)) (K:f1=.bool Zh∨f1=.bool Zm) (U:∃o,s.heap.get? T=Zd o) (r:U2 s.heap TI (.ref i1) (.ref i2))
 (X:s.heap.IsListIter i1 f k1) (C:s.heap.IsList f xs) (P:xs[k1]? =Zs)
 (H:∀h' e,(∀c o,c≠z->c≠i1->s.heap.get? c=Zd o->h'.get? c=Zd o)->(∃o,h'.get? e=Zd o/\o.cls=.type "StopIteration")->E (.ref e) {s with heap:=h'}):
 ZZ (XA prog w) A (Yx.«zip.__next__» ⟨[.ref z],[]⟩) Q E s:=by
 refine(?_:ZZ _ _ (R9 (.ref z) 2>>=_) _ _ _);refine Zg (Xw D rfl (x:=.bool Zh) rfl ?_);refine(?_:ZZ _ _ (R9 (.ref z) 3>>=_) _ _ _);refine Zg (Xw D rfl (x:=.ref TI) rfl ?_);refine Zg (V6 r rfl ?_);refine(?_:ZZ _ _ (XF (.ref z)>>=_) _ _ _);refine Zg (Zu (JU D K U) (λa s' Y=>xA Y λea O=>EQ O λG es g1 u g3=>?_) λz_ z_ e=>e);subst ea es;refine W5 rfl ?_;refine Zg (Bj (RQ (m:=ZN)) ?_);refine Rr (Zg (Yt ?_));refine(?_:ZZ _ _ (Vr (.ref i1)>>=_) _ _ _);exact Zg (wpAny_nextOf_list_end L (X.at λo e=>u _ o j e) (C.at λo e=>u _ o B e) P λh e g R=>H h e (λc o c1 I q=>g _ _ I (u c o c1 q)) R)
theorem LT(D:TH z TI TO i1 i2 a f)
 (u:s.heap.get? z=Zd (FD (Xj T) f1 TI TO)) (C:f1=.bool Zh∨f1=.bool Zm) (R:∃o,s.heap.get? T=Zd o) (h:U2 s.heap TI (.ref i1) (.ref i2))
 (U:s.heap.IsListIter i1 a k1) (G:s.heap.IsListIter i2 f k2) (r:s.heap.IsList a xs) (j:s.heap.IsList f ys) (K:xs[k1]? =Zd x) (H:ys[k2]? =Zd y)
 (I:∀h',h'.get? z=Zd (FD (Xj T) (.bool Zm) TI TO)->h'.IsListIter i1 a (k1+1)->h'.IsListIter i2 f (k2+1)->U2 h' s.heap.objs.size x y->h'.objs.size=s.heap.objs.size+1->
  (∀c o,c≠z->c≠i1->c≠i2->s.heap.get? c=Zd o->h'.get? c=Zd o)->Q (Zd (.ref s.heap.objs.size)) {s with heap:=h'}):
 ZZ (XA prog w) A (Vu (.ref z)) Q E s:=by
 generalize(mEA _ u rfl:s.TypeIs (.ref z) "zip")=g;unfold Vu;exact Zg (W8 (wpAny_callSpecial?_slot (name:=Zc "__next__") g W9
  (XZ W9 g T9
   (HJ D u C R h U G r j K H λh' O P X B Y L=>Zp (I h' O P X B Y L)) (TK _))))
theorem NY(G:A.handled=Zs)(h:i1≠z)(r:a≠z)
 (B:s.heap.get? z=Zd (FD (Xj T) f1 TI TO)) (C:f1=.bool Zh∨f1=.bool Zm) (O:∃o,s.heap.get? T=Zd o) (j:U2 s.heap TI (.ref i1) (.ref i2))
 (P:s.heap.IsListIter i1 a k1) (u:s.heap.IsList a xs) (I:xs[k1]? =Zs)
 (H:∀h',(∀c o,c≠z->c≠i1->s.heap.get? c=Zd o->h'.get? c=Zd o)->Q Zs {s with heap:=h'}):ZZ (XA prog w) A (Vu (.ref z)) Q E s:=by
 generalize(mEA _ B rfl:s.TypeIs (.ref z) "zip")=g;unfold Vu;refine Zg (W8 (wpAny_callSpecial?_slot (name:=Zc "__next__") g W9
  (XZ W9 g T9 (Jg G h r B C O j P u I λh' e K L=>?_) (TK _))))
 refine Ag L λo D R=>Zg (Qw (T:="StopIteration") (b:=Zm) (mEA o D R) SS ?_);exact Zp (H _ K)
theorem Kl:Wf UD "dict.update.loop"=Zd Yx.«dict.update.loop»:=YP (by kernel_rfl)
inductive tK(h:Yo)(d z TI TO i1 i2 l1 l2:Zo)(xs ys:ZD Zb)(i:Zf):Prop
 |fst (hi:i=0) (hz:IsZip h z TI TO .none) (hTI:U2 h TI (.ref i1) (.ref i2)) (hTO:U2 h TO .none .none) (h1:h.IsListIter i1 l1 i) (h2:h.IsListIter i2 l2 i) (hl1:h.IsList l1 xs) (hl2:h.IsList l2 ys)
 |nxt (T:Zo) (f1:Zb) (hz:h.get? z=Zd (FD (Xj T) f1 TI TO)) (hf:f1=.bool Zh∨f1=.bool Zm) (hT:∃o,h.get? T=Zd o) (n1:T≠z) (n2:T≠i1) (n3:T≠i2) (n4:T≠d) (hTI:U2 h TI (.ref i1) (.ref i2)) (h1:h.IsListIter i1 l1 i) (h2:h.IsListIter i2 l2 i) (hl1:h.IsList l1 xs) (hl2:h.IsList l2 ys)
theorem gw(D:TH z TI TO i1 i2 a f)(K:∃o,s.heap.get? d=Zd o)(hZ:tK s.heap d z TI TO i1 i2 a f xs ys i)(hx:xs[i]? =Zd x)(hy:ys[i]? =Zd y)
 (X:∀h',tK h' d z TI TO i1 i2 a f xs ys (i+1)->U2 h' s.heap.objs.size x y->h'.objs.size=s.heap.objs.size+1->(∀c o,c≠z->c≠TO->c≠i1->c≠i2->s.heap.get? c=Zd o->h'.get? c=Zd o)->Q (Zd (.ref s.heap.objs.size)) {s with heap:=h'}):
 ZZ (XA prog w) A (Vu (.ref z)) Q E s:=by
 have G:∀{c o},s.heap.get? c=Zd o->s.heap.objs.size≠c:=λe=>Y2 (YS e);refine xE K λod K=>?_;cases hZ with
 |fst hi I g P B u j h=>
  refine wpAny_pyNext_zip_item D I g P B u j h hx hy λh' R a2 L O H a6 r=>X h' (.nxt s.heap.objs.size (.bool Zh) R (.inl rfl) ⟨_,H⟩ (G I) (Ag B λC e C=>(G e)) (Ag u λC e C=>(G e)) (G K)
   (r _ _ D.TIz D.TITO D.TIi1 D.TIi2 g) L O (j.at λo e=>r _ o D.l1z D.l1TO D.l1i1 D.l1i2 e) (h.at λo e=>r _ o D.l2z D.l2TO D.l2i1 D.l2i2 e)) H a6 r
 |nxt T f1 I hf Y n1 n2 U n4 g B u j h=>
  refine LT D I hf Y g B u j h hx hy λh' R a2 L O H r=>X h' (.nxt T (.bool Zm) R (.inr rfl) ?_ n1 n2 U n4 (r _ _ D.TIz D.TIi1 D.TIi2 g) a2 L (j.at λo e=>r _ o D.l1z D.l1i1 D.l1i2 e) (h.at λo e=>r _ o D.l2z D.l2i1 D.l2i2 e)) O H λc o c1 C c3 c4 e=>r c o c1 c3 c4 e;exact xE Y λo e=>⟨o,r _ _ n1 n2 U e⟩
theorem md(G:A.handled=Zs)(D:TH z TI TO i1 i2 a f)(O:tK s.heap d z TI TO i1 i2 a f xs ys i)(I:xs[i]? =Zs)
 (H:∀h',(∀c o,c≠z->c≠TO->c≠i1->c≠i2->s.heap.get? c=Zd o->h'.get? c=Zd o)->Q Zs {s with heap:=h'}):ZZ (XA prog w) A (Vu (.ref z)) Q E s:=by
 cases O with
 |fst hi B g r u C h j=>exact wpAny_pyNext_zip_end G D B g r u C h j (.inl I) H
 |nxt T f1 B K R n1 n2 Y n4 g u C h j=>exact NY G D.i1z D.l1z B K R g u h I λh' P=>H h' λc o X U L U e=>P c o X L e
theorem tK.at(X:tK h d z TI TO i1 i2 a f xs ys i)(O:d≠z/\d≠TI/\d≠TO/\d≠i1/\d≠i2/\d≠a/\d≠f)(g:∀c o,c≠d->h.get? c=Zd o->h'.get? c=Zd o):tK h' d z TI TO i1 i2 a f xs ys i:=by
 refine Du O λK D R=>CU R λQ I E H L=>?_;cases X with
 |fst Y C j A B u s r=>exact .fst Y (g _ _ K.symm C) (g _ _ D.symm j) (g _ _ Q.symm A) (B.at λo e=>g _ o I.symm e) (u.at λo e=>g _ o E.symm e) (s.at λo e=>g _ o H.symm e) (r.at λo e=>g _ o L.symm e)
 |nxt T f1 C P hT n1 n2 U G j B u s r=>
  exact xE hT λo e=>.nxt T f1 (g _ _ K.symm C) P ⟨o,g _ _ G e⟩ n1 n2 U G (g _ _ D.symm j) (B.at λo e=>g _ o I.symm e) (u.at λo e=>g _ o E.symm e) (s.at λo e=>g _ o H.symm e) (r.at λo e=>g _ o L.symm e)
noncomputable def Jw(ks:Za Zi)(vs:Za Zb)(i:Zf):Za (Zi×Zb):=(ks.zip vs).take i
theorem jN(G:ks.Nodup)(u:ks[i]? =Zd k)(z:vs[i]? =Zd v'):UX (Jw ks vs i) k v'=Jw ks vs (i+1):=by
 generalize((Za.getElem?_eq_some_iff.mp u).1:i<ks.length)=A;generalize((Za.getElem?_eq_some_iff.mp z).1:i<vs.length)=I;generalize(by rw[Uy];exact Pb.mpr ⟨A,I⟩:i<(ks.zip vs).length)=K;generalize(by
  rw[Qy];have H:=(Za.getElem?_eq_some_iff.mp u).2;have D:=(Za.getElem?_eq_some_iff.mp z).2;rw[H,D]:(ks.zip vs)[i]=(k,v'))=C
 unfold UX;rw[Yc]
 ·unfold Jw;rw[XR K,C]
 ·intro h;refine Ag (Xu.mp h) λE B e=>?_;generalize(by exact of_decide_eq_true e:E.1=k)=e;unfold Jw at B;obtain⟨j,s,r⟩:=U4.mp B;generalize(Pb.mp s:j<i/\j<(ks.zip vs).length)=g;rw[Qy]at r;exact(Vp.mp G j i (by rw[Uy]at g;exact ZB g.2 (Ur ..)) A g.1) ((by rw[<-r]at e;exact e:ks[j]'(by rw[Uy]at g;exact ZB g.2 (Ur ..))=k).trans (Za.getElem?_eq_some_iff.mp u).2.symm)
theorem oR(hh:A.handled=Zs)(D:TH z TI TO i1 i2 a f)(h:d≠z/\d≠TI/\d≠TO/\d≠i1/\d≠i2/\d≠a/\d≠f)
 (P:∀(i:Zf) (k:Zi),ks[i]? =Zd k->∃t,xs[i]? =Zd (Qu k t)) (K:xs.size=ks.length) (B:ys.size=ks.length) (hnd:ks.Nodup) (hz:ks.length<=900):∀(r i:Zf) (s:Zj) (tk:QE),i+r=ks.length->tK s.heap d z TI TO i1 i2 a f xs ys i->s.heap.DictOf (YD prog w) d (Jw ks ys.toList i)->
 (∀h' tk,h'.DictOf (YD prog w) d (ks.zip ys.toList)->(∀b o,b≠d->b≠z->b≠TO->b≠i1->b≠i2->s.heap.get? b=Zd o->h'.get? b=Zd o)->R (.ok (.ret .none)) {s with heap:=h',toks:=tk})->
 XQ (XA prog w) A (.builtin "dict.update.loop" ⟨[.ref d,.ref z,.int i tk,.none],[]⟩) R s:=by
 intro r
 induction r with
 |zero=>
  intro i s tk E Q G O;refine YU Kl (Ab (Up (by decide+kernel) _ ..) ?_);show ZZ _ _ (Vu (.ref z)>>=_) _ _ _;refine Zg (md hh D Q (ZD.getElem?_eq_none (Z1 (K.trans E.symm))) λh' I=>?_);have e:Jw ks ys.toList i=ks.zip ys.toList:=by
   unfold Jw;exact V3 (Ab Uy (mn (Z1 E.symm)))
  rw[e]at G;refine Dg G λo es T H rest=>Zg (m:=Pz d []) (Zp ?_);exact Zp (O h' s.toks (Ga o es T (I _ _ h.1 h.2.2.1 h.2.2.2.1 h.2.2.2.2.1 H) rest) λb o z_ b1 b2 b3 b4 e=>I b o b1 b2 b3 b4 e)
 |succ r ih=>
  intro i s tk E Q G O;refine YU Kl (Ab (Up (by decide+kernel) _ ..) ?_);show ZZ _ _ (Vu (.ref z)>>=_) _ _ _;have g:i<ks.length:=vu E;refine xE (P i ks[i] (Za.getElem?_eq_getElem g)) λt I=>?_;have hy:ys[i]? =Zd (ys[i]'(B▸g)):=ZD.getElem?_eq_getElem (B▸g);refine Dg G λod es T H rest=>Zg (gw D ⟨_,H⟩ Q I hy λh' U hP hsz u=>?_);have hd':h'.DictOf (YD prog w) d (Jw ks ys.toList i):=Ga od es T (u _ _ h.1 h.2.2.1 h.2.2.2.1 h.2.2.2.2.1 H) rest;dsimp only;refine Zg (Yt (Zg (wpAny_tryCatch ?_)));unfold PW;have hT:VF {s with heap:=h'} (.ref s.heap.objs.size) "tuple":=mEA _ hP rfl;refine Zg (X5 hT ?_);refine Ab (if_pos (by decide) ..) (Zg (V6 hP rfl (Zp ?_)));refine Yt (Rc (knd:=YD prog w) (k:=ks[i]) (s:={s with heap:=h'}) (hsz:=by unfold Jw;refine Ab Qz ?_;refine Ab Y7 ?_;exact mn (Zv (YB g) (q1 hz rfl))) (Yl rfl) hd' λh2 j C=>?_);rw[jN hnd (Za.getElem?_eq_getElem g) (by refine Ab (ZD.getElem?_toList ..) ?_;exact hy)]at j;refine Zp ⟨YK _ (by decide+kernel),?_⟩;refine ih (i+1) _ 0 (wI E) (U.at h λc o hc e=>C.extBut c o hc e) j λh3 X Y L=>O h3 X Y λb o b0 b1 b2 b3 b4 e=>L b o b0 b1 b2 b3 b4 (C.extBut b o b0 (u b o b1 b2 b3 b4 e))
theorem J9{Q:Zb->Zj->Prop}(hh:A.handled=Zs)(D:TH z TI TO i1 i2 a f)
 (H:IsZip s.heap z TI TO .none) (C:U2 s.heap TI (.ref i1) (.ref i2)) (I:U2 s.heap TO .none .none) (h1:s.heap.IsListIter i1 a 0) (h2:s.heap.IsListIter i2 f 0) (L:s.heap.IsList a xs) (G:s.heap.IsList f ys)
 (R:∀(i:Zf) (k:Zi),ks[i]? =Zd k->∃t,xs[i]? =Zd (Qu k t)) (O:xs.size=ks.length) (T:ys.size=ks.length) (hnd:ks.Nodup) (Y:ks.length<=900)
 (h:∀h' tk,h'.DictOf (YD prog w) s.heap.objs.size (ks.zip ys.toList)->(∀b o,b≠z->b≠TO->b≠i1->b≠i2->s.heap.get? b=Zd o->h'.get? b=Zd o)->Q (.ref s.heap.objs.size) {s with heap:=h',toks:=tk}):
 ZZ (XA prog w) A (Y8 (.type "dict") [.ref z]) Q E s:=by
 refine callType_codes (Q₁:=λK u=>K=.ref s.heap.objs.size/\u={s with heap:=s.heap.push {cls:=.type "dict",data:=.dict #[]}}) PySem.F.kt_called_dict (PySem.F.kt_typeCall_dict_1 _) PySem.F.entry_dict_init (kt_code_dict_new _ ⟨rfl,rfl⟩) ?_;rintro K u ⟨rfl,rfl⟩;generalize(Se s.heap:(s.heap.push {cls:=.type "dict",data:=.dict #[]}).DictOf (YD prog w) s.heap.objs.size [])=g;generalize(λe=>Yo.get?_push_of_some _ e:∀{b:Zo} {o:Xp},s.heap.get? b=Zd o->(s.heap.push {cls:=.type "dict",data:=.dict #[]}).get? b=Zd o)=up;generalize(λe=>Y2 (YS e):∀{c o},s.heap.get? c=Zd o->s.heap.objs.size≠c)=r;refine Cp g.typeIs (PySem.F.args_dict_init_2 _ _) ?_;unfold Yx.«dict.__init__»;refine Zg ?_;unfold Tl;refine Zg (Sl g.typeIs ?_);refine(?_:ZZ _ _ (pure (s.heap.objs.size,[Yn z])) _ _ _);refine Zp ((?_:ZZ _ _ (TL "dict.__init__" s.heap.objs.size (.ref z) [] .none) _ _ _));unfold TL;refine Zg (X5 (mEA _ (up H) rfl:VF {s with heap:=s.heap.push {cls:=.type "dict",data:=.dict #[]}} (.ref z) "zip") ?_);refine Ab (if_pos (by rfl) ..) (Zg (LU (up H) hh λh' tk j=>?_));refine Ab (if_pos (rfl:(Zs:Ze Zb).isNone=Zm) ..) (Zg (TZ ?_));refine Zg (wpAny_pyIter_zip (j _ _ (up H)) ?_);generalize(by
  refine Dg g λo es ep ho rest=>?_;exact Ga o es ep (j _ _ ho) rest:h'.DictOf (YD prog w) s.heap.objs.size (Jw ks ys.toList 0))=a0
 refine Zp ⟨YK _ (by decide+kernel),?_⟩;refine oR (prog:=prog) (w:=w) (A:=A.in1) hh D (⟨r H,r C,r I,by refine Ag h1 λB e B=>?_;exact r e,by refine Ag h2 λB e B=>?_;exact r e,by refine Ag L λB e B=>?_;exact r e,by refine Ag G λB e B=>?_;exact r e⟩:s.heap.objs.size≠z/\s.heap.objs.size≠TI/\s.heap.objs.size≠TO/\s.heap.objs.size≠i1/\s.heap.objs.size≠i2/\s.heap.objs.size≠a/\s.heap.objs.size≠f) R O T hnd Y ks.length 0 {s with heap:=h',toks:=tk} 0 (by exact Y0 _) (.fst rfl (j _ _ (up H)) (j _ _ (up C)) (j _ _ (up I)) (h1.at λo e=>j _ _ (up e)) (h2.at λo e=>j _ _ (up e)) (L.at λo e=>j _ _ (up e)) (G.at λo e=>j _ _ (up e))) a0 λh3 X P U=>?_;refine⟨rfl,h h3 X P λb o b1 b2 b3 b4 e=>U b o (r e).symm b1 b2 b3 b4 (j b o (up e))⟩
end
section
variable{T:Tm}
theorem Ar.adopt(h:Ar c ⟨T,L,F⟩ G s)(j:a∉A3 c ⟨T,L,F⟩)(u:∀M9,¬G a M9)(e:s.heap.get? a=Zd M9)(r:cy c.w.params G lo M9):Ar c ⟨T,(a,lo)::L,F⟩ G s:={
 base:=h.base,gsub:=h.gsub,temps:=h.temps,outer:=h.outer,kept:=h.kept,frames:=h.frames
 live:=λp g=>by
  rcases Zr.mp g with rfl|g
  ·exact mEA M9 e r
  ·exact h.live p g
 prot:=h.prot
 nodup:=Z0.mpr ⟨j,h.nodup⟩
 apart:=λb hb=>by
  rcases Zr.mp hb with rfl|hb
  ·exact u
  ·exact h.apart b hb
 gens:=h.gens,os:=h.os,dr:=h.dr}
theorem Ar.forget(m:Ar c ⟨T,S++L,F⟩ G s)(k:∀b o,s.heap.get? b=Zd o->b∉S.map (·.1)->h'.get? b=Zd o):Ar c ⟨T,L,F⟩ G {s with heap:=h',toks:=tk}:=by
 generalize m.nodup=nd;unfold A3 at nd;dsimp only at nd;rw[ZA,ZS,ZY]at nd;refine Du nd λB A h=>?_;generalize(λb hb=>by
  unfold A3;refine Ab (ZA ..) ?_;exact Zk _ (Zk _ hb):∀b∈S.map (·.1),b∈A3 c ⟨T,S++L,F⟩)=z
 generalize(λb o g hb=>m.apart b (z b hb) o g:∀b o,G b o->b∉S.map (·.1))=C;exact {
  base:=m.base
  gsub:=λb o g=>k b o (m.gsub b o g) (C b o g)
  temps:=m.temps,outer:=m.outer,kept:=m.kept
  frames:=m.frames.mono (λB B e=>e) λa u o e=>k a o e λhb=>h a hb a (Zq _ (Zk _ u)) rfl
  live:=λp j=>Ag (m.live p (Zq _ j)) λo e r=>mEA o (k _ _ e λhb=>h p.1 hb p.1 (Zk _ (ZJ j)) rfl) r
  prot:=λp j=>Ag (m.prot p j) λo e r=>mEA o (k _ _ e λhb=>h p.1 hb p.1 (Zq _ (Zq _ (ZJ j))) rfl) r
  nodup:=A
  apart:=λa u=>m.apart a (by
   unfold A3 at u⊢;dsimp only at u⊢;refine Ab (ZA ..) ?_;refine Ab (ZS ..) ?_;exact Zq _ u)
  gens:=m.gens,os:=m.os,dr:=m.dr}
def wt(zs:Za (Zo×LO))(a b:Zb)(z:Zo):Prop:=∃TI TO i1 i2 l1 l2 h g,a=.ref l1/\b=.ref l2/\(h.cls=.type "list_iterator"/\h.data=.fields #[.ref l1,.int (0:Zf) 0])/\(g.cls=.type "list_iterator"/\g.data=.fields #[.ref l2,.int (0:Zf) 0])/\
 zs=[(z,.raw (FD .none (.bool Zh) TI TO)),(TI,.raw (JT (.ref i1) (.ref i2))),(TO,.raw (JT .none .none)),(i1,.raw h),(i2,.raw g)]
theorem Jr{a b:Zf}(j:a≠b)(g:a∉A3 c ⟨T,L,F⟩):a∉A3 c ⟨T,(b,lo)::L,F⟩:=λh=>by
 unfold A3 at h g;dsimp only at h g;rw[Z3,YO]at h;rcases Zr.mp h with h|h
 ·exact j h
 ·exact g h
theorem uN{a:Zb}(u:LstAt T L a l)(hb:LstAt T L b ts)(h:∀z zs,wt zs a b z->P (.ref z) ⟨(.ref z,.ref z)::T,zs++L,F⟩):Ev c ⟨T,L,F⟩ (Y8 (.type "zip") [a,b]) P:=Ev.raw λs G m=>by
 refine Aq (u.get m) λl1 R n1 r e1 r1=>?_;subst r;refine Aq (hb.get m) λl2 it2 n2 j Y r2=>?_;subst j;refine call_zip_2 (As e1) (As Y) λh' hz B D A C hsz U=>?_;generalize(λa u hm=>by
  refine xE (m.there a hm) λo e=>?_;exact ZT (YS e) (Vk u):∀a,s.heap.objs.size<=a->a∉A3 c ⟨T,L,F⟩)=old
 generalize(λa u o e=>ZT (YS (m.gsub _ _ e)) (Vk u):∀a,s.heap.objs.size<=a->∀o,¬G a o)=g;refine Am A λK g1 c1 H=>Am C λI X c2 E=>?_;generalize(m.grow (tk:=s.toks) U)=m0;generalize s.heap.objs.size=n at*;generalize(Ar.adopt (lo:=.raw I) m0 (old (n+1) (by exact YY _)) (g _ (YY n)) X ⟨rfl,Xy E⟩)=m1;generalize(Ar.adopt (lo:=.raw K) m1 (Jr (a:=n) (b:=n+1) (by exact(Yq _).symm) (old (n) (by exact ZL _))) (g _ (ZL n)) g1 ⟨rfl,Xy H⟩)=O;generalize(Ar.adopt (lo:=.raw (JT .none .none)) O (Jr (a:=n+3) (b:=n) (by exact Y2 (YT (by decide))) (Jr (a:=n+3) (b:=n+1) (by lia) (old (n+3) (by exact ZF _ _)))) (g _ (by lia)) D ⟨rfl,rfl⟩)=Q;generalize(Ar.adopt (lo:=.raw (JT (.ref n) (.ref (n+1)))) Q (Jr (a:=n+2) (b:=n+3) (by exact(Yq _).symm) (Jr (a:=n+2) (b:=n) (by exact Y2 (YT (by decide))) (Jr (a:=n+2) (b:=n+1) (by exact Yq _) (old (n+2) (by exact ZF _ _))))) (g _ (by lia)) B ⟨rfl,rfl⟩)=m4;exact mEA _ ⟨G,(Ar.adopt (lo:=.raw (FD .none (.bool Zh) (n+2) (n+3))) m4 (Jr (a:=n+4) (b:=n+2) (by lia) (Jr (a:=n+4) (b:=n+3) (by exact Yq _) (Jr (a:=n+4) (b:=n) (by exact Y2 (YT (by decide))) (Jr (a:=n+4) (b:=n+1) (by lia) (old (n+4) (by exact ZF _ _)))))) (g _ (by lia)) hz ⟨rfl,rfl⟩).zH VR.val⟩ (h _ _ (It _ _ _ (It _ l1 l2 (Ck K I rfl rfl ⟨c1,H⟩ ⟨c2,E⟩ rfl))))
theorem EB{b:Zo}{j:Xp}(r:h.get? a=Zd M9)(g:h.get? b=Zd j)(s:M9.cls≠j.cls):a≠b:=λe=>by
 subst e;rw[r]at g;cases g;exact s rfl
theorem pF:∀{ks:Za Zi} {vs:Za V} {xs:Za Zb},Ay G vs xs->Jd G (ks.zip vs) (ks.zip xs):=by
 intro ks
 induction ks with
 |nil=>exact @λg g g=>rfl
 |cons k ks j=>
  intro vs xs h;cases vs with
  |nil=>exact(h:xs=[])▸rfl
  |cons v vs=>exact An h λy r e u s=>e▸At y _ rfl u (j s)
theorem mV{a:Zb}(hh:c.A.handled=Zs)(ha:LstAt T L a (ks.map .str))(hb:LstAt T L b ts)(hz:wt zs a b z)(hnd:ks.Nodup)(hl:ks.length=ts.length)(hs:ks.length<=900)
 (h:∀D,P (.ref D) ⟨(.ref D,.ref D)::T,(D,.dict (ks.zip ts))::L,F⟩):Ev c ⟨T,zs++L,F⟩ (Y8 (.type "dict") [.ref z]) P:=Ev.rw λs G R hR m=>by
 have I:∀{x:Zb} {l:Za V},LstAt T L x l->LstAt T (zs++L) x l:=λh=>h.elim .inl λh1Z=>Ag h1Z λa h1 h2=>.inr (mEA a h1 (Zq _ h2));refine Cb λPP6 hPP6=>?_;refine Aq ((I ha).get m) λl1 it1 n1 E e1 r1=>?_;subst E;refine Aq ((I hb).get m) λl2 it2 n2 B Y r2=>?_;subst B;refine ac hz λTI TO i1 q_=>ac q_ λi2 l1' l2' q_=>Dh q_ λo1 o2 q1 q2 u j r=>?_;obtain⟨c1,d1⟩:=u;obtain⟨c2,d2⟩:=j;subst r;refine hPP6 ?_;cases q1;cases q2;refine Cb λPP7 hPP7=>?_;refine Am (m.live (z,_) (.head _)) λoz gz ez z_=>?_;refine Am (m.live (TI,_) (.tail _ (.head _))) λoTI gTI eTI z_=>?_;refine Am (m.live (TO,_) (.tail _ (.tail _ (.head _)))) λoTO Q eTO z_=>?_;refine Am (m.live (i1,_) (.tail _ (.tail _ (.tail _ (.head _))))) λoi1 K ei1 z_=>?_;refine Am (m.live (i2,_) (.tail _ (.tail _ (.tail _ (.tail _ (.head _)))))) λoi2 O ei2 z_=>?_;subst ez eTI eTO ei1 ei2;refine hPP7 ?_;have g:=m.nodup;unfold A3 at g;simp only[YO,Z3,Z0,Zr,PU]at g;have hD:TH z TI TO i1 i2 l1 l2:=by
  refine⟨?_,?_,?_,?_,?_,?_,?_,?_,?_,?_,?_,?_,?_,?_,?_,?_,?_,?_⟩
  all_goals first|exact λe=>g.1.1 e|exact λe=>g.1.1 e.symm|exact λe=>g.1.2.1 e|exact λe=>g.1.2.1 e.symm|exact λe=>g.1.2.2.1 e|exact λe=>g.1.2.2.1 e.symm|exact λe=>g.1.2.2.2.1 e|exact λe=>g.1.2.2.2.1 e.symm|exact λe=>g.2.1.1 e|exact λe=>g.2.1.2.1 e|exact λe=>g.2.1.2.2.1 e|exact λe=>g.2.2.1.1 e|exact λe=>g.2.2.1.2.1 e|exact λe=>g.2.2.2.1.1 e|skip
  ·exact EB e1 gz (by simp)
  ·exact EB e1 Q (by simp)
  ·exact EB e1 K (by refine Ab (c1 ..) ?_;simp)
  ·exact EB e1 O (by refine Ab (c2 ..) ?_;simp)
  ·exact EB Y gz (by simp)
  ·exact EB Y Q (by simp)
  ·exact EB Y K (by refine Ab (c1 ..) ?_;simp)
  ·exact EB Y O (by refine Ab (c2 ..) ?_;simp)
 have H:=r1.length;have X:=r2.length;rw[Zz]at H;refine J9 (ks:=ks) hh hD gz gTI Q (AU _ K c1 d1) (AU _ O c2 d2) (As e1) (As Y) (λi k hk=>?_) (by refine Ab (ZR ..) ?_;exact H) (by refine Ab (ZR ..) ?_;exact hl▸X) hnd hs λh' tk hd hk=>?_
 ·refine Cb λPP8 U=>?_;refine Ag (r1.get (by refine Ab (Za.getElem?_map ..) ?_;refine Ab (hk ..) ?_;rfl:(ks.map V.str)[i]? =Zd (.str k))) λy ey ry=>?_;refine xE (ry.zJ) λt C=>?_;subst C;refine U ?_;exact⟨t,by refine Ab (Za.getElem?_toArray ..) ?_;exact ey⟩
 ·rw[List.toList_toArray]at hd;have ndk:((ks.zip ts).map (·.1)).Nodup:=by
   refine Ab (List.map_fst_zip (by exact Z1 hl) ..) ?_;exact hnd
  refine Ag (EN (c:=c) ndk (pF r2) hd) λo eo ro=>?_;have m1:Ar c ⟨T,L,F⟩ G {s with heap:=h',toks:=tk}:=Ar.forget (S:=[(z,.raw (FD .none (.bool Zh) TI TO)),(TI,.raw (JT (.ref i1) (.ref i2))),(TO,.raw (JT .none .none)),(i1,.raw oi1),(i2,.raw oi2)]) m λb o e hb=>by
   simp only[Z3,X3,Zr,PU]at hb;exact hk b o hb.1 hb.2.2.1 hb.2.2.2.1 hb.2.2.2.2.1 e
  have hf:=m.fresh;have m2:=Ar.adopt (lo:=.dict (ks.zip ts)) m1 (a:=s.heap.objs.size) (λq=>hf (by
   unfold A3 at q⊢;dsimp only at q⊢;refine Ab (ZA ..) ?_;refine Ab (ZS ..) ?_;exact Zq _ q)) (λo=>m.zZ o) eo ro
  exact hR _ _ _ ⟨G,m2.zH VR.val⟩ (h _)
end
end
section
section
variable{s:S}{q:Zf}
theorem oN(Y:Co ft rec)(G:Gx c d ks ck X){a:PE}(gd:Bh ks line (.type "dict")=Zm)(P:Bh ks name (.type "zip")=Zm)(U:Cq ks ck value a)(Q:Cq ks ck target pe)(rel:Rel m s X σ)
 (h:rec d (.ex a λx s1=>rec d (.ex pe λy A=>∃(ks:Za Zi) (vs:Za V),JF A.H x=Zd (ks.map .str)/\JF A.H y=Zd vs/\ks.Nodup/\ks.length=vs.length/\ks.length<=900/\(match A with
  |⟨H,nx,rho⟩=>k (.o nx) ⟨(nx,.dictW ((ks.zip vs).map λp=>(p.1,.p p.2)))::H,nx+1,rho⟩)) s1) s):Ev c σ (Yk (.Call (.Name line j9) [.Call (.Name name A5) [value,target] [] A6] [] p) X.env) (Ap m s.nx X σ.T k):=by
 refine GM (CH G.ok.gd G.en (Ey gd) (Ex gd) ?_) rfl;refine FU Kp.type (BB ?_ (Av rfl)) (Av rfl) rfl;refine GM (CH G.ok.gd G.en (Ey P) (Ex P) ?_) rfl;generalize U.star=n1;generalize Q.star=n2;refine FU Kp.type (BB ((Y.ex G U (rel.tmp (T':=(Y9 "zip",V.val (.type "zip"))::(Y9 "dict",V.val (.type "dict"))::σ.T)) h).mono λa' σ1 g=>g.cp λm1 s1 x1 r1 i1 w1 K k1=>BB ((Y.ex G Q r1 k1).mono λb' j g=>g.cp λm2 A x2 L R w2 C O=>Ct ?_) (Av n2)) (Av n1)) (Av n1) (Cs (es:=[target]) λz B=>by rw[Yz]at B;subst B;exact n2);refine AV O λu vs ea q_=>CU q_ λeb hnd hl B O=>?_;generalize(Bp L ea (K.ext x2 R))=la;generalize(Bp L eb C)=lb;refine uN la lb λz zs E=>Ct (mV (T:=(.ref z,.ref z)::j.T) G.ok.han ?_ ?_ E hnd hl B λD=>?_)
 ·rcases la with q|⟨w,q1,q2⟩
  ·exact .inl (.tail _ q)
  ·exact .inr (mEA w (.tail _ q1) q2)
 ·rcases lb with q|⟨w,q1,q2⟩
  ·exact .inl (.tail _ q)
  ·exact .inr (mEA w (.tail _ q1) q2)
 generalize(by
  intro m n done
  induction done with
  |nil=>rfl
  |cons p r ih=>exact At p.2 r rfl rfl ih:∀(m:Mp) (n:Zf) (done:Za (Zi×V)),FC m n (done.map λ(p:Zi×V)=>(p.1,W.p p.2)) done)=hd
 exact(BY (xo:=.dictW ((u.zip vs).map λ(p:Zi×V)=>(p.1,W.p p.2))) (lo:=.dict (u.zip vs)) (k:=k) (a:=D) (L.tmp (T':=(.ref z,.ref z)::j.T)) (λm' x'=>mEA _ rfl (hd _ _ _)) O (T':=(.ref D,.ref D)::(.ref z,.ref z)::j.T) (λp I=>.tail _ I) (.head _)).up (x1.trans x2) λp I=>.tail _ (R _ (i1 _ (.tail _ (.tail _ I))))
end
end
section
variable{ps l:Za PE}{k:Ze W->S->Prop}{K:Za W->S->Prop}{eo:Ze Expr}{po r:PE}{a b:Expr}{t:ZN Zb}{px ap pt p1 p2:Xf}{live:Zl}{kws:Za R3}{kw:Za (Zf×PE)}{name:Zf}{i:Z7}{Q:Za Zb->Zj->Prop}
theorem GT(h:NW ks ck es ps):∀e∈es,isStar e=false:=by
 induction h with
 |nil=>exact λj h=>(ZT h ZE)
 |cons h j g=>exact λx r=>(Zr.mp r).elim (λe=>e▸h.star) (g x)
theorem ph(h:NW ks ck es ps):es.length=ps.length:=by
 induction h with
 |nil=>rfl
 |cons j j g=>exact ZH UU g
section
variable{s:S}
theorem oJ(r:Co ft rec)(G:Gx c d ks ck X){es:Za Expr}{ps:Za PE}{pos:Xf}{k:Za W->S->Prop}(Q:NW ks ck es ps)(rel:Rel m s X σ)(h:vP rec d ps k s):
 Ev c σ (UI (Y6 pos (Ym es X.env))) (FB m s.nx X σ.T k):=by
 cases Q with
 |nil=>exact Ct ⟨m,s,Ext.refl,rel,λz_ h=>h,[],rfl,h⟩
 |cons A I=>
  refine BB ((r.ex G A rel h).mono λv' D g=>g.cp λm1 s1 Y K L w C B=>?_) (Av A.star);exact(r.exs G I K B).mono λvs R g=>g.cp λH U z O u ws j P=>⟨H,U,Y.trans z,O,λp E=>u _ (L _ E),w::ws,⟨v',vs,rfl,C.ext z u,j⟩,P⟩
theorem EO(D:Co ft rec)(G:Gx c d ks ck X){es:Za Expr}{ps:Za PE}{pos:Xf}{f:Zb}{first:Za Zb}{K:Za W->S->Prop}{P:Zb->St->Prop}(j:Kp c f)(r:NW ks ck es ps)(rel:Rel m s X σ)(h:Fb rec d ps K s)
 (A:∀vs g,FB m s.nx X σ.T K vs g->Ev c g (Y8 f (first++vs)) P):Ev c σ (We pos f first (Y6 pos (Ym es X.env)) []) P:=by
 generalize(GT r)=B;cases r with
 |nil=>exact KL j (A [] σ ⟨m,s,Ext.refl,rel,λH h=>h,[],rfl,h⟩)
 |cons u C=>exact FU j ((D.exs G (pos:=pos) (.cons u C) rel h).mono λvs g z=>A vs g z) (Av u.star) (Cs λx E=>B x (.tail _ E))
theorem ue.ext{g:Mp}{T':Tm}(x:Ext m n g d)(t:∀p∈T,p∈T'):∀{w:Ze W},ue m n T w v'->ue g d T' w v'
 |none,h=>t _ h
 |some _,h=>BO.ext x t h
theorem cK(B:Co ft rec)(G:Gx c d ks ck X){eo:Ze Expr}{po:Ze PE}{k:Ze W->S->Prop}(j:pJ ks ck eo po)(rel:Rel m s X σ)(h:rV rec d po k s):
 Ev c σ (VU (S1 eo X.env)) (lL m s.nx X σ.T k):=by
 cases j with
 |none=>
  exact eB ⟨m,s,Ext.refl,rel.tmp,λI h=>.tail _ h,Zs,.head _,h⟩
 |some j=>exact eA ((B.ex G j rel h).mono λv' z g=>g.cp λD C H A E w u r=>⟨D,C,H,A,E,Zd w,u,r⟩)
theorem NN{w:Ze W}{a:Ze Z7}(h:ue m n T w v')(e:tE w=Zd a):∃g,(v',g)∈T/\Part g a:=by
 cases w with
 |none=>cases e;exact mEA _ h .none
 |some w=>
  cases w with
  |o l=>exact nj e
  |p u=>
   cases u with
   |int i=>cases e;exact mEA _ (pin h) (.int _)
   |_=>exact nj e
noncomputable def vA(o:Ze Keeper):Bool:=match o with
 |none=>Zh
 |some k=>(match k with|.frame=>Zm|.machine=>Zm|_=>Zh)
noncomputable def v4(P:Z9)(a:Zo):Bool:=vA (Qk (kx P) ⟨ZM,P⟩ (Op (.ref a)))
theorem kc{o:Ze Keeper}(h:vA o=Zm):o=Zd .frame∨o=Zd .machine:=by
 cases o with
 |none=>exact ZK h
 |some k=>
  cases k with
  |frame=>exact .inl rfl
  |machine=>exact .inr rfl
  |_=>exact ZK h
theorem fK(P:Z9):(uc.all λa=>v4 P a)=true:=by kernel_rfl
theorem jP(ok:Ok c d)(h:uc.contains f=Zm):Kp c (.ref f):=by
 generalize(Yj.mp (fK c.w.params) _ (List.contains_iff_mem.mp h))=this;intro h g;refine(kc this).elim (λe=>?_) λe=>?_
 ·exact mEA .frame (.inl rfl) (Xc (ok.kx.keeps g) e)
 ·exact mEA .machine (.inr (.inl rfl)) (Xc (ok.kx.keeps g) e)
variable{k:W->S->Prop}
theorem vU(G:Gx c d ks ck X)(j:(BH ks (Af n) .local||(BH ks (Af n) .cell||BH ks (Af n) .free))=Zm)(rel:Rel m s X σ)(h:HH ft rec d (.nm n) k s):Ev c σ (Yk (.Name (Af n) p) X.env) (Ap m s.nx X σ.T k):=by
 refine Ad h λo B h=>Ad h λw C h=>?_;subst C;cases rel with
 |mk g A r=>
  refine Ag (RR.mem g (lkp_mem B)) λv z u=>?_;rcases(YM _ _).mp j with j|j
  ·exact EG G.en (Aw j) z λv'=>fin (.mk g A r) u h
  ·exact iM G.en (((YM _ _).mp j).imp Aw Aw) z λv'=>fin (.mk g A r) u h
theorem tq(A:Co ft rec)(G:Gx c d ks ck X){op:ZG}{a b:Expr}{p:Xf}{l r:PE}(U:Cq ks ck a l)(I:Cq ks ck b r)(rel:Rel m s X σ)(h:HH ft rec d (.bin op l r) k s):Ev c σ (Yk (.BinOp a op b p) X.env) (Ap m s.nx X σ.T k):=
 ni ((A.ex G U rel h).mono λa H g=>g.cp λm1 s1 Y L O w1 j D=>(A.ex G I L D).mono λb R g=>g.cp λm2 s2 C P B w2 u Q=>(p8 P (j.ext C B) u Q).mono λv K z=>z.up (Y.trans C) λp E=>B _ (O _ E))
theorem vS(D:Co ft rec)(G:Gx c d ks ck X){op:OS}{a:Expr}{p:Xf}{x:PE}(E:Cq ks ck a x)(rel:Rel m s X σ)(h:HH ft rec d (.un op x) k s):Ev c σ (Yk (.UnaryOp op a p) X.env) (Ap m s.nx X σ.T k):=by
 cases op with
 |USub=>
  refine GL ((D.ex G E rel h).mono λa u g=>g.cp λQ P C A B I j r=>?_);exact Ad r λi ei r=>(pM (AB ei j) λv'=>Bb A r).mono λv K z=>z.up C B
 |Not=>
  exact GL ((D.ex G E rel h).mono λa u g=>g.cp λQ P C A B I j r=>uQ ((Hw A j r).mono λb a0 g=>g.cp λL s2 R U O Y=>⟨L,s2,C.trans R,U.tmp,λp H=>.tail _ (O _ (B _ H)),.p (.bool (!b)),wp (.head _),Y⟩))
 |Invert=>exact h.elim
 |UAdd=>exact h.elim
theorem tm(B:Co ft rec)(G:Gx c d ks ck X){op:R6}{a b:Expr}{p:Xf}{l r:PE}(Q:Cq ks ck a l)(K:Cq ks ck b r)(h3:VC op b=Zh)(rel:Rel m s X σ)(h:HH ft rec d (.cmp op l r) k s):Ev c σ (Yk (.Compare a [op] [b] p) X.env) (Ap m s.nx X σ.T k):=by
 refine eP ((B.ex G Q rel h).mono λa a0 g=>g.cp λm1 s1 x1 L i1 w1 u E=>(B.ex G K L E).mono λb σ2 g=>g.cp λH P C D A w2 j z=>?_) h3;refine Ad z λU O z=>(ds G.ok.gd.mods D (u.ext C A) j O).mono λv I g=>xA g λe1 R=>?_;subst e1 R;exact⟨H,P,x1.trans C,D.tmp,λp Y=>.tail _ (A _ (i1 _ Y)),.p (.bool U),wp (.head _),z⟩
theorem to(I:Co ft rec)(G:Gx c d ks ck X){op:OD}{vs:Za Expr}{p:Xf}{l:Za PE}(B:NW ks ck vs l)(rel:Rel m s X σ)(h:HH ft rec d (.bop op l) k s):Ev c σ (Yk (.BoolOp op vs p) X.env) (Ap m s.nx X σ.T k):=by
 cases B with
 |nil=>exact h.elim
 |cons ha B=>
 cases B with
 |nil=>exact h.elim
 |cons hb B=>
 cases B with
 |cons z_ z_=>exact h.elim
 |nil=>
  cases op with
  |And=>
   refine rO ((I.ex G ha rel h).mono λa' Y g=>g.cp λm1 s1 H Q C L j K=>(Hw Q j K).mono λU a0 g=>g.cp λP R A D r E=>?_);cases U with
   |true=>exact(I.ex G hb D E).mono λv O z=>z.up (H.trans A) λp u=>r _ (C _ u)
   |false=>exact⟨P,R,H.trans A,D,λp u=>r _ (C _ u),L,j.ext A r,E⟩
  |Or=>
   refine vd ((I.ex G ha rel h).mono λa' Y g=>g.cp λm1 s1 H Q C L j K=>(Hw Q j K).mono λU a0 g=>g.cp λP R A D r E=>?_);cases U with
   |false=>exact(I.ex G hb D E).mono λv O z=>z.up (H.trans A) λp u=>r _ (C _ u)
   |true=>exact⟨P,R,H.trans A,D,λp u=>r _ (C _ u),L,j.ext A r,E⟩
theorem tj(r:Co ft rec)(G:Gx c d ks ck X){x y z:Expr}{p:Xf}{t a b:PE}(K:Cq ks ck x t)(H:Cq ks ck y a)(I:Cq ks ck z b)(rel:Rel m s X σ)(h:HH ft rec d (.ife t a b) k s):Ev c σ (Yk (.IfExp x y z p) X.env) (Ap m s.nx X σ.T k):=by
 refine ng ((r.ts G K rel h).mono λD E j=>j.cp λO L C A B u=>?_);cases D with
 |true=>exact(r.ex G H A u).mono λv g z=>z.up C B
 |false=>exact(r.ex G I A u).mono λv g z=>z.up C B
theorem kU(E:Co ft rec)(G:Gx c d ks ck X){x:Zi}{px p:Xf}{as:Za Expr}{b:BI}{live:Zl}{args:Za PE}(u:Bh ks x b.v=Zm)(D:NW ks ck as args)(rel:Rel m s X σ)(h:HH ft rec d (.callb b live args) k s):Ev c σ (Yk (.Call (.Name x px) as [] p) X.env) (Ap m s.nx X σ.T k):=by
 refine GM (CH G.ok.gd G.en (Ey u) (Ex u) ?_) rfl;have L:Kp c b.v:=by cases b<;>first|exact Kp.builtin|exact Kp.type
 replace h:Fb rec d args (λws r=>yp b live ws r k) s:=h;exact EO E G L D (rel.tmp (T':=(b.v,.val b.v)::σ.T)) h λvs I j=>j.cp λP r O H K ws g A=>(tF G.ok.han H g A).mono λv C z=>z.up O λp B=>K _ (.tail _ B)
theorem kT(B:Co ft rec)(G:Gx c d ks ck X){x:Zi}{px p:Xf}{as:Za Expr}{f:Zo}{args:Za PE}(H:uc.contains f=Zm)(E:Bh ks x (.ref f)=Zm)(I:NW ks ck as args)(rel:Rel m s X σ)(h:HH ft rec d (.callc f args) k s):Ev c σ (Yk (.Call (.Name x px) as [] p) X.env) (Ap m s.nx X σ.T k):=by
 refine GM (CH G.ok.gd G.en (Ey E) (Ex E) ?_) rfl;replace h:Fb rec d args (λws C=>Aj (Ci ws) λvs=>∃Q,AS d f vs Q/\∀r,Q r->k (.p r) C) s:=h;exact EO B G (jP G.ok H) I (rel.tmp (T':=(.ref f,.val (.ref f))::σ.T)) h λvs g A=>A.cp λK C R D O ws z j=>LX (EJ j) λvs' P Q u j=>u c G.ok g.T g.L g.F (by cases D;exact G.fa) vs _ (En z P) λv' r B=>⟨K,C,R,D.tmp,λp u=>.tail _ (O _ (.tail _ u)),.p r,wp (.head _),j r B⟩
theorem kR(D:CR ft)(u:Co ft rec)(G:Gx c d ks ck X){x:Zi}{px p:Xf}{as:Za Expr}{f:Zo}{args:Za PE}(g:uc.contains f=Zm)(B:Bh ks x (.ref f)=Zm)(I:NW ks ck as args)(rel:Rel m s X σ)(h:HH ft rec d (.calli f args) k s):Ev c σ (Yk (.Call (.Name x px) as [] p) X.env) (Ap m s.nx X σ.T k):=by
 refine GM (CH G.ok.gd G.en (Ey B) (Ex B) ?_) rfl;replace h:Fb rec d args (λws A=>Hr ft rec d f [] ws k A) s:=h;exact EO u G (jP G.ok g) I (rel.tmp (T':=(.ref f,.val (.ref f))::σ.T)) h λvs L r=>r.cp λQ A P K O ws j C=>(db D u G.ok G.fa K j C).mono λv H z=>z.up P λp E=>O _ (.tail _ E)
theorem sF(U:Co ft rec)(G:Gx c d ks ck X){pos:Xf}{kws:Za R3}{kw:Za (Zf×PE)}(he:tO ks ck kws kw):∀{K:Za W->S->Prop} {m:Mp} {s:S} {σ:St},Rel m s X σ->xW rec d kw K s->
 Ev c σ (evalAll ((WT pos (XJ kws X.env)).map (·.2))) (FB m s.nx X σ.T K):=by
 induction he with
 |nil=>exact λrel h st u=>kwAll_nil ⟨_,u,_,_,Ext.refl,rel,λC h=>h,[],rfl,h⟩
 |@cons value x e p kws kw A h2 ih=>
  intro K m s σ rel h;exact λst u=>kwAll_cons (Zu (((U.ex G A rel h).mono λv' j g=>g.cp λE D x1 O Y w Q I=>(ih O I).mono λvs r g=>g.cp λL P H r2 B ws z k2=>⟨L,P,x1.trans H,r2,λp R=>B _ (Y _ R),w::ws,⟨v',vs,rfl,Q.ext H B,z⟩,k2⟩:Ev c σ (Yk value X.env) λv j=>Ev c j (evalAll ((WT pos (XJ kws X.env)).map (·.2))) λvs r=>FB m s.nx X σ.T K (v::vs) r) st u) (λv D g=>Ag g λj E A=>A D E) λC C e=>e)
theorem fB{pos:Xf}(h:tO ks ck kws kw):
 (WT pos (XJ kws env)).all (·.1.isSome)=Zm/\(WT pos (XJ kws env)).any (·.1.isNone)=Zh/\(WT pos (XJ kws env)).filterMap (·.1)=(kw.map (·.1)).map Af:=by
 induction h with
 |nil=>exact Cp rfl rfl rfl
 |cons j r g=>
  refine Cp ?_ ?_ ?_
  ·refine(?_:(Zm&&(WT pos (XJ _ env)).all (·.1.isSome))=Zm);refine Ab g.1 ?_;rfl
  ·refine(?_:(Zh||(WT pos (XJ _ env)).any (·.1.isNone))=Zh);refine Ab g.2.1 ?_;rfl
  ·refine(?_:Af _::(WT pos (XJ _ env)).filterMap (·.1)=_);refine Ab g.2.2 ?_;rfl
theorem oa(P:Z9):Q8 (kx P) (.ref 597)=true:=by kernel_rfl
theorem nZ(P:Z9):Q8 (kx P) (.ref 763)=true:=by kernel_rfl
theorem ol(ok:Ok c d){C:Zo}(h:(C==597||(C==763||II.any λp=>p.1==C))=Zm):Kp c (.ref C):=by
 rcases(YM _ _).mp h with h|h
 ·exact Kp.of ok.kx ((beq_iff_eq.mp h).symm▸oa _)
 rcases(YM _ _).mp h with h|h
 ·exact Kp.of ok.kx ((beq_iff_eq.mp h).symm▸nZ _)
 refine Ag (Xu.mp h) λg r e=>?_;generalize(beq_iff_eq.mp e:g.1=C)=e;subst e;generalize(Yj.mp (Nt c.w.params) (g.1,g.2) r)=j;exact Kp.of ok.kx (by simp only[Kf,Z6]at j;exact j.2)
theorem vV(hf:CR ft)(E:Co ft rec)(G:Gx c d ks ck X){x:Zi}{px p:Xf}{as:Za Expr}{kws:Za R3}{C:Zo}{args:Za PE}{kw:Za (Zf×PE)}(hC:(C==597||(C==763||II.any λp=>p.1==C))=Zm)(h1:Bh ks x (.ref C)=Zm)(U:NW ks ck as args)
 (P:tO ks ck kws kw) (rel:Rel m s X σ) (h:HH ft rec d (.mk C args kw) k s):Ev c σ (Yk (.Call (.Name x px) as kws p) X.env) (Ap m s.nx X σ.T k):=by
 generalize(ol G.ok hC)=hk;generalize P=hkw0;cases P with
 |nil=>
  refine GM (CH G.ok.gd G.en (Ey h1) (Ex h1) ?_) rfl;unfold HH at h;dsimp only at h;refine EO E G hk U (rel.tmp (T':=(.ref C,.val (.ref C))::σ.T)) h λvs σ' h1Z=>h1Z.cp λm1 s1 x1 r1 Y ws r D=>?_;unfold yO at D;split at D
  ·rename_i eC;generalize(Z4 eC)=eC;subst eC;exact(sq hf E G.ok G.fa r1 r D).mono λv I z=>z.up x1 λp A=>Y _ (.tail _ A)
  generalize(js hf E G.ok G.fa r1 r (by simp) D)=this;simp only[Xo,UL,XK,YV,X3,Vh]at this;exact this.mono λv I z=>z.up x1 λp A=>Y _ (.tail _ A)
 |@cons ek H pk j g kw hk1 hk2=>
  generalize(GT U)=A;generalize U=h2';cases U with
  |nil=>exact h.elim
  |@cons e a as args ha hb=>
   refine Du (fB (pos:=p) (env:=X.env) hkw0) λn1 n2 n3=>?_;have K:Ev c ⟨(.ref C,.val (.ref C))::σ.T,σ.L,σ.F⟩ (We p (.ref C) [] (Y6 p (Ym (e::as) X.env)) (WT p (XJ (⟨Zd (Af H),ek,j⟩::g) X.env))) (Ap m s.nx X σ.T k):=by
    refine Fh hk (Ab (Cs A ..) (Ab n2 (rfl))) λst ms=>evalArgs_kw2 n1 ?_ (Av (A e (.head _)));refine Zu ((E.exs G (pos:=p) h2' (rel.tmp (T':=(.ref C,.val (.ref C))::σ.T)) h) st ms) (λvs s1 B=>Ag B λσ1 ms1 B=>B.cp λm1 t1 x1 r1 Y ws r D=>?_) λz_ z_ e=>e;refine Zu ((sF E G (pos:=p) hkw0 r1 D) s1 ms1) (λO s2 B=>Ag B λσ2 ms2 B=>B.cp λm2 t2 x2 r2 i2 g Q k2=>mEA σ2 ms2 ?_) λz_ z_ e=>e;generalize(AK.app (r.ext x2 i2) Q)=R;refine xA k2 λhl k2=>?_;have u:O.length=((H,pk)::kw).length:=by refine Ab Q.length ?_;refine Ab hl ?_;rfl
    generalize(js hf E G.ok G.fa r2 R (kwn:=((H,pk)::kw).map (·.1)) (by refine Ab (Zt ..) ?_;refine Ab (Zz ..) ?_;exact u▸ZQ ..) k2)=this;have e1:(vs++O).length-(((H,pk)::kw).map (·.1)).length=vs.length:=by refine Ab (Zt ..) ?_;refine Ab (Zz ..) ?_;exact u▸Nat.add_sub_cancel ..
    rw[e1,Uv,List.drop_left']at this
    ·exact Ab n3 (this.mono λv I z=>z.up (x1.trans x2) λp A=>i2 _ (Y _ (.tail _ A)))
    ·rfl
    ·rfl
   exact Ev.eq (rfl:Yk (.Call (.Name x px) (e::as) (⟨Zd (Af H),ek,j⟩::g) p) X.env=(do We p (<-Yk (.Name x px) X.env) [] (Y6 p (Ym (e::as) X.env)) (WT p (XJ (⟨Zd (Af H),ek,j⟩::g) X.env)))) (Ev.bind (CH G.ok.gd G.en (Ey h1) (Ex h1) K))
theorem oO(A:CR ft)(r:Co ft rec)(G:Gx c d ks ck X){a:Expr}{p:Xf}{o:PE}{name:Zf}(E:B4 a=Zh)(I:Cq ks ck a o)(rel:Rel m s X σ)(h:HH ft rec d (.attr o name) k s):Ev c σ (Yk (.Attribute a (Af name) p) X.env) (Ap m s.nx X σ.T k):=
 KN E ((r.ex G I rel h).mono λa' B g=>g.cp λP O K D H L j u=>(NS A r G.ok G.fa D j u).mono λv C z=>z.up K H)
theorem oi(r:CR ft)(u:Co ft rec)(ok:Ok c d)(z:DX c X.env X.own){f:Zo}{ws:Za W}{vs:Za Zb}{k:W->S->Prop}(rel:Rel m s X σ)(g:AK m s.nx σ.T ws vs)
 (h:match ER f with
  |none=>Hr ft rec d f [] ws k s
  |some n=>Aj (Ci (ws.drop n)) λj=>A4 j.length (bJ ft rec d f (ws.take n) j k s)):Ev c σ (Y8 (.ref f) vs) (Ap m s.nx X σ.T k):=by
 set_option tactic.hygienic true in split at h
 ·exact db r u ok z rel g h
 ·rename_i n B;refine Ad h λj C h=>Al h λhl h=>?_;generalize(g.drop n)=A;generalize(da r u ok z B rel (g.take n) (En A C) hl h)=this;rw[Xx]at this;exact this.call
theorem oL(hf:CR ft)(D:Co ft rec)(G:Gx c d ks ck X){o:Expr}{ap p:Xf}{as:Za Expr}{name:Zf}{po:PE}{args:Za PE}(hs:B4 o=Zh)(hl:(ap.endLine==p.line)=Zm)(hn:Vl args.length 29=Zm)(h1:Cq ks ck o po)(B:NW ks ck as args)(rel:Rel m s X σ)(h:HH ft rec d (.meth po name args) k s):Ev c σ (Yk (.Call (.Attribute o (Af name) ap) as [] p) X.env) (Ap m s.nx X σ.T k):=by
 refine CY ((D.ex G h1 rel h).mono λa' K q=>q.cp λm1 s1 U C R Y j r=>?_) (CO hs (GT B) hl (by refine Ab (ph B ..) ?_;have:=Zw hn;trivial));unfold vt jp at r;split at r
 ·rename_i ef;exact kg G.ok C j ef λx H Q=>EO D G Q B (C.tmp (T':=(.ref x,.ref x)::K.T)) r λvs L q=>q.cp λm2 s2 A O u ws g P=>(oi hf D G.ok G.fa O (ws:=Y::ws) (vs:=.ref x::vs) ⟨_,_,rfl,⟨_,H.ext A,u _ (.head _)⟩,g⟩ P).mono λv E z=>z.up (U.trans A) λp I=>u _ (.tail _ (R _ I))
 ·refine Ad r λmk em r=>vk C j em (EO D G vl B C r λvs L q=>q.cp λm2 s2 A O u ws g P=>?_);exact(jv G.ok.gd.mods G.ok.han O (j.ext A u) g P).mono λv E z=>z.up (U.trans A) λp I=>u _ (R _ I)
theorem ti(A:Co ft rec)(G:Gx c d ks ck X){a b:Expr}{p:Xf}{o i:PE}(hb:isSlice b=Zh)(I:Cq ks ck a o)(E:Cq ks ck b i)(rel:Rel m s X σ)(h:HH ft rec d (.sub o i) k s):Ev c σ (Yk (.Subscript a b p) X.env) (Ap m s.nx X σ.T k):=by
 refine Em ((A.ex G I rel h).mono λa' L g=>g.cp λm1 s1 U H O Y r C=>(A.ex G E H C).mono λb' R g=>g.cp λm2 s2 B P u w2 j Q=>?_);exact(ml hb P (r.ext B u) j Q).mono λv D z=>z.up (U.trans B) λp K=>u _ (O _ K)
theorem vT(hr:Co ft rec)(G:Gx c d ks ck X){a:Expr}{l hi:Ze Expr}{ps p:Xf}{o:PE}{lo ho:Ze PE}(h1:Cq ks ck a o)(h2:pJ ks ck l lo)(h3:pJ ks ck hi ho)(rel:Rel m s X σ)(h:HH ft rec d (.sl o lo ho) k s):Ev c σ (Yk (.Subscript a (.Slice l hi Zs ps) p) X.env) (Ap m s.nx X σ.T k):=by
 refine M4 (λw t r=>JZ _ _ _ _) ((hr.ex G h1 rel h).mono λa' σ1 g=>g.cp λm1 s1 x1 r1 i1 w1 R k1=>?_);refine(cK hr G h2 r1 k1).mono λl' σ2 g=>g.cp λm2 s2 U r2 L w2 P k2=>(cK hr G h3 r2 k2).mono λu' σ3 g=>g.cp λm3 s3 H K I w3 O u=>Ad u λa ea u=>Ad u λb eb u=>Ag (NN (P.ext H I) ea) λlv D C=>Ag (NN O eb) λuv E B=>?_;generalize((R.ext U L).ext H I)=z;refine DO u (λx ex k4=>Ad k4 λi ei k5=>Ad k5 λj ej k6=>Al k6 λQ k7=>Cb λPP10 A=>?_) λu=>?_
 ·subst ei;subst ej;cases C;cases B;exact A (.inr (Ga _ _ _ (B3 ex z) (Ba D E Q (λv'=>⟨m3,s3,(x1.trans U).trans H,K.tmp,λp Y=>.tail _ (I _ (L _ (i1 _ Y))),_,wp (.head _),k7⟩))))
 ·exact EQ (EJ u) λl el g1 g2 u=>Al u λQ u=>.inl (Ce l lv uv a b (Bp K el z) D E (Cp C B (Ba g1 g2 Q (λv'=>⟨m3,s3,(x1.trans U).trans H,K.tmp,λp Y=>.tail _ (I _ (L _ (i1 _ Y))),.p (.lst (cut l a b)),wp (.head _),u⟩))))
theorem oM(D:Co ft rec)(G:Gx c d ks ck X){es:Za Expr}{p:Xf}{live:Zl}{l:Za PE}(B:NW ks ck es l)(rel:Rel m s X σ)(h:HH ft rec d (.list live l) k s):Ev c σ (Yk (.List es p) X.env) (Ap m s.nx X σ.T k):=by
 refine rN ((D.exs G B rel h).mono λvs u r=>r.cp λL K I C E ws j g=>?_);exact Ad g λvs' H g=>(nB C (En j H) g).mono λv A z=>z.up I E
theorem th(D:Co ft rec)(G:Gx c d ks ck X){es:Za Expr}{n:Zf}{p:Xf}{l:Za PE}(B:NW ks ck es l)(rel:Rel m s X σ)(h:HH ft rec d (.tup l) k s):Ev c σ (Yk (.Tuple es n p) X.env) (Ap m s.nx X σ.T k):=by
 refine na ((D.exs G B rel h).mono λvs u r=>r.cp λO L I C E ws j g=>?_);exact Ad g λvs' H g=>Al g λK g=>(Fg (En j H) (λv'=>Bb C g) K).mono λv A z=>z.up I E
theorem tf(H:Co ft rec)(G:Gx c d ks ck X){a:Expr}{p:Xf}{x:Zf}{v:PE}{pt:Xf}(I:DA ks ck (Af x)=Zm)(R:Cq ks ck a v)(rel:Rel m s X σ)(h:HH ft rec d (.wal x v) k s):Ev c σ (Yk (.NamedExpr (.Name (Af x) pt) a p) X.env) (Ap m s.nx X σ.T k):=by
 exact MA ((H.ex G R rel h).mono λa' B g=>g.cp λm1 Y U E K C j z=>Ax ((AR G I E j z).mono λz_ P g=>g.cp λD Q u L r O=>⟨D,Q,U.trans u,L,λp A=>r _ (K _ A),C,j.ext u r,O⟩))
theorem fg:∀{l:Za Zf},KT l=Zm->l.Nodup:=by
 intro l
 induction l with
 |nil=>exact λs=>X6
 |cons c r g=>
  intro h;revert h;refine(?_:((match Ir c r with|true=>Zh|false=>KT r)=Zm)->_);intro h;split at h
  ·cases h
  ·rename_i e;exact Z0.mpr ⟨λj=>(by rw[cU j]at e;cases e),g h⟩
theorem oK(P:Co ft rec)(G:Gx c d ks ck X){a x:Expr}{B A p1 p2 pn:Xf}{pa pe:PE}(hg:Bh ks (Zc "dict") (.type "dict")=Zm)(hs:B4 a=Zh)(a5:(B.endLine==p1.line)=Zm)(a2:(A.endLine==p2.line)=Zm)
 (h1:Cq ks ck a pa) (h2:Cq ks ck x pe) (rel:Rel m s X σ) (h:HH ft rec d (.mktr pa pe) k s):
 Ev c σ (Yk (.Call (.Attribute a (Zc "maketrans") B) [.Call (.Attribute (.Name (Zc "dict") pn) (Zc "fromkeys") A) [x] [] p2] [] p1) X.env) (Ap m s.nx X σ.T k):=by
 have I:Ev c σ (Yk (.Call (.Attribute a (Zc "maketrans") B) [.Call (.Attribute (.Name (Zc "dict") pn) (Zc "fromkeys") A) [x] [] p2] [] p1) X.env) λv U=>∃b r o t z g,U=⟨(.ref t,.ref t)::(.ref r,.ref r)::g.T,(t,.raw z)::(r,.raw o)::g.L,g.F⟩/\v=.ref t/\∃y,lZ y z/\
  ∃m' O,Ext m s.nx m' O.nx/\Rel m' O ⟨(b,.raw bO)::X.R,X.env,X.own⟩ g/\(∀p∈σ.T,p∈g.T)/\(match O with|⟨H,nx,rho⟩=>k (.o nx) ⟨(nx,.trn y)::H,nx+1,rho⟩):=by
  refine r8 (ks:=ks) G.ok.gd.mods G.ok.han hs a5 a2 h2.star ?_ ?_ ((P.ex G h1 rel h).mono λv E j=>j.cp λm1 s1 x1 r1 i1 w1 a4 k1=>?_)
  ·intro T L F Q hF hQ;obtain⟨env,own,rho⟩:=F;cases hF;exact CH G.ok.gd G.en (Ey hg) (Ex hg) hQ
  ·cases rel;rfl
  ·refine Ad k1 λy1 ey1 k1=>?_
   ·refine Cp ⟨_,B3 ey1 a4⟩ (by cases r1;rfl) (λb=>?_);have G':Gx c d ks ck ⟨(b,.raw bO)::X.R,X.env,X.own⟩:=⟨G.ok,G.en,G.ow,G.cl,G.fa,G.fr⟩;have r1':Rel m1 s1 ⟨(b,.raw bO)::X.R,X.env,X.own⟩ ⟨(.ref b,.ref b)::(.type "dict",.val (.type "dict"))::E.T,(b,.raw bO)::E.L,E.F⟩:=by
     exact r1.cp λP Y D=>.mk P Y ((D.cons _).trans Yw.symm)
    refine(P.ex G' h2 r1' k1).mono λu g j=>j.cp λm2 s2 x2 r2 i2 w2 a1 K=>Ad K λy ey K=>?_
    ·refine xA K λhm K=>?_;simp only[vm,Z6]at hm;refine Du hm λe1 e2 e3=>Es ?_ y (B3 ey a1) (Ba e1 (fg e2) (Zw e3) (λr o t z hf tr=>⟨b,r,o,t,z,g,rfl,rfl,y,tr,m2,s2,x1.trans x2,r2,λp D=>i2 _ (.tail _ (.tail _ (i1 _ D))),K⟩));exact r2.cp λP Y D=>D.mem_iff.mpr (Zq _ (.head _))
 refine I.conv λv U C=>gy C λb r C=>FE C λo t z g e ev C=>Ag C λy tr C=>AF C λm' O x' r' i' hk=>?_
 subst e ev;cases r' with
 |@mk T2 L2 rho L1 a0 Y D=>
  refine mEA ⟨(.ref t,.ref t)::(.ref r,.ref r)::T2,(t,.raw z)::(L1++X.R),⟨X.env,X.own,rho⟩⟩ (λst j=>xE j λGh mg=>⟨Gh,?_⟩) ?_
  ·have a3:=mg.perm (L':=(r,.raw o)::(b,.raw bO)::(t,.raw z)::(L1++X.R)) (by
    refine(X7 _ _ _).trans (Nb _ ?_);refine((D.trans Yw).cons _).trans (X7 _ _ _))
   exact a3.weak (λz_ h=>h) (WB [_,_] _)
  ·obtain⟨H,nx,xk⟩:=O;have:=BY (X:=X) (xo:=.trn y) (lo:=.raw z) (a:=t) (T:=T2) (T':=(.ref t,.ref t)::(.ref r,.ref r)::T2) (Rel.mk (L:=L1++X.R) a0 Y (Xl _)) (λz_ z_=>mEA z rfl tr) hk (λz_ h=>.tail _ (.tail _ h)) (.head _);exact this.up x' i'
theorem bS(G:Gx c d ks ck X){a y z:Zi}{x:Zf}{H k2 P:Zf}{p1 p2 u K I C L:Xf}(hx:BH ks (Af x) .local=Zm)(hl:(u.endLine==C.line)=Zm)(rel:Rel m s X σ)(h:HH ft rec d (.addrepl a x y z) k s):
 Ev c σ (Yk (.BinOp (.Constant (.str a) H p1) .Add (.Call (.Attribute (.Name (Af x) p2) (Zc "replace") u) [.Constant (.str y) k2 K,.Constant (.str z) P I] [] C) L) X.env) (Ap m s.nx X σ.T k):=by
 refine Ad h λo e1 B=>Ad B λw Y E=>Ad E λv D Q=>?_;clear h B E;subst Y;generalize(MH D)=U;subst U;clear D
 ·refine xA Q λg1 q_=>CU q_ λO g3 g4 g5 h=>?_;cases rel with
  |mk g hh r=>
   refine Cb λA j=>Ag (RR.mem g (lkp_mem e1)) λv hv wr=>?_;cases wr;refine j (eO G.en (Aw hx) hv g1 O g3 g4 hl g5 λv' T' R=>?_);exact⟨m,s,Ext.refl,.mk g hh r,λp r=>.tail _ (R _ r),.p (.str _),wp (.head _),h⟩
theorem vW(G:Gx c d ks ck X){x:Zi}{p:Xf}{i:Z7}(j:(BH ks x .globalImplicit&&oq.any λp=>p.1==x&&p.2==i)=Zm)(rel:Rel m s X σ)(h:k (.p (.int i)) s):Ev c σ (Yk (.Name x p) X.env) (Ap m s.nx X σ.T k):=by
 refine Ag (Xu.mp (Ae j)) λg r e=>?_;generalize(beq_iff_eq.mp (Ak e):g.1=x)=u;generalize(beq_iff_eq.mp (Ae e):g.2=i)=z;subst u z;exact rG G.ok.gd G.en (Aw (Ak j)) r λv'=>Bb rel h
theorem kQ(rel:Rel m s X σ)(h:HH ft rec d .dict0 k s):Ev c σ (Yk (.Dict [] [] p) X.env) (Ap m s.nx X σ.T k):=by
 exact mW λa=>BY (xo:=.dictW []) (lo:=.dict []) rel (λg g=>⟨[],rfl,rfl⟩) h (λg h=>.tail _ h) (.head _)
theorem gT(P:Z9):(jw.all λp=>p.2.all λq=>(ER q.2).isNone||FM (kx P) p.1 (Af q.1) q.2)=true:=by kernel_rfl
theorem gU(P:Z9)(h:cS d tk=Zd nx)(j:ER nx=Zd n):FM (kx P) d (Af tk) nx=true:=Ah h λl e h=>by
 have g:=Yj.mp (Yj.mp (gT P) (d,l) (lkp_mem e)) (tk,nx) (lkp_mem h);rw[j]at g;exact g
theorem Nr(ok:Ok c d){w:W}{w':Zb}{name f n:Zf}{P:Zb->St->Prop}(rel:Rel m s X σ)(C:BO m s.nx σ.T w w')(h:IH s.H w name=Zd f)(I:ER f=Zd n):
 ∃x,WR m s.nx w (.ref x)/\(w',.ref x)∈σ.T/\FM.isFnIn (kx c.w.params) f=Zm/\((∀b,P (.ref b) ⟨(.ref b,.ref b)::(.ref x,.ref x)::σ.T,(b,.raw (cq f x))::σ.L,σ.F⟩)->Ev c σ (Ve w' (Af name) Zm) P):=by
 refine Ah h λi ei h=>AH h λg h=>Cd (HE rel C ei) λx R vs B j E G D hb K Q=>?_;have A:=Nq g;have u:=gU c.w.params h I;have r:FM.isFnIn (kx c.w.params) f=true:=by
  simp only[FM,Z6]at u;exact u.2
 exact⟨x,(Ba j B r (λO=>mS ok.kx B E G (NX.none A.1 (λp z=>⟨hb p z,A.2 p z⟩) K) u O))⟩
theorem HQ(hr:Co ft rec)(G:Gx c d ks ck X){e:Expr}{pe:PE}{K:Za V->S->Prop}(he:Cq ks ck e pe)(rel:Rel m s X σ)(h:rec d (.ex pe λsw E=>Aj (NT E.H sw) λitems=>A4 items.length (K items E)) s){Q:Za Zb->Zj->Prop}
 (L:∀xs r u t1 g items,MR c g r->Ext m s.nx u t1.nx->Rel u t1 X g->(∀p∈σ.T,p∈g.T)->BA g.T xs items->K items t1->Q xs r):∀st,MR c σ st->ZZ c.M c.A (Yk e X.env) (λv r=>StarOf c.M c.A No v Q r) No st:=λst I=>by
 refine Zu ((hr.ex G he rel h) st I) (λv r z=>Ag z λg B z=>z.cp λu t1 x1 D i1 w U j=>?_) λP P e=>e;refine Ad j λitems ei j=>Al j λR j=>?_;obtain⟨T1,L1,F1⟩:=g;obtain⟨G1,C⟩:=B;exact mt C (Jb D ei U) R λxs T' h' O hts mg=>L xs _ u t1 ⟨T',L1,F1⟩ items ⟨G1,mg⟩ x1 D.tmp (λp Y=>O _ (i1 _ Y)) hts j
theorem Rel.aaj(rel:Rel m s ⟨(f,lo)::X.R,X.env,X.own⟩ ⟨T,L,F⟩):∃L',L.Perm ((f,lo)::L')/\Rel m s X ⟨T,L',F⟩:=by
 cases rel with
 |@mk u u rho r j h g=>exact⟨r++X.R,g.trans Yw,.mk j h (Xl _)⟩
theorem Ev.aaj(h:Ev c σ t λv g=>∃b lo,Ap m s.nx ⟨(b,lo)::X.R,X.env,X.own⟩ T k v g):Ev c σ t (Ap m s.nx X T k):=
 h.conv λv g q=>by
  exact gy q λb lo q=>q.cp λB A H z C w r E=>Ag (z.aaj) λL' u D=>⟨⟨g.T,L',g.F⟩,λst j=>xE j λGh G=>⟨Gh,(G.perm u).weak (λI h=>h) (Wk _ _)⟩,B,A,H,D,C,w,r,E⟩
inductive Sa(ks:Za (Zi×Zx))(ck:Zl):Za PE->PE->Za Expr->Prop
 |zero {star:PE} {b:Expr} {pb:Xf} (h:Cq ks ck b star):Sa ks ck [] star [.Starred b pb]
 |one {x star:PE} {b1 b:Expr} {pb:Xf} (h1:Cq ks ck b1 x) (h:Cq ks ck b star):Sa ks ck [x] star [b1,.Starred b pb]
theorem BA.app:∀{as:Za Zb} {vs:Za V} {s:Za Zb} {g:Za V},BA T as vs->BA T s g->BA T (as++s) (vs++g):=by
 intro as vs s g j
 induction j with
 |nil=>exact λh=>h
 |cons a t r=>exact λh=>.cons a (r h)
theorem N5(hf:CR ft)(hr:Co ft rec)(G:Gx c d ks ck X){o:Expr}{ap p:Xf}{as:Za Expr}{name:Zf}{po:PE}{args:Za PE}{star:PE}(hs:B4 o=Zh)(h1:Cq ks ck o po)
 (h2:Sa ks ck args star as) (rel:Rel m s X σ) (h:HH ft rec d (.methS po name args star) k s):
 Ev c σ (Yk (.Call (.Attribute o (Af name) ap) as [] p) X.env) (Ap m s.nx X σ.T k):=by
 have hst:(Y6 p (Ym as X.env)).any (·.1)=true:=by
  cases h2 with
  |zero O=>rfl
  |one h1 O=>refine Ab (Av h1.star ..) ?_;rfl
 refine Ev.aaj (T:=σ.T) (mD G.ok.kx hs hst ((hr.ex G h1 rel h).mono λov j h1Z=>h1Z.cp λm1 s1 x1 r1 i1 I hw1 k1=>?_));refine Ad k1 λf ef k1=>?_;have Y:∀{ws:Za W} {vs xs:Za Zb} {items:Za V} {E:Mp} {C:S} {g:St} {b x:Zo} {n:Zf},ER f=Zd n->Ext m1 s1.nx E C.nx->Rel E C ⟨(b,.raw (cq f x))::X.R,X.env,X.own⟩ g->(∀p∈j.T,p∈g.T)->AK E C.nx g.T ws vs->BO E C.nx g.T I (.ref x)->BA g.T xs items->
  (Aj (Ci ((I::ws).drop n)) λH=>A4 (H.length+items.length) (bJ ft rec d f ((I::ws).take n) (H++items) k C))->
  Ec c g (.call (.ref f) ⟨.ref x::(vs++xs),[]⟩) λv σ'=>∃b lo,Ap m s.nx ⟨(b,lo)::X.R,X.env,X.own⟩ σ.T k v σ':=by
  intro ws vs xs items E C g b x n en x2 r2 i2 hws B hts h;refine Ad h λH eu h=>?_;refine Al h λhz h=>?_;have hall:AK E C.nx g.T (I::ws) (.ref x::vs):=At _ _ rfl B hws;have hus:=En (hall.drop n) eu;have:=da hf hr G.ok (X:=⟨(b,.raw (cq f x))::X.R,X.env,X.own⟩) G.fa en r2 (hall.take n) (BA.app hus hts) (by refine Ab (Zt ..) ?_;exact hz) h;rw[<-ZS,Xx]at this;exact this.mono λv u z=>gq _ _ (z.up (x1.trans x2) λp Q=>i2 _ (i1 _ Q))
 refine Ad k1 λn en k1=>?_;refine EQ (Nr (P:=λO O=>O0) G.ok r1 hw1 ef en) λx B hin hfn O=>?_;refine BW f x hfn ?_;refine EQ (Nr (P:=λv g=>∃b,v=.ref b/\(b,LO.raw (cq f x))∈g.L/\∀st,MR c g st->ZZ c.M c.A (Q9 (.ref b) Zm (Y6 p (Ym as X.env)) []) (λa s1=>a.kw=[]/\∃u,MR c u s1/\(b,.raw (cq f x))∈u.L/\Ec c u (.call (.ref f) ⟨.ref x::a.pos,[]⟩) λv σ'=>∃b lo,Ap m s.nx ⟨(b,lo)::X.R,X.env,X.own⟩ σ.T k v σ') No st) G.ok r1 hw1 ef en) λD U hin' O hget=>?_;have exx:D=x:=by
  cases I with
  |p v=>
   have e1:V.ref x=v:=B;have e2:V.ref D=v:=U;rw[<-e1]at e2;cases e2;rfl
  |o l=>
   have e1:=B.2;have e2:=U.2;rw[<-e1]at e2;cases e2;rfl
 subst exx;refine hget λb=>AU b rfl (.head _) (λst ms=>?_);have G':Gx c d ks ck ⟨(b,.raw (cq f D))::X.R,X.env,X.own⟩:=⟨G.ok,G.en,G.ow,G.cl,G.fa,G.fr⟩;have r1':Rel m1 s1 ⟨(b,.raw (cq f D))::X.R,X.env,X.own⟩ ⟨(.ref b,.ref b)::(.ref D,.ref D)::j.T,(b,.raw (cq f D))::j.L,j.F⟩:=by
  refine r1.cp λhr hh Q=>?_;exact .mk hr hh ((Q.cons _).trans Yw.symm)
 have inR:∀{E:Mp} {C:S} {g:St},Rel E C ⟨(b,.raw (cq f D))::X.R,X.env,X.own⟩ g->(b,.raw (cq f D))∈g.L:=λr=>by
  refine r.cp λhr hh Q=>?_;exact Q.mem_iff.mpr (Zq _ (.head _))
 cases h2 with
 |@zero O bb pb hb=>
  show ZZ _ _ (Q9 (.ref b) Zm [(Zm,(do let v<-Yk bb X.env;Vd p;pure v))] []) _ _ _;refine ks_lone ?_;refine HQ hr G' (K:=λitems s3=>Aj (Ci ((I::[]).drop n)) λH=>A4 (H.length+items.length) (bJ ft rec d f ((I::[]).take n) (H++items) k s3)) hb r1' k1 (λxs C E t2 g items ms2 x2 r2 i2 hts hk=>?_) st ms;exact⟨rfl,(AU g ms2 (inR r2) (Y (ws:=[]) (vs:=[]) en x2 r2 (λp Q=>i2 _ (.tail _ (.tail _ Q))) rfl (mEA _ (B.ext x2) (i2 _ (.tail _ (.head _)))) hts hk))⟩
 |@one y O b1 bb pb hc1 hb=>
  have hback:Y6 p (Ym [b1,.Starred bb pb] X.env)=(Zh,Yk b1 X.env)::[(Zm,(do let v<-Yk bb X.env;Vd p;pure v))]:=by refine Ab (Av hc1.star ..) ?_;rfl
  refine Ab (hback ..) ?_;have one:Ev c ⟨(.ref b,.ref b)::(.ref D,.ref D)::j.T,(b,.raw (cq f D))::j.L,j.F⟩ (Yk b1 X.env) _:=hr.ex G' hc1 r1' k1;refine V4 (VD (Zu (one st ms) (λv1 C hY=>Ag hY λg ms2 hY=>hY.cp λE t2 x2 r2 i2 wy hwy k2=>?_) λO O e=>e));refine ks_spliced ?_;refine HQ hr G' (K:=λitems s3=>Aj (Ci ((I::[wy]).drop n)) λH=>A4 (H.length+items.length) (bJ ft rec d f ((I::[wy]).take n) (H++items) k s3)) hb r2 k2 (λxs s3 m3 t3 u items ms3 x3 r3 i3 hts hk=>?_) C ms2;refine spliced_nil ?_;refine Ab (YL ..) ?_;exact⟨rfl,(AU u ms3 (inR r3) (Y (ws:=[wy]) (vs:=[v1]) en (x2.trans x3) r3 (λp Q=>i3 _ (i2 _ (.tail _ (.tail _ Q)))) (At v1 ([]) rfl (hwy.ext x3 i3) rfl) (mEA _ (B.ext (x2.trans x3)) (i3 _ (i2 _ (.tail _ (.head _))))) hts hk))⟩
theorem tt(u:CR ft)(j:Co ft rec)(G:Gx c d ks ck X){e:Expr}{pe:PE}(Q:Cq ks ck e pe)(rel:Rel m s X σ)(h:HH ft rec d pe k s):Ev c σ (Yk e X.env) (Ap m s.nx X σ.T k):=by
 cases Q with
 |mk n t pe g=>
 cases n with
 |zero=>cases g
 |succ n=>
 cases pe with
 |int i=>obtain⟨T,L,F⟩:=σ;exact iG λv'=>Bb rel h
 |str x=>obtain⟨T,L,F⟩:=σ;exact uP λv'=>Bb rel h
 |bool b=>obtain⟨T,L,F⟩:=σ;exact iP (Bb rel h)
 |none=>obtain⟨T,L,F⟩:=σ;exact rq (Bb rel h)
 |gv v=>obtain⟨T,L,F⟩:=σ;exact CH G.ok.gd G.en (Ey g) (Ex g) (Bb rel h)
 |gi i=>exact vW G g rel h
 |nm x=>exact vU G g rel h
 |bin op l r=>exact tq j G (.mk n _ _ (Ak g)) (.mk n _ _ (Ae g)) rel h
 |un op x=>exact vS j G (.mk n _ _ g) rel h
 |cmp op l r=>exact tm j G (.mk n _ _ (Ak g)) (.mk n _ _ (Ak (Ae g))) (Cy (Ae (Ae g))) rel h
 |neL K K K=>exact(h:ZP).elim
 |bop op l=>exact to j G (EA l g) rel h
 |ife a b c=>exact tj j G (.mk n _ _ (Ak g)) (.mk n _ _ (Ak (Ae g))) (.mk n _ _ (Ae (Ae g))) rel h
 |callb b live args=>exact kU j G (Ak g) (EA args (Ae g)) rel h
 |callc f args=>exact kT j G (Ak g) (Ak (Ae g)) (EA args (Ae (Ae g))) rel h
 |calli f args=>exact kR u j G (Ak g) (Ak (Ae g)) (EA args (Ae (Ae g))) rel h
 |mk C args kw=>exact vV u j G (Ak g) (Ak (Ae g)) (EA args (Ak (Ae (Ae g)))) (tC kw (Ae (Ae (Ae g)))) rel h
 |attr o name=>exact oO u j G (Cy (Ak g)) (.mk n _ _ (Ae g)) rel h
 |meth o name args=>exact oL u j G (Cy (Ak (Ak g))) (Ae (Ak g)) (Ak (Ae g)) (.mk n _ _ (Ak (Ae (Ae g)))) (EA args (Ae (Ae (Ae g)))) rel h
 |methS o name args star=>
  cases args with
  |nil=>exact N5 u j G (Cy (Ak g)) (.mk n _ _ (Ak (Ae g))) (.zero (.mk n _ _ (Ae (Ae g)))) rel h
  |cons x r=>
   cases r with
   |nil=>exact N5 u j G (Cy (Ak g)) (.mk n _ _ (Ak (Ae g))) (.one (.mk n _ _ (Ak (Ae (Ae (Ae g))))) (.mk n _ _ (Ae (Ae (Ae (Ae g)))))) rel h
   |cons y r=>exact nomatch (Ak (Ae (Ae g)))
 |sub o i=>exact ti j G (Cy (Ak g)) (.mk n _ _ (Ak (Ae g))) (.mk n _ _ (Ae (Ae g))) rel h
 |sl o lo R=>exact vT j G (.mk n _ _ (Ak g)) (LF (Ak (Ae g))) (LF (Ae (Ae g))) rel h
 |list live l=>exact oM j G (EA l g) rel h
 |tup l=>exact th j G (EA l g) rel h
 |wal x v=>exact tf j G (Ak g) (.mk n _ _ (Ae g)) rel h
 |lc live xs it O elt caps=>
  exact DL (Lb j G (.lc (.mk n _ _ (Ak (Ae g))) (Cy (Ak (Ae (Ae g)))) (.mk _ xs (Ak g)) (LF (Ak (Ae (Ae (Ae g))))) (.mk n _ _ (Ak (Ae (Ae (Ae (Ae g)))))) (Ae (Ae (Ae (Ae (Ae g)))))) (λv I A H C w D r t E B=>⟨I,A,D,r,t,w,E,B⟩) rel h)
 |lc2 x it y P elt caps=>
  exact DL (Lb j G (.lc2 (.mk n _ _ (Ak (Ae g))) (Cy (Ak (Ae (Ae g)))) (Tq.one (t:=kd t 1) (Ak g)) (.mk n _ _ (Ak (Ae (Ae (Ae (Ae g)))))) (Cy (Ak (Ae (Ae (Ae (Ae (Ae g))))))) (Tq.one (t:=kd t 3) (Ak (Ae (Ae (Ae g))))) (.mk n _ _ (Ak (Ae (Ae (Ae (Ae (Ae (Ae g)))))))) (Ae (Ae (Ae (Ae (Ae (Ae (Ae g)))))))) (λv I A H C w D r t E B=>⟨I,A,D,r,t,w,E,B⟩) rel h)
 |mktr a e=>exact oK j G (Ak (Ae (Ae g))) (Cy (Ak (Ak g))) (Ae (Ak g)) (Ak (Ae g)) (.mk n _ _ (Ak (Ae (Ae (Ae g))))) (.mk n _ _ (Ae (Ae (Ae (Ae g))))) rel h
 |addrepl a x y z=>exact bS G (Ak g) (Ae g) rel h
 |dict0=>exact kQ rel h
 |readyC o=>exact ie j G ⟨_,_,_,_,_,_,_,_,_,_,_,_,_,_⟩ (Aw (Ak g)) (Cy (Ak (Ak (Ae g)))) (Ae (Ak (Ae g))) (.mk n _ _ (Ak (Ae (Ae g)))) (Ae (Ae (Ae g))) rel h
 |dzip a b=>exact oN j G (Ak g) (Ak (Ae g)) (.mk n _ _ (Ak (Ae (Ae g)))) (.mk n _ _ (Ae (Ae (Ae g)))) rel h
 |dcomp x it elt caps=>exact(h:ZP).elim
 |any=>exact(h:ZP).elim
end
end
section
variable{l:Zf}{t:Ze Expr}{a b:Expr}{ts u:Za Expr}{k:Zl->S->Prop}{op:OD}{nones:Zl}
theorem Fe(h:IF value=Zh):XX value t l env=pure false:=by
 cases value with
 |ListComp=>cases h
 |SetComp=>cases h
 |DictComp=>cases h
 |_=>exact V0 (pure Zh)
theorem dD:XX value (Zd (.Subscript a b p)) l env=pure false:=by
 cases value<;>exact V0 (pure Zh)
theorem Kx(h:isTup value=Zh):Rs [.Tuple ts n p] value env=pure none:=by
 cases value with
 |Tuple=>cases h
 |_=>exact V0 (pure Zs)
section
variable{s:S}
theorem tH(E:Co ft rec)(G:Gx c d ks ck X){op:OD}{n:Zf}{u:Za Expr}{l:Za PE}{k:Zl->S->Prop}(O:hU (sd n ks ck) l u=Zm)(rel:Rel m s X σ)(h:wB rec d (.bop op l) k s):Ev c σ (SW op (ik (rb n) l u) X.env) (Ds m s.nx X σ.T k):=by
 cases l with
 |nil=>
  refine Jo ?_;cases op<;>exact⟨m,s,Ext.refl,rel,λQ h=>h,h⟩
 |cons p r=>
  generalize(.mk n _ _ (Ak O):Cq ks ck (rb n p (u.headD jE)) p)=P;generalize(.mk (n+1) (.BoolOp op u.tail p0) (.bop op r) (Ae O):Cq ks ck (rb (n+1) (.bop op r) (.BoolOp op u.tail p0)) (.bop op r))=C;cases op with
  |And=>
   refine Dy ((E.ts G P rel h).mono λb H g=>g.cp λK I D A B j=>?_);cases b with
   |true=>exact(E.ts G C A j).mono λb L z=>z.up D B
   |false=>exact⟨K,I,D,A,B,j⟩
  |Or=>
   refine KM ((E.ts G P rel h).mono λb H g=>g.cp λK I D A B j=>?_);cases b with
   |false=>exact(E.ts G C A j).mono λb L z=>z.up D B
   |true=>exact⟨K,I,D,A,B,j⟩
theorem gE(C:Co ft rec)(G:Gx c d ks ck X){e:Expr}{pe:PE}{k:Zl->S->Prop}(E:Cq ks ck e pe)(rel:Rel m s X σ)(h:rec d (.ex pe λw r=>gJ w r k) s)(H:isTrue e X.env (Yk e X.env)=(do let v<-Yk e X.env;Vd e.pos;TS [v] (VL v))):Ev c σ (isTrue e X.env (Yk e X.env)) (Ds m s.nx X σ.T k):=
 Ic ((C.ex G E rel h).mono λv' A g=>g.cp λO r K B D L j u=>(Hw B j u).mono λb I z=>z.up K D) H
theorem mi(P:Co ft rec)(G:Gx c d ks ck X){a b:Expr}{p:Xf}{nones:Zl}{l r:PE}{k:Zl->S->Prop}(h1:Cq ks ck a l)(h2:Cq ks ck b r)(h3:VC .NotEq b=Zh)(rel:Rel m s X σ)(h:wB rec d (.neL nones l r) k s):Ev c σ (isTrue (.Compare a [.NotEq] [b] p) X.env (Yk (.Compare a [.NotEq] [b] p) X.env)) (Ds m s.nx X σ.T k):=by
 refine Bl ((P.ex G h1 rel h).mono λa' σ1 j=>j.cp λm1 s1 U r1 R w1 H Y=>(P.ex G h2 r1 Y).mono λb' σ2 j=>j.cp λL O I u C w2 B z=>?_) h3;have Q:c.A.units+64<cLine:=WY (Xm (ZF _ _) _) G.ok.un;generalize(H.ext I C)=g;cases nones with
 |true=>
  exact Am z λn K D z=>eE Q (Bp u K g) (Bp u D B) (CS ⟨L,O,U.trans I,u.tmp,λp E=>.tail _ (C _ (R _ E)),z⟩)
 |false=>
  exact Dh z λss rs K D o1 o2 z=>uT Q o1 o2 (Bp u K g) (Bp u D B) (CS ⟨L,O,U.trans I,u.tmp,λp E=>.tail _ (C _ (R _ E)),z⟩)
theorem qT(z:Co ft rec)(G:Gx c d ks ck X){e:Expr}{pe:PE}{k:Zl->S->Prop}(he:Cq ks ck e pe)(rel:Rel m s X σ)(h:wB rec d pe k s):Ev c σ (isTrue e X.env (Yk e X.env)) (Ds m s.nx X σ.T k):=by
 cases he with
 |mk n t pe j=>
 cases n with
 |zero=>cases j
 |succ n=>
 cases pe with
 |un op x=>
  cases op with
  |Not=>exact KJ ((z.ts G (.mk n _ _ j) rel h).mono λb D g=>g.cp λP O K B H A=>⟨P,O,K,B,H,A⟩)
  |_=>exact gE z G (.mk (n+1) t _ j) rel h rfl
 |cmp op l r=>
  refine Bl ((z.ex G (.mk n _ _ (Ak j)) rel h).mono λa D g=>g.cp λP O K B H w1 E A=>(z.ex G (.mk n _ _ (Ak (Ae j))) B A).mono λb σ2 g=>g.cp λY s2 Q R L w2 C I=>?_) (Cy (Ae (Ae j)));refine Ad I λcb ec I=>(ds G.ok.gd.mods R (E.ext Q L) C ec).mono λv U g=>xA g λe1 e2=>?_;subst e1 e2;exact CS ⟨Y,s2,K.trans Q,R.tmp,λp hp=>.tail _ (L _ (H _ hp)),I⟩
 |bop op l=>exact DZ (tH z G j rel h)
 |neL nones l r=>exact mi z G (.mk n _ _ (Ak j)) (.mk n _ _ (Ak (Ae j))) (Cy (Ae (Ae j))) rel h
 |ife t a b=>exact(h:ZP).elim
 |any=>exact(h:ZP).elim
 |gi u=>exact(h:ZP).elim
 |dict0=>exact(h:ZP).elim
 |methS u u u u=>exact(h:ZP).elim
 |readyC u=>exact(h:ZP).elim
 |dzip u u=>exact(h:ZP).elim
 |dcomp u u u u=>exact(h:ZP).elim
 |_=>exact gE z G (.mk (n+1) t _ j) rel h rfl
end
end
section
open PySem.MeetsSeq
variable{t:QE}{rs:Za Zi}{xs:Za Zb}{yv:Zb}
noncomputable def oQ(y:Zi)(v:Zb):Bool:=mf Zh v (s:=λz=>z.cps.toList==y.cps.toList)
theorem Ay.strs:∀{rs:Za Zi} {items:Za Zb},Ay G (rs.map V.str) items->∀(j:Zf) (v:Zb),items[j]? =Zd v->∃z t,rs[j]? =Zd z/\v=Qu z t:=by
 intro rs
 induction rs with
 |nil=>
  intro items h j v e;generalize(by trivial:items=[])=this;subst this;trivial
 |cons z rs g=>
  intro items r j v e;obtain⟨x,ys,ei,u,s⟩:=r;subst ei;cases j with
  |zero=>
   simp only[Za.getElem?_cons_zero,VZ]at e;subst e;obtain⟨t,rfl⟩:=VR.zJ u;exact⟨z,t,rfl,rfl⟩
  |succ j=>exact g s j v (by simpa using e)
theorem IR(h:Ay G (rs.map V.str) items):∀v,v∈items.toArray->EqGives v (.str y t) (oQ y v):=λv s=>by
 refine xE (Za.getElem?_of_mem (by exact s.1:v∈items)) λj r=>?_;refine AV (Ay.strs h j v r) λz u A g=>?_;subst g;exact P8 z y u t
theorem IQ:oQ y (.str x t)=decide (x=y):=by
 refine(?_:(x.cps.toList==y.cps.toList)=_);by_cases h:x=y
 ·subst h;simp
 ·refine Ab (WC h ..) ?_;cases e:x.cps.toList==y.cps.toList with
  |false=>rfl
  |true=>
   generalize(Tt e)=this;exact ZT (by cases x;cases y;simp only at this;refine Ab (Str.mk.injEq ..) ?_;exact Ql.mp this) h
theorem kW:∀{rs:Za Zi},y∈rs->∃j,rs[j]? =Zd y/\(∀i z,i<j->rs[i]? =Zd z->z≠y)/\rs.erase y=rs.eraseIdx j:=by
 intro rs
 induction rs with
 |nil=>exact λh=>ZT h ZE
 |cons z rs s=>
  intro h;by_cases q:z=y
  ·subst q;exact AU 0 rfl (λi C r=>ZT r (Nat.not_lt_zero _)) (by simp)
  ·generalize(by
    rcases Zr.mp h with h|h
    ·exact ZT h.symm q
    ·exact h:y∈rs)=h'
   refine Am (s h') λj B u A=>AU (j+1) (by trivial) (λi w r g=>?_) ?_
   ·cases i with
    |zero=>simp at g;subst g;exact q
    |succ i=>exact u i w (by exact WZ r) (by simpa using g)
   ·refine Ab (List.erase_cons_tail (by simpa using q) ..) (Ab A ?_);rfl
theorem Ay.eraseIdx(h:Ay G l xs)(j:Zf):Ay G (l.eraseIdx j) (xs.eraseIdx j):=by
 refine Ab (Xk ..) ?_;refine Ab (Xk ..) ?_;exact(h.take j).append (h.drop (j+1))
section
theorem i9(hx:(v',.ref a)∈T)(hy:(yv,.str y)∈T)(hm:y∈rs)(hz:rs.length<=1000)(u:BS a (.list (rs.map .str)) (.list ((rs.erase y).map .str)) L L')(h:P .none ⟨(.none,.none)::T,L',F⟩):Ev c ⟨T,L,F⟩ (Y8 (.builtin "list.remove") [v',yv]) P:=Ev.rw λs G R hR m=>by
 have ex:v'=.ref a:=(m.temps _ hx).zI;subst ex;refine xE ((m.temps _ hy).zJ) λt g=>?_;subst g;refine BR (m.live _ u.mem) λo H items n A r=>?_;subst A;refine Am (kW hm) λj O Q Y=>?_;have B:=r.length;rw[Zz]at B;have hj:j<rs.length:=(Za.getElem?_eq_some_iff.mp O).1;have hj':j<items.toArray.size:=by refine Ab (ZR ..) ?_;exact Nat.lt_of_lt_of_eq hj B.symm
 have at_:∀i (I:i<items.toArray.size),∃z t,rs[i]? =Zd z/\items.toArray[i]=.str z t:=λi I=>Ay.strs r i _ (by refine Ab (SR ..) ?_;exact Za.getElem?_eq_getElem _);refine Ug WN (mEA _ H rfl) U7 (U1 _ _) (list_remove a items.toArray n (.str y t) (oQ y) (IR r) j hj' ?_ ?_ (by refine Ab (ZR ..) ?_;show _<=16777216;lia)) ⟨H,?_⟩
 ·refine AV (at_ j hj') λz U D E=>?_;rw[O]at D;cases D;refine Ab (E ..) ?_;refine Ab (IQ ..) ?_;simp
 ·intro i I K;refine AV (at_ i I) λz U D E=>?_;refine Ab (E ..) ?_;refine Ab (IQ ..) ?_;exact WC (Q i z K D)
 ·have u2:=u;refine hR _ _ _ ⟨G,(m.change (tk:=s.toks) (ob:=Cz (items.eraseIdx j) (n+1)) u (Y3 ..).extBut ?_ ?_).zH VR.val⟩ h
  ·refine Ab (Yo.get?_update_self _ H rfl ..) ?_;have C:j<items.length:=by rw[ZR]at hj';exact hj'
   have D:items.toArray.eraseIdxIfInBounds j=(items.eraseIdx j).toArray:=by
    simp[Array.eraseIdxIfInBounds,C]
   simp only[T7,Cz,D,ZR,UP C];refine Ab (Yc (λe=>Yp (Zf.sub_lt (R2 C) N1) (by simpa using e)) ..) ?_;rfl
  ·refine BW _ (n+1) rfl ?_;refine Ab (Y ..) ?_;have:=r.eraseIdx j;have X:(rs.map V.str).eraseIdx j=(rs.eraseIdx j).map V.str:=by
    refine Ab (Xk ..) ?_;refine Ab (Xk ..) ?_;simp[Th,Ti]
   rwa [X]at this
theorem Mv(m:Ar c ⟨T,L,F⟩ G s)(C:c.A.handled=Zs)(B:(yv,.str y)∈T)(hl:(a,.list (rs.map .str))∈L)(D:y∉rs)(h:∀h' tk x,SQ s.heap h' x "ValueError"->E (.ref x) {s with heap:=h',toks:=tk}):ZZ c.M c.A (Y8 (.builtin "list.remove") [.ref a,yv]) Q E s:=by
 refine xE ((m.temps _ B).zJ) λt j=>?_;subst j;refine BR (m.live _ hl) λo u items n g r=>?_;subst g;refine Ug WN (mEA _ u rfl) U7 (U1 _ _) (list_remove_none a items.toArray n (.str y t) (oQ y) (IR r) ?_) (Cp u C h);intro i O;refine AV (Ay.strs r i items.toArray[i] (by refine Ab (SR ..) ?_;exact Za.getElem?_eq_getElem _)) λz K H I=>?_;refine Ab I (Ab IQ ?_);refine WC λe=>D ?_;subst e;exact Za.mem_of_getElem? H
end
end
section
variable{l:Zf}{rs':Za Zi}{k:Fl->S->Prop}
theorem ME{v:α}:∀{H:Za (Zf×α)},Ai l H=Zd v->put l v H=Zd H:=by
 intro H
 induction H with
 |nil=>
  intro h;cases h
 |cons j r g=>
  obtain⟨y,u⟩:=j;intro h;rw[EW]at h;refine Ab DC ?_;cases e:ZX l y with
  |true=>rw[e]at h;cases h;rfl
  |false=>
   rw[e]at h;dsimp only at h⊢;refine Ab (g h ..) ?_;rfl
theorem KP{v w:α}:∀{H g:Za (Zf×α)},put l v H=Zd g->put l w g=put l w H:=by
 intro H
 induction H with
 |nil=>
  intro z h;cases h
 |cons s r j=>
  intro g h;rw[DC]at h;cases e:ZX l s.1 with
  |true=>
   rw[e]at h;cases h;refine Ab DC (Ab DC ?_);refine Ab e ?_;rfl
  |false=>
   rw[e]at h;dsimp only at h;cases e2:put l v r with
   |none=>rw[e2]at h;cases h
   |some u=>
    rw[e2]at h;cases h;refine Ab DC (Ab DC ?_);refine Ab e (Ab (j e2 ..) ?_);rfl
theorem cH{v:α}:∀{H s:Za (Zf×α)},put l v H=Zd s->∃u,Ai l H=Zd u:=by
 intro H
 induction H with
 |nil=>
  intro A h;cases h
 |cons g r j=>
  intro s h;rw[DC]at h;refine Ab EW ?_;cases e:ZX l g.1 with
  |true=>exact⟨g.2,rfl⟩
  |false=>
   rw[e]at h;dsimp only at h⊢;cases e2:put l v r with
   |none=>rw[e2]at h;cases h
   |some z=>exact j e2
theorem GG:AT B8 (x::B9)=if x∈B8 then AT (B8.erase x) B9 else none:=rfl
theorem Hc:∀{a b l:Za Zi},AT l (a++b)=(AT l a).bind λr=>AT r b:=by
 intro a
 induction a with
 |nil=>exact @λh h=>rfl
 |cons x a g=>
  intro b l;refine Ab YO (Ab ((show AT l (x::(a++b))=if x∈l then AT (l.erase x) (a++b)else Zs from rfl) ..) ?_);refine Ab ((show AT l (x::a)=if x∈l then AT (l.erase x) a else Zs from rfl) ..) ?_;split
  ·exact g
  ·rfl
theorem Hb:∀{a l r:Za Zi},AT l a=Zd r->r.length<=l.length:=by
 intro a
 induction a with
 |nil=>
  intro j j h;cases h;exact ZL _
 |cons x a g=>
  intro l r h;rw[GG]at h;split at h
  ·exact Zv (g h) (List.length_erase_le)
  ·cases h
theorem Iw{v:α}{H g:Za (Zf×α)}(h:put l v H=Zd g):Ai l g=Zd v:=by
 exact xE (cH h) λu e=>lkp_put e h
theorem MD{u:α}(v:α):∀{H:Za (Zf×α)},Ai l H=Zd u->∃s,put l v H=Zd s:=by
 intro H
 induction H with
 |nil=>
  intro h;cases h
 |cons j r g=>
  intro h;rw[EW]at h;refine Ab DC ?_;cases e:ZX l j.1 with
  |true=>exact⟨_,rfl⟩
  |false=>
   rw[e]at h;dsimp only at h⊢;exact xE (g h) λA z=>Ab z (⟨_,rfl⟩)
section
variable{s:S}{q:Zf}
inductive wx(m:Mp)(s:S)(e lt:Zf)(X:Fx)(rs':Za Zi)(L:Za (Zo×LO))(F:Fm):Prop
 |mk (m':Mp) (oe:Ze W) (H':Za (Zf×LW)) (rho':Za (Zf×Ze W)) (x1:Ext m s.nx m' s.nx) (q1:put lt (.list (rs'.map .str)) s.H=Zd H') (q2:put e oe s.rho=Zd rho') (r1:Rel m' ⟨H',s.nx,rho'⟩ X ⟨[],L,F⟩):wx m s e lt X rs' L F
inductive wP(m:Mp)(s:S)(e lt:Zf)(X:Fx)(r:Ze (Za Zi))(σ':St):Prop
 |mk (rs':Za Zi) (er:r=Zs) (a:wx m s e lt X rs' σ'.L σ'.F):wP m s e lt X r σ'
inductive y2(m:Mp)(s:S)(e lt:Zf)(X:Fx)(rs ss:Za Zi)(i:Zf)(L:Za (Zo×LO))(F:Fm):Prop
 |mk (rs':Za Zi) (et:AT rs (ss.take i)=Zd rs') (a:wx m s e lt X rs' L F):y2 m s e lt X rs ss i L F
theorem wx.fr(h:wx m s n d X rs' L F)(g:DX c X.env X.own)(j:uf c X.env):wv c F X.env:=by
 cases h with|mk D B H' rho' C q1 q2 r=>cases r with|mk A z u=>exact g.frA j
theorem gF(G:Gx c d ks ck X)(hf:uf c X.env){t:Zf}{pf pt ap pc a0 pex pk pr:Xf}(gn:Bh ks y (.type "ValueError")=Zm)(he:BH ks (Af n) .local=Zm)(hx:BH ks (Af N) .local=Zm)(hT:BH ks (Af t) .local=Zm)(hl:(ap.endLine==pc.line)=Zm)(rel:Rel m s X σ)(h:gG n N t s k):
 Ev c σ (VW (.Try [.For (.Name (Af n) A6) (.Name (Af N) A7) [.Expr (.Call (.Attribute (.Name (Af t) pt) (Zc "remove") ap) [.Name (Af n) a0] [] pc) pex] [] pf] [⟨Zd (.Name y j9),Zs,[.Return (Zd (.Constant (.bool Zh) j pk)) pr],A5⟩] [] [] p) X.env) (Bx m s.nx X k):=by
 replace he:=Aw he;replace hx:=Aw hx;replace hT:=Aw hT;refine h.casesOn ?_;intro ss C rs pp r er h;refine pp.casesOn ?_;intro ne e1 e2 e3 hz1 hz2;have fx:X0 (.type "ValueError") (.type "BaseException")=pure true:=by refine Ab (YN ..) ?_;kernel_rfl
 have ft:X0 (.type ((Manifest.find? "ValueError").elim "type" λx=>x.metatype)) (.type "tuple")=pure false:=by refine Ab (YN ..) ?_;kernel_rfl
 have fv:X0 (.type "ValueError") (.type "ValueError")=pure true:=by refine Ab (YN ..) ?_;kernel_rfl
 have hoe:∃o,Ai n s.rho=Zd o:=by
  have this:∃rs',r=Zs∨r=Zd rs':=by cases r with
   |none=>exact⟨[],.inl rfl⟩
   |some x=>exact⟨x,.inr rfl⟩
  exact xE this λrs' hr'=>Ad (h Zs rs' hr') λH' B z=>Ad z λr' e' B=>cH e'
 refine xE hoe λoe0 hoe=>iS (H:=wP m s n C X r) (R:=ED c "ValueError" (wP m s n C X r) X.env) G.ok.gd G.en (Ey gn) (Ex gn) fx ft fv (λn s1 z E=>bf z) (λs1 G1 m1=>?_) λg ax I=>?_
 ·refine Vn (Zu (Q:=λf s'=>f=.next/\∃g,MR c g s'/\Bx m s.nx X k .next g) ?_ (λf s' I=>xA I λef z=>?_) λB B n=>n)
  ·refine wpAny_For ?_ (λx=>rfl);refine Zu (Hg (σ:=σ) (P:=λv' g=>g=⟨(v',.lst (ss.map .str))::σ.T,σ.L,σ.F⟩) G.en hx rel e1 (λv' v U=>by cases U;rfl) s1 ⟨G1,m1⟩) (λxv s2 I=>Ag I λσ2 m2 D=>?_) λB B n=>n.elim;subst D;obtain⟨T,L,F⟩:=σ;generalize(Nj (c:=c) (T:=(xv,.lst (ss.map .str))::T) (L:=L) (F:=F) G.ok.han (.head _))=hit;rw[Zz]at hit;refine Zu (ag (target:=.Name (Af n) A6) (P:=λf g=>f=.next/\Bx m s.nx X k .next g) (X:="ValueError") (H:=wP m s n C X r) hit G.ok.han (λg h=>by cases h with|mk rs' er a=>exact a.fr G.fa hf) (y2 m s n C X rs ss) (.mk rs rfl (.mk m oe0 s.H s.rho Ext.refl (ME e3) (ME hoe) (rel.tmp (T':=[])))) (λB B B B=>trivial) (λK it q' i L F v' hi hJ=>?_) (λL F hJ=>?_) s2 m2) (λit s3 z=>Xi z λr s' z=>?_) λB B n=>n.elim
   ·refine hJ.casesOn ?_;intro rs' et a;refine a.casesOn ?_;intro m' oe H' rho' x1 q1 q2 r1;have ev:((ss.map V.str)[i]?).getD .none=.str ss[i]:=by refine Ab (Za.getElem?_map ..) ?_;refine Ab (Za.getElem?_eq_getElem hi ..) ?_;rfl
    simp only[ev];have G':Gx ((c.keep K).prot it q') d ks ck X:=G.keep.prot;refine xE (MD (Zd (.p (.str ss[i]))) (Iw q2)) λA q3=>?_;refine Ax ((AR (k:=λs'=>s'=⟨H',s.nx,A⟩) (w:=.p (.str ss[i])) G' (by simp only[DA,YM];exact .inl (Xu.mpr (mEA _ he (by simp)))) (r1.tmp (T':=[(v',.str ss[i])])) (wp (.head _)) (Aa q3 rfl)).mono λB σ3 I=>I.cp λO s3 x3 r3 i3 k3=>?_);subst k3;obtain⟨T3,Y,F3⟩:=σ3;intro s4 G4 m4;have r4:Rel O ⟨H',s.nx,A⟩ X ⟨[],Y,F3⟩:=r3.tmp;generalize(Iw q1)=hlt;have het:Ai t A=Zd (Zd (.o C)):=by
     have ne:n≠t:=λq=>by subst q;rw[WJ]at ne;cases ne
     refine Ab (Fo ne q3 ..) (Ab (Fo ne q2 ..) ?_);exact e2
    have hee:Ai n A=Zd (Zd (.p (.str ss[i]))):=Iw q3;have esp:ss=ss.take i++ss[i]::ss.drop (i+1):=by refine Bj (Yg hi ..) ?_;refine Ab (Xx ..) ?_;rfl
    have e5:Ym [Expr.Name (Af n) a0] X.env=[(Zh,Yk (.Name (Af n) a0) X.env)]:=by refine Ab (Av rfl ..) ?_;rfl
    by_cases hin:ss[i]∈rs'
    ·have et':AT rs (ss.take (i+1))=Zd (rs'.erase ss[i]):=by
      refine Ab (XR hi ..) (Ab Hc ?_);refine Ab et ((?_:AT rs' [ss[i]]=_));rw[GG];refine Ab (if_pos hin ..) ?_;rfl
     refine xE (MD (.list ((rs'.erase ss[i]).map .str)) hlt) λH2 q5=>?_;have q6:put C (.list ((rs'.erase ss[i]).map .str)) s.H=Zd H2:=(KP q1).symm.trans q5;have ev2:Ev ((c.keep K).prot it q') ⟨[],Y,F3⟩ (VB [.Expr (.Call (.Attribute (.Name (Af t) pt) (Zc "remove") ap) [.Name (Af n) a0] [] pc) pex] X.env) λf g=>f=.next/\y2 m s n C X rs ss (i+1) g.L g.F:=by
      refine Bv (aS (CY (Hg G'.en hT r4 het λv1 v U=>?_) (CO rfl (HP rfl K2) hl (by exact ZQ _ _))) G'.en.int (by unfold XX;rfl));refine xA U λwl U=>?_;subst U;refine An (Ch (k:=λs'=>s'=⟨H2,s.nx,A⟩) (r4.tmp (T':=[(v1,.ref (O C))])) hlt (Aa q5 rfl)) λlo L5 hp5 hlo hput=>?_;cases hlo;refine AF (hput (.list ((rs'.erase ss[i]).map .str)) rfl) λL6 s6 u en r6 k6=>?_;subst k6;refine EU (name:=Zc "remove") (.inr (mEA _ (.head _) (hp5.mem_iff.mpr u.mem))) WN To (mY Kp.builtin (BB (Hg (σ:=⟨[(v1,.ref (O C))],Y,F3⟩) G'.en he r4.tmp hee λv2 v U=>Ct ?_) (Av rfl)) (Av rfl) rfl);cases U;refine Ev.perm hp5 (i9 (.tail _ (.head _)) (.head _) hin (by exact Zv (Hb et) hz2) u ?_);exact Dl ⟨rfl,.mk _ et' (.mk O _ H2 A (x1.trans x3) q6 ((KP q2).symm.trans q3) r6.tmp)⟩
     exact Zu (ev2 s4 ⟨G4,m4⟩) (λf s5 hY=>Am hY λσ5 hX ef hj=>xE hX λG5 m5=>Er ef σ5.L σ5.F hj ⟨G5,m5.reset⟩) λB B n=>n.elim
    ·have er2:r=none:=by
      refine Bj er (Ab esp ?_);refine Ab Hc (Ab et ?_);refine(?_:AT rs' _=Zs);rw[GG];refine Ab (Yc hin ..) ?_;rfl
     have m4:Ar c ⟨[],Y,F3⟩ G4 s4:=m4.zW.zQ;refine Vn (Q2 ?_ G'.en.int (by unfold XX;rfl));refine QM ?_ (CO rfl (HP rfl K2) hl (by exact ZQ _ _));refine Zu (Hg (P:=λv1 g=>g=⟨[(v1,.ref (O C))],Y,F3⟩) G'.en hT r4 het (λv1 v U=>by refine xA U λB U=>?_;subst U;rfl) s4 ⟨G4,m4⟩) (λv1 s5 hY=>Ag hY λσ5 hX D=>xE hX λG5 m5=>?_) λB B n=>n.elim;subst D;have ev1:v1=.ref (O C):=(m5.temps _ (.head _)).zI;subst ev1;have hlm:(O C,LO.list (rs'.map .str))∈Y:=by
      cases r4 with
      |mk hr hh A5=>
       refine Am (hh.get hlt) λlo hm hlo B=>?_;cases hlo;exact A5.mem_iff.mpr (Zk _ hm)
     refine Zu (EU (P:=λfx g=>fx=(.builtin "list.remove",[.ref (O C)])/\g=⟨[(.ref (O C),.ref (O C))],Y,F3⟩) (name:=Zc "remove") (.inr (mEA _ (.head _) hlm)) WN To ⟨rfl,rfl⟩ s5 ⟨G5,m5⟩) (λfx s6 hY=>Am hY λσ6 hX efx D=>xE hX λG6 m6=>?_) λB B n=>n.elim;subst efx D;refine Ab e5 (Tf (P:=λh=>∀b o,c.h1.get? b=Zd o->h.get? b=Zd o) rfl Kp.builtin ?_);refine V4 (VD ?_);refine Zu (Hg (P:=λv2 g=>g=⟨[(v2,.str ss[i]),(.ref (O C),.ref (O C))],Y,F3⟩) G'.en he (r4.tmp (T':=[(.ref (O C),.ref (O C))])) hee (λv2 v U=>by cases U;rfl) s6 ⟨G6,m6⟩) (λv2 s7 hY=>Ag hY λσ7 hX D=>xE hX λG7 m7=>?_) λB B n=>n.elim;subst D;refine TU (env:=X.env) (pos:=pc) ⟨m7.old,?_⟩;exact Mv m7 G.ok.han (.head _) hlm hin λh' tk x hne=>⟨x,G7,s7.heap,⟨[],Y,F3⟩,rfl,m7.reset.toks,hne,.mk rs' er2 (.mk O _ H' A (x1.trans x3) q1 ((KP q2).symm.trans q3) r4)⟩
   ·refine hJ.casesOn ?_;intro rs' et a;refine a.casesOn ?_;intro m' oe H' rho' x1 q1 q2 r1;rw[XK,er]at et;subst et;generalize(h oe rs' (.inr rfl))=z;refine Ad z λH3 q3 z=>?_;rw[q1]at q3;cases q3;refine Ad z λrho3 q4 z=>?_;rw[q2]at q4;cases q4;exact⟨rfl,m',⟨H',s.nx,rho'⟩,x1,r1,.nx,rfl,z⟩
   ·cases r with
    |ok f=>
     exact Am z λg m' ef A5=>Es ef g m' A5
    |error n=>exact fc (λs' z=>z) z
  ·refine Ag z λg m' A5=>?_;subst ef;exact VH (mEA g m' A5)
 ·refine I.casesOn ?_;intro rs' hr a;refine a.casesOn ?_;intro m' oe H' rho' x1 q1 q2 r1;subst hr;generalize(h oe rs' (.inl rfl))=z;refine Ad z λH3 q3 z=>?_;rw[q1]at q3;cases q3;refine Ad z λrho3 q4 z=>?_;rw[q2]at q4;cases q4;obtain⟨T,L,F⟩:=g;refine Bv (Ih (iP ?_));exact⟨m',⟨H',s.nx,rho'⟩,x1,r1.tmp,.rt (.p (.bool Zh)),⟨_,rfl,wp (.head _)⟩,z⟩
end
end
section
variable{l done:Za (Zi×V)}{P:ZU->St->Prop}{c':Cx}{x:Zf}{vx:Expr}{px pk:Xf}{kk:Za (Zi×V)->S->Prop}{sc:Yh}{rest:Za Zn}{t:Zi}
section
theorem eJ{k:Zi}(u:BS a (.dict l) (.dict (putD k D8 l)) L L')(I:(b,.str k)∈T)(K:(v',D8)∈T)(Q:l.length<=1000)(h:P () ⟨T,L',F⟩):
 Ev c ⟨T,L,F⟩ (QX a b v') P:=Ev.rw λs G R O m=>by
 refine xE ((m.temps _ I).zJ) λt g=>?_;subst g;have rv:VR G D8 v':=m.temps _ K;refine Ag (m.live _ u.mem) λo D r=>?_;have z:=r.1;refine Ag (DS D r) λks A C=>Rc (hsz:=by refine Ab A.length ?_;refine Ab Y7 ?_;exact q1 Q rfl) (knd:=sk c.w) (k:=k) (Yl rfl) C λh' E H=>?_;exact Ag (EN (Fi k D8 l z) (A.put rv z) E) λU j B=>O _ _ _ ⟨G,m.change (tk:=s.toks+1) u H.extBut j B⟩ h
theorem Jt:Ev c' ⟨T,L,F⟩ P3 λa h=>∃j,a=.ref j/\h=⟨T,(j,.dict [])::L,F⟩:=λs g=>xE g λG m=>by
 exact YR (Ep _ ⟨G,(m.push (lo:=.dict []) (o:=W7) (tk:=s.toks) (Er (by exact X6) ([]) 0 rfl rfl))⟩ _ rfl rfl) (by exact ZQ _ _)
theorem dY(he:Bq env ks)(ho:Gz env own)(U:∀a,env.cells.lookup line=Zd a->a∈own)(hx:(line,.cell)∈ks)(hv:(v',D8)∈T)(g:F4 line D8 G8 rho')
 (h:P () ⟨T,L,⟨env,own,rho'⟩⟩):Ev c ⟨T,L,⟨env,own,G8⟩⟩ (XY env line v') P:=
 Ev.raw λs G m=>by
  refine Cb λPP2 E=>CU (he.names line _ hx) λn1 n2 n3 n4 n5=>xE (n4 (.inl rfl)) λa R=>?_;obtain⟨⟨mm,hn,hm⟩,hcs,hnd⟩:=m.frames.1;generalize(hm:∀y u,(y,Zd u)∈G8->
   match env.cells.lookup y with
   |none=>∃v',mm y=Zd v'/\VR G u v'
   |some c=>∃v',s.heap.IsCell c (Zd v')/\VR G u v')=hm
  generalize(lookup_mem R)=A;refine xE (hcs (line,a) A) λv0 X=>E (SJ he.kind n1 R X λh' H C=>mEA _ ⟨G,?_⟩ h);generalize(U _ R:a∈own)=j;generalize(by
   simp only[A3,Cx.fms,Ys];exact Zq _ (Zk _ (Zk _ j)):a∈A3 c ⟨T,L,⟨env,own,G8⟩⟩)=a0
  generalize m.nodup=nd;rw[A3,ZY]at nd;refine Cb λPP3 O=>Du nd λz_ I a1=>?_;rw[ZY]at I;refine Du I λB z_ K=>?_;generalize(by simp only[Cx.fms,Ys];exact Zk _ j:a∈(c.fms ⟨env,own,G8⟩).flatMap (·.own))=D;generalize(λp g e=>a1 p.1 (ZJ g) a (Zk _ D) e:∀p∈L,p.1≠a)=ne1;generalize(λp g e=>K a D p.1 (ZJ g) e.symm:∀p∈c.Pr,p.1≠a)=ne2;generalize(λb hb e=>by
   simp only[Cx.fms,Ys,ZY]at B;exact B.2.2 a j b hb e.symm:∀b∈(c.Fs.map (·.2)).flatMap (·.own),b≠a)=ne3
  generalize(λb o e q=>m.apart a a0 o (q▸e):∀b o,G b o->b≠a)=a3;refine CC (m.frames) λfo frd fow ft=>O ?_;exact {
   base:=m.base
   gsub:=λb o e=>(C.2 b (a3 b o e)).trans (m.gsub b o e)
   temps:=m.temps,outer:=m.outer,kept:=m.kept
   frames:=by
    refine Ba ⟨⟨mm,hn.sameBut C (λe=>ho.ncl (Ab e (ZJ A)):env.locals≠a),λy u hy=>?_⟩,λY a2=>?_,?_⟩ frd fow (ft.mono (λz_ z_ e=>e) λb hb o e=>(C.2 b (ne3 b hb)).trans e)
    ·generalize(g.mem fo.nd hy)=z;show match env.cells.lookup y with
      |none=>∃Q,mm y=Zd Q/\VR G u Q
      |some c=>∃v',h'.IsCell c (Zd v')/\VR G u v'
     rcases z with⟨rfl,e⟩|⟨ne,z⟩
     ·cases e;exact Ab R (mEA v' H (m.temps _ hv))
     ·generalize(hm y u z)=q;cases el:env.cells.lookup y with
      |none=>rw[el]at q;exact q
      |some Y=>
       rw[el]at q;refine Ag q λv2 e2 r2=>mEA v2 (e2.sameBut C λe=>ne ?_) r2;exact ZH On (jn ho.nd (lookup_mem el) A e)
    ·by_cases e:Y.2=a
     ·exact⟨_,e▸H⟩
     ·exact xE (fo.cells Y a2) λo e2=>⟨o,e2.sameBut C e⟩
    ·show(rho'.map (·.1)).Nodup;exact Ab g.keys fo.nd
   live:=λp g=>Ag (m.live p g) λo e r=>mEA o ((C.2 _ (ne1 p g)).trans e) r
   prot:=λp g=>Ag (m.prot p g) λo e r=>mEA o ((C.2 _ (ne2 p g)).trans e) r
   nodup:=m.nodup,apart:=m.apart,gens:=m.gens,os:=m.os,dr:=m.dr}
noncomputable def LE(kx vx e:Expr)(it acc:Zb)(cenv:YG):ZN Fin:=(do
 let g<-Yk kx cenv
 let h<-TS [g] (Yk vx cenv)
 match acc with
 |.ref d=>do
  Vd {kx.pos with endLine:=vx.pos.endLine,endCol:=vx.pos.endCol}
  TS [g,h] (QX d g h)
 |_=>unsupported "internal:dictcomp")>>=λj=>PB (.compLoop e 0 it acc cenv)
theorem iL{P:Fin->St->Prop}
 (h:Ev c σ (Yk value cenv) λA u=>Ev c u (Yk vx cenv) λB z=>Ev c z (QX a A B) λr j=>P (.again (.compLoop target 0 v' (.ref a) cenv)) j):Ev c σ (LE value vx target v' (.ref a) cenv) P:=λs m=>by
 unfold LE;refine Zg (Zg (Zu (h s m) (λA G g=>Ag g λu H K=>?_) λr r target=>target));refine Zg (Yt (Zu (K G H) (λB I g=>Ag g λz C D=>?_) λr r target=>target));refine Zg (XC ?_);refine Yt (Zu (D I C) (λr L g=>Ag g λj E p=>?_) λr r target=>target);exact Zp (mEA j E p)
end
section
variable{s:S}
theorem lP:∀(done:Za (Zi×V)),FC m n (done.map λ(p:Zi×V)=>(p.1,W.p p.2)) done:=by
 intro done
 induction done with
 |nil=>exact rfl
 |cons p r g=>exact At p.2 r rfl rfl (g)
theorem Mi(g:GA cenv own names){x:Zf}{w:W}{v':Zb}{k:S->Prop}(j:(Af x,NameKind.local)∈names∨(Af x,Xd)∈names)(rel:Rel m s ⟨R0,cenv,own⟩ σ)(I:BO m s.nx σ.T w v')(h:CD x w s k):Ev c σ (XY cenv (Af x) v') (Dr m s.nx ⟨R0,cenv,own⟩ σ.T k):=by
 cases rel with
 |mk z E A=>
  refine Ad h λr B C=>Ag I λv K u=>Ag (RR.put K z B) λrho' D G=>?_;generalize(λk C L=>by
   unfold EX;refine Ye.mpr (mEA _ L ?_);rcases C with rfl|rfl<;>rfl:∀k,k=NameKind.local∨k=Xd->(Af x,k)∈names->(Af x,k)∈EX names)=inK
  rcases j with j|j
  ·exact KI g.ok g.ow (inK _ (.inl rfl) j) u D ⟨m,⟨s.H,s.nx,r⟩,Ext.refl,.mk G E A,λO h=>h,C⟩
  ·exact dY g.ok g.ow (g.oc _ j) (inK _ (.inr rfl) j) u D ⟨m,⟨s.H,s.nx,r⟩,Ext.refl,.mk G E A,λO h=>h,C⟩
inductive wu(m:Mp)(n:Zf)(R0:Za (Zo×LO))(env:YG)(own:Za Zo)(acc:Zo)(done:Za (Zi×V))(kk:Za (Zi×V)->S->Prop)(σ':St):Prop
 |mk (m':Mp) (s':S) (key:Zi) (u:V) (x:Ext m n m' s'.nx) (r:Rel m' s' ⟨(acc,.dict (putD key u done))::R0,env,own⟩ ⟨[],σ'.L,σ'.F⟩) (hk:kk (putD key u done) s')
theorem lr(hr:Co ft rec){c':Cx}{vx e:Expr}{names:Za (Zi×Zx)}{x:Zf}{px pk:Xf}{elt:PE}{R0:Za (Zo×LO)}{cenv:YG}{own:Za Zo}{acc:Zo}{it:Zo}{done:Za (Zi×V)}{m:Mp}{s:S}{L:Za (Zo×LO)}{F:Fm}{v:V}{v':Zb}{kk:Za (Zi×V)->S->Prop}
 (z:GA cenv own names) (B:(Af x,NameKind.local)∈names∨(Af x,Xd)∈names) (O:Cq (EX names) Zh vx elt) (hz:done.length<=1000)
 (G:Gx c' d (EX names) Zh ⟨(acc,.dict done)::R0,cenv,own⟩) (rel:Rel m s ⟨(acc,.dict done)::R0,cenv,own⟩ ⟨[(v',v)],L,F⟩) (h:lu rec d x elt v done s kk):
 Gy c' (.Name (Af x) px) e (LE (.Name (Af x) pk) vx e) it acc cenv v' v L F (wu m s.nx R0 cenv own acc done kk):=by
 have h:CD x (.p v) s (λD=>Aj (Ai x D.rho) λo=>Aj o λw=>Aj (Ed w) λj=>rec d (.ex elt λu K=>Aj (pV u) λv'=>A4 done.length (kk (putD j v' done) K)) D):=h;refine Ax ((Mi z B rel (wp (.head _)) h).mono λQ g r=>r.cp λm2 D x2 r2 i2 A=>Ad A λo T A=>Ad A λw e2 A=>Ad A λj ew A=>?_);have T:Ai x D.rho=Zd (Zd (.p (.str j))):=by refine Ab T ?_;refine Ab e2 ?_;refine Ab (MH ew) ?_;rfl
 have r2':Rel m2 D ⟨(acc,.dict done)::R0,cenv,own⟩ ⟨[],g.L,g.F⟩:=r2.tmp (T':=[]);have R:∀{P:Zb->St->Prop},(∀H,P H ⟨[(H,.str j)],g.L,g.F⟩)->Ev c' ⟨[],g.L,g.F⟩ (Yk (.Name (Af x) pk) cenv) P:=by
  intro P Y;obtain⟨T2,L2,F2⟩:=g;cases r2' with
  |mk C X U=>
   refine Ag (RR.mem C (lkp_mem T)) λv0 hv wr=>?_;cases wr;have inK:∀k,k=NameKind.local∨k=Xd->(Af x,k)∈names->(Af x,k)∈EX names:=λk hk hm=>Ye.mpr (mEA _ hm (by rcases hk with rfl|rfl<;>rfl))
   exact B.elim (λB=>EG z.ok (inK _ (.inl rfl) B) hv Y) λB=>iM z.ok (.inl (inK _ (.inr rfl) B)) hv Y
 refine iL (R λH=>?_);refine(hr.ex G O (r2'.tmp (T':=[(H,.str j)])) A).mono λvv σ4 r=>r.cp λm4 K x4 r4 i4 w hw E=>Ad E λu eu E=>Al E λQ E=>?_;cases r4 with
 |@mk Q Q rho L1 I X U=>exact Ev.perm (U.trans Yw) (eJ BS.head (i4 _ (.head _)) (EV eu hw) hz ⟨rfl,.mk m4 K j u (x2.trans x4) (.mk I X Yw.symm) E⟩)
theorem cf{stp:V->Za (Zi×V)->S->(Za (Zi×V)->S->Prop)->Prop} (h:Aj (itemsOf s.H w) λl=>Yr l.length 900=Zm/\(match s with
 |⟨H,nx,rho⟩=>Aj (Fa caps rho) λr=>fZ stp (λacc j=>match j with|⟨H2,nx2,_⟩=>k (.o nx2) ⟨(nx2,.dictW (acc.map λp=>(p.1,.p p.2)))::H2,nx2+1,rho⟩) l [] ⟨H,nx,(x,Zs)::r⟩)) {P:Prop}
 (kk:∀l r,itemsOf s.H w=Zd l->l.length<=900->Fa caps s.rho=Zd r->fZ stp (λacc j=>k (.o j.nx) ⟨(j.nx,.dictW (acc.map λp=>(p.1,.p p.2)))::j.H,j.nx+1,s.rho⟩) l [] ⟨s.H,s.nx,(x,Zs)::r⟩->P):P:=
 Ad h λl e h=>Ad h.2 λr u g=>kk l r e (Zw h.1) u g
inductive yY(m1:Mp)(n:Zf)(R0:Za (Zo×LO))(stp:V->Za (Zi×V)->S->(Za (Zi×V)->S->Prop)->Prop)(fin:Za (Zi×V)->S->Prop)(l:Za V)(acc:Zo)(cenv:YG)(own:Za Zo)(i:Zf)(L:Za (Zo×LO))(F:Fm):Prop
 |mk (m':Mp) (s':S) (done:Za (Zi×V)) (hl:done.length<=i) (x:Ext m1 n m' s'.nx) (r:Rel m' s' ⟨(acc,.dict done)::R0,cenv,own⟩ ⟨[],L,F⟩) (k:fZ stp fin (l.drop i) done s'):yY m1 n R0 stp fin l acc cenv own i L F
theorem t9(hr:Co ft rec)(G:Gx c d ks ck X){vx i:Expr}{px pk:Xf}{sc:Yh}{pos pos':Xf}{use:Ze (Zb->ZN ZU)}{x:Zf}{caps:Za Zf}{iter elt:PE}{k:W->S->Prop}{P:Zb->St->Prop}
 (hi:isSet i=Zh) (hce:Cq ks ck i iter) (hlc:Ju ks sc [x] caps=Zm) (hx:(Af x,NameKind.local)∈sc.names∨(Af x,Xd)∈sc.names) (hel:Cq (EX sc.names) Zh vx elt)
 (Q:∀(v:Zb) (m':Mp) (s':S) (σ1:St) (C:Zo) (w:W),Ext m s.nx m' s'.nx->Rel m' s' X σ1->(∀p∈σ.T,p∈σ1.T)->BO m' s'.nx σ1.T w v->k w s'->pG c use P C v σ1)
 (rel:Rel m s X σ) (h:yV rec d x iter elt caps k s):Ev c σ (Wn (.DictComp (.Name (Af x) pk) vx [⟨.Name (Af x) px,i,[],0⟩] sc pos) sc X.env pos' P3 Zh (Yk i X.env) use) P:=by
 refine CC (Iy hlc) λh1 h2 h3 h4=>?_;refine Fz (g:=⟨.Name (Af x) px,i,[],0⟩) rfl (CT hi) G.en G.ow h1 h2 (λj j j j=>Jt) (λit acc cenv R s=>codeAny_compStart_dict) (tail:=LE (.Name (Af x) pk) vx (.DictComp (.Name (Af x) pk) vx [⟨.Name (Af x) px,i,[],0⟩] sc pos)) (p0:=i.pos) ⟨λj j j=>rfl,λj j j=>rfl,λj j j=>rfl,λj j j=>rfl⟩ G.ok.han
  ((hr.ex G hce rel h).mono λxv σ1 h1Z=>h1Z.cp λm1 U x1 I i1 w hw k1=>cf k1 λl cr el' hz ec k1=>?_)
 have z:=Gg (σ1:=σ1) G.ok.han hw el' (q1 hz rfl);cases I with
 |@mk T1 L1 B Lh E hh hp=>
  refine Am (du E ec) λcr' hc1 hc2 hc3=>?_;refine .mk (([x].map Af).map (λx=>(x,Zs))++cr') (dw hc2 h4) (dy hc3 h3) _ l.length _ (yY m1 U.nx X.R (lu rec d x elt) (λacc A=>k (.o A.nx) ⟨(A.nx,.dictW (acc.map λp=>(p.1,.p p.2)))::A.H,A.nx+1,U.rho⟩) l) z
   (λacc cenv own=>.mk m1 ⟨U.H,U.nx,(x,Zs)::cr⟩ [] (ZL _) Ext.refl (.mk (mEA _ rfl hc1) hh ((hp.cons _).trans Yw.symm)) k1) (λj j j j j j j=>trivial) (λacc cenv own K it q' i' L F v' D O hJ=>?_) λacc cenv own L F hJ=>?_
  ·cases hJ with|mk m2 A done r Y r2 k2=>
   rw[dj O]at k2;refine(lr hr D hx hel (Zv r (q2 (ZB O hz) rfl)) (G.inner D) (r2.tmp (T':=[(v',(l[i']?).getD .none)])) k2).mono λσ4 h=>?_;cases h with|mk m4 s4 key u x4 r4 k4=>exact .mk m4 s4 _ (Zv (Hh key u done) (Xq r)) (Y.trans x4) r4 k4
  ·cases hJ with|mk m2 A done r Y r2 k2=>
   rw[YV]at k2;refine⟨(Rel.back E Y r2).1,?_⟩;exact r2.cp0 λ{rho' L2} hr2 hh2 hp2=>(BY (xo:=.dictW (done.map λ(p:Zi×V)=>(p.1,W.p p.2))) (lo:=.dict done) (k:=k) (a:=acc) (.mk (E.ext Y) hh2 (Xl (L2++X.R)):Rel m2 ⟨A.H,A.nx,U.rho⟩ X ⟨(.ref acc,.ref acc)::T1,L2++X.R,⟨X.env,X.own,B⟩⟩) (λm' x'=>⟨_,rfl,FC.ext x' (lP done)⟩) k2 (T':=(.ref acc,.ref acc)::T1) (λp hp=>hp) (.head _)).cp λm3 s3 x3 r3 i3 w3 hw3 hk3=>(Q (.ref acc) m3 s3 ⟨(.ref acc,.ref acc)::T1,(acc,.dict done)::(L2++X.R),⟨X.env,X.own,B⟩⟩ cenv.locals w3 (x1.trans (Y.trans x3)) r3 (λp hp=>.tail _ (i1 p hp)) hw3 hk3).fr λh=>xE h λG1 m1=>⟨G1,(m1.perm (hp2.trans Yw)).zH VR.val⟩
end
section
theorem aV{P:YA->St->Prop}(u:Bq env ks)(z:(t,.local)∈ks)
 (hl:(A5.line==p.line&& !(scope.names.any λ(n,k)=>n==t&&(k==.local||k==.cell)))=Zm)
 (h:Ev c σ (Wn (.DictComp value vx (⟨target,y6,ifs,0⟩::rest) scope p) scope env (R8 (⟨target,y6,ifs,0⟩::rest) p) P3 Zh (Yk y6 env) (Zd (WU (.Name t A5) env))) λg j=>P .next j):
 Ev c σ (VW (.Assign [.Name t A5] (.DictComp value vx (⟨target,y6,ifs,0⟩::rest) scope p) j9) env) P:=λs m=>by
 have r:XX (.DictComp value vx (⟨target,y6,ifs,0⟩::rest) scope p) (Zd (.Name t A5)) j9.line env=pure true:=by
  unfold XX;have hb:env.blockKind=.function:=by unfold Rt;refine Ab u.kind ?_;rfl
  have A:=(u.names t _ z).1;simp only[hb,A];rw[Z6]at hl;have B:(A5.line==(Expr.DictComp value vx (⟨target,y6,ifs,0⟩::rest) scope p).pos.line)=true:=hl.1;simp only[B,hl.2];rfl
 refine Ab (Sk _ _ _ _ r ..) (Zg (XC (Zg ?_)));refine(?_:ZZ _ _ (do let _<-Wn (.DictComp value vx (⟨target,y6,ifs,0⟩::rest) scope p) scope env _ P3 Zh (Yk y6 env) (Zd (WU (.Name t A5) env))) _ _ s);exact Zg (Zu (h s m) (λg C q=>Zp (Zp q)) λg g e=>e)
end
end
section
variable{l x n0:Zf}{j':Zb}{k:Fl->S->Prop}{a t i:Expr}{body ps:Za PS}{P:YA->St->Prop}{σ1:St}{b es:Za Yv}{inv:Zl}{m' m0 m1:Mp}{s' s1:S}{lw:LW}{vs:Za V}{R:Za (Zo×LO)->Prop}{p1 p2 p3:Xf}{pt:PE}
section
variable{s:S}
theorem mv(rel:Rel m s X σ)(ex:Ai l s.H=Zd (.list ts))(P:(a',.ref (m l))∈σ.T)(O:(j',.int dn)∈σ.T)(L:(w',D8)∈σ.T)(h:uI l ts dn D8 s K6):Ev c σ (Td a' j' w') (Dr m s.nx X σ.T K6):=by
 refine Cb λPP1 z=>z ?_;cases dn with
 |ofNat j=>
  refine xA h λD h=>Al h λK h=>Cb λR A=>An (Ch rel ex h) λlo Y C r g=>?_;cases r;exact AF (g _ rfl) λU s' u G q I=>A (Ev.perm C (eh P O L u (ZI j:(0:Z7)<=QC j) (Xs.mpr D) K ⟨m,s',G▸Ext.refl,q,λz_ h=>h,I⟩))
 |negSucc j=>
  cases j with
  |zero=>
   refine Cb λQ B=>Du h λE K h=>?_;obtain⟨ys,w,rfl⟩:∃ys w,ts=ys++[w]:=⟨_,_,(Wa E).symm⟩;rw[Vi]at h;refine An (Ch rel ex h) λlo Y C r g=>?_;cases r;exact AF (g _ rfl) λU s' u G q I=>B (Ev.perm C (eg P O L u (by simp at K;omega) ⟨m,s',G▸Ext.refl,q,λz_ h=>h,I⟩))
  |succ j=>exact h.elim
theorem mw(rel:Rel m s X σ)(A:BO m s.nx σ.T (.o l) a')(z:(j',.int dn)∈σ.T)(r:(w',D8)∈σ.T)(h:setL l dn D8 s K6):Ev c σ (Td a' j' w') (Dr m s.nx X σ.T K6):=by
 refine Ad h λx ex h=>Ag A λC g j=>?_;obtain⟨B,u⟩:=g;subst u;cases x with
 |list l=>exact mv rel ex j z r h
 |_=>exact(h:ZP).elim
theorem FC.put(s:WR m n w D8):∀{d:Za (Zi×W)} {vs:Za (Zi×V)},FC m n d vs->FC m n (putD y w d) (putD y D8 vs):=by
 intro d
 induction d with
 |nil=>
  intro A e;generalize(e:_=[])=e;subst e;exact At D8 ([]) rfl s rfl
 |cons B r j=>
  intro A g;obtain⟨u,t,e,z,h⟩:=g;subst e;refine Ab DM (Ab DM ?_);split
  ·exact At D8 t rfl s h
  ·exact At u _ rfl z (j h)
theorem mx(rel:Rel m s X σ)(O:BO m s.nx σ.T (.o l) a')(K:(j',.str y)∈σ.T)(E:BO m s.nx σ.T w w')(h:setD l y w s K6):Ev c σ (Td a' j' w') (Dr m s.nx X σ.T K6):=by
 refine Ad h λq eq h=>Ag O λu1 g C=>?_;obtain⟨Q,B⟩:=g;subst B;obtain⟨T,L,F⟩:=σ;cases q with
 |dictW d=>
  refine Cb λP r=>xA h λR h=>An (Ch rel eq h) λlo Y G j A=>?_;obtain⟨vs,rfl,D⟩:=j;exact Ag E λu B z=>AF (A _ ⟨_,rfl,D.put B⟩) λU s' up H q I=>r (Ev.perm G (aL C up K z (by rw[D.length];exact Zw R) ⟨m,s',H▸Ext.refl,q,λQ h=>h,I⟩))
 |_=>exact(h:ZP).elim
theorem c9(rel:Rel m s X σ)(r:BO m s.nx σ.T H6 a')(j:BO m s.nx σ.T H7 j')(g:BO m s.nx σ.T w w')(h:rf H6 H7 w s K6):Ev c σ (Td a' j' w') (Dr m s.nx X σ.T K6):=by
 refine Ad h λl z h=>?_;cases Fj z;exact DO h (λn A h=>Ad h λv u h=>mw rel r (AB A j) (EV u g) h) λh=>Ad h λx ex h=>mx rel r (B3 ex j) g h
theorem av:XX value (Zd (.Attribute a y p)) l env=pure false:=by
 cases value<;>exact V0 (pure Zh)
theorem au(h:IF value=Zh):Pn [t] value l env=pure false:=Fe h
theorem jZ{body:Za Yv}(u:c.A.handled=Zs)(z:BO m s.nx σ1.T w xv)(h:itemsOf s.H w=Zd ts)(E:ts.length<=16777216)(J:Zf->Za (Zo×LO)->Fm->Prop)(B:J 0 σ1.L σ1.F)
 (j:∀K it q i L F v' v,ts[i]? =Zd v->J i L F->Ev ((c.keep K).prot it q) ⟨[(v',v)],L,F⟩ (WU target X.env v') λr g=>Ev ((c.keep K).prot it q) ⟨[],g.L,g.F⟩ (VB body X.env) (TurnEnd (J (i+1)) P))
 (done:∀L F,J ts.length L F->P .next ⟨[],L,F⟩):Walk c X.env target body P xv σ1:=by
 obtain⟨T,L,F⟩:=σ1;exact c5 (Gg u z h E) u J B (λr r r r=>trivial) (λK it q i L F v' D C=>j K it q i L F v' _ (by refine Ab (Za.getElem?_eq_getElem D ..) ?_;rfl) C) done
theorem ta(U:Co ft rec)(G:Gx c d ks ck X){t i:Expr}{b:Za Yv}{p:Xf}{xs:Za Zf}{e:PE}{body:Za PS}{inv:Zl}{k:Fl->S->Prop}(ht:Tq ks ck t xs)(h1:Cq ks ck i e)(h2:d3 ks ck b body)(hi:isSet i=Zh)(rel:Rel m s X σ)(h:tQ ft rec d (.for_ inv xs e body) k s):Ev c σ (VW (.For t i b [] p) X.env) (Bx m s.nx X k):=by
 refine iT ((U.ex G h1 rel h).mono λxv σ1 r=>r.cp λm1 s1 x1 r1 i1 w hw j=>?_) (CT hi);refine Ad j λl el j=>Al j λhz j=>?_;refine jZ G.ok.han hw el hz (λi L F=>∃m' s',Ext m s.nx m' s'.nx/\Rel m' s' X ⟨[],L,F⟩/\Gp (λv C kk=>LJ xs (.p v) C λY=>rec d (.sts body kk) Y) k (l.drop i) s') ⟨m1,s1,x1,r1.tmp,by refine Ab UT ?_;exact fM j⟩ ?_ ?_
 ·rintro K it q' i L F v' v hv ⟨R,C,P,Q,u⟩;obtain⟨I,ev⟩:=Za.getElem?_eq_some_iff.mp hv;rw[Yg I,ev]at u;generalize(G.keep.prot:Gx ((c.keep K).prot it q') d ks ck X)=T;refine(EP T ht (Q.tmp (T':=[(v',v)])) (wp (.head _)) u).mono λz_ a1 r=>r.cp λm3 Y x3 r3 i3 k3=>(U.sts T h2 (r3.tmp (T':=[])) k3).mono λf a0 r=>r.cp λH z x4 B g A D=>?_;generalize(P.trans (x3.trans x4))=E;cases g with
  |nx=>cases A;exact⟨H,z,E,B.tmp,D⟩
  |ct=>cases A;exact⟨H,z,E,B.tmp,D⟩
  |br=>cases A;exact⟨H,z,E,B,.nx,rfl,D⟩
  |rt w=>
   obtain⟨v2,e,O⟩:=A;subst e;exact⟨H,z,E,B,.rt w,⟨v2,rfl,O⟩,D⟩
 ·rintro L F ⟨R,C,P,Q,u⟩;rw[YV]at u;exact⟨R,C,P,Q,.nx,rfl,u⟩
theorem jQ(r:Rel m' s' X ⟨T,L,F⟩)(e:Ai l s'.H=Zd lw):∃lo,(m' l,lo)∈L/\LR m' s'.nx lw lo:=by
 exact r.cp0 λs j g=>Am (j.get e) λlo h hl u=>mEA lo (g.mem_iff.mpr (Zk _ h)) hl
theorem Nx(hr:Co ft rec)(G:Gx c d ks ck X){t:Expr}{b:Za Yv}{x:Zf}{body:Za PS}{k:Fl->S->Prop}{l:Zf}{lw:LW}{vs:Za V}{m0:Mp}{n0:Zf}{m1:Mp}{s1:S}{σ1:St}{xv:Zb}{R:Za (Zo×LO)->Prop}(ht:Tq ks ck t [x])(h2:d3 ks ck b body)(Y:Ext m0 n0 m1 s1.nx)(r1:Rel m1 s1 X σ1)
 (hR:∀m' s' T L F,Ext m1 s1.nx m' s'.nx->Rel m' s' X ⟨T,L,F⟩->Ai l s'.H=Zd lw->R L) (P:CB c σ1 xv (λi=>(vs[i]?).getD .none) vs.length R) (h0:Ai l s1.H=Zd lw)
 (h:Kj l lw (λv r kk=>LJ [x] (.p v) r λE=>rec d (.sts body kk) E) k vs s1):Walk c X.env t b (Bx m0 n0 X k) xv σ1:=by
 obtain⟨T,L,F⟩:=σ1;refine c5 P G.ok.han (λi L F=>∃m' s',Ext m1 s1.nx m' s'.nx/\Rel m' s' X ⟨[],L,F⟩/\Ai l s'.H=Zd lw/\Kj l lw (λv r kk=>LJ [x] (.p v) r λE=>rec d (.sts body kk) E) k (vs.drop i) s') (Bw m1 s1 Ext.refl r1.tmp h0 (Ab UT (h))) (λi L F j=>AF j λm' s' s r' e' z_=>hR m' s' [] L F s r' e') ?_ ?_
 ·rintro K it q' i L F v' u ⟨m2,r,Q,U,e2,z⟩;generalize(by refine Ab (Za.getElem?_eq_getElem u ..) ?_;rfl:(vs[i]?).getD V.none=vs[i])=ev;simp only[ev];rw[Yg u]at z;generalize(G.keep.prot:Gx ((c.keep K).prot it q') d ks ck X)=G';refine(EP G' ht (U.tmp (T':=[(v',vs[i])])) (wp (.head _)) z).mono λz_ σ3 j=>j.cp λm3 E x3 r3 i3 k3=>(hr.sts G' h2 (r3.tmp (T':=[])) k3).mono λf σ4 j=>j.cp λI D x4 B g A C=>?_;generalize(Q.trans (x3.trans x4))=s;cases g with
  |nx=>cases A;exact At I D s B.tmp C
  |ct=>cases A;exact At I D s B.tmp C
  |br=>cases A;exact⟨I,D,Y.trans s,B,.nx,rfl,C⟩
  |rt w=>
   refine Ag A λv2 e O=>?_;subst e;exact⟨I,D,Y.trans s,B,.rt w,⟨v2,rfl,O⟩,C⟩
 ·rintro L F ⟨m2,r,Q,U,z_,z⟩;rw[YV]at z;exact⟨m2,r,Y.trans Q,U,.nx,rfl,z⟩
theorem ou(I:Co ft rec)(G:Gx c d ks ck X){t i:Expr}{b:Za Yv}{p:Xf}{x:Zf}{e:PE}{body:Za PS}{k:Fl->S->Prop}(P:Tq ks ck t [x])(U:Cq ks ck i e)(O:d3 ks ck b body)(hi:isSet i=Zh)(rel:Rel m s X σ)(h:tQ ft rec d (.forl x e body) k s):Ev c σ (VW (.For t i b [] p) X.env) (Bx m s.nx X k):=by
 refine iT ((I.ex G U rel h).mono λxv σ1 D=>D.cp λm1 s1 x1 H i1 w hw g=>?_) (CT hi);cases w with
 |p=>exact(g:ZP).elim
 |o l=>
  refine Ad g λqq eq g=>?_;cases qq with
  |list xs=>
   refine Al g λhz g=>Cb λPP7 A=>Ag g λC j g=>?_;subst j;refine Ag hw λu r E=>?_;obtain⟨Q,wr⟩:=r;subst wr;obtain⟨T1,L1,F1⟩:=σ1;refine Ag (jQ H eq) λlo B hl=>?_;cases hl;refine A (Nx I G P O x1 H (R:=λL=>(m1 l,.list C)∈L) (λm' s' T L F x' K e'=>?_) (fE G.ok.han E B) eq g);refine Cb λY z=>Ag (jQ K e') λlo B hl=>?_;cases hl;refine z ?_;rw[x'.eq l Q]at B;exact B
  |_=>exact(g:ZP).elim
theorem Walk.mono(h:Walk c env t b P xv σ)(k:∀f g,P f g->F9 f g):Walk c env t b F9 xv σ:=λs m=>Zu (h s m) (λit u q=>Xi q λr s' z=>by
 cases r with
 |ok f=>refine Ag z λg m' p=>?_;exact mEA g m' (k _ _ p)
 |error e=>exact z) λj j e=>e
theorem t8{g:Zf}(h:EZ L7 n=EZ L8 g):n=g:=by
 unfold EZ at h;simp only[Obj.mk.injEq,O9]at h;exact h.2.2.1.2
theorem oy(hr:Co ft rec)(G:Gx c d ks ck X){t i:Expr}{b:Za Yv}{p:Xf}{x:Zf}{e:PE}{body:Za PS}{k:Fl->S->Prop}(ht:Tq ks ck t [x])(h1:Cq ks ck i e)(h2:d3 ks ck b body)(hi:isSet i=Zh)(rel:Rel m s X σ)(h:tQ ft rec d (.fork x e body) k s):Ev c σ (VW (.For t i b [] p) X.env) (Bx m s.nx X k):=by
 refine Ev.conv (P:=λf Q=>∃l U ep,Bx m s.nx X (NF l U ep k) f Q) ?_ ?_
 ·refine iT ((hr.ex G h1 rel h).mono λxv σ1 h1Z=>h1Z.cp λm1 s1 x1 r1 i1 w hw k1=>?_) (CT hi);cases w with
  |p=>exact(k1:ZP).elim
  |o l=>
   refine Ad k1 λqq eq k2=>?_;clear k1;cases qq with
   |dictW U=>
    refine Al k2 λhz k3=>?_;clear k2;refine Cb λPP9 hPP9=>Ag hw λu E hin=>?_;obtain⟨wl,wr⟩:=E;subst wr;obtain⟨T1,L1,F1⟩:=σ1;obtain⟨H,nx,rho⟩:=s1;refine hPP9 ?_;cases r1 with
    |@mk z_ z_ A Lh hrr hh hp0=>
     intro st ms;refine Cb λPP10 hPP10=>xE ms λGh mg=>Am (hh.get eq) λlo1 hm1 I z_=>?_;obtain⟨vs1,rfl,z_⟩:=I;refine FF (mg.live _ (hp0.mem_iff.mpr (Zk _ hm1))) λo eo z_ es n C z_=>?_;subst C;refine Ag (k3 n) λkk ek kp=>?_;subst ek;refine hPP10 (Ad kp λH' eH kp=>?_);refine Cb λPP11 a4=>Aq (hh.put eq eH) λlo r j el a3 B=>?_;obtain⟨vs,rfl,hd⟩:=a3;subst el;generalize(by
      refine hp0.trans ?_;rw[ZS,YO];exact Yw:L1.Perm ((m1 l,.dict vs)::(r++(j++X.R))))=hp1
     generalize(mg.perm hp1)=mg1;refine FF (mg1.live _ (.head _)) λo2 O nd es2 n2 e2 r2=>?_;generalize(eo:st.heap.get? (m1 l)=Zd (EZ es n))=eo;generalize(O:st.heap.get? (m1 l)=Zd o2)=O;rw[eo]at O;cases O;generalize(t8 e2)=en;subst en;refine a4 ?_;generalize(by
      refine .mk hrr (B (.dictE vs n) (mEA vs rfl hd)) ?_;rw[ZS,YO];exact Yw.symm:Rel m1 ⟨H',nx,rho⟩ X ⟨T1,(m1 l,.dictE vs n)::(r++(j++X.R)),⟨X.env,X.own,A⟩⟩)=rr
     generalize(by
      have:∀{d:Za (Zi×W)} {vs:Za (Zi×V)},FC m1 nx d vs->(d.map λp=>V.str p.1)=vs.map λp=>V.str p.1:=by
       intro d
       induction d with
       |nil=>intro vs h;rw[show vs=[]from h];rfl
       |cons p d ih=>
        obtain⟨k0,w0⟩:=p;rintro vs ⟨v1,t1,rfl,z_,a1⟩;simp[ih a1]
      exact this hd:(U.map λp=>V.str p.1)=vs.map λp=>V.str p.1)=a0
     generalize(by
      rw[a0,Zz];exact(fG (c:=c) (T:=T1) (L:=(m1 l,.dictE vs n)::(r++(j++X.R))) (F:=⟨X.env,X.own,A⟩) G.ok.gd.mods G.ok.han hin (.head _)).of_eq λi z_=>by rw[Za.getElem?_map]:CB c ⟨T1,(m1 l,.dictE vs n)::(r++(j++X.R)),⟨X.env,X.own,A⟩⟩ xv (λi=>((U.map λp=>V.str p.1)[i]?).getD .none) (U.map λp=>V.str p.1).length λL=>(m1 l,.dictE vs n)∈L)=hit2
     refine(Walk.mono (Nx (s1:=⟨H',nx,rho⟩) hr G ht h2 x1 rr (R:=λL=>(m1 l,.dictE vs n)∈L) (λm' s' T L F x' r' e'=>?_) hit2 (lkp_put eq eH:Ai l H'=Zd (.dictI U n)) kp) λf Q z=>It l U n z) st ⟨Gh,(mg1.aac (lo':=.dictE vs n) (mEA _ eo (Es nd es2 e2 r2)))⟩;refine LX (jQ r' e') λlo hm vs' K hd'=>?_;subst K;rw[x'.eq l wl]at hm;generalize(by
      have key:∀{d:Za (Zi×W)} {a b:Za (Zi×V)},FC m1 nx d a->FC m' s'.nx d b->b=a:=by
       intro d
       induction d with
       |nil=>intro a b ha hb;exact(hb:b=[]).trans (ha:a=[]).symm
       |cons p d ih=>
        obtain⟨k0,w0⟩:=p;rintro a b ⟨v1,t1,rfl,a2,a1⟩ ⟨v2,t2,rfl,hv2,ht2⟩;have e1:v2=v1:=by
         cases w0 with
         |p v=>exact(hv2:v2=v).trans (a2:v1=v).symm
         |o l=>exact hv2.2.trans ((ZH V.ref (x'.eq l a2.1)).trans a2.2.symm)
        rw[e1,ih a1 ht2]
      exact key hd hd':vs'=vs)=this
     rw[<-this];exact hm
   |_=>exact(k2:ZP).elim
 ·rintro f Q ⟨l,U,ep,m',s',x',r',g,hg,hx,hk⟩;refine Cb λPP12 Y=>?_;obtain⟨T,L,F⟩:=Q;refine An (Ch r' hx hk) λlo L1 hp D B=>?_;obtain⟨vs,rfl,hd⟩:=D;refine AF (B (.dict vs) ⟨vs,rfl,hd⟩) λL2 s'' up en r2 k2=>AV (up.split) λr j e1 e2=>?_;subst e1 e2;refine Y ?_;refine⟨⟨T,r++(m' l,.dict vs)::j,F⟩,λst ms=>?_,m',s'',en▸x',r2,g,by rw[en];exact hg,k2⟩;exact xE (MR.aap (L':=r++j) (hp.trans Yw) ms) λGh mg=>⟨Gh,mg.perm Yw.symm⟩
theorem eR(h:Ev c σ (Yk target env) λw σ1=>Ev c σ1 (Yk a env) λov A=>Ev c A (Yk value env) λiv z=>Ev c z (Td ov iv w) λj u=>Ev c u (XY env y w) λj r=>P .next r):
 Ev c σ (VW (.Assign [.Subscript a value p1,.Name y p2] target p3) env) P:=λs m=>by
 refine wpAny_Assign_two (Zu (h s m) (λw s1 g=>Ag g λσ1 m1 L=>?_) λj j e=>e) rfl (by unfold Rs;cases target<;>rfl)
 refine kas_sub (Zu (L s1 m1) (λov I g=>Ag g λA B C=>Zu (C I B) (λiv H g=>Ag g λz E G=>Zu (G H E) (λj D g=>Ag g λu O K=>?_) λj j e=>e) λj j e=>e) λj j e=>e);exact Ax (P:=λj r=>P .next r) K D O
theorem pA(A:Co ft rec)(G:Gx c d ks ck X){a b v:Expr}{x:Zf}{p1 p2 p3:Xf}{o i e:PE}{k:Fl->S->Prop}(hs:DA ks ck (Af x)=Zm)(U:Cq ks ck a o)(O:Cq ks ck b i)(h3:Cq ks ck v e)(rel:Rel m s X σ)(h:tQ ft rec d (.asg2 o i x e) k s):Ev c σ (VW (.Assign [.Subscript a b p1,.Name (Af x) p2] v p3) X.env) (Bx m s.nx X k):=
 eR ((A.ex G h3 rel h).mono λv' σ1 g=>g.cp λm1 s1 x1 P i1 w E H=>(A.ex G U P H).mono λo' σ2 g=>g.cp λm2 s2 B r2 C w2 u k2=>(A.ex G O r2 k2).mono λj' L g=>g.cp λm3 s3 j K z w3 r T=>(c9 K (u.ext j z) r ((E.ext B C).ext j z) T).mono λY I g=>g.cp λm4 s4 D Q i4 k4=>(AR G hs Q (((E.ext B C).ext j z).ext D i4) k4).mono λY R g=>g.cp λm5 s5 x5 r5 i5 k5=>⟨m5,s5,x1.trans (B.trans (j.trans (D.trans x5))),r5,.nx,rfl,k5⟩)
theorem g6(Y:Co ft rec)(G:Gx c d ks ck X){t:Expr}{b e:Za Yv}{p:Xf}{pt:PE}{pb pe:Za PS}{k:Fl->S->Prop}(h1:Cq ks ck t pt)(h2:d3 ks ck b pb)(h3:d3 ks ck e pe)(N:Zf)(rel:Rel m s X σ)
 (h:GE (λkk s1=>rec d (.ts pt kk) s1) (λs1 kk=>rec d (.sts pb kk) s1) (λs1 kk=>rec d (.sts pe kk) s1) k N s):Ev c σ (VW (.While t b e p) X.env) (Bx m s.nx X k):=λst ms=>by
 refine wpAny_While (Xi (codeAny_whileLoop (R:=λr s'=>match r with|.ok f=>∃A,MR c A s'/\Bx m s.nx X k f A|.error D=>ZP) (λn C=>∃m' s' A,Ext m s.nx m' s'.nx/\Rel m' s' X A/\MR c A C/\GE (λkk s1=>rec d (.ts pt kk) s1) (λs1 kk=>rec d (.sts pb kk) s1) (λs1 kk=>rec d (.sts pe kk) s1) k n s') (λn C hI=>?_) N (Dm m s σ Ext.refl rel ms h)) λr s' z=>?_)
 ·refine xE hI λm1 q_=>AF q_ λs1 σ1 x1 r1 a0 h=>?_;cases n with
  |zero=>exact h.elim
  |succ n=>
   refine Zu ((Y.ts G h1 r1 h) C a0) (λcb H B=>Ag B λσ2 E B=>B.cp λm2 s2 x2 r2 i2 k2=>?_) λD D e=>e.elim;cases cb with
   |true=>
    refine Zu ((Y.sts G h2 (r2) k2) H E) (λf U B=>Ag B λj u B=>B.cp λK Q x3 I g L O=>?_) λD D e=>e.elim;generalize(x1.trans (x2.trans x3))=P;cases g with
    |nx=>cases L;exact mEA n (YI _) (Dm K Q j P I u O)
    |ct=>cases L;exact mEA n (YI _) (Dm K Q j P I u O)
    |br=>cases L;exact⟨j,u,K,Q,P,I,.nx,rfl,O⟩
    |rt w=>
     refine Ag L λv' e hw=>?_;subst e;exact⟨j,u,K,Q,P,I,.rt w,⟨v',rfl,hw⟩,O⟩
   |false=>
    exact Zu ((Y.sts G h3 r2 k2) H E) (λf U T=>Ag T λj u z=>mEA j u (z.up (x1.trans x2))) λD D e=>e.elim
 ·cases r with
  |ok f=>exact z
  |error e=>exact z.elim
theorem p9(R:Co ft rec)(G:Gx c d ks ck X){n:Zf}{x:Zf}{pt p:Xf}{t:Expr}{pe:PE}{k:Fl->S->Prop}(g:sd n ks ck pe t=Zm)(j:qw ks ck (Af x) pt (rb n pe t)=Zm)(rel:Rel m s X σ)(h:v3 rec d pe (λw s1=>CD x w s1 λA=>k .nx A) s):Ev c σ (VW (.Assign [.Name (Af x) pt] (rb n pe t) p) X.env) (Bx m s.nx X k):=by
 have B:DA ks ck (Af x)=true:=by
  rcases(YM _ _).mp j with h|h
  ·exact(YM _ _).mpr (.inl (Ak h))
  ·exact(YM _ _).mpr (.inr (Ae h))
 have u:∀(v:Zb) (m':Mp) (s':S) (σ1:St) (C:Zo) (w:W),Ext m s.nx m' s'.nx->Rel m' s' X σ1->(∀p∈σ.T,p∈σ1.T)->BO m' s'.nx σ1.T w v->CD x w s' (λA=>k .nx A)->
  ∀q,Ev (c.prot C q) σ1 (WU (.Name (Af x) pt) X.env v) λz_ K=>Bx m s.nx X k .next K:=λv m' s' σ1 C w P r t Q O q=>Ax ((AR (G.prot (a:=C) (q:=q)) B r Q O).mono λz_ σ2 z=>z.cp λL A U Y i2 k2=>⟨L,A,P.trans U,Y,.nx,rfl,k2⟩)
 have D:∀{E H i:Expr} {ifs:Za Expr} {gs:Za Zn} {I:Yh} {pos:Xf},Lq ks ck E H i ifs gs I pos pe->rb n pe t=.ListComp E (⟨H,i,ifs,0⟩::gs) I pos->Ev c σ (VW (.Assign [.Name (Af x) pt] (.ListComp E (⟨H,i,ifs,0⟩::gs) I pos) p) X.env) (Bx m s.nx X k):=by
  intro E H i ifs gs I pos hq e;rw[e]at j;rcases(YM _ _).mp j with j|j
  ·exact aU G.en (Aw (Ak j)) (Ae j) (Lb R G hq u rel h)
  ·exact MC G.en (Aw (Ae (Ae j))) (DL (Lb R G hq (λv m' s' σ1 C w P r t Q O=>(AR G B r Q O).mono λz_ σ2 z=>z.cp λL A U Y i2 k2=>⟨L,A,P.trans U,Y,.nx,rfl,k2⟩) rel h))
 cases n with
 |zero=>cases g
 |succ n=>
 cases pe with
 |lc live xs it cond elt caps=>
  exact D (.lc (.mk n _ _ (Ak (Ae g))) (Cy (Ak (Ae (Ae g)))) (.mk _ xs (Ak g)) (LF (Ak (Ae (Ae (Ae g))))) (.mk n _ _ (Ak (Ae (Ae (Ae (Ae g)))))) (Ae (Ae (Ae (Ae (Ae g)))))) rfl
 |lc2 x it y it2 elt caps=>
  exact D (.lc2 (.mk n _ _ (Ak (Ae g))) (Cy (Ak (Ae (Ae g)))) (Tq.one (t:=kd t 1) (Ak g)) (.mk n _ _ (Ak (Ae (Ae (Ae (Ae g)))))) (Cy (Ak (Ae (Ae (Ae (Ae (Ae g))))))) (Tq.one (t:=kd t 3) (Ak (Ae (Ae (Ae g))))) (.mk n _ _ (Ak (Ae (Ae (Ae (Ae (Ae (Ae g)))))))) (Ae (Ae (Ae (Ae (Ae (Ae (Ae g)))))))) rfl
 |dcomp y it elt caps=>
  rcases(YM _ _).mp j with j|j
  ·exact aV G.en (Aw (Ak j)) (Ae j) (t9 R G (Cy (Ak (Ae g))) (.mk n _ _ (Ak g)) (Ae (Ae (Ae (Ae g)))) (((YM _ _).mp (Ak (Ae (Ae g)))).imp Aw Aw) (.mk n _ _ (Ak (Ae (Ae (Ae g))))) u rel h)
  ·exact nomatch (Ak j)
 |_=>exact(h:ZP).elim
theorem rc(hf:CR ft)(r:Co ft rec)(G:Gx c d ks ck X){e:Yv}{ps:PS}{k:Fl->S->Prop}(he:Sq ks ck e ps)(rel:Rel m s X σ)(h:tQ ft rec d ps k s):Ev c σ (VW e X.env) (Bx m s.nx X k):=by
 cases he with
 |mk n t ps j=>
 cases n with
 |zero=>cases j
 |succ n=>
 cases ps with
 |expr a=>
  exact aS ((r.ex G (.mk n _ _ (Ak j)) rel h).mono λv' σ1 g=>g.cp λm1 s1 u B Q w C A=>⟨m1,s1,u,B,.nx,rfl,A⟩) G.en.int (Fe (Cy (Ae j)))
 |asg x a=>
  exact FV ((r.ex G (.mk n _ _ (Ak (Ae j))) rel h).mono λv' σ1 g=>g.cp λm1 s1 u B Q w C A=>(AR G (Ak j) B C A).mono λz_ D g=>g.cp λR U E K L I=>⟨R,U,u.trans E,K,.nx,rfl,I⟩) (Fe (Cy (Ae (Ae j))))
 |asgc x a=>exact p9 r G (Ak j) (Ae j) rel h
 |asgT xs a=>
  cases xs with
  |nil=>cases j
  |cons x xs=>
  cases xs with
  |nil=>cases j
  |cons y xs=>
  exact Jp ((r.ex G (.mk n _ _ (Ak (Ae j))) rel h).mono λv' σ1 g=>g.cp λm1 s1 u B Q w C A=>(EP G (.mk (se t 1) (x::y::xs) (Ae (Ak j))) B C A).mono λz_ D g=>g.cp λR U E K L I=>⟨R,U,u.trans E,K,.nx,rfl,I⟩) (au (Cy (Ak (Ae (Ae j))))) (Kx (Cy (Ae (Ae (Ae j)))))
 |asgs o i a=>
  exact MB ((r.ex G (.mk n _ _ (Ae (Ae j))) rel h).mono λv' σ1 g=>g.cp λm1 s1 u B Q w C A=>(r.ex G (.mk n _ _ (Ak j)) B A).mono λo' D g=>g.cp λR U E K L w2 H I=>(r.ex G (.mk n _ _ (Ak (Ae j))) K I).mono λj' σ3 g=>g.cp λm3 s3 O r3 i3 w3 P k3=>(c9 r3 (H.ext O i3) P ((C.ext E L).ext O i3) k3).mono λz_ a0 g=>g.cp λm4 s4 T r4 i4 Y=>⟨m4,s4,u.trans (E.trans (O.trans T)),r4,.nx,rfl,Y⟩) dD
 |asga o x a=>
  exact KO ((r.ex G (.mk n _ _ (Ae j)) rel h).mono λv' σ1 g=>g.cp λm1 s1 u B Q w C A=>(r.ex G (.mk n _ _ (Ak j)) B A).mono λo' D g=>g.cp λR U E K L w2 H I=>(cC G.ok K H (C.ext E L) I).mono λz_ a0 g=>g.cp λm4 s4 T r4 i4 Y=>⟨m4,s4,u.trans (E.trans T),r4,.nx,rfl,Y⟩) av
 |auga o x op a=>
  exact eQ ((r.ex G (.mk n _ _ (Ak j)) rel h).mono λo' σ1 g=>g.cp λm1 s1 u B Q w C A=>(NS hf r G.ok G.fa B C A).mono λold D g=>g.cp λR U E K L w2 H I=>(r.ex G (.mk n _ _ (Ae j)) K I).mono λv' σ3 g=>g.cp λm3 s3 O r3 i3 w3 P k3=>(kh r3 (H.ext O i3) P k3).mono λnw a0 g=>g.cp λm4 s4 T r4 i4 w4 hw4 Y=>(cC G.ok r4 (((C.ext E L).ext O i3).ext T i4) hw4 Y).mono λz_ σ5 g=>g.cp λm5 s5 x5 r5 i5 k5=>⟨m5,s5,u.trans (E.trans (O.trans (T.trans x5))),r5,.nx,rfl,k5⟩)
 |while_ t b els=>
  exact xE h λN h=>g6 r G (.mk n _ _ (Ak j)) (Ei b (Ak (Ae j))) (Ei els (Ae (Ae j))) N rel h
 |ret a=>exact Ih ((r.ex G (.mk n _ _ j) rel h).mono λv' σ1 g=>g.cp λm1 s1 u B Q w C A=>⟨m1,s1,u,B,.rt w,⟨v',rfl,C⟩,A⟩)
 |ite t a b=>
  refine ve ((r.ts G (.mk n _ _ (Ak j)) rel h).mono λcb σ1 g=>g.cp λm1 s1 u B Q A=>?_);cases cb with
  |true=>exact(r.sts G (Ei a (Ak (Ae j))) B A).mono λf D z=>z.up u
  |false=>exact(r.sts G (Ei b (Ae (Ae j))) B A).mono λf D z=>z.up u
 |for_ inv xs a body=>exact ta r G (.mk (se t 1) xs (Ak j)) (.mk n _ _ (Ak (Ae j))) (Ei body (Ak (Ae (Ae j)))) (Cy (Ae (Ae (Ae j)))) rel h
 |forl x e body=>exact ou r G (Tq.one (t:=se t 1) (Ak j)) (.mk n _ _ (Ak (Ae j))) (Ei body (Ak (Ae (Ae j)))) (Cy (Ae (Ae (Ae j)))) rel h
 |fork x e body=>exact oy r G (Tq.one (t:=se t 1) (Ak j)) (.mk n _ _ (Ak (Ae j))) (Ei body (Ak (Ae (Ae j)))) (Cy (Ae (Ae (Ae j)))) rel h
 |pass=>exact rM ⟨m,s,Ext.refl,rel,.nx,rfl,h⟩
 |brk=>exact nh ⟨m,s,Ext.refl,rel,.br,rfl,h⟩
 |cnt=>exact aT ⟨m,s,Ext.refl,rel,.ct,rfl,h⟩
 |asg2 o i x a=>exact pA r G (Ak j) (.mk n _ _ (Ak (Ae j))) (.mk n _ _ (Ak (Ae (Ae j)))) (.mk n _ _ (Ae (Ae (Ae j)))) rel h
 |tryNx x its n2s stk=>exact gH G (G.fr (Ak j)) (Ak (Ae j)) (Ak (Ae (Ae j))) (Ak (Ae (Ae (Ae j)))) (Ak (Ae (Ae (Ae (Ae j))))) (Ak (Ae (Ae (Ae (Ae (Ae j)))))) (Ak (Ae (Ae (Ae (Ae (Ae (Ae j))))))) (Ae (Ae (Ae (Ae (Ae (Ae (Ae j))))))) rel h
 |tryRm y xs t=>exact gF G (G.fr (Ak j)) (Ak (Ae j)) (Ak (Ae (Ae j))) (Ak (Ae (Ae (Ae j)))) (Ak (Ae (Ae (Ae (Ae j))))) (Ae (Ae (Ae (Ae (Ae j))))) rel h
 |any=>exact(h:ZP).elim
theorem mq(C:Co ft rec)(G:Gx c d ks ck X){es:Za Yv}{ps:Za PS}{k:Fl->S->Prop}(H:d3 ks ck es ps)(rel:Rel m s X σ)(h:LP ft rec d (.sts ps k) s):Ev c σ (VB es X.env) (Bx m s.nx X k):=by
 cases H with
 |nil=>exact Dl ⟨m,s,Ext.refl,rel,.nx,rfl,h⟩
 |cons K E=>
  refine Bv ((C.st G K rel h).mono λf σ1 B=>B.cp λm1 s1 A r g u j=>?_);cases g with
  |nx=>cases u;exact(C.sts G E (r.tmp (T':=[])) j).mono λf I z=>z.up A
  |br=>cases u;exact⟨m1,s1,A,r,.br,rfl,j⟩
  |ct=>cases u;exact⟨m1,s1,A,r,.ct,rfl,j⟩
  |rt w=>
   refine Ag u λv' e D=>?_;subst e;exact⟨m1,s1,A,r,.rt w,⟨v',rfl,D⟩,j⟩
end
theorem sR(s:CR ft)(r:Co ft rec):Co ft (LP ft rec):=
 ⟨λG g g g g g g j rel h=>tt s r G j rel h,λG g g g g g g g j rel h=>oJ r G j rel h,λG g g g g g g j rel h=>qT r G j rel h,λG g g g g g g j rel h=>rc s r G j rel h,λG g g g g g g j rel h=>mq r G j rel h⟩
theorem qB(r:CR ft):∀n,Co ft (go ft n):=by
 intro n
 induction n with
 |zero=>exact⟨λg g g g g g g g g h=>(h:ZP).elim,λg g g g g g g g g g h=>(h:ZP).elim,λg g g g g g g g g h=>(h:ZP).elim,λg g g g g g g g g h=>(h:ZP).elim,λg g g g g g g g g h=>(h:ZP).elim⟩
 |succ n j=>exact sR r (j)
end
section
variable{D:AM}{args:Za V}{Q:V->Prop}{k:Fl->S->Prop}{s:S}
noncomputable def vJ:Zo->Ze AM:=λg=>Zs
theorem Cm:CR vJ:=λg g h=>(by cases h)
structure Ef(f:Zo)(D:AM)(P:Z9):Prop where
 hc:pI P f D
 hb:∀vs:Za Zb,vs.length=D.ps.length->U0 (D1 f).fd ⟨vs,[]⟩=pure ((D.ps.map Af).zip vs)
noncomputable def rho0:Za Zf->Za V->Za Zf->Za (Zf×Ze W)
 |x::xs,v::vs,oth=>(x,Zd (.p v))::rho0 xs vs oth
 |_,_,oth=>oth.map λx=>(x,Zs)
def ri(g:Zl)(Q:V->Prop)(f:Fl)(s:S):Prop:=match f with
 |.rt w=>match w with
  |.p v=>Q v
  |.o l=>g=Zm/\∃xs,Ai l s.H=Zd (.list xs)/\Q (.lst xs)
 |.nx=>Q .none
 |_=>ZP
theorem NV(g:Za Zf):∀{vs:Za V},vs.length=xs.length->RR m n (rho0 xs vs g) (DY ((xs.map Af).zip vs) (g.map Af)):=by
 induction xs with
 |nil=>intro vs h;exact List.eq_nil_of_length_eq_zero h▸d4 g
 |cons x xs j=>intro vs h;cases vs with
  |nil=>cases h
  |cons v vs=>exact At v _ rfl rfl (j (WF h))
theorem Bk(fi:∀P,Ef f D P)(a1:CR ft)(r:args.length=D.ps.length)(h:go ft n d (.sts D.body (ri D.frz Q)) ⟨[],0,rho0 D.ps args D.oth⟩):AS (d+1) f args Q:=by
 intro c ok T L F fb vs P K hP;cases fi c.w.params with
 |mk hc hb=>
  refine CC (EM hc) λhl a0 chk s=>?_;generalize K.length=hv;generalize(by
   refine vb (D.ps.map Af) (D.oth.map Af) ok.wd ok.kx hl a0 ok.room (bind_pure (hb vs (by exact hv.trans r))) (DW K (by refine Ab (Zz ..) ?_;refine Ab (r ..) ?_;rfl)) (Hv (by refine Ab (Zz ..) ?_;refine Ab (r ..) ?_;rfl)) chk λenv own R=>?_;have G:Gx (c.call T F env) d _ Zm ⟨L,env,own⟩:=⟨ok.call,R.ok,R.ow,(λH=>R.cl),fb.call R,λH=>fb.head⟩;have rel:Rel (λH=>0) ⟨[],0,rho0 D.ps args D.oth⟩ ⟨L,env,own⟩ ⟨[],L,⟨env,own,DY ((D.ps.map Af).zip args) (D.oth.map Af)⟩⟩:=.mk (L1:=[]) (NV _ r) rfl (Xl _);refine((qB a1 n).sts G s rel h).mono λfl σ1 j=>j.cp λm1 s1 x1 r1 g hg E=>r1.cp0 λhr hh B=>?_;cases g with
   |nx=>cases hg;exact BW _ _ rfl (.inl (cV E _ B))
   |br=>exact E.elim
   |ct=>exact E.elim
   |rt w=>
    refine Ag hg λv' e hw=>?_;subst e;cases w with
    |p v=>exact KZ _ (pin hw) _ _ rfl (.inl (cV E _ B))
    |o l=>
     refine GC E λhf xs ex er=>Ag hw λu A Y=>?_;obtain⟨H,wr⟩:=A;subst wr;refine Am (hh.get ex) λlo hm hl H=>?_;cases hl;refine gy (RT hm) λX U e1=>KZ _ Y _ _ rfl (.inr (AG _ xs (X++U) rfl er (B.trans ?_)));refine Ab (e1 ..) ?_;refine Ab (ZS ..) ?_;refine Ab (ZS ..) ?_;refine Ab (YO ..) ?_;exact Yw:Ev c ⟨T,L,F⟩ (Y8 (.ref f) vs) λv' I=>∃C L',I=⟨(v',C)::T,L',F⟩/\((Q C/\∃L1,L'.Perm (L1++L))∨∃a xs L1,C=.ref a/\Q (.lst xs)/\L'.Perm ((a,.list xs)::(L1++L))))=main
  refine main.conv λv' I j=>AV j λC L' e z=>?_
  subst e;rcases z with⟨s,L1,B⟩|⟨a,xs,L1,rfl,s,B⟩
  ·exact mEA ⟨(v',C)::T,L,F⟩ (λst j=>xE j λGh O=>⟨Gh,(O.perm B).weak (λH h=>h) (WB _ _)⟩) (hP v' C s)
  ·refine mEA ⟨(v',.lst xs)::T,L,F⟩ (λst j=>xE j λGh O=>?_) (hP v' _ s);generalize((O.temps _ (.head _):VR Gh (.val (.ref a)) v').zI:v'=.ref a)=e;subst e;refine xE (MR.freeze ⟨Gh,O.perm B⟩) λG2 m2=>?_;exact⟨G2,m2.weak (λq s=>by
    rcases Zr.mp s with rfl|s
    ·exact .head _
    ·exact .tail _ (.tail _ s)) (WB _ _)⟩
theorem Cv{stp:V->S->(Fl->S->Prop)->Prop}(I:Zf->S->Prop)(C:I 0 s)
 (D:∀i v s (kk:Fl->S->Prop),l[i]? =Zd v->I i s->(∀g,I (i+1) g->kk .nx g)->(∀g,I (i+1) g->kk .ct g)->stp v s kk) (E:∀s,I l.length s->k .nx s):Gp stp k l s:=by
 suffices h:∀(r:Za V) (i:Zf) (s:S),i+r.length=l.length->l.drop i=r->I i s->Gp stp k r s from h l 0 s (by exact Y0 _) rfl C
 intro r
 induction r with
 |nil=>
  intro i s hl e u;generalize(by simpa using hl:i=l.length)=this;subst this;exact E s u
 |cons v r B=>
  intro i s hl e u;generalize(by
   have:=ZH (·[0]?) e;simpa[Za.getElem?_drop]using this:l[i]? =Zd v)=G
  generalize(Bj List.drop_drop (Ab e (rfl)):l.drop (i+1)=r)=A;generalize(Bj hl (Ab Xr (Wx _ _ _)):i+1+r.length=l.length)=j;exact D i v s _ G u (λg z=>B (i+1) g j A z) (λg z=>B (i+1) g j A z)
theorem Ge{stp:V->Za V->S->(Za V->S->Prop)->Prop}{fin:Za V->S->Prop}(f:V->Za V)(g:S->Prop)(B:Zf):
 ∀{l acc:Za V} {s:S},acc.length+(l.flatMap f).length<=B->g s->(∀v acc s (kk:Za V->S->Prop),v∈l->acc.length+(f v).length<=B->g s->(∀j,g j->kk (acc++f v) j)->stp v acc s kk)->(∀s,g s->fin (acc++l.flatMap f) s)->Jv stp fin l acc s:=by
 intro l
 induction l with
 |nil=>
  intro acc s P z P A;generalize(A s z)=this;refine(?_:fin acc s);simpa using this
 |cons v r u=>
  intro acc s O z D A;rw[Ys,Zt]at O;refine D v acc s _ (.head _) (by lia) z λj L=>u (acc:=acc++f v) (by refine Ab Zt ?_;lia) L (λv' h E kk I hb C H=>D v' h E kk (.tail _ I) hb C H) λK G=>?_;generalize(A K G)=this;rwa [Ys,<-ZS]at this
end
section
variable{w:Z8}{D:AM}{args:Za V}{Q:V->Prop}
noncomputable abbrev cT(w:Z8)(A:Z2)(s:Zj):Cx:=⟨w,s.heap,A,[],[],[],s.os,s.drawn⟩
theorem Ok.top(o:Ok (cT w A s) (d+1)):Ok (cT w (A.deeper env) s) d:=⟨⟨o.gd.kx,o.gd.nolimit,o.gd.mods,o.gd.glob⟩,by
 generalize o.dep=this;exact(dpq rfl this:A.depth+1+d<=WS),o.han,by
 generalize o.un=this;exact(unq (a:=A.units) (b:=3) this (Zw rfl))⟩
theorem qV(fi:∀P,Ef f D P)(hft:CR ft)(j:args.length=D.ps.length)(h:go ft n d (.sts D.body (ri Zh Q)) ⟨[],0,rho0 D.ps args D.oth⟩)
 (ok:Ok (cT w A s) (d+1)) (L:A.frames=Zd []) (U:s.gens= #[]) (E:Ay (λa o=>s.heap.get? a=Zd o) args vs):
 ZZ (XA ZM w) A (Y8 (.ref f) vs) (λv s'=>(∀b o,s.heap.get? b=Zd o->s'.heap.get? b=Zd o)/\s'.os=s.os/\s'.gens= #[]/\∃G r,VR G r v/\Q r) No s:=by
 cases fi w.params with
 |mk hc hb=>
 refine CC (EM hc) λhl hcd chk hq=>?_;have X:(kx w.params).In s.heap:=ok.gd.kx;have n6:(Fv (D1 f).s).2.2.2.isCoroutine=false:=by simp only[E4,Z6,YQ]at chk;exact chk.1.1.2
 have n7:(Fv (D1 f).s).2.2.2.isGenerator=false:=by simp only[E4,Z6,YQ]at chk;exact chk.1.2
 refine Xg (So ok.room (X _ _ hl) rfl n6 n7 rfl (codeRec_of X hcd) ?_);refine Ab (hb vs (E.length.trans j) ..) (Zp ?_);have hts:BA (vs.zip args++[]) vs args:=Mb (T:=[]) E;refine NH (cc:=λenv=>cT w (A.deeper env) s) (D.ps.map Af) (D.oth.map Af) rfl rfl rfl chk (G1:=λa o=>s.heap.get? a=Zd o) (T1:=vs.zip args++[]) (L1:=[]) (R:=λY σ=>∃r,Q r/\match Y with|.ret v=>(v,r)∈σ.T|_=>r=.none)
  (λh' k=>ok.gd.nolimit.keeps k) ?_ (λenv own rho h' tk k fr nd rd ow okf=>?_) (λu=>rfl) (λu=>rfl) (DW hts (by refine Ab (Zz ..) ?_;refine Ab (j ..) ?_;rfl)) (Hv (by refine Ab (Zz ..) ?_;refine Ab (j ..) ?_;rfl)) (λenv own I=>?_) (λenv Y s3 σ3 B H=>xE B λG3 O=>?_)
 ·intro p C;rw[YL]at C;clear hb hts j h
  induction args generalizing vs with
  |nil=>rw[List.zip_nil_right]at C;cases C
  |cons a r ih=>
   refine An E λx ys z e1 e2=>?_;subst z;rw[List.zip_cons_cons]at C;rcases Zr.mp C with rfl|C
   ·exact e1
   ·exact ih e2 C
 ·have eo:A3 (cT w (A.deeper env) s) ⟨[],[],⟨env,own,rho⟩⟩=own:=by simp[A3,Cx.fms]
  exact {
   base:=λu u e=>e,gsub:=k,temps:=(λu h=>(ZT h ZE)),outer:=(λu h=>(ZT h ZE)),kept:=(λu h=>(ZT h ZE))
   frames:=Ba okf (λa ha=>Zk _ (rd a ha)) ow trivial
   live:=(λu h=>(ZT h ZE)),prot:=(λu h=>(ZT h ZE))
   nodup:=by refine Ab eo ?_;exact nd
   apart:=λa ha o e=>by
    rw[eo]at ha;exact ZT (YS e) (Ws.mpr (fr a ha))
   gens:=U,os:=rfl,dr:=rfl}
 ·have fb:DX (cT w (A.deeper env) s) env own:=⟨[env],by refine(?_:A.frames.map _=_);refine Ab L ?_;rfl,λe hm=>by
   cases Yz.mp hm;exact Cp (by refine Ab I.ok.kind ?_;decide) I.fr (.inl ⟨rfl,I.ow.mem⟩)⟩
  have G:Gx (cT w (A.deeper env) s) d _ Zm ⟨[],env,own⟩:=⟨ok.top,I.ok,I.ow,(λu=>I.cl),fb,λu=>⟨[],by refine(?_:A.frames.map _=_);refine Ab L ?_;rfl⟩⟩;have rel:Rel (λu=>0) ⟨[],0,rho0 D.ps args D.oth⟩ ⟨[],env,own⟩ ⟨[],[],⟨env,own,DY ((D.ps.map Af).zip args) (D.oth.map Af)⟩⟩:=.mk (L1:=[]) (NV _ j) rfl (Xl _);refine((qB hft n).sts G hq rel h).mono λY σ1 B=>B.cp λm1 s1 x1 r1 g U K=>?_;cases g with
  |nx=>cases U;exact mEA _ K rfl
  |br=>exact K.elim
  |ct=>exact K.elim
  |rt w=>
   refine Ag U λv' e hw=>?_;subst e;cases w with
   |p v=>exact mEA _ K (pin hw)
   |o l=>exact ZT K.1 (by decide)
 ·refine Ag H λr hq H=>Cp (λb o e=>O.gsub b o (O.base b o e)) O.os (Er O.gens G3 r ?_ hq);cases Y with
  |ret v=>exact O.temps _ H
  |next=>cases H;exact VR.val
  |brk=>cases H;exact VR.val
  |cont=>cases H;exact VR.val
end
section
noncomputable def Do:AM:=⟨[19,87],[],[],Zh,[(.asga (.nm 19) 87 (.nm 87)),(.asga (.nm 19) 88 (.int 0)),(.asga (.nm 19) 89 (.list Zm []))],[]⟩
noncomputable def BJ:AM:=⟨[19,90],[87,95],[.none],Zh,[(.asga (.nm 19) 91 .dict0),(.asga (.nm 19) 92 .none),(.asga (.nm 19) 93 (.int 0)),(.asga (.nm 19) 94 (.int 0)),(.ite (.cmp .IsNot (.nm 90) .none) [.any] [])],[]⟩
noncomputable def A1:AM:=⟨[19,87],[83],[],Zm,[(.ite (.cmp .Is (.wal 83 (.meth (.attr (.nm 19) 91) 8 [(.nm 87)])) .none) [(.asg2 (.attr (.nm 19) 91) (.nm 87) 83 (.mk 763 [(.nm 87)] []))] []),(.ret (.nm 83))],[]⟩
noncomputable def Bo:AM:=⟨[19,87,95],[97,98,100],[],Zm,[(.ite (.cmp .IsNot (.attr (.nm 19) 92) .none) [.any] []),(.asg 97 (.meth (.nm 19) 99 [(.nm 87)])),(.auga (.nm 97) 88 .Add (.callb .len Zh [(.nm 95)])),(.for_ Zm [98] (.nm 95) [(.asg 100 (.meth (.nm 19) 99 [(.nm 98)])),(.expr (.meth (.attr (.nm 100) 89) 1 [(.nm 87)]))])],[]⟩
noncomputable def AQ:AM:=⟨[19],[101],[],Zm,[(.ite (.cmp .IsNot (.attr (.nm 19) 92) .none) [.any] []),(.asga (.nm 19) 92 (.readyC (.attr (.nm 19) 91))),(.asg 101 (.meth (.nm 19) 102 [])),(.ite (.nm 101) [.any] [])],[]⟩
noncomputable def Az:AM:=⟨[19],[83,105,87],[],Zm,[(.ite (.cmp .Is (.attr (.nm 19) 92) .none) [.any] []),(.asg 83 (.callb .tuple Zh [(.attr (.nm 19) 92)])),(.asg 105 (.attr (.nm 19) 91)),(.for_ Zm [87] (.nm 83) [(.asga (.sub (.nm 105) (.nm 87)) 88 (.gi (-1)))]),(.expr (.meth (.attr (.nm 19) 92) 7 [])),(.auga (.nm 19) 93 .Add (.callb .len Zh [(.nm 83)])),(.ret (.nm 83))],[]⟩
noncomputable def AO:AM:=⟨[19],[],[],Zm,[(.ite (.cmp .Is (.attr (.nm 19) 92) .none) [.any] []),(.ret (.bop .Or [(.cmp .Lt (.attr (.nm 19) 94) (.attr (.nm 19) 93)),(.callb .bool Zh [(.attr (.nm 19) 92)])]))],[]⟩
noncomputable def AJ:AM:=⟨[19,108],[105,87,97,109,111,112],[],Zm,[(.ite (.cmp .Is (.attr (.nm 19) 92) .none) [.any] []),(.asg 105 (.attr (.nm 19) 91)),(.for_ Zm [87] (.nm 108) [(.ite (.cmp .Is (.wal 97 (.meth (.nm 105) 8 [(.nm 87)])) .none) [.any] []),(.asg 109 (.attr (.nm 97) 88)),(.ite (.cmp .NotEq (.nm 109) (.gi (-1))) [(.ite (.cmp .GtE (.nm 109) (.int 0)) [.any] [(.ite (.cmp .Eq (.nm 109) (.gi (-2))) [.any] [.any])])] []),(.asga (.nm 97) 88 (.gi (-2))),(.forl 111 (.attr (.nm 97) 89) [(.asg 112 (.sub (.nm 105) (.nm 111))),(.auga (.nm 112) 88 .Sub (.int 1)),(.ite (.cmp .Eq (.attr (.nm 112) 88) (.int 0)) [(.expr (.meth (.attr (.nm 19) 92) 1 [(.nm 111)]))] [])]),(.auga (.nm 19) 94 .Add (.int 1))])],[]⟩
noncomputable def AA:AM:=⟨[19],[105,113,114,115,116,87],[],Zm,[(.asg 105 (.attr (.nm 19) 91)),(.asg 113 (.list Zm [])),(.asg 114 (.list Zm [])),(.asg 115 (.callb .set Zh [])),(.asg 116 .dict0),(.fork 87 (.nm 105) [(.ite (.cmp .In (.nm 87) (.nm 115)) [.cnt] []),(.while_ (.bool Zm) [(.ite (.cmp .In (.nm 87) (.nm 115)) [(.ite (.cmp .In (.nm 87) (.nm 116)) [.any] [])] [(.expr (.meth (.nm 115) 11 [(.nm 87)])),(.expr (.meth (.nm 114) 1 [(.attr (.callb .iter Zh [(.attr (.sub (.nm 105) (.nm 87)) 89)]) 18)])),(.asgs (.nm 116) (.nm 87) (.callb .len Zh [(.nm 113)])),(.expr (.meth (.nm 113) 1 [(.nm 87)]))]),(.while_ (.nm 113) [(.tryNx 87 114 116 113)] [.brk])] [])]),(.ret .none)],[]⟩
theorem kL(P:Z9):LQ 759 Do P:=⟨⟨by kernel_rfl,by kernel_rfl⟩,FG (λg h=>mEA ([]) (λG=>Ay.nil) (λS=>by kernel_rfl))⟩
theorem kG(P:Z9):LQ 796 BJ P:=⟨⟨by kernel_rfl,by kernel_rfl⟩,Eb (λg=>mEA ([.none]) (λG=>Ay.cons (by exact VR.val) Ay.nil) (λS=>by kernel_rfl))⟩
theorem oA(P:Z9):LQ 803 A1 P:=⟨⟨by kernel_rfl,by kernel_rfl⟩,FG (λg h=>mEA ([]) (λG=>Ay.nil) (λS=>by kernel_rfl))⟩
theorem oD(P:Z9):y4 810 Bo P:=⟨⟨by kernel_rfl,by kernel_rfl⟩,FG (λj h=>λg=>by cases g<;>kernel_rfl)⟩
theorem kF(P:Z9):LQ 815 AQ P:=⟨⟨by kernel_rfl,by kernel_rfl⟩,Eb (λg=>mEA ([]) (λG=>Ay.nil) (λS=>by kernel_rfl))⟩
theorem fP(P:Z9):LQ 822 Az P:=⟨⟨by kernel_rfl,by kernel_rfl⟩,Eb (λg=>mEA ([]) (λG=>Ay.nil) (λS=>by kernel_rfl))⟩
theorem oE(P:Z9):LQ 829 AO P:=⟨⟨by kernel_rfl,by kernel_rfl⟩,Eb (λg=>mEA ([]) (λG=>Ay.nil) (λS=>by kernel_rfl))⟩
theorem kH(P:Z9):y4 843 AJ P:=⟨⟨by kernel_rfl,by kernel_rfl⟩,Eb (λh=>λg=>by cases g<;>kernel_rfl)⟩
theorem oC(P:Z9):LQ 850 AA P:=⟨⟨by kernel_rfl,by kernel_rfl⟩,Eb (λg=>mEA ([]) (λG=>Ay.nil) (λS=>by kernel_rfl))⟩
noncomputable def sV:Za (Zf×AM):=[(759,Do),(796,BJ),(803,A1),(810,Bo),(815,AQ),(822,Az),(829,AO),(843,AJ),(850,AA)]
noncomputable def GQ:Zo->Ze AM:=λf=>Ai f sV
theorem sY:CR GQ:=λf D h P=>by
 generalize(lkp_mem h:(f,D)∈sV)=g;simp only[sV,Zr,Wl,ZE,Od]at g;rcases g with⟨rfl,rfl⟩|⟨rfl,rfl⟩|⟨rfl,rfl⟩|⟨rfl,rfl⟩|⟨rfl,rfl⟩|⟨rfl,rfl⟩|⟨rfl,rfl⟩|⟨rfl,rfl⟩|⟨rfl,rfl⟩
 ·exact kL P
 ·exact kG P
 ·exact oA P
 ·exact oD P
 ·exact kF P
 ·exact fP P
 ·exact oE P
 ·exact kH P
 ·exact oC P
end
section
variable{x:Zf}{l:Za Zf}{n n':Z7}{k:Zi}
noncomputable abbrev Nd:=Zf×Z7×Za Zf
noncomputable def Gf(x:Zf):Za Zf->Ze Zf
 | []=>Zs
 |y::r=>match ZX x y with|true=>Zd 0|false=>match Gf x r with|some i=>Zd (i+1)|none=>Zs
noncomputable def BV(x:Zf)(l:Za Zf):Bool:=(Gf x l).isSome
theorem Lf:(Gf x l).isSome=decide (x∈l):=by
 induction l with
 |nil=>rfl
 |cons y r g=>
  refine(?_:(match ZX x y with|true=>Zd 0|false=>match Gf x r with|some i=>Zd (i+1)|none=>Zs).isSome=_);by_cases e:x=y
  ·subst e;exact Ab ((WJ x:ZX x x=Zm) ..) ((Yl (.head _)).symm)
  ·refine Ab (DQ e ..) (Ab ((decide_eq_decide.mpr ⟨λh=>(Zr.mp h).resolve_left e,.tail _⟩:decide (x∈y::r)=decide (x∈r)) ..) ?_);refine Bj g ?_;cases Gf x r<;>rfl
theorem og:∀{i:Zf},Gf x l=Zd i->l[i]? =Zd x:=by
 induction l with
 |nil=>exact λh=>nj h
 |cons y r g=>
  intro i h;rw[show Gf x (y::r)=match ZX x y with|true=>Zd 0|false=>match Gf x r with|some i=>Zd (i+1)|none=>Zs from rfl]at h;cases e:ZX x y with
  |true=>
   rw[e]at h;cases h;exact ZH Zd (Z4 e).symm
  |false=>
   rw[e]at h;cases e2:Gf x r with
   |none=>rw[e2]at h;cases h
   |some j=>
    rw[e2]at h;cases h;exact g e2
structure Dt(nm:Zf->Zi):Prop where
 inj:∀{i j:Zf},nm i=nm j->i=j
theorem Dt.beq(g:Dt nm)(i j:Zf):(nm i==nm j)=ZX i j:=by
 by_cases e:i=j
 ·subst e;exact(WP _).trans (WJ i).symm
 ·exact(beq_eq_false_iff_ne.mpr λh=>e (g.inj h)).trans (DQ e).symm
theorem Dt.bne(g:Dt nm)(i j:Zf):(nm i !=nm j)= !ZX i j:=by
 refine(?_:(!(nm i==nm j))=_);refine Ab (g.beq ..) ?_;rfl
theorem xH:ZX d i=decide (d=i):=by
 by_cases e:d=i
 ·exact(e▸WJ d:ZX d i=Zm).trans (Yl e).symm
 ·exact(DQ e).trans (WC e).symm
theorem AE{n:Zf}{o:α}{H:Za (Zf×α)}:Ai d ((n,o)::H)=if d=n then Zd o else Ai d H:=by
 refine(?_:(match ZX d n with|true=>Zd o|false=>Ai d H)=_);by_cases e:d=n
 ·refine Ab (if_pos e ..) (Ab ((e▸WJ d:ZX d n=Zm) ..) ?_);rfl
 ·refine Ab (Yc e ..) (Ab (DQ e ..) ?_);rfl
theorem Bm{l:Zf}{v:α}(x:α){H:Za (Zf×α)}:Ai l H=Zd v->∃H',put l x H=Zd H'/\∀g,Ai g H'=if g=l then Zd x else Ai g H:=by
 induction H with
 |nil=>exact λh=>nj h
 |cons p r s=>
  intro h;refine Ab ((show put l x (p::r)=match ZX l p.1 with|true=>Zd ((p.1,x)::r)|false=>match put l x r with|some j=>Zd (p::j)|none=>Zs from rfl) ..) ?_;by_cases e:l=p.1
  ·refine Ab ((show ZX l p.1=Zm from e▸WJ l) ..) ?_;refine mEA _ rfl λg=>?_;refine Ab (AE ..) ?_;refine Bj (e ..) ?_;by_cases e2:g=l
   ·refine Ab (if_pos e2 ..) ?_;refine Ab (if_pos e2 ..) ?_;rfl
   ·refine Ab (Yc e2 ..) ?_;refine Ab (Yc e2 ..) ?_;exact(AE.trans (Yc (e▸e2))).symm
  ·refine Ab (DQ e ..) ?_;refine Ag (s ((AE.trans (Yc e)).symm.trans h)) λH' z u=>?_;refine Ab (z ..) ?_;refine mEA _ rfl λg=>?_;refine(AE (o:=p.2) (n:=p.1)).trans ?_;refine Ab ((show Ai g (p::r)=_ from AE (o:=p.2) (n:=p.1)) ..) ?_;refine Ab (u ..) ?_;by_cases e2:g=p.1
   ·refine Ab (if_pos e2 ..) ?_;refine Ab (if_pos e2 ..) ?_;refine Ab (Yc λq=>e (q.symm.trans e2) ..) ?_;rfl
   ·refine Ab (Yc e2 ..) ?_;refine Ab (Yc e2 ..) ?_;rfl
theorem j2{l:Zf}{v:α}{H:Za (Zf×α)}:Ai l H=Zd v->∃j,H.Perm ((l,v)::j)/\∀g,g≠l->Ai g j=Ai g H:=by
 induction H with
 |nil=>exact λh=>nj h
 |cons p r u=>
  intro h;rw[show Ai l (p::r)=_ from AE (o:=p.2) (n:=p.1)]at h;by_cases e:l=p.1
  ·rw[if_pos e]at h;refine mEA r ?_ λg hl=>((AE (o:=p.2) (n:=p.1)).trans (Yc (e▸hl))).symm;refine Ab ((Oh e.symm (Yd h):p=(l,v)) ..) ?_;rfl
  ·rw[Yc e]at h;exact Ag (u h) λj z s=>mEA (p::j) ((z.cons _).trans (X7 _ _ _)) λg hl=>AE.trans ((ZH (ite _ _) (s g hl)).trans AE.symm)
noncomputable def Dq(nm:Zf->Zi):Zf->Za Zf->Za (Zi×W)
 |_,[]=>[]
 |b,x::r=>(nm x,.o b)::Dq nm (b+2) r
theorem Fw(g:Dt nm)(x:Zf):∀(N:Za Zf) (b:Zf),(Dq nm b N).lookup (nm x)=match Gf x N with|some i=>Zd (.o (b+2*i))|none=>none:=by
 intro N
 induction N with
 |nil=>exact λj=>rfl
 |cons y r h=>
  intro b;refine(?_:WL (nm x) ((nm y,W.o b)::Dq nm (b+2) r)=match(match ZX x y with|true=>Zd 0|false=>match Gf x r with|some i=>Zd (i+1)|none=>Zs)with|some i=>Zd (.o (b+2*i))|none=>Zs);refine Ab (YE ..) ?_;refine Ab (g.beq ..) ?_;refine Ab (h ..) ?_;cases ZX x y with
  |true=>rfl
  |false=>
   dsimp only;cases Gf x r with
   |none=>rfl
   |some i=>dsimp only;refine Ab ((by exact Wx _ _ _:b+2+2*i=b+2*(i+1)) ..) ?_;rfl
theorem pg(x:Zf):∀(N:Za Zf) (b:Zf),Dq nm b (N++[x])=Dq nm b N++[(nm x,.o (b+2*N.length))]:=by
 intro N
 induction N with
 |nil=>exact λh=>rfl
 |cons y r g=>
  intro b;refine(?_:(nm y,W.o b)::Dq nm (b+2) (r++[x])=_);refine Ab (g ..) ?_;refine(?_:_=(nm y,W.o b)::(Dq nm (b+2) r++_));refine Ab ((by simp;exact Wx _ _ _:b+2+2*r.length=b+2*(y::r).length) ..) ?_;rfl
theorem LD:∀(N:Za Zf) (b:Zf),(Dq nm b N).length=N.length:=by
 intro N
 induction N with
 |nil=>exact λh=>rfl
 |cons h r g=>
  intro b;refine(?_:(Dq nm (b+2) r).length+1=r.length+1);refine Ab (g ..) ?_;rfl
theorem lp:∀(N:Za Zf) (b:Zf),(Dq nm b N).map (λp=>V.str p.1)=N.map λx=>V.str (nm x):=by
 intro N
 induction N with
 |nil=>exact λh=>rfl
 |cons y r g=>
  intro b;refine(?_:V.str (nm y)::(Dq nm (b+2) r).map _=_);refine Ab (g ..) ?_;rfl
theorem MG{v:α}:∀{d:Za (Zi×α)},d.lookup k=Zs->putD k v d=d++[(k,v)]:=by
 intro d
 induction d with
 |nil=>exact λs=>rfl
 |cons g r j=>
  intro h;rw[YE]at h;refine Ab DM ?_;by_cases e:g.1=k
  ·subst e;simp at h
  ·generalize(by simpa using λq=>e q.symm:(k==g.1)=Zh)=this;rw[this]at h;simp only[e,Ul,YO];refine Ab (j h ..) ?_;rfl
def yz(nm:Zf->Zi)(H:Za (Zf×LW))(i:Zf)(q:Nd):Prop:=Ai (3+2*i) H=Zd (.slots 763 [.p (.str (nm q.1)),.p (.int q.2.1),.o (3+2*i+1)])/\Ai (3+2*i+1) H=Zd (.list (q.2.2.map λj=>V.str (nm j)))
def qK(nm:Zf->Zi)(H:Za (Zf×LW))(G:Za Nd):Prop:=∀i x n ss,G[i]? =Zd (x,n,ss)->yz nm H i (x,n,ss)
structure SF(nm:Zf->Zi)(H:Za (Zf×LW))(nx:Zf)(R:W)(np nf:Z7)(D:LW)(N:Za Zf)(G:Za Nd):Prop where
 inst:Ai 0 H=Zd (.inst 860 1)
 atts:Ai 1 H=Zd (.attrs [(91,.o 2),(92,R),(93,.p (.int np)),(94,.p (.int nf))])
 dict:Ai 2 H=Zd D
 nds:qK nm H G
 nms:G.map (·.1)=N
 lo:3+2*G.length<=nx
section
variable{nx':Zf}{R R':W}{np' nf':Z7}{D D':LW}{N:Za Zf}{G:Za Nd}
theorem SF.low{g:Za Nd}(h:SF nm H nx R np nf D N G)(e:∀l,l<3->Ai l H'=Ai l H)(a:qK nm H' g)(b:g.map (·.1)=N)(c:3+2*g.length<=nx'):SF nm H' nx' R np nf D N g:=
 ⟨(e 0 wK).trans h.inst,(e 1 sE).trans h.atts,(e 2 lT).trans h.dict,a,b,c⟩
theorem qK.fr(h:qK nm H G)(e:∀i,i<G.length->Ai (3+2*i) H'=Ai (3+2*i) H/\Ai (3+2*i+1) H'=Ai (3+2*i+1) H):qK nm H' G:=λi x n ss g=>have t:=e i (Kh g)
 ⟨t.1.trans (h i x n ss g).1,t.2.trans (h i x n ss g).2⟩
theorem qK.set(h:qK nm H G)(s:G[i]? =Zd (x,n,ss))(a:Ai (3+2*i) H'=Zd (.slots 763 [.p (.str (nm x)),.p (.int n'),.o (3+2*i+1)]))(b:Ai (3+2*i+1) H'=Zd (.list (r.map λj=>V.str (nm j))))(c:∀l,l≠3+2*i->l≠3+2*i+1->Ai l H'=Ai l H):qK nm H' (G.set i (x,n',r)):=by
 intro j y m ts g;by_cases q:i=j
 ·subst q;exact sj (M:=yz nm H' i) ((Za.getElem?_set_self (Kh s)).symm.trans g) ⟨a,b⟩
 ·rw[Za.getElem?_set_ne q]at g;have k:=wG (b:=3) (λh=>q h.symm:j≠i);exact⟨(c _ k tR.symm).trans (h j y m ts g).1,(c _ tR λe=>k (WF e)).trans (h j y m ts g).2⟩
theorem SF.frame(h:SF nm H nx R np nf D N G)(g:nx<=nx')(e:∀l,l<3+2*G.length->Ai l H'=Ai l H):SF nm H' nx' R np nf D N G:=
 h.low (λl q=>e l (ZB q (ZF 3 _))) (h.nds.fr λi t=>⟨e _ (xO t),e _ (j1 t)⟩) h.nms (Zv h.lo g)
theorem SF.setA(h:SF nm H nx R np nf D N G)(e:∀l,Ai l H'=if l=1 then Zd (.attrs [(91,.o 2),(92,R'),(93,.p (.int np')),(94,.p (.int nf'))])else Ai l H):SF nm H' nx R' np' nf' D N G:=
 have u:∀i,Ai (3+i) H'=Ai (3+i) H:=λi=>up (e _) (lo3 sE).symm
 ⟨(up (e 0) (Yq 0).symm).trans h.inst,(e 1).trans (if_pos rfl),(up (e 2) (Yq 1)).trans h.dict,h.nds.fr λi g=>⟨u _,u (2*i+1)⟩,h.nms,h.lo⟩
theorem SF.setD(h:SF nm H nx R np nf D N G)(e:∀l,Ai l H'=if l=2 then Zd D' else Ai l H):SF nm H' nx R np nf D' N G:=
 have u:∀i,Ai (3+i) H'=Ai (3+i) H:=λi=>up (e _) (lo3 lT).symm
 ⟨(up (e 0) (by decide:(0:Zf)≠2)).trans h.inst,(up (e 1) (Yq 1).symm).trans h.atts,(e 2).trans (if_pos rfl),h.nds.fr λi g=>⟨u _,u (2*i+1)⟩,h.nms,h.lo⟩
theorem SF.setC(h:SF nm H nx R np nf D N G)(g:G[i]? =Zd (x,n,ss))(e:∀l,Ai l H'=if l=3+2*i then Zd (.slots 763 [.p (.str (nm x)),.p (.int n'),.o (3+2*i+1)])else Ai l H):SF nm H' nx R np nf D N (G.set i (x,n',ss)):=
 h.low (λl q=>up (e l) (lo3 q)) (h.nds.set g ((e _).trans (if_pos rfl)) ((up (e _) (Yq _)).trans (h.nds _ _ _ _ g).2) λl a j=>up (e l) a) ((FZ (p:=(x,n,ss)) (q:=(x,n',ss)) rfl g).trans h.nms) (Ab W2 (h.lo))
theorem SF.setL(h:SF nm H nx R np nf D N G)(g:G[i]? =Zd (x,n,ss))(e:∀l,Ai l H'=if l=3+2*i+1 then Zd (.list ((ss.map λj=>V.str (nm j))++[V.str (nm d)]))else Ai l H):SF nm H' nx R np nf D N (G.set i (x,n,ss++[d])):=
 h.low (λl q=>up (e l) (nO q)) (h.nds.set g ((up (e _) (Yq _).symm).trans (h.nds _ _ _ _ g).1) (((e _).trans (if_pos rfl)).trans (ZH (λl=>Zd (LW.list l)) (ZA (l₁:=ss) (l₂:=[d])).symm)) λl r b=>up (e l) b) ((FZ (p:=(x,n,ss)) (q:=(x,n,ss++[d])) rfl g).trans h.nms) (Ab W2 (h.lo))
theorem SF.new(h:SF nm H nx R np nf D N G)(j:nx=3+2*G.length)(e:∀l,Ai l H'=if l=2 then Zd D' else if l=nx+1 then Zd (.list [])else if l=nx then Zd (.slots 763 [.p (.str (nm x)),.p (.int 0),.o (nx+1)])else Ai l H):SF nm H' (nx+2) R np nf D' (N++[x]) (G++[(x,0,[])]):=by
 subst j;have u:∀l,l≠2->l<3+2*G.length->Ai l H'=Ai l H:=λl a b=>(up (e l) a).trans ((Yc (Yp (Xh b))).trans (Yc (Yp b)));have v:∀{l},l<3->l<3+2*G.length:=λq=>ZB q (ZF 3 _);refine⟨(u 0 (by decide) (v wK)).trans h.inst,(u 1 (Yq 1).symm (v sE)).trans h.atts,(e 2).trans (if_pos rfl),λi y n ss g=>?_,by refine Ab ZA ?_;refine Ab h.nms ?_;rfl,by refine Ab Zt ?_;exact ZL _⟩;have hl:=Kh g;rw[Zt]at hl;by_cases q:i<G.length
 ·rw[Za.getElem?_append_left q]at g;exact⟨(u _ (lo3 lT).symm (xO q)).trans (h.nds i y n ss g).1,(u _ (nO lT).symm (j1 q)).trans (h.nds i y n ss g).2⟩
 ·cases Uq (Va hl) (Ws.mp q);exact sj (M:=yz nm H' G.length) (Za.getElem?_concat_length.symm.trans g) ⟨(up (e _) (lo3 lT).symm).trans ((Yc (Yq _).symm).trans (if_pos rfl)),(up (e _) (nO lT).symm).trans (if_pos rfl)⟩
theorem SF.ix(h:SF nm H nx R np nf D N G)(j:Gf x N=Zd i):∃n ss,G[i]? =Zd (x,n,ss):=by
 have t:=og j;rw[<-h.nms,Za.getElem?_map]at t;exact Ag (VY.mp t) λp g e=>e▸gq p.2.1 p.2.2 g
end
noncomputable def yc(x:Zf)(G:Za Nd):Ze (Za Nd×Zf):=gd (Yr G.length 900) (match Gf x (G.map (·.1))with|some i=>Zd (G,i)|none=>Zd (G++[(x,0,[])],G.length))
noncomputable def lI(x:Zf):Za Zf->Za Nd->Ze (Za Nd)
 | [],G=>Zd G
 |p::r,G=>ob (yc p G) λT=>ob (T.1[T.2]?) λq=>gd (Yr q.2.2.length 900) (lI x r (T.1.set T.2 (q.1,q.2.1,q.2.2++[x])))
noncomputable def tJ(x:Zf)(ps:Za Zf)(G:Za Nd):Ze (Za Nd):=ob (yc x G) λT=>ob (T.1[T.2]?) λq=>gd (Yr ps.length 900) (lI x ps (T.1.set T.2 (q.1,q.2.1+ps.length,q.2.2)))
noncomputable def Eo:Za Zf->Za Nd->Ze (Za Nd)
 | [],G=>Zd G
 |x::r,G=>ob (Gf x (G.map (·.1))) λi=>ob (G[i]?) λq=>Eo r (G.set i (q.1,-1,q.2.2))
noncomputable def dP:Za Zf->Za Nd->Za Zf->Ze (Za Nd×Za Zf)
 | [],G,rd=>Zd (G,rd)
 |x::r,G,rd=>ob (Gf x (G.map (·.1))) λi=>ob (G[i]?) λq=>gd (Yr rd.length 900) (dP r (G.set i (q.1,q.2.1-1,q.2.2)) (if q.2.1-1=0 then rd++[x]else rd))
noncomputable def Ea:Za Zf->Za Nd->Za Zf->Z7->Ze (Za Nd×Za Zf×Z7)
 | [],G,rd,nf=>Zd (G,rd,nf)
 |x::r,G,rd,nf=>ob (Gf x (G.map (·.1))) λi=>ob (G[i]?) λq=>gd (decide (q.2.1= -1)&&Yr q.2.2.length 900) (ob (dP q.2.2 (G.set i (q.1,-2,q.2.2)) rd) λT=>Ea r T.1 T.2 (nf+1))
end
variable{L9 M5:Za Nd}
section
variable{q:LW}{xs:Za V}{mk:MK}{D:Za (Zi×W)}{a l x:Zf}
noncomputable def sM(x:LW):Bool:=bq Zh x (l:=λg g=>Zm)
section
variable{name:Zf}
theorem BG(h:Ai l H=Zd q)(g:sM q=Zh):IH H (.o l) name=none:=by
 refine(?_:ob (ob (Ai l H) _) _=Zs);refine Ab h ?_;cases q<;>first|rfl|cases g
theorem DI(h:Ai l H=Zd (.list xs)):JF H (.o l)=Zd xs:=Ik h
theorem cQ(h:Ai l H=Zd q)(e:vn name q=Zd mk):MK.of H (.o l) name=Zd mk:=by
 refine(?_:(match Ai l H with|some q=>vn name q|none=>Zs)=_);exact Ab h e
theorem BZ(h:Ai l H=Zd (.list xs))(e:nD name [(1,.append),(2,.pop),(7,.clear)]=Zd mk):MK.of H (.o l) name=Zd mk:=cQ h e
theorem jq(h:Ai l H=Zd (.dictW D)):MK.of H (.o l) 8=Zd .dget:=cQ h rfl
theorem so(h:Ai l H=Zd (.setS B8)):MK.of H (.o l) 11=Zd .sadd:=cQ h rfl
theorem nC(h:Ai l H=Zd (.listw ws)):MK.of H (.o l) 1=Zd .appw:=cQ h rfl
theorem qz(h:Ai l H=Zd q):qA H (.p (.str y)) (.o l)=ob (Eu q) λl=>Nu y l:=by
 refine(?_:ob (Ai l H) _=_);refine Ab h ?_;rfl
theorem kq(h:Ai l H=Zd q)(hl:Eu q=Zs):on H (.p (.str y)) (.o l)=inK y q:=by
 unfold on;refine Ab (qz h ..) (Ab hl ?_);refine(?_:ob (Ai l H) _=_);refine Ab h ?_;rfl
theorem FN(h:Ai l H=Zd (.slots 763 ws)):FO H (.o l)=Zd ws:=Ik h
theorem cW(h:Ai l H=Zd (.liter a 0)):sx H (.o l)=Zd l:=Ik h
end
theorem Cl{u:α}{H:Za (Zf×α)}:Ai n ((n,u)::H)=Zd u:=by refine Ab AE ?_;refine Ab (if_pos rfl ..) ?_;rfl
theorem aW{u x:α}{H:Za (Zf×α)}:put n x ((n,u)::H)=Zd ((n,x)::H):=by
 refine Ab DC (Ab (WJ n ..) ?_);rfl
theorem Bg{u:α}{H:Za (Zf×α)}{v:Ze α}(e:l≠n)(h:Ai l H=v):Ai l ((n,u)::H)=v:=by refine Ab AE ?_;refine Ab (Yc e ..) ?_;refine Ab h ?_;rfl
theorem rP{u x:α}{H H':Za (Zf×α)}(e:l≠n)(h:put l x H=Zd H'):put l x ((n,u)::H)=Zd ((n,u)::H'):=by
 refine Ab DC (Ab (DQ e ..) ?_);refine Ab h ?_;rfl
section
variable{nx':Zf}{R R':W}{np' nf':Z7}{D D':LW}{N:Za Zf}{G:Za Nd}
theorem SF.norm(h:SF nm H nx R np nf (.dictW (Dq nm 3 N)) N G):SF nm H nx R np nf (.dictW (Dq nm 3 (G.map (·.1)))) (G.map (·.1)) G:=by
 generalize h.nms=e;subst e;exact h
noncomputable abbrev atS(R:W)(np nf:Z7):Za (Zf×W):=[(91,.o 2),(92,R),(93,.p (.int np)),(94,.p (.int nf))]
theorem SF.io(h:SF nm H nx R np nf D N G):IG (.o 0) H=Zd ⟨860,1,atS R np nf⟩:=(Ik h.inst).trans (Ik h.atts)
theorem SF.sl(h:SF nm H nx R np nf D N G)(g:G[i]? =Zd (x,dn,ss)):FO H (.o (3+2*i))=Zd [.p (.str (nm x)),.p (.int dn),.o (3+2*i+1)]:=FN (h.nds i x dn ss g).1
theorem SF.suc(h:SF nm H nx R np nf D N G)(g:G[i]? =Zd (x,dn,ss)):Ai (3+2*i+1) H=Zd (.list (ss.map λj=>V.str (nm j))):=(h.nds i x dn ss g).2
theorem SF.im(h:SF nm H nx R np nf D N G){f:Zf}(e:gd ((atS R np nf).all (λp=> !ZX p.1 n&&Vl p.1 192)&&Vl n 192) (cS 860 n)=Zd f:=by rfl):IH H (.o 0) n=Zd f:=(Ik h.io).trans e
end
end
section
noncomputable section
set_option tactic.hygienic true in
theorem kz(g:Dt nm){x:Zf}
 (h:SF nm H nx (.p .none) np nf (.dictW (Dq nm 3 (L9.map (·.1)))) (L9.map (·.1)) L9) (z:nx=3+2*L9.length) (r:yc x L9=Zd (M5,i))
 (C:∀H',SF nm H' (3+2*M5.length) (.p .none) np nf (.dictW (Dq nm 3 (M5.map (·.1)))) (M5.map (·.1)) M5->k (.o (3+2*i)) ⟨H',3+2*M5.length,rho⟩):
 go GQ (n+60) (d+6) (.sts A1.body (Bs rho k)) ⟨H,nx,[(19,Zd (.o 0)),(87,Zd (.p (.str (nm x)))),(83,Zs)]⟩:=by
 refine AH r λI r=>?_;walk_at "s";refine Aa h.io ?_;walk_at "s";refine BE (BG h.dict rfl) (Aa (jq h.dict) ?_);walk_at "s";refine Aa h.dict (mEA _ (Fw g x _ _) ?_);revert r;cases e:Gf x (L9.map (·.1))with
 |some j=>
  intro r;cases r;walk_at "s";subst z;exact C _ h
 |none=>
  intro r;cases r;walk_at "s";refine Aa (FN Cl) (⟨rfl,?_⟩);refine Aa aW ?_;walk_at "s";refine Aa (FN Cl) (⟨rfl,?_⟩);refine Aa aW ?_;walk_at "s";refine Aa (FN (Bg (by exact(Yq _).symm) Cl)) (⟨rfl,?_⟩);refine Aa (rP (by lia) aW) ?_;walk_at "s";refine mEA _ (Xl _) ?_;generalize(h.frame (H':=(nx+1,.list [])::(nx,.slots 763 (setS 2 (.o (nx+1)) (setS 1 (.p (.int 0)) (setS 0 (.p (.str (nm x))) []))))::H) (nx':=nx) (ZL _) λl hl=>by refine Ab (Bg (by lia) (Bg (by lia) rfl) ..) ?_;rfl)=A;walk_at "s";refine Aa A.io ?_;walk_at "s";refine Aa A.dict ?_;refine⟨by refine Ab (LD ..) ?_;refine Ab (Zz ..) ?_;exact YZ (q1 (Zw I) rfl),?_⟩;refine Ag (Bm (.dictW (putD (nm x) (.o nx) (Dq nm 3 (L9.map (·.1))))) A.dict) λD B u=>Aa B ?_;walk_at "s";have E:3+2*(L9++[(x,(0:Z7),([]:Za Zf))]).length=nx+2:=by refine Ab Zt ?_;refine Ab z ?_;rfl
  rw[MG (by refine Ab (Fw g ..) ?_;refine Ab (e ..) ?_;rfl),show Dq nm 3 (L9.map (·.1))++[(nm x,.o nx)]=Dq nm 3 (L9.map (·.1)++[x]) by refine Ab (pg ..) ?_;refine Ab (Zz ..) ?_;refine Ab (z ..) ?_;rfl]at u;have G:=h.new (x:=x) (H':=D) z λl=>by refine Ab (u ..) ?_;refine Ab (AE ..) ?_;refine Ab (AE ..) ?_;rfl
  rw[<-show(L9++[(x,(0:Z7),([]:Za Zf))]).map (·.1)=L9.map (·.1)++[x]from ZA,<-E]at G;have:=C D G;rw[E,<-z]at this;exact this
end
end
section
variable{x:Zf}{ps:Za Zf}
theorem B0(f:α->V){stp:V->S->(Fl->S->Prop)->Prop}(I:Za α->S->Prop):
 ∀{l:Za α} {s:S},I l s->(∀v r s (kk:Fl->S->Prop),I (v::r) s->(∀g,I r g->kk .nx g)->(∀g,I r g->kk .ct g)->stp (f v) s kk)->(∀s,I [] s->K5 .nx s)->Gp stp K5 (l.map f) s:=by
 intro l
 induction l with
 |nil=>exact @λs A B j=>j s A
 |cons v r h=>exact @λs A u j=>u v r s _ A (λg z=>h z u j) (λg z=>h z u j)
noncomputable section
theorem Hs(n d:Zf)(t:Task)(s:S):go GQ n d t s=Wh (motive:=λg=>Zf->Task->S->Prop) (λg g g=>ZP) (λg h d t s=>LP GQ h d t s) n d t s:=rfl
inductive I6(nm:Zf->Zi)(x:Zf)(np nf:Z7)(ps:Za Zf)(i:Zf)(G1:Za Nd)(r:Za Zf):S->Prop
 |mk (Gi:Za Nd) (H:Za (Zf×LW)) (o98 o100:Ze W) {nx:Zf} (e:lI x r Gi=Zd G1) (h:SF nm H nx (.p .none) np nf (.dictW (Dq nm 3 (Gi.map (·.1)))) (Gi.map (·.1)) Gi) (en:nx=3+2*Gi.length):
  I6 nm x np nf ps i G1 r ⟨H,nx,[(19,Zd (.o 0)),(87,Zd (.p (.str (nm x)))),(95,Zd (.p (.tup (ps.map λp=>.str (nm p))))),(97,Zd (.o (3+2*i))),(98,o98),(100,o100)]⟩
theorem tI(g:Dt nm)
 (h:SF nm H nx (.p .none) np nf (.dictW (Dq nm 3 (L9.map (·.1)))) (L9.map (·.1)) L9) (hx:nx=3+2*L9.length) (A:tJ x ps L9=Zd M5)
 (hk:∀H',SF nm H' (3+2*M5.length) (.p .none) np nf (.dictW (Dq nm 3 (M5.map (·.1)))) (M5.map (·.1)) M5->k (.p .none) ⟨H',3+2*M5.length,rho⟩):
 go GQ (n+80) (d+10) (.sts Bo.body (Bs rho k)) ⟨H,nx,[(19,Zd (.o 0)),(87,Zd (.p (.str (nm x)))),(95,Zd (.p (.tup (ps.map λp=>.str (nm p))))),(97,Zs),(98,Zs),(100,Zs)]⟩:=by
 refine Ah A λT e1 A=>Ah A λq E A=>AH A λG A=>?_;have G:ps.length<=900:=Zw G;walk_at "s";refine Aa h.io ?_;walk_at "s";refine BU h.im ?_;walk_at "s";refine⟨(),?_⟩;refine Bj (Hs (n+76) (d+9) ..) ?_;refine kz (n:=n+16) (d:=d+3) g h hx e1 λH1 D=>?_;walk_at "s";refine Aa (D.sl E) ?_;walk_at "s";refine Ac (lq G rfl) ?_;walk_at "s";refine Aa (D.sl E) ?_;walk_at "s";refine⟨rfl,?_⟩;refine Ag (Bm (.slots 763 [.p (.str (nm q.1)),.p (.int (q.2.1+ps.length)),.o (3+2*T.2+1)]) (D.nds _ _ _ _ E).1) λH2 Y Q=>?_;refine Ab (Zz ..) ?_;refine Aa Y ?_;generalize(D.setC E Q)=h2;walk_at "s";refine Ac (lq G rfl) ?_;refine mEA _ rfl ?_;generalize h2.norm=h2n;refine B0 (λp=>V.str (nm p)) (I6 nm x np nf ps T.2 M5) (I6.mk (T.1.set T.2 (q.1,q.2.1+ps.length,q.2.2)) H2 Zs Zs A h2n (ZH (λn=>3+2*n) W2.symm)) ?_ ?_
 ·intro p r z_ kk hI k1 k2;cases hI with|mk Gi H3 O C u I en=>
  subst en;refine Ah u λU e4 u=>Ah u λz L u=>AH u λB u=>?_;have B:z.2.2.length<=900:=Zw B;walk_at "s";refine BU I.im ?_;walk_at "s";refine⟨(),?_⟩;refine Bj (Hs (n+72) (d+9) ..) ?_;refine kz (n:=n+12) (d:=d+3) g I rfl e4 λH4 X=>?_;walk_at "s";refine Aa (X.sl L) ?_;walk_at "s";generalize(X.suc L)=K;refine BE (BG K rfl) ?_;refine Aa (BZ K rfl) ?_;walk_at "s";refine Aa K ?_;refine Ac (lq B rfl) ?_;refine Ag (Bm (.list ((z.2.2.map λj=>V.str (nm j))++[V.str (nm x)])) K) λH5 P R=>?_;refine Aa P ?_;generalize((X.setL L R).norm)=h5;walk_at "s";exact k1 _ (.mk _ H5 _ _ u h5 (ZH (λn=>3+2*n) W2.symm))
 ·intro z_ hI;cases hI with|mk Gi H3 O C u I en=>
  subst en;cases u;walk_at "s";exact hk _ I
end
end
section
variable{x y l:Zf}{P Q:Prop}{T:Za Nd×Za Zf×Z7}{m:Z7}{lw:LW}
noncomputable section
section
variable{rl:Zf}{N:Za Zf}{G G1:Za Nd}
theorem ce(g:Dt nm)(e:Gf x N=Zd i):(Dq nm 3 N).lookup (nm x)=Zd (.o (3+2*i)):=by refine Ab (Fw g ..) ?_;refine Ab e ?_;rfl
theorem fn(e:Eo (x::r) G=Zd G1)(g:∀i q,Gf x (G.map (·.1))=Zd i->G[i]? =Zd q->Eo r (G.set i (q.1,-1,q.2.2))=Zd G1->P):P:=
 Ah e λi a e=>Ah e λq b e=>g i q a b e
theorem ic{T:Za Nd×Za Zf}(e:dP (x::r) G rd=Zd T)(g:∀i q,Gf x (G.map (·.1))=Zd i->G[i]? =Zd q->rd.length<=900->dP r (G.set i (q.1,q.2.1-1,q.2.2)) (if q.2.1-1=0 then rd++[x]else rd)=Zd T->P):P:=
 Ah e λi a e=>Ah e λq b e=>AH e λc e=>g i q a b (Zw c) e
theorem fX(e:Ea (x::r) G rd nf=Zd T)(g:∀i y ss U,Gf x (G.map (·.1))=Zd i->G[i]? =Zd (y,-1,ss)->ss.length<=900->dP ss (G.set i (y,-2,ss)) rd=Zd U->Ea r U.1 U.2 (nf+1)=Zd T->P):P:=
 Ah e λi a e=>Ah e λq b e=>AH e λc e=>Ah e λU d e=>have c:=Yi.mp c
  g i q.1 q.2.2 U a (of_decide_eq_true c.1▸(b:G[i]? =Zd (q.1,q.2.1,q.2.2))) (Zw c.2) d e
theorem qX{f:α->β}{l:Za α}(h:l.length<=900)(q:Q):A4 (l.map f).length Q:=Ac (lq h rfl) q
structure QS(nm:Zf->Zi)(nx rl:Zf)(N:Za Zf)(n0:Zf)(H0 H:Za (Zf×LW))(np nf:Z7)(G:Za Nd)(rd:Za Zf):Prop where
 h:SF nm H nx (.o rl) np nf (.dictW (Dq nm 3 N)) N G
 l:G.length=n0
 r:Ai rl H=Zd (.list (rd.map λx=>V.str (nm x)))
 f:∀l,3+2*n0<=l->l≠rl->Ai l H=Ai l H0
 o:3+2*n0<=rl
section
variable{n0:Zf}{H0:Za (Zf×LW)}
theorem QS.ix(q:QS nm nx rl N n0 H0 H np nf G rd)(g:Dt nm)(e:Gf x (G.map (·.1))=Zd i):(Dq nm 3 N).lookup (nm x)=Zd (.o (3+2*i)):=ce g (q.h.nms▸e)
theorem QS.low(q:QS nm nx rl N n0 H0 H np nf G rd)(e:G[i]? =Zd (y,m,ss)):3+2*i+1<3+2*n0:=j1 (q.l▸Kh e)
theorem QS.aau(q:QS nm nx rl N n0 H0 H np nf G rd)(e:G[i]? =Zd (y,m,ss)){k:Za (Zf×LW)->Prop}
 (z:∀H',QS nm nx rl N n0 H0 H' np nf (G.set i (y,dn,ss)) rd->(G.set i (y,dn,ss))[i]? =Zd (y,dn,ss)->(∀j,Ai (3+2*j+1) H'=Ai (3+2*j+1) H)->k H'):Aj (put (3+2*i) (.slots 763 [.p (.str (nm y)),.p (.int dn),.o (3+2*i+1)]) H) k:=
 Ag (Bm (.slots 763 [.p (.str (nm y)),.p (.int dn),.o (3+2*i+1)]) (q.h.nds _ _ _ _ e).1) λg s hl=>have u:∀l,3+2*n0<=l->Ai l g=Ai l H:=λl a=>up (hl l) (Y2 (ZB (X9 (q.low e)) a))
  Aa s (z g ⟨q.h.setC e hl,W2.trans q.l,(u _ q.o).trans q.r,λl a b=>(u l a).trans (q.f l a b),q.o⟩ (Za.getElem?_set_self (Kh e)) λj=>up (hl _) tR)
theorem QS.putA(q:QS nm nx rl N n0 H0 H np nf G rd)(g j:Z7){k:Za (Zf×LW)->Prop}(A:∀H',QS nm nx rl N n0 H0 H' g j G rd->k H'):Aj (put 1 (.attrs (atS (.o rl) g j)) H) k:=
 Ag (Bm (.attrs (atS (.o rl) g j)) q.h.atts) λs z hl=>have u:∀l,3+2*n0<=l->Ai l s=Ai l H:=λl a=>up (hl l) (Y2 (ZB sE (Zv (ZF 3 _) a)))
  Aa z (A s ⟨q.h.setA hl,q.l,(u _ q.o).trans q.r,λl a b=>(u l a).trans (q.f l a b),q.o⟩)
theorem QS.aax(q:QS nm nx rl N n0 H0 H np nf G rd)(g:Za Zf)(ex:ts=g.map λx=>V.str (nm x)){k:Za (Zf×LW)->Prop}(z:∀H',QS nm nx rl N n0 H0 H' np nf G g->(∀l,l≠rl->Ai l H'=Ai l H)->k H'):Aj (put rl (.list ts) H) k:=
 Ag (Bm (.list ts) q.r) λj s hl=>have u:∀l,l≠rl->Ai l j=Ai l H:=λl a=>up (hl l) a
  Aa s (z j ⟨q.h.frame (ZL _) (λl a=>u l (Yp (ZB a (q.l▸q.o)))),q.l,(hl rl).trans ((if_pos rfl).trans (ZH (λl=>Zd (LW.list l)) ex)),λl a b=>(u l b).trans (q.f l a b),q.o⟩ u)
end
inductive I7(nm:Zf->Zi)(nx rl:Zf)(N:Za Zf)(n0:Zf)(H0:Za (Zf×LW))(np nf:Z7)(rd:Za Zf)(G1:Za Nd)(r:Za Zf):S->Prop
 |mk (Gi:Za Nd) (H:Za (Zf×LW)) (o:Ze W) (e:Eo r Gi=Zd G1) (q:QS nm nx rl N n0 H0 H np nf Gi rd):I7 nm nx rl N n0 H0 np nf rd G1 r ⟨H,nx,[(19,Zd (.o 0)),(83,Zd (.p (.tup (rd.map λx=>V.str (nm x))))),(105,Zd (.o 2)),(87,o)]⟩
theorem dQ(g:Dt nm)(h:SF nm H nx (.o rl) np nf (.dictW (Dq nm 3 N)) N G)(B:Ai rl H=Zd (.list (rd.map λx=>V.str (nm x))))(hl:3+2*G.length<=rl)(u:rd.length<=900)(L:Eo rd G=Zd G1)
 (O:∀H',SF nm H' nx (.o rl) (np+rd.length) nf (.dictW (Dq nm 3 N)) N G1->Ai rl H'=Zd (.list [])->(∀l,3+2*G.length<=l->l≠rl->Ai l H'=Ai l H)->k (.p (.tup (rd.map λx=>V.str (nm x)))) ⟨H',nx,rho⟩):
 go GQ (n+80) (d+5) (.sts Az.body (Bs rho k)) ⟨H,nx,[(19,Zd (.o 0)),(83,Zs),(105,Zs),(87,Zs)]⟩:=by
 walk_at "s";refine Aa h.io ?_;walk_at "s";refine Aa h.io ?_;walk_at "s";refine Aa (DI B) ?_;walk_at "s";refine qX u ?_;walk_at "s";refine Aa h.io ?_;walk_at "s";refine qX u ?_;refine mEA _ rfl ?_;refine B0 (λx=>V.str (nm x)) (I7 nm nx rl N G.length H np nf rd G1) (.mk G H Zs L ⟨h,rfl,B,λj j j=>rfl,hl⟩) ?_ ?_
 ·rintro x r j kk ⟨I,E,o,A,q⟩ D R;refine fn A λi z ei C P=>?_;walk_at "s";refine Aa q.h.dict ?_;refine Aa (q.ix g ei) ?_;walk_at "s";refine Aa (q.h.sl C) ?_;refine⟨rfl,?_⟩;exact q.aau C λH' Q j j=>D _ (.mk _ H' _ P Q)
 ·rintro j ⟨I,E,o,A,q⟩;cases A;walk_at "s";refine Aa q.h.io ?_;walk_at "s";refine BE (BG q.r rfl) ?_;refine Aa (BZ q.r rfl) ?_;walk_at "s";refine Aa q.r ?_;walk_at "s";refine qX u ?_;refine q.aax [] rfl λT q2 j=>?_;walk_at "s";refine Aa q2.h.io ?_;walk_at "s";refine qX u ?_;walk_at "s";refine Aa q2.h.io ?_;walk_at "s";refine Ab (Zz ..) ?_;refine q2.putA _ _ λK q3=>?_;walk_at "s";exact O K q3.h q3.r q3.f
theorem d0(h:SF nm H nx (.o rl) np nf (.dictW (Dq nm 3 N)) N G)(r:Ai rl H=Zd (.list (rd.map λx=>V.str (nm x))))(u:rd.length<=900)
 (g:k (.p (.bool (decide (nf<np)|| !rd.isEmpty))) ⟨H,nx,rho⟩):
 go GQ (n+80) (d+5) (.sts AO.body (Bs rho k)) ⟨H,nx,[(19,Zd (.o 0))]⟩:=by
 walk_at "s";refine Aa h.io ?_;walk_at "s";refine Aa h.io ?_;walk_at "s";refine Aa h.io ?_;walk_at "s";refine Au (λe=>?_) (λe=>?_)
 ·walk_at "s";have e:decide (nf<np)=true:=e;rw[e,Bool.true_or]at g;exact Ab ((show(λi j:Z7=>decide (i<j)) nf np=Zm from e) ..) g
 ·walk_at "s";have e:decide (nf<np)=false:=e;rw[e,Pj]at g;walk_at "s";refine Aa h.io ?_;walk_at "s";refine Aa (DI r) (Ac (lq u rfl) ?_);walk_at "s";exact Ab Tp g
theorem Ki(f:α->V){stp:V->S->(Fl->S->Prop)->Prop}(I:Za α->S->Prop):
 ∀{xs:Za α} {s:S},I xs s->(∀v r s (kk:Fl->S->Prop),I (v::r) s->(∀g,Ai l g.H=Zd lw->I r g->kk .nx g)->(∀g,Ai l g.H=Zd lw->I r g->kk .ct g)->stp (f v) s kk)->(∀s,I [] s->K5 .nx s)->Kj l lw stp K5 (xs.map f) s:=by
 intro xs
 induction xs with
 |nil=>exact @λs A B j=>j s A
 |cons v r h=>exact @λs A u j=>u v r s _ A (λg e z=>⟨e,h z u j⟩) (λg e z=>⟨e,h z u j⟩)
inductive I8(nm:Zf->Zi)(nx rl:Zf)(N:Za Zf)(n0:Zf)(H0:Za (Zf×LW))(np:Z7)(xs:Za Zf)(T:Za Nd×Za Zf×Z7)(r:Za Zf):S->Prop
 |mk (Gi:Za Nd) (rdi:Za Zf) (nfi:Z7) (H:Za (Zf×LW)) (o1 o2 o3 o4 o5:Ze W) (e:Ea r Gi rdi nfi=Zd T) (q:QS nm nx rl N n0 H0 H np nfi Gi rdi):
  I8 nm nx rl N n0 H0 np xs T r ⟨H,nx,[(19,Zd (.o 0)),(108,Zd (.p (.tup (xs.map λx=>V.str (nm x))))),(105,Zd (.o 2)),(87,o1),(97,o2),(109,o3),(111,o4),(112,o5)]⟩
inductive I9(nm:Zf->Zi)(nx rl:Zf)(N:Za Zf)(n0:Zf)(H0:Za (Zf×LW))(np nf:Z7)(ss:Za Zf)(i:Zf)(fr:Ze W->Ze W->Za (Zf×Ze W))(T:Za Nd×Za Zf)(r:Za Zf):S->Prop
 |mk (G:Za Nd) (rd:Za Zf) (H:Za (Zf×LW)) (o4 o5:Ze W) (e:dP r G rd=Zd T) (q:QS nm nx rl N n0 H0 H np nf G rd) (s:Ai (3+2*i+1) H=Zd (.list (ss.map λj=>V.str (nm j)))):
  I9 nm nx rl N n0 H0 np nf ss i fr T r ⟨H,nx,fr o4 o5⟩
theorem lj(g:Dt nm)(h:SF nm H nx (.o rl) np nf (.dictW (Dq nm 3 N)) N G)(hr:Ai rl H=Zd (.list (rd.map λx=>V.str (nm x))))(hl:3+2*G.length<=rl)(hz:xs.length<=900)(hm:Ea xs G rd nf=Zd T)
 (hk:∀H',T.1.length=G.length->SF nm H' nx (.o rl) np T.2.2 (.dictW (Dq nm 3 N)) N T.1->Ai rl H'=Zd (.list (T.2.1.map λx=>V.str (nm x)))->(∀l,3+2*G.length<=l->l≠rl->Ai l H'=Ai l H)->k (.p .none) ⟨H',nx,rho⟩):
 go GQ (n+80) (d+5) (.sts AJ.body (Bs rho k)) ⟨H,nx,[(19,Zd (.o 0)),(108,Zd (.p (.tup (xs.map λx=>V.str (nm x))))),(105,Zs),(87,Zs),(97,Zs),(109,Zs),(111,Zs),(112,Zs)]⟩:=by
 walk_at "s";refine Aa h.io ?_;walk_at "s";refine Aa h.io ?_;walk_at "s";refine qX hz (mEA _ rfl ?_);refine B0 (λx=>V.str (nm x)) (I8 nm nx rl N G.length H np xs T) (.mk G rd nf H Zs Zs Zs Zs Zs hm ⟨h,rfl,hr,λA A A=>rfl,hl⟩) ?_ ?_
 ·rintro x r A kk ⟨Gi,E,D,H1,o1,o2,o3,o4,B,Y,q⟩ k1 k2;refine fX Y λi y ss U ei L R e3 e4=>?_;have hi:3+2*i+1≠rl:=Yp (ZB (q.low L) q.o);walk_at "s";refine BE (BG q.h.dict rfl) (Aa (jq q.h.dict) ?_);refine Aa q.h.dict (mEA _ (q.ix g ei) ?_);walk_at "s";refine Aa (q.h.sl L) ?_;walk_at "s";refine Aa (q.h.sl L) (⟨rfl,?_⟩);refine q.aau L λH2 q2 u A=>?_;walk_at "s";refine Aa (q2.h.sl u) ?_;walk_at "s";refine Aa (q2.h.suc u) ?_;walk_at "s";refine qX R (mEA _ rfl ?_);refine Ki (λj=>V.str (nm j)) (I9 nm nx rl N G.length H np D ss i (λo4 B=>[(19,Zd (.o 0)),(108,Zd (.p (.tup (xs.map λx=>V.str (nm x))))),(105,Zd (.o 2)),(87,Zd (.p (.str (nm x)))),(97,Zd (.o (3+2*i))),(109,Zd (.p (.int (-1)))),(111,o4),(112,B)]) U)
   (.mk _ E H2 o4 B e3 q2 (q2.h.suc u)) ?_ ?_
  ·rintro z r2 A kk ⟨Gj,I,H3,o4,B,e4,q3,X⟩ c1 c2;refine ic e4 λj z4 ej C Q K=>?_;walk_at "s";refine Aa q3.h.dict (Aa (q3.ix g ej) ?_);walk_at "s";refine Aa (q3.h.sl C) ?_;walk_at "s";refine Aa (q3.h.sl C) (⟨rfl,?_⟩);refine q3.aau C λP q4 O f4=>?_;walk_at "s";refine Aa (q4.h.sl O) ?_;walk_at "s";refine Au (λq=>?_) (λq=>?_)
   ·generalize(by simpa using q:z4.2.1-1=0)=q;rw[if_pos q]at K;walk_at "s";refine Aa q4.h.io ?_;walk_at "s";refine BE (BG q4.r rfl) (Aa (BZ q4.r rfl) ?_);walk_at "s";refine Aa q4.r ?_;walk_at "s";refine qX Q (q4.aax (I++[z]) ZA.symm λH5 q5 f5=>?_);generalize((f5 _ hi).trans ((f4 i).trans X))=s5;exact c1 _ s5 (.mk _ _ H5 _ _ K q5 s5)
   ·generalize(by simpa using q: ¬z4.2.1-1=0)=q;rw[Yc q]at K;walk_at "s";generalize((f4 i).trans X)=s4;exact c1 _ s4 (.mk _ _ P _ _ K q4 s4)
  ·rintro A ⟨Gj,I,H3,o4,B,C,q3,X⟩;cases C;walk_at "s";refine Aa q3.h.io ?_;walk_at "s";refine Aa q3.h.io (q3.putA _ _ λP q4=>?_);walk_at "s";exact k1 _ (.mk _ _ _ P _ _ _ _ _ e4 q4)
 ·rintro A ⟨Gi,E,D,H1,o1,o2,o3,o4,B,Y,q⟩;cases Y;walk_at "s";exact hk H1 q.l q.h q.r q.f
end
end
end
section
variable{b:Zl}{b0 x:Zf}{k:Zi}{l:Za Zf}{d:Za (Zi×W)}
structure A2 where
 x:Zf
 i:Zf
 p:Zf
 c:Zf
noncomputable def IK(b:Zl)(x y:α):α:=match b with|true=>x|false=>y
theorem gdE_t{x y:α}(h:b=Zm):IK b x y=x:=by subst h;rfl
theorem EY{x y:α}(h:b=Zh):IK b x y=y:=by subst h;rfl
noncomputable def gp(o:Ze α)(f:α->β)(b:β):β:=match o with|some y=>f y|none=>b
theorem pX{o:Ze α}{a:α}{f:α->β}{b:β}(h:o=Zd a):gp o f b=f a:=by subst h;rfl
theorem pY{o:Ze α}{f:α->β}{b:β}(h:o=Zs):gp o f b=b:=by subst h;rfl
noncomputable def nextM(G:Za Nd):Za A2->Ze (Ze (Zf×Za A2))
 | []=>Zd Zs
 |e::r=>ob (G[e.i]?) λq=>gp (q.2.2[e.p]?) (λy=>Zd (Zd (y,⟨e.x,e.i,e.p+1,e.c⟩::r))) (nextM G r)
noncomputable def td(G:Za Nd)(N:Za Zf):Zf->Zf->Za Zf->Za A2->Ze (Za Zf)
 |0,_,_,_=>Zs
 |f+1,x,seen,st=>IK (BV x seen)
  (gd (!BV x (st.map (·.x))) (ob (nextM G st) λt=>gp t (λp=>td G N f p.1 seen p.2) (Zd seen)))
  (ob (Gf x N) λi=>gd (Yr seen.length 900&&Yr st.length 900) (ob (nextM G (⟨x,i,0,seen.length⟩::st)) λt=>gp t (λp=>td G N f p.1 (seen++[x]) p.2) (Zd (seen++[x]))))
noncomputable def te(G:Za Nd)(N:Za Zf)(f:Zf):Za Zf->Za Zf->Ze (Za Zf)
 | [],seen=>Zd seen
 |x::r,seen=>IK (BV x seen) (te G N f r seen) (ob (td G N f x seen []) λs=>te G N f r s)
section
variable(nm:Zf->Zi)(b0:Zf)
noncomputable def sv(st:Za A2):Za V:=st.reverse.map λe=>.str (nm e.x)
noncomputable def iv(st:Za A2):Za W:=st.reverse.map λe=>.o (b0+4+2*e.c+1)
noncomputable def pd:Za A2->Za (Zi×W)
 | []=>[]
 |e::r=>pd r++[(nm e.x,.p (.int r.length))]
end
theorem FL{e:A2}{r:Za A2}:sv nm (e::r)=sv nm r++[.str (nm e.x)]:=(ZH (Ss _) WE).trans ZA
theorem HD{e:A2}{r:Za A2}:iv b0 (e::r)=iv b0 r++[.o (b0+4+2*e.c+1)]:=(ZH (Ss _) WE).trans ZA
theorem Ky{r:Za A2}:(sv nm r).length=r.length:=(Zz _).trans UA
theorem jU{r:Za A2}:(iv b0 r).length=r.length:=(Zz _).trans UA
theorem ja{r:Za A2}:(pd nm r).length=r.length:=by
 induction r with
 |nil=>rfl
 |cons e r g=>exact Zt.trans (ZH (· +1) g)
theorem lookup_app{a b:Za (Zi×α)}:(a++b).lookup k=(a.lookup k).or (b.lookup k):=by
 induction a with
 |nil=>rfl
 |cons p a g=>
  refine(?_:(match k==p.1 with|true=>Zd p.2|false=>(a++b).lookup k)=(match k==p.1 with|true=>Zd p.2|false=>a.lookup k).or _);cases k==p.1 with
  |true=>rfl
  |false=>exact g
theorem fj:BV x (n::r)=(ZX x n||BV x r):=by
 refine(?_:(match ZX x n with|true=>Zd 0|false=>match Gf x r with|some i=>Zd (i+1)|none=>Zs).isSome=(_||(Gf x r).isSome));cases ZX x n with
 |true=>rfl
 |false=>cases Gf x r<;>rfl
theorem aZ(g:Dt nm)(x:Zf)(r:Za A2):((pd nm r).lookup (nm x)).isSome=BV x (r.map (·.x)):=by
 induction r with
 |nil=>rfl
 |cons e r h=>
  have:(WL (nm x) [(nm e.x,W.p (V.int r.length))]).isSome=ZX x e.x:=by
   refine(?_:(match nm x==nm e.x with|true=>Zd (W.p (V.int r.length))|false=>Zs).isSome=_);refine Ab (g.beq ..) ?_;cases ZX x e.x<;>rfl
  refine Ab ((lookup_app:(pd nm (e::r)).lookup (nm x)=_) ..) ?_;refine Ab (Option.isSome_or ..) ?_;refine Ab (h ..) ?_;refine Ab (this ..) ?_;refine Ab (Bool.or_comm ..) ?_;exact fj.symm
theorem jy:BV x l=Zm↔x∈l:=by unfold BV;refine Ab Lf ?_;refine Ab WM ?_;rfl
theorem HA:BV x l=Zh↔x∉l:=by unfold BV;rw[Lf,Tw]
theorem CV(g:Dt nm)(x:Zf)(l:Za Zf):decide (nm x∈l.map nm)=BV x l:=
 (decide_eq_decide.mpr ⟨λh=>Ag (Ye.mp h) λy h e=>(g.inj e:y=x)▸h,λh=>ZJ h⟩:_=decide (x∈l)).trans Lf.symm
theorem vf(g:Dt nm){r:Za A2}(h:x∉r.map (·.x)):(pd nm r).filter (λp=>decide (p.1≠nm x))=pd nm r:=by
 induction r with
 |nil=>rfl
 |cons q r j=>exact(RH ..).trans (congr (ZH _ (j λk=>h (.tail _ k))) (VS (Yl λz=>h (g.inj z▸ .head _))))
theorem rT(g:Dt nm){e:A2}{r:Za A2}(h:e.x∉r.map (·.x)):delD (nm e.x) (pd nm (e::r))=pd nm r:=by
 refine(RH ..).trans (Ab (vf g h ..) ?_);exact Ab (VT (p:=λp:Zi×W=>decide (p.1≠nm e.x)) (λk=>(of_decide_eq_true k:nm e.x≠nm e.x) rfl) ..) (YL _)
section
variable{l:Zf}
theorem Ll(h:Ai l H=Zd (.setS B8)):lz H .In (.p (.str y)) (.o l)=Zd (decide (y∈B8)):=by
 exact kq h rfl
theorem in_dict(h:Ai l H=Zd (.dictW d)):lz H .In (.p (.str y)) (.o l)=Zd (d.lookup y).isSome:=by
 exact kq h rfl
end
structure CE(H:Za (Zf×LW))(b0:Zf)(G:Za Nd)(seen:Za Zf)(e:A2):Prop where
 a:Ai (b0+4+2*e.c+1) H=Zd (.bnx (b0+4+2*e.c))
 b:Ai (b0+4+2*e.c) H=Zd (.liter (3+2*e.i+1) e.p)
 c:e.c<seen.length
 d:e.x∈seen
 e:∃y n ss,G[e.i]? =Zd (y,n,ss)
structure CF(nm:Zf->Zi)(H0 H:Za (Zf×LW))(b0 ep:Zf)(R:W)(np nf:Z7)(N:Za Zf)(G:Za Nd)(st:Za A2)(seen:Za Zf):Prop where
 sf:SF nm H (b0+4+2*seen.length) R np nf (.dictI (Dq nm 3 N) ep) N G
 b:3+2*G.length<=b0
 stk:Ai b0 H=Zd (.list (sv nm st))
 its:Ai (b0+1) H=Zd (.listw (iv b0 st))∨(st=[]/\Ai (b0+1) H=Zd (.list []))
 sn:Ai (b0+2) H=Zd (.setS (seen.map nm))
 ps:Ai (b0+3) H=Zd (.dictW (pd nm st))
 ent:∀e∈st,CE H b0 G seen e
 dis:st.Pairwise λa b=>a.c≠b.c
 nd:(st.map (·.x)).Nodup
 ls:st.length<=901
 fr:∀l,3+2*G.length<=l->l<b0->Ai l H=Ai l H0
section
variable{H0:Za (Zf×LW)}{ep:Zf}{R:W}{N:Za Zf}{G:Za Nd}{st:Za A2}{seen:Za Zf}{e:A2}
theorem CE.fr(h:CE H b0 G seen e)(u:Ai (b0+4+2*e.c) H'=Ai (b0+4+2*e.c) H)(v:Ai (b0+4+2*e.c+1) H'=Ai (b0+4+2*e.c+1) H):CE H' b0 G seen e:=⟨v.trans h.a,u.trans h.b,h.c,h.d,h.e⟩
theorem CF.push(h:CF nm H0 H b0 ep R np nf N G st seen)(z:Gf x N=Zd i)(A:BV x seen=Zh)(O:st.length<=900)
 (r:∀l,l<b0∨(b0+4<=l/\l<b0+4+2*seen.length)->Ai l H'=Ai l H) (B:Ai b0 H'=Zd (.list (sv nm st++[.str (nm x)]))) (L:Ai (b0+1) H'=Zd (.listw (iv b0 st++[.o (b0+4+2*seen.length+1)])))
 (C:Ai (b0+2) H'=Zd (.setS (seen.map nm++[nm x]))) (I:Ai (b0+3) H'=Zd (.dictW (pd nm st++[(nm x,.p (.int st.length))])))
 (u:Ai (b0+4+2*seen.length) H'=Zd (.liter (3+2*i+1) 0)) (D:Ai (b0+4+2*seen.length+1) H'=Zd (.bnx (b0+4+2*seen.length))):CF nm H0 H' b0 ep R np nf N G (⟨x,i,0,seen.length⟩::st) (seen++[x]) where
 sf:=h.sf.frame (Yy (Y1 2 (by refine Ab (Zt ..) ?_;exact ZF _ _)) _) λl q=>r l (.inl (ZB q h.b))
 b:=h.b
 stk:=FL▸B
 its:=.inl (HD▸L)
 sn:=ZA▸C
 ps:=I
 ent:=λe j=>by
  rcases Zr.mp j with rfl|j
  ·exact⟨D,u,by refine Ab Zt ?_;exact YI _,Zq _ (.head _),gy (h.sf.ix z) λn ss g=>⟨_,n,ss,g⟩⟩
  ·have t:=h.ent e j;have s:b0+4+2*e.c+1<b0+4+2*seen.length:=Yy (Y1 2 t.c) (b0+4);exact⟨(r _ (.inr ⟨ZF _ (2*e.c+1),s⟩)).trans t.a,(r _ (.inr ⟨ZF _ _,X9 s⟩)).trans t.b,by refine Ab Zt ?_;exact Xh t.c,Zk _ t.d,t.e⟩
 dis:=Wv.mpr ⟨λa E=>qj (h.ent a E).c,h.dis⟩
 nd:=Z0.mpr ⟨λq=>Ag (Ye.mp q) λe j K=>HA.mp A ((show e.x=x from K)▸(h.ent e j).d),h.nd⟩
 ls:=Xq O
 fr:=λl q1 q2=>(r l (.inl q2)).trans (h.fr l q1 q2)
theorem CF.pop(h:CF nm H0 H b0 ep R np nf N G (e::st) seen)(r:∀l,l≠b0->l≠b0+1->l≠b0+3->l≠b0+4+2*e.c->l≠b0+4+2*e.c+1->Ai l H'=Ai l H)
 (A:Ai b0 H'=Zd (.list (sv nm st))) (C:Ai (b0+1) H'=Zd (.listw (iv b0 st))) (B:Ai (b0+3) H'=Zd (.dictW (pd nm st))):CF nm H0 H' b0 ep R np nf N G st seen:=
 have u:∀l,l<b0->Ai l H'=Ai l H:=λl q=>r l (Yp q) (lb q) (lb q) (ua q) (ua (j:=2*e.c+1) q);have pw:=Wv.mp h.dis
 ⟨h.sf.frame (ZL _) λl q=>u l (ZB q h.b),h.b,A,.inl C,(r _ (Fk (a:=2) (c:=0) tW.symm) (Fk tU.symm) (Fk wH) (o4 tP) (o4 (c:=2*e.c+1) tP)).trans h.sn,B,
  λg s=>have t:=h.ent g (.tail _ s)
   have z:g.c≠e.c:=(pw.1 g s).symm
   t.fr (r _ (o4 (j:=0) lS).symm (o4 lR).symm (o4 lQ).symm (wG z) tR.symm) (r _ (o4 (j:=0) (c:=2*g.c+1) lS).symm (o4 (c:=2*g.c+1) lR).symm (o4 (c:=2*g.c+1) lQ).symm tR (zp z)),
  pw.2,(Z0.mp h.nd).2,Yf h.ls,λl q1 q2=>(u l q2).trans (h.fr l q1 q2)⟩
theorem CF.nxt(h:CF nm H0 H b0 ep R np nf N G (e::st) seen)(u:Ai (b0+1) H=Zd (.listw (iv b0 (e::st))))(z:∀l,Ai l H'=if l=b0+4+2*e.c then Zd (.liter (3+2*e.i+1) (e.p+1))else Ai l H):CF nm H0 H' b0 ep R np nf N G (⟨e.x,e.i,e.p+1,e.c⟩::st) seen:=
 have g:∀l,l≠b0+4+2*e.c->Ai l H'=Ai l H:=λl q=>up (z l) q;have pw:=Wv.mp h.dis;have s:=h.ent e (.head _)
 ⟨h.sf.frame (ZL _) λl q=>g l (ua (ZB q h.b)),h.b,(g _ (o4 (j:=0) lS)).trans (h.stk.trans (ZH (λl=>Zd (LW.list l)) (FL.trans (FL (e:=⟨e.x,e.i,e.p+1,e.c⟩)).symm))),
  .inl ((g _ (o4 lR)).trans (u.trans (ZH (λl=>Zd (LW.listw l)) (HD.trans (HD (e:=⟨e.x,e.i,e.p+1,e.c⟩)).symm)))),(g _ (o4 tP)).trans h.sn,(g _ (o4 lQ)).trans h.ps,
  λA r=>by
   rcases Zr.mp r with rfl|r
   ·exact⟨(g _ (Yq _)).trans s.a,(z _).trans (if_pos rfl),s.c,s.d,s.e⟩
   ·exact(h.ent A (.tail _ r)).fr (g _ (wG (pw.1 A r).symm)) (g _ tR),
  Wv.mpr pw,h.nd,h.ls,λl q1 q2=>(g l (ua q2)).trans (h.fr l q1 q2)⟩
end
end
section
variable{k:Fl->S->Prop}{s:S}{H2:Za (Zf×LW)}{seen':Za Zf}
noncomputable section
section
variable{H0:Za (Zf×LW)}{b0 ep:Zf}{R:W}{N:Za Zf}{G:Za Nd}{st:Za A2}{seen:Za Zf}
noncomputable def Ho(b0:Zf)(o:Ze W):Za (Zf×Ze W):=[(19,Zd (.o 0)),(105,Zd (.o 2)),(113,Zd (.o b0)),(114,Zd (.o (b0+1))),(115,Zd (.o (b0+2))),(116,Zd (.o (b0+3))),(87,o)]
def WI(m d:Zf)(k:Fl->S->Prop)(K:Zf)(s:S):Prop:=GE (λkk g=>go GQ m d (.ts (.nm 113) kk) g) (λg kk=>go GQ m d (.sts [.tryNx 87 114 116 113] kk) g) (λg kk=>go GQ m d (.sts [.brk] kk) g) k K s
theorem ki(g:Dt nm)(hb:nextM G st=Zd Zs->∀H',CF nm H0 H' b0 ep R np nf N G [] seen->∀o,k .br ⟨H',b0+4+2*seen.length,Ho b0 o⟩)
 (hn:∀H' y B,nextM G st=Zd (Zd (y,B))->CF nm H0 H' b0 ep R np nf N G B seen->k .nx ⟨H',b0+4+2*seen.length,Ho b0 (Zd (.p (.str (nm y))))⟩):
 ∀{H:Za (Zf×LW)} {o:Ze W},CF nm H0 H b0 ep R np nf N G st seen->∃K,WI (n+10) d k K ⟨H,b0+4+2*seen.length,Ho b0 o⟩:=by
 induction st with
 |nil=>
  intro H o h;refine⟨1,?_⟩;walk_at "s";refine Aa h.stk ?_;walk_at "s";walk_at "s";exact hb rfl H h o
 |cons e r ih=>
  intro H o h;have t:=h.ent e (.head _);refine ac t.e λy0 n0 ss b5=>?_;have hs:=h.sf.suc b5;have I:Ai (b0+1) H=Zd (.listw (iv b0 (e::r))):=h.its.elim id λq=>ZT q.1 (XU _ _);have u:Ai (b0+1) H=Zd (.listw (iv b0 r++[.o (b0+4+2*e.c+1)])):=HD▸I;have Q:r.length<=900:=Nat.le_of_succ_le_succ h.ls;have E:(sv nm (e::r)).isEmpty=false:=by refine Ab FL ?_;cases sv nm r<;>rfl
  have O:(sv nm (e::r)).length<=16777216:=q1 (Ky▸h.ls) rfl;have L:(iv b0 r).length<=1000:=q1 (jU▸Q) rfl;cases ey:ss[e.p]? with
  |some y=>
   have T:nextM G (e::r)=Zd (Zd (y,⟨e.x,e.i,e.p+1,e.c⟩::r)):=(Ik b5).trans (pX ey);refine⟨1,?_⟩;walk_at "s";refine Aa h.stk ?_;walk_at "s";refine Ac O (Ab E ?_);walk_at "s";refine .nx (b0+1) (iv b0 r) (b0+4+2*e.c+1) (b0+4+2*e.c) (3+2*e.i+1) e.p (ss.map λj=>V.str (nm j)) ⟨rfl,u,t.a,t.b,hs,L⟩ (.str (nm y)) (by refine Ab (Za.getElem?_map ..) ?_;refine Ab ey ?_;rfl) ?_;refine Ag (Bm (.liter (3+2*e.i+1) (e.p+1)) t.b) λD U a1=>Aa U ?_;walk_at "s";exact hn D y _ T (h.nxt I a1)
  |none=>
   have T:nextM G (e::r)=nextM G r:=(Ik b5).trans (pY ey);refine Cb λPP1 P=>Ag (j2 t.a) λHa pa la=>Ag (j2 (l:=b0+4+2*e.c) (v:=.liter (3+2*e.i+1) e.p) (H:=Ha) ((la _ (Yq _).symm).trans t.b)) λD p1 l1=>?_;have l1:∀l,l≠b0+4+2*e.c->l≠b0+4+2*e.c+1->Ai l D=Ai l H:=λl q1 q2=>(l1 l q1).trans (la l q2);have f1:Ai b0 D=Zd (.list (sv nm r++[.str (nm e.x)])):=(l1 _ (o4 (j:=0) lS) (o4 (j:=0) (c:=2*e.c+1) lS)).trans (FL▸h.stk);have f2:Ai (b0+3) D=Zd (.dictW (pd nm (e::r))):=(l1 _ (o4 lQ) (o4 (c:=2*e.c+1) lQ)).trans h.ps;have f3:Ai (b0+1) D=Zd (.listw (iv b0 r++[.o (b0+4+2*e.c+1)])):=(l1 _ (o4 lR) (o4 (c:=2*e.c+1) lR)).trans u;refine Ag (Bm (.list (sv nm r)) f1) λH2 Y z=>Ag (Bm (H:=H2) (l:=b0+3) (.dictW (delD (nm e.x) (pd nm (e::r)))) ((up (z _) (Fk (c:=0) tV.symm)).trans f2)) λH3 X C=>Ag (Bm (H:=H3) (l:=b0+1) (.listw (iv b0 r)) ((up (C _) (Fk tT)).trans ((up (z _) (Fk (c:=0) tX.symm)).trans f3))) λH4 a0 A=>?_;have a2:CF nm H0 H4 b0 ep R np nf N G r seen:=h.pop (λl q1 q2 q3 q4 q5=>(up (A l) q2).trans ((up (C l) q3).trans ((up (z l) q1).trans (l1 l q4 q5))))
    ((up (A _) (Fk (a:=0) tX)).trans ((up (C _) (Fk (a:=0) tV)).trans ((z _).trans (if_pos rfl)))) ((A _).trans (if_pos rfl)) ((up (A _) (Fk tT.symm)).trans (((C _).trans (if_pos rfl)).trans (ZH (λl=>Zd (LW.dictW l)) (rT g (Z0.mp h.nd).1))))
   refine xE (ih (λq=>hb (T.trans q)) (λH' y B q=>hn H' y B (T.trans q)) (o:=o) a2) λK hK=>P (⟨K+1,?_⟩);walk_at "s";refine Aa h.stk ?_;walk_at "s";refine Ac O (Ab E ?_);walk_at "s";refine .st (b0+1) (iv b0 r) (b0+4+2*e.c+1) (b0+4+2*e.c) (3+2*e.i+1) e.p (ss.map λj=>V.str (nm j)) ⟨rfl,u,t.a,t.b,hs,L⟩ (by refine Ab (Za.getElem?_map ..) ?_;refine Ab ey ?_;rfl) D b0 (b0+3) (sv nm r) (nm e.x) (pd nm (e::r)) ⟨pa.trans (p1.cons _),rfl,f1,rfl,f2,f3,Fk (a:=0) tV,Fk (a:=0) tX,Fk tT.symm,(aZ g ..).trans (jy.mpr (.head _)),by refine Ab ja ?_;exact Zw (YZ (q1 h.ls rfl)),q1 (Ky▸Q) rfl⟩ ?_;refine Aa Y (Aa X ?_);refine Aa a0 ?_;walk_at "s";exact hK
noncomputable def oB:Za PS:=[(.ite (.cmp .In (.nm 87) (.nm 115)) [(.ite (.cmp .In (.nm 87) (.nm 116)) [.any] [])] [(.expr (.meth (.nm 115) 11 [(.nm 87)])),(.expr (.meth (.nm 114) 1 [(.attr (.callb .iter Zh [(.attr (.sub (.nm 105) (.nm 87)) 89)]) 18)])),(.asgs (.nm 116) (.nm 87) (.callb .len Zh [(.nm 113)])),(.expr (.meth (.nm 113) 1 [(.nm 87)]))]),(.while_ (.nm 113) [(.tryNx 87 114 116 113)] [.brk])]
def WO(m d:Zf)(k:Fl->S->Prop)(K:Zf)(s:S):Prop:=GE (λkk g=>go GQ m d (.ts (.bool Zm) kk) g) (λg kk=>go GQ m d (.sts oB kk) g) (λg kk=>go GQ m d (.sts [] kk) g) k K s
theorem qC{m:Zf}(h:∃K,WI m d k K s):∃K,GE (λkk r=>Wh (motive:=λg=>Zf->Task->S->Prop) (λg g g=>ZP) (λg j d t s=>LP GQ j d t s) m d (.ts (.nm 113) kk) r) (λr kk=>Wh (motive:=λg=>Zf->Task->S->Prop) (λg g g=>ZP) (λg j d t s=>LP GQ j d t s) m d (.sts [.tryNx 87 114 116 113] kk) r) (λr kk=>Wh (motive:=λg=>Zf->Task->S->Prop) (λg g g=>ZP) (λg j d t s=>LP GQ j d t s) m d (.sts [.brk] kk) r) k K s:=h
def ko(m d:Zf)(k:Fl->S->Prop)(f:Zf)(q:Fl)(g:S):Prop:=match q with
 |.nx=>WO m d k f g
 |.ct=>WO m d k f g
 |.br=>k .nx g
 |.rt w=>k (.rt w) g
noncomputable def yI(G:Za Nd)(N:Za Zf)(f:Zf)(seen:Za Zf)(st:Za A2):Ze (Za Zf):=ob (nextM G st) λt=>gp t (λp=>td G N f p.1 seen p.2) (Zd seen)
section
variable{f:Zf}
theorem hV(g:Dt nm)(s:∀H' o,CF nm H0 H' b0 ep R np nf N G [] seen'->k .nx ⟨H',b0+4+2*seen'.length,Ho b0 o⟩)
 (u:∀(x:Zf) (seen:Za Zf) (st:Za A2) (H:Za (Zf×LW)),td G N f x seen st=Zd seen'->CF nm H0 H b0 ep R np nf N G st seen->WO (n+30) d k f ⟨H,b0+4+2*seen.length,Ho b0 (Zd (.p (.str (nm x))))⟩)
 {o:Ze W} (h:CF nm H0 H b0 ep R np nf N G st seen) (e:yI G N f seen st=Zd seen'):∃K,WI (n+27) d (gR (go GQ (n+28)) d [] (ko (n+30) d k f)) K ⟨H,b0+4+2*seen.length,Ho b0 o⟩:=
 ki (n:=n+17) g (λr H' h' o=>by cases(Ik r).symm.trans e;exact s H' o h') (λH' y j r h'=>u y seen j H' ((Ik r).symm.trans e) h') h
theorem jb(g:Dt nm)(hk:∀H' o,CF nm H0 H' b0 ep R np nf N G [] seen'->k .nx ⟨H',b0+4+2*seen'.length,Ho b0 o⟩)
 (ih:∀(tk:Zf) (seen:Za Zf) (st:Za A2) (H:Za (Zf×LW)),td G N f tk seen st=Zd seen'->CF nm H0 H b0 ep R np nf N G st seen->WO (n+30) d k f ⟨H,b0+4+2*seen.length,Ho b0 (Zd (.p (.str (nm tk))))⟩)
 (h:CF nm H0 H b0 ep R np nf N G st seen) (ei:Gf tk N=Zd i) (Q:BV tk seen=Zh) (I:st.length<=900) (e:yI G N f (seen++[tk]) (⟨tk,i,0,seen.length⟩::st)=Zd seen')
 (u:∀l,l≠b0+1->l≠b0+2->l≠b0+4+2*seen.length->l≠b0+4+2*seen.length+1->Ai l H2=Ai l H) (g1:Ai (b0+1) H2=Zd (.listw (iv b0 st++[.o (b0+4+2*seen.length+1)]))) (g2:Ai (b0+2) H2=Zd (.setS (seen.map nm++[nm tk])))
 (g3:Ai (b0+4+2*seen.length) H2=Zd (.liter (3+2*i+1) 0)) (Y:Ai (b0+4+2*seen.length+1) H2=Zd (.bnx (b0+4+2*seen.length))):
 yJ (gR (go GQ (n+26)) d [.asgs (.nm 116) (.nm 87) (.callb .len Zh [.nm 113]),.expr (.meth (.nm 113) 1 [.nm 87])] (gR (go GQ (n+29)) d [.while_ (.nm 113) [.tryNx 87 114 116 113] [.brk]] (ko (n+30) d k f))) (.p .none) ⟨H2,b0+4+2*seen.length+1+1,Ho b0 (Zd (.p (.str (nm tk))))⟩:=by
 have L:(pd nm st).lookup (nm tk)=none:=Option.isSome_eq_false_iff.mp ((aZ g tk st).trans (HA.mpr λq=>Ag (Ye.mp q) λe' E ee=>HA.mp Q (ee▸(h.ent e' E).d)))|>U3.mp;have B:(sv nm st).length<=900:=Ky▸I;have P:Ai b0 H2=Zd (.list (sv nm st)):=(u _ (Fk (a:=0) tX) (Fk (a:=0) tW) (o4 (j:=0) lS) (o4 (j:=0) (c:=2*seen.length+1) lS)).trans h.stk;have T:Ai (b0+3) H2=Zd (.dictW (pd nm st)):=(u _ (Fk tT.symm) (Fk wH.symm) (o4 lQ) (o4 (c:=2*seen.length+1) lQ)).trans h.ps;walk_at "s";refine Aa (DI P) ?_;walk_at "s";refine Ac (q1 B rfl) ?_;walk_at "s";refine Aa T (⟨YZ (q1 (ja▸I) rfl),?_⟩);refine Ag (Bm (.dictW (putD (nm tk) (.p (.int (sv nm st).length)) (pd nm st))) T) λU D z=>Aa D ?_;rw[MG L,Ky]at z;walk_at "s";have C:Ai b0 U=Zd (.list (sv nm st)):=(up (z _) (Fk (a:=0) tV)).trans P;refine BE (BG C rfl) (Aa (BZ C rfl) ?_);walk_at "s";refine Aa C ?_;walk_at "s";refine Ac (q1 B rfl) (Ag (Bm (.list (sv nm st++[.str (nm tk)])) C) λO K A=>?_);refine Aa K ?_;walk_at "s";have v:∀l,l≠b0->l≠b0+3->Ai l O=Ai l H2:=λl a b=>(up (A l) a).trans (up (z l) b);have X:=h.push (H':=O) ei Q I (λl q=>q.elim (λq=>(v l (Yp q) (lb q)).trans (u l (lb q) (lb q) (ua q) (ua (j:=2*seen.length+1) q)))
  λq=>have r:∀{j},j<4->l≠b0+j:=λc=>Y2 (ZB (Uz c b0) q.1);(v l (r lS) (r lQ)).trans (u l (r lR) (r tP) (Yp q.2) (Yp (Xh q.2))))
  ((A _).trans (if_pos rfl)) ((v _ (Fk (c:=0) tX.symm) (Fk tT)).trans g1) ((v _ (Fk (c:=0) tW.symm) (Fk wH)).trans g2) ((up (A _) (Fk (c:=0) tV.symm)).trans ((z _).trans (if_pos rfl)))
  ((v _ (o4 (j:=0) lS).symm (o4 lQ).symm).trans g3) ((v _ (o4 (j:=0) (c:=2*seen.length+1) lS).symm (o4 (c:=2*seen.length+1) lQ).symm).trans Y)
 refine qC (m:=n+27) (Ab ((by rw[Zt];rfl:b0+4+2*seen.length+1+1=b0+4+2*(seen++[tk]).length) ..) ?_);exact hV g hk ih X e
end
theorem jc(g:Dt nm)(O:∀H' o,CF nm H0 H' b0 ep R np nf N G [] seen'->k .nx ⟨H',b0+4+2*seen'.length,Ho b0 o⟩)(f:Zf):
 ∀(x:Zf) (seen:Za Zf) (st:Za A2) (H:Za (Zf×LW)),td G N f x seen st=Zd seen'->CF nm H0 H b0 ep R np nf N G st seen->WO (n+30) d k f ⟨H,b0+4+2*seen.length,Ho b0 (Zd (.p (.str (nm x))))⟩:=by
 induction f with
 |zero=>exact λx seen st H e=>nj e
 |succ f P=>
  intro x seen st H e h;cases hm:BV x seen with
  |true=>
   refine AH ((gdE_t hm).symm.trans e) λC e=>?_;rw[YQ]at C;walk_at "s";refine Aa (Ll h.sn) (Ab (CV g ..) ?_);refine Ab hm ?_;walk_at "s";refine Aa (in_dict h.ps) (Ab (aZ g ..) ?_);refine Ab C ?_;walk_at "s";exact qC (m:=n+27) (hV g O P h e)
  |false=>
   refine Ah ((EY hm).symm.trans e) λi ei e=>AH e λK e=>?_;have K:=Yi.mp K;have D:=Zw K.2;refine gy (h.sf.ix ei) λT ss I=>?_;walk_at "s";refine Aa (Ll h.sn) (Ab (CV g ..) ?_);refine Ab hm ?_;walk_at "s";refine BE (BG h.sn rfl) (Aa (so h.sn) ?_);walk_at "s";refine Aa h.sn (⟨YZ (lq (Zw K.1) rfl),?_⟩);refine Ag (Bm (.setS (seen.map nm++[nm x])) h.sn) λB L u=>Aa L ?_;have A:=h.sf.frame (H':=B) (ZL _) λl q=>up (u l) (lb (ZB q h.b));have fin:∀{v H2},(∀l,Ai l H2=if l=b0+1 then Zd v else Ai l ((b0+4+2*seen.length+1,.bnx (b0+4+2*seen.length))::(b0+4+2*seen.length,.liter (3+2*i+1) 0)::B))->v=.listw (iv b0 st++[.o (b0+4+2*seen.length+1)])->_:=λr Q=>jb (n:=n) (d:=d) (H2:=_) g O P h ei hm D e (λl q1 q2 q3 q4=>(up (r l) q1).trans ((up AE q4).trans ((up AE q3).trans (up (u l) q2)))) ((r _).trans ((if_pos rfl).trans (ZH Zd Q)))
    ((up (r _) (Fk tU.symm)).trans ((up AE (o4 (c:=2*seen.length+1) tP)).trans ((up AE (o4 tP)).trans ((u _).trans (if_pos rfl))))) ((up (r _) (o4 lR).symm).trans ((up AE (Yq _).symm).trans Cl)) ((up (r _) (o4 (c:=2*seen.length+1) lR).symm).trans Cl)
   have E:∀{v},Ai (b0+1) B=v->Ai (b0+1) ((b0+4+2*seen.length+1,.bnx (b0+4+2*seen.length))::(b0+4+2*seen.length,.liter (3+2*i+1) 0)::B)=v:=λq=>Bg (o4 (c:=2*seen.length+1) lR) (Bg (o4 lR) q);walk_at "s";rcases h.its with hits|⟨es,hits⟩
   ·have j:Ai (b0+1) B=Zd (.listw (iv b0 st)):=(up (u _) (Fk tU)).trans hits;refine BE (BG j rfl) (Aa (nC j) ?_);walk_at "s";refine Aa A.dict (Aa (ce g ei) ?_);walk_at "s";refine Aa (A.sl I) ?_;walk_at "s";refine Aa (A.suc I) ?_;walk_at "s";refine Aa (v:=b0+4+2*seen.length) (cW Cl) ?_;walk_at "s";refine Aa (E j) ?_;walk_at "s";refine Ac (q1 (Zv (Z1 jU) D) rfl) (Ag (Bm (.listw (iv b0 st++[.o (b0+4+2*seen.length+1)])) (E j)) λH2 z r=>?_);exact Aa z (fin r rfl)
   ·have j:Ai (b0+1) B=Zd (.list []):=(up (u _) (Fk tU)).trans hits;refine BE (BG j rfl) (Aa (BZ j rfl) ?_);walk_at "s";refine Aa A.dict (Aa (ce g ei) ?_);walk_at "s";refine Aa (A.sl I) ?_;walk_at "s";refine Aa (A.suc I) ?_;walk_at "s";refine Aa (v:=b0+4+2*seen.length) (cW Cl) ?_;walk_at "s";refine Aa (E j) ?_;walk_at "s";exact Ag (Bm (.listw (([]:Za W)++[.o (b0+4+2*seen.length+1)])) (E j)) λH2 z r=>Aa z (fin r (Ab es (rfl)))
end
end
end
section
variable{x:Zf}{ps l:Za Zf}
noncomputable def FT:Za Nd->Za Zf
 | []=>[]
 |(x,n,_)::r=>if n=0 then x::FT r else FT r
noncomputable def JQ(steps:Za (Zf×Zf))(x:Zf):Za Nat:=match steps with
 | []=>[]
 |p::r=>match ZX p.2 x with|true=>p.1::JQ r x|false=>JQ r x
noncomputable def LM(steps:Za (Zf×Zf)):Za Zf->Za Nd->Ze (Za Nd)
 | [],G=>Zd G
 |x::r,G=>ob (tJ x (JQ steps x) G) λg=>LM steps r g
noncomputable def E1(g:Zf):Za Zf->Za Nd->Za Zf->Z7->Za Zf->Ze (Za Nd×Za Zf×Z7×Za Zf)
 | [],G,rd,nf,er=>Zd (G,rd,nf,er)
 |x::r,G,rd,nf,er=>gd (Yr er.length 900) (IK (ZX x g) (E1 g r G rd nf (er++[x])) (ob (Ea [x] G rd nf) λT=>E1 g r T.1 T.2.1 T.2.2 (er++[x])))
noncomputable def GS(g:Zf):Zf->Za Nd->Za Zf->Z7->Z7->Za Zf->Ze (Za Nd×Za Zf×Z7×Z7×Za Zf)
 |0,G,rd,np,nf,er=>Zd (G,rd,np,nf,er)
 |k+1,G,rd,np,nf,er=>gd (Yr rd.length 900) (ob (Eo rd G) λh=>ob (E1 g rd h [] nf er) λT=>GS g k T.1 T.2.1 (np+rd.length) T.2.2.1 T.2.2.2)
noncomputable def Kc:Zf->Za Nd->Za Zf->Z7->Z7->Za Zf->Ze (Za Zf×Z7×Z7×Za Zf)
 |0,_,rd,np,nf,lt=>Zd (rd,np,nf,lt)
 |k+1,G,rd,np,nf,lt=>gd (Yr rd.length 900&&Yr lt.length 900) (ob (Eo rd G) λg=>ob (Ea rd g [] nf) λT=>Kc k T.1 T.2.1 (np+rd.length) T.2.2 (lt++rd))
noncomputable def pD(rd:Za Zf)(np nf:Z7):Bool:=decide (nf<np)|| !rd.isEmpty
noncomputable def jI(names:Za Zf)(steps:Za (Zf×Zf))(g:Zf):Ze (Za Zf):=
 ob (LM steps names []) λG=>gd (Yr G.length 900) (ob (te G (G.map (·.1)) 100 (G.map (·.1)) []) λh=>ob (GS g names.length G (FT G) 0 0 []) λE=>gd (pD E.2.1 E.2.2.1 E.2.2.2.1) (gd (Yr E.2.1.length 900) (ob (Ea [g] E.1 E.2.1 E.2.2.2.1) λD=>ob (Kc names.length D.1 D.2.1 E.2.2.1 D.2.2 []) λL=>gd (!pD L.1 L.2.1 L.2.2.1) (gd (Yr L.1.length 900) (gd ((E.2.2.2.2++L.2.2.2).isPerm names) (Zd L.2.2.2))))))
theorem lJ(h:tJ x ps L9=Zd M5):ps.length<=900:=Ah h λg g h=>Ah h λg g h=>AH h λe g=>Zw e
theorem fm:∀{G j:Za Nd},Eo l G=Zd j->j.length=G.length:=by
 induction l with
 |nil=>intro g g h;cases h;rfl
 |cons x r s=>exact λh=>Ah h λg g h=>Ah h λg g h=>(s h).trans W2
end
section
variable{s:S}{f:Zf}
theorem ii(G:Za Nd):(FT G).length<=G.length:=by
 induction G with
 |nil=>exact ZL _
 |cons p r g=>
  show(if p.2.1=0 then p.1::FT r else FT r).length<=_;by_cases e:p.2.1=0
  ·exact Ab (if_pos e ..) (Xq g)
  ·exact Ab (Yc e ..) (XO g)
theorem aK:∀(G:Za Nd) (b:Zf),(∀j x n ss,G[j]? =Zd (x,n,ss)->∃t,FO H (.o (b+2*j))=Zd (.p (.str (nm x))::.p (.int n)::t))->DK H (Dq nm b (G.map (·.1)))=Zd ((FT G).map λx=>V.str (nm x)):=by
 intro G
 induction G with
 |nil=>exact λA A=>rfl
 |cons s r g=>
  obtain⟨x,n,ss⟩:=s;intro b h;refine xE (h 0 x n ss rfl) λt u=>?_;generalize(g (b+2) λj x n ss e=>by
   have:=h (j+1) x n ss (by refine Ab (Za.getElem?_cons_succ ..) ?_;exact e);rw[show b+2*(j+1)=b+2+2*j by lia]at this;exact this)=z
  refine Ab Z3 ((?_:(ob (FO H (.o b)) λws=>ob (rj ws) λt=>ob (DK H (Dq nm (b+2) (r.map (·.1)))) λl=>Zd (Mw t.2 t.1++l))=_));rw[show b+2*0=b from rfl]at u;refine Ab u (Ab z ?_);show Zd (Mw n (nm x)++_)=Zd ((if n=0 then x::FT r else FT r).map _);unfold Mw;split<;>rfl
noncomputable section
section
variable{H0:Za (Zf×LW)}{b0:Zf}{R:W}{N:Za Zf}{G:Za Nd}{seenF:Za Zf}
theorem vQ{m:Zf}(h:∃K,WO m d K5 K s):∃K,GE (λkk r=>Wh (motive:=λg=>Zf->Task->S->Prop) (λg g g=>ZP) (λg j d t s=>LP GQ j d t s) m d (.ts (.bool Zm) kk) r) (λr kk=>Wh (motive:=λg=>Zf->Task->S->Prop) (λg g g=>ZP) (λg j d t s=>LP GQ j d t s) m d (.sts oB kk) r) (λr kk=>Wh (motive:=λg=>Zf->Task->S->Prop) (λg g g=>ZP) (λg j d t s=>LP GQ j d t s) m d (.sts [] kk) r) K5 K s:=h
inductive IC(nm:Zf->Zi)(H:Za (Zf×LW))(b0 ep:Zf)(R:W)(np nf:Z7)(N:Za Zf)(G:Za Nd)(f:Zf)(seenF:Za Zf)(r:Za Zf):S->Prop
 |mk (seen:Za Zf) (H2:Za (Zf×LW)) (o:Ze W) (e:te G N f r seen=Zd seenF) (h:CF nm H H2 b0 ep R np nf N G [] seen):IC nm H b0 ep R np nf N G f seenF r ⟨H2,b0+4+2*seen.length,Ho b0 o⟩
theorem tB(g:Dt nm)(h:SF nm H b0 R np nf (.dictW (Dq nm 3 N)) N G)(hz:N.length<=900)(hm:te G N f N []=Zd seenF)
 (hk:∀H',SF nm H' (b0+4+2*seenF.length) R np nf (.dictW (Dq nm 3 N)) N G->(∀l,3+2*G.length<=l->l<b0->Ai l H'=Ai l H)->k (.p .none) ⟨H',b0+4+2*seenF.length,rho⟩):
 go GQ (n+80) (d+5) (.sts AA.body (Bs rho k)) ⟨H,b0,[(19,Zd (.o 0)),(105,Zs),(113,Zs),(114,Zs),(115,Zs),(116,Zs),(87,Zs)]⟩:=by
 have A:=h.lo;have l3:3<=b0:=Zv (ZF 3 _) A;have E:∀j,b0+j≠2:=λj=>Y2 (ZB l3 (ZF b0 j));have U:∀{l},l<b0->Ai l ((b0+1+1+1,LW.dictW [])::(b0+1+1,LW.setS [])::(b0+1,LW.list [])::(b0,LW.list [])::H)=Ai l H:=λq=>Bg (lb (j:=3) q) (Bg (lb (j:=2) q) (Bg (lb (j:=1) q) (Bg (lb (j:=0) q) rfl)));have q2:=(U l3).trans h.dict;walk_at "s";refine Aa h.io ?_;walk_at "s";refine Aa (v:=.dictW (Dq nm 3 N)) q2 ?_;refine Ac (by refine Ab (LD ..) ?_;exact q1 hz rfl) ?_;intro O;refine mEA _ ((lp N 3).symm) (Ag (Bm (.dictI (Dq nm 3 N) O) q2) λK Q z=>?_);refine Aa Q ?_;have f1:∀l,l≠2->l<b0->Ai l K=Ai l H:=λl a b=>(up (z l) a).trans (U b);have P:CF nm H K b0 O R np nf N G [] []:=⟨⟨(f1 0 tW (ZB wK l3)).trans h.inst,(f1 1 tU (ZB sE l3)).trans h.atts,(z 2).trans (if_pos rfl),h.nds.fr λi t=>⟨f1 _ (lo3 lT).symm (ZB (xO t) A),f1 _ (nO lT).symm (ZB (j1 t) A)⟩,h.nms,Zv A (ZF _ _)⟩,
  A,(up (z _) (E 0)).trans (Bg (Fk (a:=0) tV) (Bg (Fk (a:=0) tW) (Bg (Fk (a:=0) tX) Cl))),.inr ⟨rfl,(up (z _) (E 1)).trans (Bg (Fk tT) (Bg (Fk tU) Cl))⟩,(up (z _) (E 2)).trans (Bg (Fk wH) Cl),(up (z _) (E 3)).trans Cl,
  λe he=>ZT he ZE,.nil,.nil,XG _,λl a b=>f1 l (Y2 (ZB lT (Zv (ZF 3 _) a))) b⟩
 refine Ki (λx=>V.str (nm x)) (IC nm H b0 O R np nf N G f seenF) (.mk [] K Zs hm P) ?_ ?_
 ·intro x r z_ kk T k1 k2;cases T with|mk u L o e B=>
  cases hx:BV x u with
  |true=>
   walk_at "s";refine Aa (Ll B.sn) (Ab (CV g ..) ?_);refine Ab hx ?_;walk_at "s";exact k2 _ B.sf.dict (.mk u L _ ((gdE_t hx).symm.trans e) B)
  |false=>
   refine Ah ((EY hx).symm.trans e) λC Y e=>?_;walk_at "s";refine Aa (Ll B.sn) (Ab (CV g ..) ?_);refine Ab hx ?_;walk_at "s";refine vQ (m:=n+70) ⟨f,?_⟩;refine jc (n:=n+40) g (λH' o' h'=>?_) f x u [] L Y B;walk_at "s";exact k1 _ h'.sf.dict (.mk C H' _ e h')
 ·intro z_ T;cases T with|mk u L o e B=>
  cases e;refine⟨B.sf.dict,?_⟩;refine Ag (Bm (.dictW (Dq nm 3 N)) B.sf.dict) λX I D=>Aa I ?_;walk_at "s";exact hk X (B.sf.setD D) λl a b=>(up (D l) (Y2 (ZB lT (Zv (ZF 3 _) a)))).trans (B.fr l a b)
theorem nv(g:Dt nm)(h:SF nm H b0 (.p .none) np nf (.dictW (Dq nm 3 N)) N G)(B:N.length<=900)(O:te G N f N []=Zd seenF)
 (D:∀H',SF nm H' (b0+5+2*seenF.length) (.o b0) np nf (.dictW (Dq nm 3 N)) N G->Ai b0 H'=Zd (.list ((FT G).map λx=>V.str (nm x)))->k (.p .none) ⟨H',b0+5+2*seenF.length,rho⟩):
 go GQ (n+90) (d+6) (.sts AQ.body (Bs rho k)) ⟨H,b0,[(19,Zd (.o 0)),(101,Zs)]⟩:=by
 generalize h.lo=hlo;have K:G.length=N.length:=by refine Bj (h.nms ..) ?_;refine Ab (Zz ..) ?_;rfl
 walk_at "s";refine Aa h.io ?_;walk_at "s";refine Aa h.io ?_;walk_at "s";refine Aa h.dict ?_;have z:DK H (Dq nm 3 N)=Zd ((FT G).map λx=>V.str (nm x)):=by
  exact Bj h.nms (aK G 3 λj x n ss e=>⟨_,h.sl e⟩)
 refine mEA _ z ?_;refine Ac (by refine Ab (LD ..) ?_;exact q1 B rfl) ?_;refine Ac (lq (Zv (ii G) (K▸B)) rfl) ?_;walk_at "s";have u:SF nm ((b0,.list ((FT G).map λx=>V.str (nm x)))::H) b0 (.p .none) np nf (.dictW (Dq nm 3 N)) N G:=h.frame (ZL _) λl q=>Bg (Yp (ZB q hlo)) rfl;refine Aa u.io ?_;walk_at "s";refine Ag (Bm (.attrs (atS (.o b0) np nf)) u.atts) λP A r=>Aa A ?_;generalize(u.setA r)=C;walk_at "s";refine BU C.im ?_;walk_at "s";refine⟨(),?_⟩;refine Bj (Hs (n+85) (d+5) ..) ?_;have Q:b0+5+2*seenF.length=b0+1+4+2*seenF.length:=by rfl
 refine tB (n:=n+5) (d:=d) g (f:=f) (seenF:=seenF) (H:=P) (b0:=b0+1) (C.frame (by exact YY _) λR R=>rfl) B O λL I E=>?_;walk_at "s";rw[Q]at D;exact D L I ((E _ hlo (YI _)).trans ((up (r _) (Y2 (ZB sE (Zv (ZF 3 _) hlo)))).trans Cl))
end
end
end
section
noncomputable section
noncomputable def N4:AM:=⟨[129],[130,131],[],Zm,[(.asg 130 (.list Zm [(.int 2),(.int 0),(.int 1),(.int 1),(.int 1),(.int 12),(.int 0),(.int 0),(.int 8722)])),(.for_ Zm [131] (.callb .range Zh [(.callb .len Zh [(.nm 129)])]) [(.asgs (.nm 130) (.bin .Mod (.nm 131) (.int 9)) (.bin .Add (.sub (.nm 130) (.bin .Mod (.nm 131) (.int 9))) (.sub (.nm 129) (.nm 131))))]),(.ret (.nm 130))],[]⟩
noncomputable def N0:AM:=⟨[],[],[],Zh,[(.ret (.list Zh [(.str (Zc "a")),(.str (Zc "b;c")),(.str (Zc "it's")),(.str (Zc "(d)")),(.str (Zc "# e"))]))],[]⟩
noncomputable def IP:AM:=⟨[],[],[],Zh,[(.ret (.list Zh [(.str (Zc "a")),(.str (Zc "'b;c'")),(.str (Zc "'it'\"'\"'s'")),(.str (Zc "'(d)'")),(.str (Zc "'# e'"))]))],[]⟩
noncomputable def N3:AM:=⟨[130],[133,134,135,136],[],Zm,[(.asg 133 (.callb .list Zh [(.callb .range Zh [(.int 5)])])),(.asg 134 (.list Zm [])),(.for_ Zm [135] (.callb .range Zh [(.int 5)]) [(.asg 136 (.ife (.cmp .Lt (.nm 135) (.int 4)) (.bin .Mod (.sub (.nm 130) (.nm 135)) (.callb .len Zh [(.nm 133)])) (.int 0))),(.expr (.meth (.nm 134) 1 [(.sub (.nm 133) (.nm 136))])),(.asg 133 (.bin .Add (.sl (.nm 133) Zs (Zd (.nm 136))) (.sl (.nm 133) (Zd (.bin .Add (.nm 136) (.int 1))) Zs)))]),(.ret (.nm 134))],[]⟩
noncomputable def bP:AM:=⟨[137],[138,139],[],Zh,[(.asgT [138,139] (.nm 137)),(.ite (.cmp .Eq (.nm 138) (.str (Zc ""))) [(.ret (.sub (.nm 139) (.int 0)))] []),(.ite (.cmp .Eq (.nm 138) (.str (Zc "|"))) [(.asg 139 (.callb .sorted Zh [(.nm 139)]))] []),(.ret (.bin .Add (.bin .Add (.str (Zc "(")) (.meth (.nm 138) 4 [(.nm 139)])) (.str (Zc ")"))))],[]⟩
noncomputable def Lp:AM:=⟨[138,141,142],[139,137],[],Zh,[(.asg 139 (.list Zh [])),(.for_ Zh [137] (.tup [(.nm 141),(.nm 142)]) [(.asg 139 (.bin .Add (.nm 139) (.ife (.cmp .Eq (.sub (.nm 137) (.int 0)) (.nm 138)) (.sub (.nm 137) (.int 1)) (.list Zh [(.callc 913 [(.nm 137)])]))))]),(.ret (.tup [(.nm 138),(.nm 139)]))],[]⟩
noncomputable def GR:AM:=⟨[146,150],[151,152,131,153,154],[],Zm,[(.asg 151 (.list Zm [])),(.asg 152 (.bool Zh)),(.for_ Zm [131] (.callb .range Zh [(.callb .len Zh [(.nm 146)])]) [(.asgT [153,154] (.sub (.nm 146) (.nm 131))),(.ite (.bop .And [(.nm 154),(.nm 152)]) [(.asgs (.nm 151) (.un .USub (.int 1)) (.bin .Add (.sub (.nm 151) (.un .USub (.int 1))) (.nm 153)))] [(.expr (.meth (.nm 151) 1 [(.nm 153)]))]),(.asg 152 (.bop .And [(.nm 154),(.cmp .Eq (.bin .Mod (.bin .FloorDiv (.nm 150) (.bin .Pow (.int 2) (.nm 131))) (.int 2)) (.int 0))]))]),(.ret (.nm 151))],[]⟩
noncomputable def bQ:AM:=⟨[130,134],[144,135,145,136,138,141,142,146],[],Zh,[(.asgc 144 (.lc Zh [136] (.nm 134) Zs (.tup [(.tup [(.str (Zc "")),(.list Zh [(.sub (.callc 899 []) (.nm 136))])]),(.list Zh [(.tup [(.sub (.callc 892 []) (.nm 136)),(.bool Zh)])])]) [])),(.for_ Zm [135] (.callb .range Zh [(.int 4)]) [(.asg 145 (.sub (.nm 130) (.bin .Add (.int 4) (.nm 135)))),(.asg 136 (.bin .Mod (.nm 145) (.bin .Sub (.int 4) (.nm 135)))),(.asg 138 (.sub (.str (Zc ";|")) (.bin .Mod (.bin .FloorDiv (.nm 145) (.int 12)) (.int 2)))),(.asgT [141,142] (.sl (.nm 144) (Zd (.nm 136)) (Zd (.bin .Add (.nm 136) (.int 2))))),(.asg 146 (.bin .Add (.bin .Add (.bin .Add (.bin .Add (.list Zh [(.tup [(.str (Zc "(")),(.bool Zm)])]) (.sub (.nm 141) (.int 1))) (.list Zh [(.tup [(.nm 138),(.bool Zm)])])) (.sub (.nm 142) (.int 1))) (.list Zh [(.tup [(.str (Zc ")")),(.bool Zm)])]))),(.asg 144 (.bin .Add (.bin .Add (.sl (.nm 144) Zs (Zd (.nm 136))) (.list Zh [(.tup [(.callc 920 [(.nm 138),(.sub (.nm 141) (.int 0)),(.sub (.nm 142) (.int 0))]),(.nm 146)])])) (.sl (.nm 144) (Zd (.bin .Add (.nm 136) (.int 2))) Zs)))]),(.ret (.sub (.nm 144) (.int 0)))],[]⟩
noncomputable def Hk:AM:=⟨[151],[113,159,56,154,142,138,141],[],Zh,[(.asg 113 (.list Zm [])),(.asg 159 (.list Zh [])),(.for_ Zm [56] (.nm 151) [(.ite (.cmp .NotEq (.meth (.nm 56) 3 [(.str (Zc "();|"))]) (.str (Zc ""))) [(.expr (.meth (.nm 113) 1 [(.tup [(.list Zh [(.nm 56)]),(.list Zh [(.nm 56)])])]))] [(.for_ Zm [154] (.nm 56) [(.ite (.cmp .Eq (.nm 154) (.str (Zc ")"))) [(.asg 142 (.meth (.nm 113) 2 [])),(.asg 138 (.meth (.nm 113) 2 [])),(.asg 141 (.meth (.nm 113) 2 [])),(.ite (.cmp .Eq (.nm 138) (.str (Zc ";"))) [(.asg 159 (.bin .Add (.nm 159) (.lc2 160 (.sub (.nm 141) (.int 1)) 161 (.sub (.nm 142) (.int 0)) (.tup [(.nm 160),(.nm 161)]) [142]))),(.expr (.meth (.nm 113) 1 [(.tup [(.sub (.nm 141) (.int 0)),(.sub (.nm 142) (.int 1))])]))] [(.expr (.meth (.nm 113) 1 [(.tup [(.bin .Add (.sub (.nm 141) (.int 0)) (.sub (.nm 142) (.int 0))),(.bin .Add (.sub (.nm 141) (.int 1)) (.sub (.nm 142) (.int 1)))])]))])] [(.ite (.cmp .NotEq (.nm 154) (.str (Zc "("))) [(.expr (.meth (.nm 113) 1 [(.nm 154)]))] [])])])])]),(.ret (.nm 159))],[]⟩
theorem Lk(P:Z9):Ef 885 N4 P:=⟨⟨by kernel_rfl,by kernel_rfl⟩,Eb (λg=>by kernel_rfl)⟩
theorem Li(P:Z9):Ef 892 N0 P:=⟨⟨by kernel_rfl,by kernel_rfl⟩,qQ (by kernel_rfl)⟩
theorem Hq(P:Z9):Ef 899 IP P:=⟨⟨by kernel_rfl,by kernel_rfl⟩,qQ (by kernel_rfl)⟩
theorem Lj(P:Z9):Ef 906 N3 P:=⟨⟨by kernel_rfl,by kernel_rfl⟩,Eb (λg=>by kernel_rfl)⟩
theorem Nl(P:Z9):Ef 913 bP P:=⟨⟨by kernel_rfl,by kernel_rfl⟩,Eb (λg=>by kernel_rfl)⟩
theorem Jy(P:Z9):Ef 920 Lp P:=⟨⟨by kernel_rfl,by kernel_rfl⟩,gA (λh g j=>by kernel_rfl)⟩
theorem Gk(P:Z9):Ef 932 GR P:=⟨⟨by kernel_rfl,by kernel_rfl⟩,FG (λh g=>by kernel_rfl)⟩
theorem Nm(P:Z9):Ef 925 bQ P:=⟨⟨by kernel_rfl,by kernel_rfl⟩,FG (λh g=>by kernel_rfl)⟩
theorem Lg(P:Z9):Ef 944 Hk P:=⟨⟨by kernel_rfl,by kernel_rfl⟩,Eb (λg=>by kernel_rfl)⟩
end
end
section
variable{l m:Za Zi}
noncomputable def MX(a b:Zi):Bool:= !ltCps b.cps.toList a.cps.toList
theorem HC(a b:Zi):MX a b=Zm↔a.cps.toList<=b.cps.toList:=by
 unfold MX;refine Ab (ltCps_eq ..) ?_;simp only[YQ,Tw];exact List.not_lt
theorem Kb(a b c:Zi)(g:MX a b=Zm)(h:MX b c=Zm):MX a c=true:=by
 rw[HC]at*;exact List.le_trans g h
theorem fu(a b:Zi):(MX a b||MX b a)=true:=by
 rw[YM,HC,HC];exact List.le_total _ _
theorem Gc(a b:Zi)(h:MX a b=Zm)(g:MX b a=Zm):a=b:=by
 rw[HC]at*;generalize(List.le_antisymm h g)=this;obtain⟨⟨x⟩⟩:=a;obtain⟨⟨y⟩⟩:=b;simp only at this;rw[this]
noncomputable def Ji(l:Za Zi):Za Str:=l.mergeSort MX
theorem DB(l:Za Zi):(Ji l).Perm l:=S5 l MX
theorem DJ(l:Za Zi):(Ji l).Pairwise λa b=>MX a b=true:=List.pairwise_mergeSort Kb fu l
theorem Hn:∀(p:Zi) (l:Za Zi),risingS p l=Zm->(p::l).Pairwise λa b=>MX a b=true:=by
 intro p l
 induction l generalizing p with
 |nil=>
  intro u;simp
 |cons x r j=>
  intro h;have h':(MX p x&&risingS x r)=true:=h;rw[Z6]at h';generalize(j x h'.2)=s;refine Wv.mpr ⟨λy g=>?_,s⟩;rcases Zr.mp g with rfl|g
  ·exact h'.1
  ·exact Kb p x y h'.1 ((Wv.mp s).1 y g)
theorem Hm:∀(l:Za Zi),PM l=Zm->l.Pairwise λa b=>MX a b=true:=by
 intro l;cases l with
 |nil=>
  intro g;simp
 |cons x r=>exact λh=>Hn x r h
theorem Ff(g:l.Perm m)(s:PM l=Zm):l=Ji m:=
 Tk (le:=λa b=>MX a b=Zm) (λa b r r j h=>Gc a b j h) (Hm l s) (DJ m) (g.trans (DB m).symm)
theorem JI(g:l.Perm m):Ji l=Ji m:=
 Tk (le:=λa b=>MX a b=Zm) (λa b r r j h=>Gc a b j h) (DJ l) (DJ m) ((DB l).trans (g.trans (DB m).symm))
noncomputable abbrev Br:Str:=Zc ""
noncomputable abbrev JN:Str:=Zc ";"
noncomputable abbrev dN:Str:=Zc "|"
noncomputable def B1(k:Zi)(ts:Za Zi):Str:=
 if k=Br then ts.headD Br else Zc "("++RX k (if k=dN then Ji ts else ts)++Zc ")"
end
section
variable{k:Zl}{p:Zi×Za Zi}{x b:Z7}
noncomputable def Js:Za Str:=[Zc "a",Zc "b;c",Zc "it's",Zc "(d)",Zc "# e"]
noncomputable def wz:Za Str:=[Zc "a",Zc "'b;c'",Zc "'it'\"'\"'s'",Zc "'(d)'",Zc "'# e'"]
noncomputable abbrev Cj(p:Zi×Za Zi):V:=.tup [.str p.1,.lst (p.2.map .str)]
noncomputable def AY(k:Zi)(p:Zi×Za Zi):Za Str:=if p.1=k then p.2 else[B1 p.1 p.2]
structure GZ(p:Zi×Za Zi):Prop where
 ne:p.2≠[]
 n64:p.2.length<64
 sum:(p.2.map (·.length)).sum+p.2.length*p.1.length<=1000000
 len:(B1 p.1 p.2).length<=1000000
set_option genCtorIdx true in
inductive Tr where
 |leaf (i:Zf)
 |node (k:Zl) (l r:Tr)
noncomputable def kS(k:Zl):Str:=if k then dN else JN
noncomputable def D0(i:Zf):Str:=(Js[i]?).getD Br
noncomputable def LY(i:Zf):Str:=(wz[i]?).getD Br
noncomputable def Tr.zG:Tr->Za Zf
 |.leaf i=>[i]
 |.node _ l r=>l.zG++r.zG
noncomputable def Tr.part:Tr->Zi×Za Zi
 |.leaf i=>(Br,[LY i])
 |.node k l r=>(kS k,AY (kS k) l.part++AY (kS k) r.part)
noncomputable def Tr.pieces:Tr->Za (Zi×Zl)
 |.leaf i=>[(D0 i,Zh)]
 |.node k l r=>[(Zc "(",Zm)]++l.pieces++[(kS k,Zm)]++r.pieces++[(Zc ")",Zm)]
theorem Tr.zX{l r:Tr}:(Tr.node k l r).zG=l.zG++r.zG:=rfl
theorem Tr.aaf:(Tr.leaf i).zG=[i]:=rfl
theorem Tr.aag{l r:Tr}:(Tr.node k l r).part=(kS k,AY (kS k) l.part++AY (kS k) r.part):=rfl
theorem Tr.aah:(Tr.leaf i).part=(Br,[LY i]):=rfl
theorem Tr.zV{l r:Tr}:(Tr.node k l r).pieces=[(Zc "(",Zm)]++l.pieces++[(kS k,Zm)]++r.pieces++[(Zc ")",Zm)]:=rfl
noncomputable abbrev BC(p:Zi×Zl):V:=.tup [.str p.1,.bool p.2]
noncomputable abbrev gl(t:Tr):V:=.tup [Cj t.part,.lst (t.pieces.map BC)]
theorem g5(i:Zf):(LY i).length<=11:=by
 unfold LY wz
 match i with
 |0=>exact YH _
 |1=>exact ZQ _ _
 |2=>exact YY _
 |3=>exact ZQ _ _
 |4=>exact ZQ _ _
 |n+5=>exact(by exact ZQ _ _:Br.length<=11)
theorem sI(k:Zl):(kS k).length=1:=by cases k<;>rfl
theorem jR(k:Zl):kS k≠Br:=by cases k<;>decide+kernel
theorem jT:kS Zm=dN:=rfl
theorem IE(g:Zi):∀l:Za Zi,(RX g l).length<=(l.map (·.length)).sum+l.length*g.length:=by
 intro l;cases l with
 |nil=>exact XG _
 |cons a r=>
  refine(?_:(OQ g (a::r)).length<=_);refine Ab (StrLaws.glued_eq_join ..) ?_;refine Ab (len_join_cons ..) ?_;simp only[Xr,U8];lia
theorem mu(l:Za Zi):((Ji l).map (·.length)).sum=(l.map (·.length)).sum:=((DB l).map _).sum_nat
theorem dB(k:Zi)(ts:Za Zi):(B1 k ts).length<=(ts.map (·.length)).sum+ts.length*k.length+2:=by
 unfold B1;have g:(Zc "(").length=1:=by rfl
 have h:(Zc ")").length=1:=by assumption
 have j:Br.length=0:=by rfl
 split
 ·cases ts with
  |nil=>exact XG _
  |cons x r=>simp;lia
 ·refine Ab (YW ..) ?_;refine Ab (YW ..) ?_;refine Ab (g ..) ?_;refine Ab (h ..) ?_;split
  ·generalize(IE k (Ji ts))=this;rw[mu,(DB ts).length_eq]at this;lia
  ·generalize(IE k ts)=this;lia
structure Bd(n:Zf)(p:Zi×Za Zi):Prop where
 ne:p.2≠[]
 cnt:p.2.length<=n
 kl:p.1.length<=1
 sum:(p.2.map (·.length)).sum+9<=20*n
theorem Bd.pos(b:Bd n p):0<n:=ZB (S4.mpr b.ne) b.cnt
theorem Bd.len(b:Bd n p):(B1 p.1 p.2).length+9<=20*n+n+2:=by
 have h:=dB p.1 p.2;have g:p.2.length*p.1.length<=p.2.length*1:=Y1 _ b.kl;exact zE h (Zv g (Zf.mul_one _▸b.cnt)) b.sum
theorem Bd.ok(b:Bd n p)(g:n<=40):GZ p:=by
 have h:p.2.length*p.1.length<=p.2.length*1:=Y1 _ b.kl;exact⟨b.ne,WY b.cnt (WY g (Zw rfl)),zC b.sum (Zv h (Zf.mul_one _▸b.cnt)) g,SA b.len g⟩
theorem Bd.side(b:Bd n p)(k:Zi):AY k p≠[]/\(AY k p).length<=n/\((AY k p).map (·.length)).sum+9<=20*n+n+2:=by
 unfold AY;split
 ·exact Cp b.ne b.cnt (zD b.sum)
 ·exact Cp (XU _ _) b.pos b.len
theorem Bd.join{q:Zi×Za Zi}(b:Bd n p)(d:Bd i q)(j:n+i<=5)(k:Zl):Bd (n+i) (kS k,AY (kS k) p++AY (kS k) q):=by
 refine Du (b.side (kS k)) λh g r=>Du (d.side (kS k)) λb1 b2 b3=>?_;refine⟨by simp[h],by simp;exact Xa g b2,by refine Ab (sI ..) ?_;exact ZL _,?_⟩;simp only[ZA,List.sum_append];exact zF r b3 j
theorem Tr.bd:∀(t:Tr),t.zG.length<=5->Bd t.zG.length t.part:=by
 intro t
 induction t with
 |leaf i=>
  intro s;generalize(g5 i)=this;exact⟨by simp[Tr.aah],by exact YH _,by refine(?_:Br.length<=1);exact YY _,by simp[Tr.aah,Tr.aaf];trivial⟩
 |node k l r j g=>
  intro h;simp only[Tr.zX,Zt]at h⊢;exact(j (by exact qe h rfl)).join (g (by exact qf h rfl)) h k
theorem Tr.zS:∀(t:Tr),t.pieces.length+3=4*t.zG.length:=by
 intro t
 induction t with
 |leaf i=>exact rfl
 |node k l r h g=>
  simp only[Tr.zV,Tr.zX,Zt,Xr,Xo];exact zA h g
noncomputable abbrev Io(rn:Za Zf):Za V:=rn.map λ(n:Zf)=>V.int (n:Z7)
noncomputable def qu:V->Za V
 |.int i=>[gl (.leaf i.toNat)]
 |_=>[]
theorem Ka(g:Za Zf):(Io g).flatMap qu=(g.map Tr.leaf).map gl:=by
 induction g with
 |nil=>rfl
 |cons n r h=>
  simp only[Z3,Ys]at h⊢;refine Ab h ?_;rfl
theorem fC(h:0<=x)(g:x<2):∃j,Oi (Zc ";|") x=kS j:=by
 generalize(z2 h g)=this;rcases this with rfl|rfl
 ·exact⟨Zh,by rfl⟩
 ·exact⟨Zm,by rfl⟩
theorem dJ(l:Za α)(k:Zf)(h:k+2<=l.length):∃a b,l=l.take k++a::b::l.drop (k+2)/\(l.drop k).take 2=[a,b]:=by
 refine BW (l[k]'(X9 h)) (l[k+1]'h) ?_ ?_
 ·conv=>lhs;rw[<-Xx k l]
  congr 1
  rw[Yg (X9 h),Yg (i:=k+1) h]
 ·rw[Yg (X9 h),Yg (i:=k+1) h];rfl
noncomputable def blank(b:Z7)(i:Zf):Int:=(b.fdiv (2^i)).fmod 2
noncomputable def Cn(b:Z7)(i:Zf)(st:Za Zi×Zl)(p:Zi×Zl):Za Zi×Bool:=
 (if p.2&&st.2 then st.1.dropLast++[st.1.getLastD Br++p.1]else st.1++[p.1],p.2&&(blank b i==0))
noncomputable def Cc(b:Z7)(ps:Za (Zi×Zl)):Zf->Za Zi×Zl
 |0=>([],Zh)
 |i+1=>match ps[i]? with
  |none=>Cc b ps i
  |some p=>Cn b i (Cc b ps i) p
theorem DF(h:i<ps.length):Cc b ps (i+1)=Cn b i (Cc b ps i) ps[i]:=by
 refine(?_:(match ps[i]? with|none=>Cc b ps i|some p=>Cn b i (Cc b ps i) p)=_);refine Ab (Za.getElem?_eq_getElem h ..) ?_;rfl
theorem N9(B:∀p∈ps,p.1.length<=100):∀i,i<=ps.length->((Cc b ps i).2=Zm->(Cc b ps i).1≠[])/\(Cc b ps i).1.length<=i/\∀x∈(Cc b ps i).1,x.length<=100*i:=by
 intro i
 induction i with
 |zero=>exact λA=>⟨λh=>ZK h,by exact XG _,λA h=>ZT h ZE⟩
 |succ i s=>
  intro h;obtain⟨D,C,u⟩:=s (by exact YB h);refine Ab (DF (by trivial) ..) ?_;have r:=B ps[i] (Wq h);generalize Cc b ps i=st at*;unfold Cn;refine⟨λA=>?_,?_,λx g=>?_⟩
  ·split<;>simp
  ·split
   ·simp;exact XO C
   ·simp;trivial
  ·dsimp only at g;split at g
   ·rename_i z;rcases ZW.mp g with g|g
    ·have:=u x ((Sh _).subset g);exact Zv this (ZF _ _)
    ·rw[Z6]at z;have j:=D z.2;have e:x=st.1.getLastD Br++ps[i].1:=by simpa using g
     refine Ab (e ..) ?_;refine Ab (YW ..) ?_;have hl:st.1.getLastD Br∈st.1:=by
      refine Ab (Za.getLastD_eq_getLast? ..) ?_;refine Ab (Za.getLast?_eq_getLast j ..) ?_;exact List.getLast_mem j
     have:=u _ hl;exact Xa this r
   ·rcases ZW.mp g with g|g
    ·exact Zv (u x g) (Y1 100 (YY i))
    ·have e:x=ps[i].1:=by simpa using g
     refine Ab (e ..) ?_;exact q1 r rfl
set_option genCtorIdx true in
inductive SE where
 |blk (h t:Za Zi)
 |kd (k:Zi)
noncomputable def aG:SE->V
 |.blk h t=>.tup [.lst (h.map .str),.lst (t.map .str)]
 |.kd k=>.str k
noncomputable abbrev cJ(p:Zi×Zi):V:=.tup [.str p.1,.str p.2]
noncomputable abbrev HX:Str:=Zc "("
noncomputable abbrev Dx:Str:=Zc ")"
noncomputable abbrev CW:Str:=Zc "();|"
noncomputable def AC(st:Za SE×Za (Zi×Zi))(ch:Zi):Ze (Za SE×Za (Zi×Zi)):=
 if ch=Dx then
  match st.1 with
  |.blk rh rt::.kd k::.blk lh lt::rest=>
   if rh.length<=100/\rt.length<=100/\lh.length<=100/\lt.length<=100/\st.2.length<=100000 then
    if k=JN then Zd (.blk lh rt::rest,st.2++lt.flatMap λa=>rh.map λb=>(a,b))
    else Zd (.blk (lh++rh) (lt++rt)::rest,st.2)
   else Zs
  |_=>Zs
 else if ch≠HX then Zd (.kd ch::st.1,st.2)
 else Zd st
theorem He{M:Za SE->Za (Zi×Zi)->Zi->Za SE×Za (Zi×Zi)->Prop}
 (E:∀j rt s u rest sp,j.length<=100->rt.length<=100->s.length<=100->u.length<=100->sp.length<=100000->M (.blk j rt::.kd JN::.blk s u::rest) sp Dx (.blk s rt::rest,sp++u.flatMap λa=>j.map λb=>(a,b)))
 (A:∀j rt k s u rest sp,k≠JN->j.length<=100->rt.length<=100->s.length<=100->u.length<=100->M (.blk j rt::.kd k::.blk s u::rest) sp Dx (.blk (s++j) (u++rt)::rest,sp))
 (B:∀st sp line,line≠Dx->line≠HX->M st sp line (.kd line::st,sp)) (C:∀st sp,M st sp HX (st,sp)) {st:Za SE} {r:Za SE×Za (Zi×Zi)} (h:AC (st,sp) line=Zd r):M st sp line r:=by
 refine Hj h (λe g=>?_) λD g=>Hj g (λe g=>sj g (B _ _ _ D e)) λe g=>?_
 ·clear h;cases st with
  |nil=>exact nj g
  |cons x st=>cases x with
   |kd=>exact nj g
   |blk j rt=>cases st with
    |nil=>exact nj g
    |cons y st=>cases y with
     |blk=>exact nj g
     |kd k=>cases st with
      |nil=>exact nj g
      |cons z rest=>cases z with
       |kd=>exact nj g
       |blk s u=>
        refine Hj g (λhb g=>?_) λG g=>nj g;subst e;exact Hj g (λe g=>by subst e;exact sj g (E _ _ _ _ _ _ hb.1 hb.2.1 hb.2.2.1 hb.2.2.2.1 hb.2.2.2.2)) λe g=>sj g (A _ _ _ _ _ _ _ e hb.1 hb.2.1 hb.2.2.1 hb.2.2.2.1)
 ·generalize(OR.mp e)=e;subst e;exact sj g (C _ _)
theorem FP{s j ch:_}(h:AC s ch=Zd j):j.1.length<=s.1.length+1:=He (M:=λst g g r=>r.1.length<=st.length+1) (λg g g g g g g g g g g=>ZF _ 3) (λg g g g g g g g g g g g=>ZF _ 3) (λg g g g g=>ZL _) (λg g=>YY _) h
noncomputable def gc(x:Zi)(i:Zf):Str:=⟨#[(x.cps[i]?).getD 0]⟩
noncomputable def A0(x:Zi):Zf->Za SE×Za (Zi×Zi)->Ze (Za SE×Za (Zi×Zi))
 |0,st=>Zd st
 |i+1,st=>(A0 x i st).bind λs=>AC s (gc x i)
noncomputable def Bi(st:Za SE×Za (Zi×Zi))(tok:Zi):Ze (Za SE×Za (Zi×Zi)):=
 if st.1.length<=10000/\tok.length<=10000/\tok.cps.size<=10000 then
  if Wt tok CW≠Br then Zd (.blk [tok] [tok]::st.1,st.2)
  else if tok.cps.all (· <128)then A0 tok tok.cps.size st else Zs
 else Zs
noncomputable def Cw(l:Za Zi):Zf->Ze (Za SE×Za (Zi×Zi))
 |0=>Zd ([],[])
 |i+1=>(Cw l i).bind λs=>match l[i]? with
  |none=>Zs
  |some t=>Bi s t
end
section
variable{k:Zi}{ts:Za Zi}
theorem ar(I:ts≠[])(z:ts.length<64)(E:(ts.map (·.length)).sum+ts.length*k.length<=1000000)(g:(B1 k ts).length<=1000000):
 AS (d+1) 913 [.tup [.str k,.lst (ts.map .str)]] (· =.str (B1 k ts)):=by
 refine Bk Nl Cm (n:=200) rfl ?_;walk_at "s";refine Au (λhb=>?_) (λhb=>?_)
 ·have B:k=Br:=beq_iff_eq.mp hb;walk_at "s";refine Ac (by simp;exact q2 z rfl) ?_;cases ts with
  |nil=>exact ZT rfl I
  |cons x r=>
   walk_at "s";show V.str x=V.str _;rw[B1,if_pos B];rfl
 ·have B:k≠Br:=λe=>by rw[e]at hb;trivial
  have A:B1 k ts=Zc "("++RX k (if k=dN then Ji ts else ts)++Zc ")":=Yc B;rw[A]at g;have u:(Zc "(").length=1:=by rfl
  have C:(Zc ")").length=1:=by assumption
  rw[YW,YW,u,C]at g;walk_at "s";refine Au (λj=>?_) (λj=>?_)
  ·have h:k=dN:=beq_iff_eq.mp j;rw[if_pos h]at g A;walk_at "s";refine Bw ts (Ji ts) rfl z (λr K G=>Ff K G) ?_;walk_at "s";refine mEA (Ji ts) rfl ?_;walk_at "s";refine Ac ?_ ?_
   ·have D:(Ji ts).Perm ts:=S5 _ _;generalize((D.map (·.length)).sum_nat)=H;generalize D.length_eq=s2;refine Ab (H ..) ?_;refine Ab (s2 ..) ?_;exact q1 E rfl
   walk_at "s";refine Ac (Ab u (q2 g rfl)) ?_;walk_at "s";refine Ac (by refine Ab (YW ..) ?_;refine Ab (u ..) ?_;refine Ab (C ..) ?_;exact q3 g rfl) ?_;walk_at "s";refine Ab A ?_;rfl
  ·have h:k≠dN:=λe=>by rw[e]at j;trivial
   rw[Yc h]at g A;walk_at "s";refine mEA ts rfl ?_;walk_at "s";refine Ac (by exact q1 E rfl) ?_;walk_at "s";refine Ac (Ab u (q2 g rfl)) ?_;walk_at "s";refine Ac (by refine Ab (YW ..) ?_;refine Ab (u ..) ?_;refine Ab (C ..) ?_;exact q3 g rfl) ?_;walk_at "s";refine Ab A ?_;rfl
theorem cP:AS (d+1) 892 [] (· =.lst (Js.map .str)):=by
 refine Bk Li Cm (n:=200) rfl ?_;walk_at "s";rfl
theorem ad:AS (d+1) 899 [] (· =.lst (wz.map .str)):=by
 refine Bk Hq Cm (n:=200) rfl ?_;walk_at "s";rfl
theorem JK(k:Zi)(p:Zi×Za Zi)(h:GZ p):(AY k p).length<=64:=by
 unfold AY;split
 ·have:=h.n64;exact YB this
 ·exact YH _
theorem Ni{l r:Zi×Za Zi}(B:GZ l)(or:GZ r):AS (d+2) 920 [.str k,Cj l,Cj r] (· =Cj (k,AY k l++AY k r)):=by
 generalize(JK k l B)=hl;generalize(JK k r or)=z;have h:∀p,GZ p->AS (d+1) 913 [Cj p] (· =.str (B1 p.1 p.2)):=λp o=>ar o.ne o.n64 o.sum o.len;refine Bk Jy Cm (n:=200) rfl ?_;walk_at "s";refine Au (λA=>?_) (λA=>?_)
 ·have u:AY k l=l.2:=if_pos (beq_iff_eq.mp A);rw[u]at hl;walk_at "s";refine Ac (by simp;exact q1 hl rfl) ?_;walk_at "s";refine Au (λj=>?_) (λj=>?_)
  ·have g:AY k r=r.2:=if_pos (beq_iff_eq.mp j);rw[g]at z;walk_at "s";refine Ac (by simp;exact q8 hl z rfl) ?_;walk_at "s";rw[u,g];exact ZH (λx=>V.tup [V.str k,V.lst x]) (ZA:Ss V.str (l.2++r.2)=_).symm
  ·have g:AY k r=[B1 r.1 r.2]:=Yc (by simpa using j);walk_at "s";refine det (h r or) ?_;walk_at "s";refine Ac (by simp;exact q1 hl rfl) ?_;walk_at "s";rw[u,g];exact ZH (λx=>V.tup [V.str k,V.lst x]) (ZA:Ss V.str (l.2++[B1 r.1 r.2])=_).symm
 ·have u:AY k l=[B1 l.1 l.2]:=Yc (by simpa using A);walk_at "s";refine det (h l B) ?_;walk_at "s";refine Au (λj=>?_) (λj=>?_)
  ·have g:AY k r=r.2:=if_pos (beq_iff_eq.mp j);rw[g]at z;walk_at "s";refine Ac (by simp;lia) ?_;walk_at "s";rw[u,g];exact ZH (λx=>V.tup [V.str k,V.lst x]) (ZA:Ss V.str ([B1 l.1 l.2]++r.2)=_).symm
  ·have g:AY k r=[B1 r.1 r.2]:=Yc (by simpa using j);walk_at "s";refine det (h r or) ?_;walk_at "s";rw[u,g];exact ZH (λx=>V.tup [V.str k,V.lst x]) (ZA:Ss V.str ([B1 l.1 l.2]++[B1 r.1 r.2])=_).symm
end
section
variable{sc cs:Za Z7}
theorem CX(h:((UO n).map λ(i:Zf)=>V.int (i:Z7))[i]? =Zd D8):D8=.int (i:Z7)/\i<n:=by
 rw[Za.getElem?_map]at h;by_cases hi:i<n
 ·rw[Za.getElem?_range hi]at h;cases h;exact⟨rfl,hi⟩
 ·rw[Za.getElem?_eq_none (by simpa using hi)]at h;cases h
theorem kC(i k:Zf):(i:Z7).fmod (k:Z7)=((i%k:Zf):Z7):=by
 refine Ab (Int.fmod_eq_emod_of_nonneg _ (by exact ZI _) ..) ?_;rfl
theorem BM{f:α->V}{l:Za α}{x:α}(h:l[i]? =Zd x):tS (l.map f) i=Zd (f x):=by
 refine Ab (cN ..) ?_;refine Ab (Za.getElem?_map ..) ?_;refine Ab (h ..) ?_;rfl
theorem cl{l:Za α}{lo g:Ze Z7}(h:l.length<=n):(cut l lo g).length<=n:=by
 refine Zv ?_ h;cases lo with
 |none=>cases g with
  |none=>exact ZL _
  |some=>exact(RY _ _).length_le
 |some=>cases g with
  |none=>exact(RZ _ _).length_le
  |some=>exact((RY _ _).trans (RZ _ _)).length_le
theorem zh{l:Za α}(h:j<l.length):(l.take j++l.drop (j+1)).length+1=l.length:=by
 refine Bj (Xk ..) ?_;refine Ab (UP h ..) ?_;exact Nat.sub_add_cancel (WY (XG _) h)
theorem pq(j:sc.length<=1000000):AS (d+1) 885 [.lst (sc.map .int)] (λr=>∃cs:Za Z7,cs.length=9/\r=.lst (cs.map .int)):=by
 refine Bk Lk Cm (n:=200) rfl ?_;walk_at "s";refine Ac (lq j rfl) ?_;walk_at "s";refine Ac (lm (Zv (Z1 Y5) (lq j rfl))) (mEA _ rfl ?_);refine Cv (λi s=>∃(cs:Za Z7) (pl:Ze W),cs.length=9/\s=⟨[(0,.list (cs.map .int))],1,[(129,Zd (.p (.lst (sc.map .int)))),(130,Zd (.o 0)),(131,pl)]⟩) (BW ([2,0,1,1,1,12,0,0,8722]) Zs rfl rfl) ?_ ?_
 ·rintro i v D kk z ⟨cs,pl,h,rfl⟩ A E;rw[Zz]at z;refine xA (CX z) λg B=>?_;subst g;have u:(i:Z7).fmod 9=((i%9:Zf):Z7):=kC i 9;have C:i%9<cs.length:=by refine Ab h ?_;exact Nat.mod_lt _ (YH 8)
  walk_at "s";refine⟨by decide,?_⟩;walk_at "s";refine Ab u ?_;walk_at "s";refine Ac (by simp;exact q9 h rfl) ?_;refine Aa (BM (Za.getElem?_eq_getElem C)) ?_;walk_at "s";refine Ac (lq j rfl) (Aa (BM (Za.getElem?_eq_getElem B)) ?_);walk_at "s";refine⟨by decide,?_⟩;walk_at "s";refine Ab u ?_;walk_at "s";refine⟨by simp;trivial,?_⟩;refine Ac (nN h rfl) ?_;walk_at "s";exact A _ (BW (cs.set (i%9) (cs[i%9]+sc[i])) (Zd (.p (.int i))) (by simp[h]) (Ab List.map_set (rfl)))
 ·rintro D ⟨cs,pl,h,rfl⟩;walk_at "s";exact⟨rfl,(Ep _ rfl cs h rfl)⟩
noncomputable def aI:Za Nat:=[0,1,2,3,4]
theorem oW(R:cs.length=9):AS (d+1) 906 [.lst (cs.map .int)] (λr=>∃row:Za Zf,row.Perm aI/\r=.lst (Io row)):=by
 refine Bk Lj Cm (n:=200) rfl ?_;walk_at "s";refine Cp (by decide) (by decide) ?_;walk_at "s";refine mEA _ rfl (Cv (λi s=>∃(rest row:Za Zf) (tn B:Ze W),i+rest.length=5/\row.length=i/\(row++rest).Perm aI/\s=⟨[(0,.list (Io row))],1,[(130,Zd (.p (.lst (cs.map .int)))),(133,Zd (.p (.lst (Io rest)))),(134,Zd (.o 0)),(135,tn),(136,B)]⟩) (AZ aI ([]) Zs Zs rfl rfl (Xl _) rfl) ?_ ?_)
 ·rintro i v P kk U ⟨rest,row,tn,B,hl,u,I,rfl⟩ L X;refine xA (CX U) λz T=>?_;subst z;have h:i<5:=T;have C:i<cs.length:=R▸q3 h rfl;have fin:∀j:Zf,j<rest.length->∀O:W,O=.p (.int (j:Z7))->(rest.take j++rest.drop (j+1)).length+1=rest.length/\∃x,rest[j]? =Zd x/\((row++[x])++(rest.take j++rest.drop (j+1))).Perm aI:=by
   intro j A O P;refine Es (zh A) (rest[j]) (Za.getElem?_eq_getElem A) (O7 ?_ I);have:rest=rest.take j++rest[j]::rest.drop (j+1):=by
    conv=>lhs;rw[<-Xx j rest,Yg A]
   conv=>rhs;rw[this]
   rw[ZS];exact P4 row ((Yw (l₁:=rest.take j) (l₂:=rest.drop (j+1)) (a:=rest[j])).symm)
  have D:0<rest.length:=Nat.pos_of_ne_zero λe=>Yp h (e▸hl:i+0=5);have g:(0:Z7)<(rest.length:Z7):=Xs.mpr D;have b5:rest.length<=5:=hl▸ZQ _ i;have br:(Io rest).length<=16777216:=lq b5 rfl;have Q:(Io row).length<=16777216:=lq (YB (u▸h)) rfl;have go:∀j:Zf,j<rest.length->∃x,rest[j]? =Zd x:=λj A=>⟨_,Za.getElem?_eq_getElem A⟩;walk_at "s";refine Au (λG=>?_) (λG=>?_)
  ·have h4':i<4:=(Xs (m:=4)).mp (of_decide_eq_true G);walk_at "s";refine Ac (nN R rfl) (Aa (BM (Za.getElem?_eq_getElem C)) ?_);walk_at "s";refine Ac br ?_;walk_at "s";refine⟨by rw[Zz];exact TQ g,?_⟩;refine xE (Ts (XN (cs[i]'(C)) g)) λj A=>?_;have E:j<rest.length:=Xs.mp (A▸Wr (cs[i]'(C)) g);simp only[Io,Zz];rw[A];refine GC (fin j E _ rfl) λK x ex H=>?_;walk_at "s";refine Ac br (Aa (BM ex) ?_);walk_at "s";refine Ac Q ?_;walk_at "s";refine Cp trivial (ZI _) (Ac br ?_);walk_at "s";refine Cp (ZI (j+1)) trivial (Ac br ?_);walk_at "s";refine Ac (q8 (cl (lm b5)) (cl (lm b5)) rfl) ?_;walk_at "s";refine L _ (AZ (rest.take j++rest.drop (j+1)) (row++[x]) (Zd (.p (.int i))) (Zd (.p (.int j))) (by rw[Xb,XM 1,K];exact hl) (by rw[Zt,u];rfl) H ?_);simp[Io,cut,Th,Ti]
  ·have h4':i=4:=Uq (Va h) ((UH (m:=4)).mp (QY.mp (VI G)));refine GC (fin 0 D _ rfl) λK x ex H=>?_;walk_at "s";refine Ac br (Aa (BM ex) ?_);walk_at "s";refine Ac Q ?_;walk_at "s";refine Cp trivial (ZI _) (Ac br ?_);walk_at "s";refine Cp (ZI 1) trivial (Ac br ?_);walk_at "s";refine Ac (q8 (cl (lm b5)) (cl (lm b5)) rfl) ?_;walk_at "s";refine L _ (AZ (rest.take 0++rest.drop (0+1)) (row++[x]) (Zd (.p (.int i))) (Zd (.p (.int 0))) (by rw[Xb,XM 1,K];exact hl) (by rw[Zt,u];rfl) H ?_);simp[Io,cut]
 ·rintro P ⟨rest,row,tn,B,hl,u,I,rfl⟩;walk_at "s";refine⟨rfl,(Ep _ rfl row ?_ rfl)⟩;have:rest=[]:=by
   exact VO.mp (Vs (hl:5+rest.length=5+0))
  subst this;simpa using I
end
section
variable{P:Zf->Prop}{cs:Za Z7}{rn:Za Zf}
theorem xP(a:P 0)(b:P 1)(c:P 2)(d:P 3)(e:P 4)(n:Zf)(h:n<5):P n:=by
 cases n with
 |zero=>exact a
 |succ n=>
  cases n with
  |zero=>exact b
  |succ n=>
   cases n with
   |zero=>exact c
   |succ n=>
    cases n with
    |zero=>exact d
    |succ n=>
     cases n with
     |zero=>exact e
     |succ n=>exact ZT h (Ws.mpr (ZQ 5 n))
set_option genInjectivity false in
set_option genCtorIdx false in
inductive PI(cs:Za Z7)(rn:Za Zf)(i:Zf):S->Prop
 |mk (ts:Za Tr) (o1 o2 o3 o4 o5 o6 o7:Ze W) (hl:i+ts.length=5) (hpos:0<ts.length) (hlv:ts.flatMap Tr.zG=rn):
  PI cs rn i ⟨[],0,[(130,Zd (.p (.lst (cs.map .int)))),(134,Zd (.p (.lst (Io rn)))),(144,Zd (.p (.lst (ts.map gl)))),(135,o1),(145,o2),(136,o3),(138,o4),(141,o5),(142,o6),(146,o7)]⟩
theorem PI.eq{s:S}(h:PI cs rn i j5)(e:s=j5):PI cs rn i s:=e▸h
theorem rS(U:cs.length=9)(z:rn.length=5)(H:∀n∈rn,n<5):
 AS (d+3) 925 [.lst (cs.map .int),.lst (Io rn)] (λr=>∃t:Tr,t.zG=rn/\r=gl t):=by
 refine Bk Nm Cm (n:=200) rfl ?_;walk_at "s";refine Ac (nN z rfl) ?_;walk_at "s";refine Ge qu (λs=>∃o,s=⟨[],0,[(136,o)]⟩) 16777216 (by refine Ab (Ka ..) ?_;exact q8 (ZL 0) (lm (nN (n:=5) z rfl)) rfl) ⟨Zs,rfl⟩ ?_ ?_
 ·rintro v acc T kk Y hB ⟨o,rfl⟩ R;refine Ag (Ye.mp Y) λn hn C=>?_;subst C;generalize(H n hn)=h5;walk_at "s";refine det ad ?_;walk_at "s";refine Aa (BM (x:=LY n) (xP (P:=λn=>wz[n]? =Zd (LY n)) rfl rfl rfl rfl rfl n h5)) ?_;walk_at "s";refine det cP ?_;walk_at "s";refine Aa (BM (x:=D0 n) (xP (P:=λn=>Js[n]? =Zd (D0 n)) rfl rfl rfl rfl rfl n h5)) ?_;walk_at "s";refine Ac (by exact YB hB) ?_;exact R _ ⟨_,rfl⟩
 ·rintro T ⟨o,rfl⟩;refine Ab (Ka ..) ?_;walk_at "s";refine mEA _ rfl ?_;refine Cv (PI cs rn) (.mk (rn.map .leaf) Zs Zs Zs Zs Zs Zs Zs ((Y0 _).trans ((Zz _).trans z)) (by refine Ab (Zz ..) ?_;refine Ab (z ..) ?_;exact YH 4) ?_) ?_ ?_
  ·clear z H
   induction rn with
   |nil=>rfl
   |cons n r ih=>exact ZH _ ih
  ·intro i v T kk Y X k1 k2;refine X.casesOn ?_;intro ts o1 o2 o3 o4 o5 o6 o7 hl K u;refine xA (CX Y) λD hi=>?_;subst D;have B:i<4:=hi;have e4:(4:Z7)+(i:Z7)=((4+i:Zf):Z7):=by rfl
   have e5:(4:Z7)-(i:Z7)=((4-i:Zf):Z7):=(Int.ofNat_sub (YB B)).symm;have hN:ts.length=5-i:=Uk ((XM _ _).trans hl);have b5:ts.length<=5:=hl▸ZQ _ i;have G:(ts.map gl).length<=5:=lm b5;have O:(0:Z7)<4-(i:Z7):=Int.sub_pos_of_lt (Xs.mpr B);walk_at "s";refine Ac (nN U rfl) ?_;refine Aa (BM (Za.getElem?_eq_getElem (U▸Uz (q3 B rfl:i<5) 4:4+i<cs.length))) ?_;walk_at "s";refine⟨TQ O,?_⟩;generalize cs[4+i]'(U▸Uz (q3 B rfl:i<5) 4)=g;refine xE (Ts (XN g O)) λj hj=>?_;have I:j+2<=ts.length:=by
    refine Ab (hN ..) ?_;refine Ab (PK (YB B) ..) ?_;exact Xq (Xs.mp (e5▸hj▸Wr g O))
   refine Ab (hj ..) ?_;refine xE (fC (XN (g.fdiv 12) (by exact ZI _:(0:Z7)<2)) (Wr (g.fdiv 12) (by exact ZI _:(0:Z7)<2))) λE R=>?_;refine AV (dJ ts j I) λa b hts Q=>?_;walk_at "s";refine Cp (by decide) (by exact ZQ _ _) ?_;walk_at "s";refine⟨by decide,?_⟩;walk_at "s";refine Cp (XN (g.fdiv 12) (by exact ZI _)) (by refine Ab ((by rfl:((Zc ";|").length:Z7)=2) ..) ?_;exact Wr (g.fdiv 12) (by exact ZI _)) ?_;refine Ac (by exact ZQ _ _) ?_;refine Ab (R ..) ?_;have A:a.zG.length+b.zG.length<=5:=by
    rw[hts]at u;generalize(ZH XS u)=this;rw[S6,Zt,Ys,Zt,Ys,Zt,z]at this;exact Zv (Zv (Yy (ZF _ _) _) (ZQ _ _)) (Z1 this)
   generalize(Tr.bd a (by exact qe A rfl))=ba;generalize(Tr.bd b (by exact qf A rfl))=bb;walk_at "s";refine Cp (ZI j) (ZI (j+2)) ?_;refine Ac (q1 G rfl) ?_;have L:cut (ts.map gl) (Zd (j:Z7)) (Zd ((j:Z7)+2))=[gl a,gl b]:=by
    simp only[cut,Vb,<-Ti,<-Th];refine Ab ((WQ j 2:((j:Z7)+2).toNat-j=2) ..) ?_;refine Ab (Q ..) ?_;rfl
   refine Ab (L ..) ?_;walk_at "s";have pc:∀{x:Tr},x.zG.length<=5->(x.pieces.map BC).length<=20:=λ{x} h=>lm (Zv (ZF _ 3) (Zv (Z1 (Tr.zS x)) (Y1 4 h)));have pa:=pc (qe A rfl:a.zG.length<=5);have pb:=pc (qf A rfl:b.zG.length<=5);have l1:=la (ZL 1) pa (x:=[V.tup [V.str (Zc "("),V.bool Zm]])
   have l2:=la l1 (ZL 1) (y:=[V.tup [V.str (kS E),V.bool Zm]]);have l3:=la l2 pb;refine Ac (q8 (ZL 1) pa rfl) ?_;walk_at "s";refine Ac (q8 l1 (ZL 1) rfl) ?_;walk_at "s";refine Ac (q8 l2 pb rfl) ?_;walk_at "s";refine Ac (q8 l3 (ZL 1) rfl) ?_;walk_at "s";refine Cp trivial (by exact ZI _) ?_;refine Ac (q1 G rfl) ?_;walk_at "s";refine det (Ni (ba.ok (by exact qe A rfl)) (bb.ok (by exact qf A rfl))) ?_;walk_at "s";refine Ac (q8 (cl G) (ZL 1) rfl) ?_;walk_at "s";refine Cp (ZI (j+2)) trivial ?_;refine Ac (q1 G rfl) ?_;walk_at "s";refine Ac (q8 (la (cl G) (ZL 1)) (cl G) rfl) ?_;walk_at "s";refine k1 _ (.eq (.mk (ts.take j++.node E a b::ts.drop (j+2)) (Zd (.p (.int i))) (Zd (.p (.int g))) (Zd (.p (.int j))) (Zd (.p (.str (kS E)))) (Zd (.p (gl a))) (Zd (.p (gl b))) (Zd (.p (.lst ((Tr.node E a b).pieces.map BC)))) ?_ ?_ ?_) ?_)
   ·exact Y4 hl I
   ·simp;exact YH _
   ·rw[hts]at u;simp only[S6,Ys,Tr.zX]at u⊢;refine Bj (u ..) ?_;refine Ab (ZS a.zG ..) ?_;rfl
   ·have ed:((j:Z7)+2).toNat=j+2:=by rfl
    have en:gl (.node E a b)=.tup [Cj (kS E,AY (kS E) a.part++AY (kS E) b.part),.lst (BC (Zc "(",Zm)::(a.pieces.map BC++BC (kS E,Zm)::(b.pieces.map BC++[BC (Zc ")",Zm)])))]:=by
     simp only[gl,Tr.zV,Tr.aag,ZA,Z3,X3,ZS,YO,W3]
    simp only[cut,ed,Vb,ZA,Z3,Th,Ti,Tr.zV,Tr.aag,ZS,YO,W3,X3,en]
  ·intro T X;refine X.casesOn ?_;intro ts o1 o2 o3 o4 o5 o6 o7 hl K u;revert hl;refine(?_:(4+ts.length=5)->_);intro hl
   match ts,hl with
   | [t],_=>
    walk_at "s";exact mEA t (by simpa using u) rfl
   | [],hl=>simp at hl
   |_::_::_,hl=>simp at hl;lia
end
section
variable{b:Z7}{l rh ts:Za Zi}{f:SE->V}{m:Zf}{st fst:Za SE}{r:Za SE×Za (Zi×Zi)}{o1 o2 o3 o5:Ze W}{G:Prop}{res:Za (Zi×Zi)}
theorem Kd(x:α):∀l:Za α,Et (l++[x])=Zd x:=by
 intro l
 induction l with
 |nil=>exact rfl
 |cons y r g=>exact Lc.trans (Ab g (rfl))
theorem vX(L:ps.length<=100)(hl:∀p∈ps,p.1.length<=100):AS (d+1) 932 [.lst (ps.map BC),.int b] (· =.lst ((Cc b ps ps.length).1.map .str)):=by
 refine Bk Gk Cm (n:=200) rfl ?_;walk_at "s";refine Ac (by simp;exact q1 L rfl) ?_;walk_at "s";refine Ac (by simp;lia) (mEA _ rfl ?_);refine Cv (λi s=>∃(o1 o2 o3:Ze W),s=⟨[(0,.list ((Cc b ps i).1.map .str))],1,[(146,Zd (.p (.lst (ps.map BC)))),(150,Zd (.p (.int b))),(151,Zd (.o 0)),(152,Zd (.p (.bool (Cc b ps i).2))),(131,o1),(153,o2),(154,o3)]⟩) (It Zs Zs Zs rfl) ?_ ?_
 ·rintro i v P kk O ⟨o1,o2,o3,rfl⟩ A R;rw[Zz]at O;refine xA (CX O) λh B=>?_;subst h;refine Du (N9 (b:=b) hl i (by exact YB B)) λK E H=>?_;generalize(hl ps[i] (Wq B))=D;generalize(DF (b:=b) B)=z;rw[z]at A;generalize(BM (f:=BC) (Za.getElem?_eq_getElem B))=j;generalize ps[i]=pc at D j A;obtain⟨G,Q⟩:=pc;generalize Cc b ps i=st at K E H A;obtain⟨tk,I⟩:=st;dsimp only at K E H D;generalize(by exact TQ (Oc (by exact ZI _)):(2^i:Z7)≠0)=u;generalize(JS i (by exact q6 B L rfl))=r;walk_at "s";refine Ac (by simp;lia) (Aa j ?_);cases Q with
  |false=>
   walk_at "s";refine Ac (by simp;lia) ?_;walk_at "s";exact A _ (It (Zd (.p (.int i))) (Zd (.p (.str G))) (Zd (.p (.bool Zh))) (by simp[Cn]))
  |true=>
   cases I with
   |false=>
    walk_at "s";refine Ac (by simp;lia) ?_;walk_at "s";refine Cp (by exact ZI _) (by exact qb B L rfl) ?_;walk_at "s";refine Cp u r ?_;walk_at "s";refine⟨by decide,?_⟩;walk_at "s";exact A _ (It (Zd (.p (.int i))) (Zd (.p (.str G))) (Zd (.p (.bool Zm))) (by simp[Cn,blank]))
   |true=>
    obtain⟨C,g,rfl⟩:∃C g,tk=C++[g]:=⟨tk.dropLast,tk.getLast (K rfl),(Wa _).symm⟩;walk_at "s";refine Ac (by simp;simp at E;lia) ?_;refine Aa (v:=.str g) (by refine Ab (ZA ..) ?_;refine Ab (UQ ..) ?_;refine Ab (Kd ..) ?_;rfl) ?_;walk_at "s";refine Ac (by have:=H g (by simp);show g.length+G.length<=16777216;lia) ?_;walk_at "s";refine Cp (by simp) (by simp;simp at E;lia) ?_;walk_at "s";refine Cp (by lia) (by lia) ?_;walk_at "s";refine Cp u r ?_;walk_at "s";refine⟨by decide,?_⟩;walk_at "s";exact A _ (It (Zd (.p (.int i))) (Zd (.p (.str G))) (Zd (.p (.bool Zm))) (by simp[Cn,blank]))
 ·rintro P ⟨o1,o2,o3,rfl⟩;walk_at "s";exact Es rfl _ rfl (by simp)
theorem FK{s:_}(h:Cw l (i+1)=Zd s):∃p t,Cw l i=Zd p/\l[i]? =Zd t/\Bi p t=Zd s:=by
 refine Ag (XH.mp h) λp j g=>?_;revert g;cases e:l[i]? with
 |none=>exact λg=>nj g
 |some t=>exact λg=>At p t j rfl g
theorem Kv{s:_}(h:Cw l n=Zd s):∀i,i<=n->∃p,Cw l i=Zd p:=by
 induction n generalizing s with
 |zero=>intro i g;exact⟨s,by refine Ab (Oe.mp g ..) ?_;exact h⟩
 |succ n j=>
  intro i g;refine An (FK h) λp t r u u=>?_;rcases R1 n i with q|q
  ·exact Ab (by exact Uq g q:i=n+1) (⟨s,h⟩)
  ·exact j r i q
theorem Dw{g s:_}(h:A0 x (i+1) g=Zd s):∃p,A0 x i g=Zd p/\AC p (gc x i)=Zd s:=by
 exact XH.mp h
theorem Jj{g s:_}(h:A0 x n g=Zd s):∀i,i<=n->∃p,A0 x i g=Zd p:=by
 induction n generalizing s with
 |zero=>intro i j;exact⟨s,by refine Ab (Oe.mp j ..) ?_;exact h⟩
 |succ n r=>
  intro i j;refine Ag (Dw h) λp u z=>?_;rcases R1 n i with q|q
  ·exact Ab (by lia:i=n+1) (⟨s,h⟩)
  ·exact r u i q
theorem KB{s0}:∀{s},A0 x n s0=Zd s->s.1.length<=s0.1.length+n:=by
 induction n with
 |zero=>intro s h;cases h;exact ZL _
 |succ n j=>
  intro s h;refine Ag (Dw h) λp g r=>?_;generalize(j g)=this;generalize(FP r)=this;lia
theorem items_str(h:x.cps.all (λc=>decide (c<128))=Zm):itemsOf H (.p (.str x))=Zd ((UO x.cps.size).map (sign x)):=by
 refine(?_:gd (x.cps.all (λc=>decide (c<128))) _=_);refine Ab h ?_;rfl
theorem Nz:∀{l:Za V},(l.flatMap λv=>rh.map λb=>V.tup [v,.str b]).length=l.length*rh.length:=by
 intro l
 induction l with
 |nil=>exact by simp
 |cons v r g=>exact by refine Ab (Ys ..) ?_;refine Ab (Zt ..) ?_;refine Ab (g ..) ?_;refine Ab (Zz ..) ?_;refine Ab (U8 ..) ?_;lia
theorem Ny(l:Za V):(l.flatMap λu=>[V.tup [D8,u]])=l.map λu=>V.tup [D8,u]:=by
 induction l with
 |nil=>rfl
 |cons u r g=>refine Ab Ys ?_;refine Ab g ?_;rfl
theorem bN:((B8.map V.str).flatMap λv=>rh.map λb=>V.tup [v,.str b])=(B8.flatMap λa=>rh.map λb=>(a,b)).map cJ:=by
 induction B8 with
 |nil=>rfl
 |cons u r g=>simp only[Z3,Ys,ZA,g,YX];rfl
theorem BN(f:SE->V)(x:SE)(r:Za SE):Et ((x::r).reverse.map f)=Zd (f x):=by
 refine Ab (WE ..) ?_;refine Ab (ZA ..) ?_;refine Ab (UQ ..) ?_;refine Ab (Kd ..) ?_;rfl
theorem AX(f:SE->V)(x:SE)(r:Za SE):((x::r).reverse.map f).dropLast=r.reverse.map f:=by
 refine Ab WE (Ab ZA ?_);refine Ab UQ (Ab Vi ?_);rfl
noncomputable def gm(ts:Za Zi)(st:Za SE)(sp:Za (Zi×Zi))(o1 o2 o3 o4 o5:Ze W):S:=⟨[(0,.list (st.reverse.map aG))],1,[(151,Zd (.p (.lst (ts.map .str)))),(113,Zd (.o 0)),(159,Zd (.p (.lst (sp.map cJ)))),(56,o1),(154,o2),(142,o3),(138,o4),(141,o5)]⟩
noncomputable def yC:Za PS:=match Hk.body with
 |_::_::.for_ _ _ _ b::_=>b
 |_=>[]
noncomputable def yF:Za PS:=match yC with
 |.ite _ _ (.for_ _ _ _ b::_)::_=>b
 |_=>[]
inductive TI(ts:Za Zi)(t:Ze (Za SE×Za (Zi×Zi))):S->Prop
 |mk (p:Za SE×Za (Zi×Zi)) (o1 o2 o3 o4 o5:Ze W) (h:t=Zd p):TI ts t (gm ts p.1 p.2 o1 o2 o3 o4 o5)
inductive TJ(ts:Za Zi)(o1:Ze W)(t:Ze (Za SE×Za (Zi×Zi))):S->Prop
 |mk (p:Za SE×Za (Zi×Zi)) (o2 o3 o4 o5:Ze W) (h:t=Zd p):TJ ts o1 t (gm ts p.1 p.2 o1 o2 o3 o4 o5)
theorem rv{l:Za SE}(h:l.length<=m)(e:Yr m 16777216=Zm):(l.reverse.map f).length<=16777216:=lq (Zv (Z1 UA) h) e
theorem xi{l:Za SE}{x:SE}:(x::l).reverse.map aG=l.reverse.map aG++[aG x]:=by
 rw[WE,ZA];rfl
theorem my{c d:Za Zi}:aG (.blk (B8++B9) (c++d))=.tup [.lst (B8.map .str++B9.map .str),.lst (c.map .str++d.map .str)]:=by
 refine(?_:V.tup [.lst ((B8++B9).map .str),.lst ((c++d).map .str)]=_);rw[ZA,ZA]
theorem yR{f:α->β}{l k:Za α}(h:l.length<=100)(g:k.length<=100):(l.map f).length+(k.map f).length<=16777216:=Zv (Xa (lm h) (lm g)) (Zw rfl)
theorem dL{o4:Ze W}(D:AC (st,sp) x=Zd r)(hl:st.length<=20000)
 (g:∀o2 o3 o4 o5,kk .nx (gm ts r.1 r.2 o1 o2 o3 o4 o5)):gf (go vJ (nat_lit 192)) d [154] yF (.str x) (gm ts st sp o1 o2 o3 o4 o5) kk:=by
 refine He (M:=λst sp x r=>st.length<=20000->(∀o2 o3 o4 o5,kk .nx (gm ts r.1 r.2 o1 o2 o3 o4 o5))->gf (go vJ (nat_lit 192)) d [154] yF (.str x) (gm ts st sp o1 o2 o3 o4 o5) kk) ?_ ?_ ?_ ?_ D hl g
 ·intro rh rt G A rest sp b1 b2 b3 b4 b5 hl g;walk_at "s";refine⟨rv hl rfl,?_⟩;refine Aa (BN _ _ _) ?_;rw[AX];walk_at "s";refine⟨rv (Yf hl) rfl,?_⟩;refine Aa (BN _ _ _) ?_;rw[AX];walk_at "s";refine⟨rv (Yf (Yf hl)) rfl,?_⟩;refine Aa (BN _ _ _) ?_;rw[AX];walk_at "s";refine Ac (lq b4 rfl) ?_;walk_at "s";refine Ge (λv=>rh.map λb=>V.tup [v,.str b]) (λs=>∃o1 o2,s=⟨[(0,.list (rest.reverse.map aG))],1,[(160,o1),(161,o2),(142,Zd (.p (aG (.blk rh rt))))]⟩) 16777216 ?_ (gq Zs Zs rfl) ?_ ?_
  ·rw[Nz,Zz];exact Zv (Z1 (Y0 _)) (q1 (UR b4 b1) rfl)
  ·rintro v acc j kk L H ⟨o1,o2,rfl⟩ g;rw[Zz]at H;walk_at "s";refine Ac (lq b1 rfl) (Ge (λu=>[V.tup [v,u]]) (λs=>∃o2,s=⟨[(0,.list (rest.reverse.map aG))],1,[(160,Zd (.p v)),(161,o2),(142,Zd (.p (aG (.blk rh rt))))]⟩) 16777216 (by rw[Ny,Zz,Zz];exact H) ⟨_,rfl⟩ ?_ ?_)
   ·rintro u acc j I K E ⟨o2,rfl⟩ B;walk_at "s";exact Ac (by exact YB E) (B _ ⟨_,rfl⟩)
   ·rintro j ⟨o2,rfl⟩;rw[Ny,YX];exact g _ (gq _ _ rfl)
  ·rintro j ⟨o1,o2,rfl⟩;walk_at "s";refine Ac ?_ ?_
   ·rw[Zt,Nz,Zz,Zz];rw[Xo,Y0];exact q1 (Xa b5 (UR b4 b1:A.length*rh.length<=100*100)) rfl
   walk_at "s";refine Ac (rv (Yf (Yf (Yf hl))) rfl) ?_;walk_at "s";generalize(g (Zd (.p (.str Dx))) (Zd (.p (aG (.blk rh rt)))) (Zd (.p (aG (.kd JN)))) (Zd (.p (aG (.blk G A)))))=z;unfold gm at z;rw[ZA,<-bN,xi]at z;exact z
 ·intro rh rt k G A rest sp C b1 b2 b3 b4 hl g;walk_at "s";refine⟨rv hl rfl,?_⟩;refine Aa (BN _ _ _) ?_;rw[AX];walk_at "s";refine⟨rv (Yf hl) rfl,?_⟩;refine Aa (BN _ _ _) ?_;rw[AX];walk_at "s";refine⟨rv (Yf (Yf hl)) rfl,?_⟩;refine Aa (BN _ _ _) ?_;rw[AX];walk_at "s";refine Au (λh=>ZT (beq_iff_eq.mp h) C) (λj=>?_);walk_at "s";refine Ac (yR b3 b1) ?_;walk_at "s";refine Ac (yR b4 b2) ?_;walk_at "s";refine Ac (rv (Yf (Yf (Yf hl))) rfl) ?_;walk_at "s";generalize(g (Zd (.p (.str Dx))) (Zd (.p (aG (.blk rh rt)))) (Zd (.p (aG (.kd k)))) (Zd (.p (aG (.blk G A)))))=z;unfold gm at z;rw[xi,my]at z;exact z
 ·intro st sp x n1 n2 hl g;walk_at "s";refine Au (λh=>ZT (beq_iff_eq.mp h) n1) (λj=>?_);walk_at "s";refine Au (λj=>?_) (λh=>ZT h (by simpa using n2));walk_at "s";refine Ac (rv hl rfl) ?_;walk_at "s";generalize(g (Zd (.p (.str x))) o3 o4 o5)=z;unfold gm at z;rw[xi]at z;exact z
 ·intro st sp hl g;walk_at "s";exact g (Zd (.p (.str HX))) o3 o4 o5
theorem aq(h:Bi (st,sp) tok=Zd r)(g:st.length<=10000->tok.length<=10000->Wt tok CW≠Br->(SE.blk [tok] [tok]::st,sp)=r->G)
 (j:st.length<=10000->tok.length<=10000->tok.cps.size<=10000-> ¬Wt tok CW≠Br->tok.cps.all (· <128)=Zm->A0 tok tok.cps.size (st,sp)=Zd r->G):G:=
 Hj h (λhb h=>Hj h (λe h=>g hb.1 hb.2.1 e (Yd h)) λe h=>Hj h (λs h=>j hb.1 hb.2.1 hb.2.2 e s h) λu h=>nj h) λu h=>nj h
theorem gO{o4:Ze W}(D:Bi (st,sp) tok=Zd r)
 (K:∀o1 o2 o3 o4 o5,kk .nx (gm ts r.1 r.2 o1 o2 o3 o4 o5)):gf (go vJ (nat_lit 196)) d [56] yC (.str tok) (gm ts st sp o1 o2 o3 o4 o5) kk:=by
 refine aq D (λb1 b2 E e=>?_) λb1 b2 b3 E P I=>?_
 ·subst e;walk_at "s";refine Ac (Zv b2 (by decide)) ?_;walk_at "s";refine Au (λC=>?_) (λh=>ZT h (by simpa using E));walk_at "s";refine Ac (by simp;lia) ?_;walk_at "s";generalize(K (Zd (.p (.str tok))) o2 o3 o4 o5)=z;unfold gm at z;simp only[ZA,WE,Z3,X3]at z;exact z
 ·walk_at "s";refine Ac (Zv b2 (by decide)) ?_;walk_at "s";refine Au (λh=>ZT (by simpa using h) E) (λC=>?_);walk_at "s";refine Ab (items_str P ..) ?_;walk_at "s";refine Ac (by simp;lia) (mEA _ rfl ?_);refine Cv (λj s=>TJ ts (Zd (.p (.str tok))) (A0 tok j (st,sp)) s) (TJ.mk (st,sp) o2 o3 o4 o5 rfl) ?_ ?_
  ·rintro j v C O u ⟨q,o2,o3,o4,o5,B⟩ R C;have L:j<tok.cps.size:=by
    generalize((Za.getElem?_eq_some_iff.mp u).1)=this;simpa using this
   rw[Za.getElem?_map,Za.getElem?_range L]at u;cases u;refine xE (Jj I (j+1) L) λQ A=>Ag (Dw A) λq2 G g=>?_;generalize(Yd (B.symm.trans G))=G;subst G;have H:q.1.length<=st.length+j:=KB B;exact dL g (by lia) λo2 o3 o4 o5=>R _ (TJ.mk Q o2 o3 o4 o5 A)
  ·rintro C ⟨q,o2,o3,o4,o5,B⟩;rw[Zz,Y5,I]at B;cases B;exact K _ _ _ _ _
theorem mr(G:ts.length<=1000)(A:Cw ts ts.length=Zd (fst,res)):AS (d+1) 944 [.lst (ts.map .str)] (· =.lst (res.map cJ)):=by
 refine Bk Lg Cm (n:=200) rfl ?_;walk_at "s";refine Ac (by simp;exact q1 G rfl) ?_;refine mEA _ rfl (Cv (λi s=>TI ts (Cw ts i) s) (TI.mk ([],[]) Zs Zs Zs Zs Zs rfl) ?_ ?_)
 ·rintro i v C kk u ⟨p,o1,o2,o3,o4,o5,h⟩ D C;have j:i<ts.length:=by
   generalize((Za.getElem?_eq_some_iff.mp u).1)=this;simpa using this
  rw[Za.getElem?_map,Za.getElem?_eq_getElem j]at u;cases u;refine xE (Kv A (i+1) j) λE g=>An (FK g) λq tok z B r=>?_;generalize(Yd (h.symm.trans z))=z;subst z;rw[Za.getElem?_eq_getElem j]at B;exact Ab (Yd B) (gO r λo1 o2 o3 o4 o5=>D _ (TI.mk E o1 o2 o3 o4 o5 g))
 ·rintro C ⟨p,o1,o2,o3,o4,o5,h⟩;rw[Zz,A]at h;cases h;walk_at "s"
  first|rfl|skip
end
section
variable{G' G1 G:Za Nd}{rd' ei' er lt names:Za Zf}{q:LW}{m' x name c m held k:Zf}{T:Za Nd×Za Zf×Z7×Z7×Za Zf}{A:Zo->Prop}{B Q P:Prop}{f:α->β}{l:Za α}
noncomputable def bR:AM:=⟨[162,159,163],[164,165,166,167,135,170,168],[],Zh,[(.asg 164 (.mk 860 [] [])),(.for_ Zm [165] (.nm 162) [(.expr (.methS (.nm 164) 11 [(.nm 165)] (.lc Zh [160,161] (.nm 159) (Zd (.cmp .Eq (.nm 161) (.nm 165))) (.nm 160) [165])))]),(.asg 166 (.list Zm [(.meth (.nm 164) 171 [])])),(.asg 167 (.list Zm [])),(.for_ Zm [135] (.callb .range Zh [(.callb .len Zh [(.nm 162)])]) [(.asg 170 (.meth (.nm 164) 172 [])),(.expr (.meth (.nm 166) 1 [(.ife (.callb .isinst Zh [(.nm 170),(.gv (.type "tuple"))]) .none (.int 0))])),(.for_ Zm [165] (.nm 170) [(.expr (.meth (.nm 167) 1 [(.nm 165)])),(.ite (.cmp .NotEq (.nm 165) (.nm 163)) [(.expr (.meth (.nm 166) 1 [(.meth (.nm 164) 173 [(.nm 165)])]))] [])])]),(.expr (.meth (.nm 166) 1 [(.ife (.cmp .Is (.meth (.nm 164) 174 []) (.bool Zm)) .none (.int 1))])),(.expr (.meth (.nm 166) 1 [(.meth (.nm 164) 173 [(.nm 163)])])),(.asg 168 (.list Zh [])),(.for_ Zm [135] (.callb .range Zh [(.callb .len Zh [(.nm 162)])]) [(.asg 170 (.meth (.nm 164) 172 [])),(.asg 168 (.bin .Add (.nm 168) (.callb .list Zh [(.nm 170)]))),(.expr (.meth (.nm 166) 1 [(.methS (.nm 164) 173 [] (.nm 170))]))]),(.expr (.meth (.nm 166) 1 [(.ife (.cmp .Is (.meth (.nm 164) 174 []) (.bool Zh)) .none (.int 2))])),(.ite (.bop .Or [(.neL Zm (.nm 166) (.bin .Mult (.list Zh [.none]) (.callb .len Zh [(.nm 166)]))),(.neL Zh (.callb .sorted Zh [(.bin .Add (.nm 167) (.nm 168))]) (.callb .sorted Zh [(.nm 162)]))]) [(.ret (.list Zh [(.nm 163)]))] []),(.ret (.nm 168))],[]⟩
theorem Nn(P:Z9):Ef 949 bR P:=⟨⟨by kernel_rfl,by kernel_rfl⟩,gA (λh g j=>by kernel_rfl)⟩
noncomputable abbrev strN(nm:Zf->Zi)(l:Za Zf):Za V:=l.map λx=>V.str (nm x)
noncomputable def Ij(nm:Zf->Zi)(p:Zf×Zf):V:=.tup [.str (nm p.1),.str (nm p.2)]
noncomputable def fS(y:Zi):V->Za V
 |.tup [.str a,.str b]=>if b==y then[.str a]else[]
 |_=>[]
theorem kN(g:Dt nm)(x:Zf)(l:Za (Zf×Zf)):(l.map (Ij nm)).flatMap (fS (nm x))=strN nm (JQ l x):=by
 induction l with
 |nil=>rfl
 |cons p r h=>
  refine(ZH (_++ ·) h).trans ?_;show(if nm p.2==nm x then[V.str (nm p.1)]else[])++_=strN nm (match ZX p.2 x with|true=>p.1::JQ r x|false=>JQ r x);refine Ab (g.beq ..) ?_;cases ZX p.2 x<;>rfl
noncomputable def fL(nm:Zf->Zi)(names:Za Zf)(steps:Za (Zf×Zf))(held:Zf)(a b c e f g:Ze W):Za (Zf×Ze W):=
 [(162,Zd (.p (.lst (strN nm names)))),(159,Zd (.p (.lst (steps.map (Ij nm))))),(163,Zd (.p (.str (nm held)))),(164,Zd (.o 0)),(165,a),(166,b),(167,c),(135,e),(170,f),(168,g)]
structure LS(nm:Zf->Zi)(nx rl:Zf)(G0:Za Nd)(H:Za (Zf×LW))(np nf:Z7)(G:Za Nd)(rd:Za Zf)(m:Zf)(ei:Za Zf):Prop where
 h:SF nm H (nx+2) (.o rl) np nf (.dictW (Dq nm 3 (G0.map (·.1)))) (G0.map (·.1)) G
 l:G.length=G0.length
 r:Ai rl H=Zd (.list (strN nm rd))
 A:Ai nx H=Zd (.list (Yb m .none))
 B:Ai (nx+1) H=Zd (.list (strN nm ei))
 o:3+2*G0.length=rl
 n:rl<nx
section
variable{rl:Zf}{G0:Za Nd}{ei:Za Zf}{k:W->S->Prop}
theorem LS.hl(h:LS nm nx rl G0 H np nf G rd m ei):3+2*G.length=rl:=by refine Ab h.l ?_;exact h.o
theorem LS.fr(h:LS nm nx rl G0 H np nf G rd m ei)
 (h':SF nm H' (nx+2) (.o rl) dn z7 (.dictW (Dq nm 3 (G0.map (·.1)))) (G0.map (·.1)) G') (hl:G'.length=G.length) (j:Ai rl H'=Zd (.list (strN nm rd'))) (g:∀l,3+2*G.length<=l->l≠rl->Ai l H'=Ai l H):
 LS nm nx rl G0 H' dn z7 G' rd' m ei:=
 have c:3+2*G.length<=nx:=Zv (Z1 h.hl) (YB h.n)
 ⟨h',hl.trans h.l,j,(g _ c (Y2 h.n)).trans h.A,(g _ (XO c) (Y2 (Xh h.n))).trans h.B,h.o,h.n⟩
theorem LS.at(h:LS nm nx rl G0 H np nf G rd m ei)(g:rl<j)(e:∀l,Ai l H'=if l=j then Zd q else Ai l H)(a:Ai nx H'=Zd (.list (Yb m' .none)))(b:Ai (nx+1) H'=Zd (.list (strN nm ei'))):
 LS nm nx rl G0 H' np nf G rd m' ei':=
 have f:∀l,l<=rl->Ai l H'=Ai l H:=λl q=>up (e l) (Yp (WY q g))
 ⟨h.h.frame (ZL _) (λl q=>f l (Zv (YB q) (Z1 h.hl))),h.l,(f _ (ZL _)).trans h.r,a,b,h.o,h.n⟩
theorem LS.putA(h:LS nm nx rl G0 H np nf G rd m ei){k:Za (Zf×LW)->Prop}(j:∀H',LS nm nx rl G0 H' np nf G rd (m+1) ei->k H'):Aj (put nx (.list (Yb m .none++[.none])) H) k:=by
 exact Ag (Bm (.list (Yb m V.none++[.none])) h.A) λH' g hl=>Aa g (j _ (h.at h.n hl ((hl _).trans ((if_pos rfl).trans (ZH (λl=>Zd (LW.list l)) List.replicate_succ'.symm))) ((up (hl _) (Yq _)).trans h.B)))
theorem LS.aaz(h:LS nm nx rl G0 H np nf G rd m ei){k:Za (Zf×LW)->Prop}(j:∀H',LS nm nx rl G0 H' np nf G rd m (ei++[x])->k H'):Aj (put (nx+1) (.list (strN nm ei++[.str (nm x)])) H) k:=by
 exact Ag (Bm (.list (strN nm ei++[.str (nm x)])) h.B) λH' g hl=>Aa g (j _ (h.at (Xh h.n) hl ((up (hl _) (Yp (YI _))).trans h.A) ((hl _).trans ((if_pos rfl).trans (ZH (λl=>Zd (LW.list l)) (ZA (l₁:=ei) (l₂:=[x])).symm)))))
theorem LS.rdy(g:Dt nm)(h:LS nm nx rl G0 H np nf G rd m ei)(u:rd.length<=900)(j:Eo rd G=Zd G1)(s:∀H',LS nm nx rl G0 H' (np+rd.length) nf G1 [] m ei->k (.p (.tup (strN nm rd))) ⟨H',nx+2,rho⟩):
 go GQ (n+80) (d+5) (.sts Az.body (Bs rho k)) ⟨H,nx+2,[(19,Zd (.o 0)),(83,Zs),(105,Zs),(87,Zs)]⟩:=
 dQ g h.h h.r (Z1 h.hl) u j λH' a b c=>s H' (h.fr a (fm j) b c)
theorem LS.don(g:Dt nm)(h:LS nm nx rl G0 H np nf G rd m ei){T:Za Nd×Za Zf×Z7}(u:xs.length<=900)(j:Ea xs G rd nf=Zd T)(s:∀H',LS nm nx rl G0 H' np T.2.2 T.1 T.2.1 m ei->k (.p .none) ⟨H',nx+2,rho⟩):
 go GQ (n+80) (d+5) (.sts AJ.body (Bs rho k)) ⟨H,nx+2,[(19,Zd (.o 0)),(108,Zd (.p (.tup (strN nm xs)))),(105,Zs),(87,Zs),(97,Zs),(109,Zs),(111,Zs),(112,Zs)]⟩:=
 lj g h.h h.r (Z1 h.hl) u j λH' l a b c=>s H' (h.fr a l b c)
theorem LS.mA(h:LS nm nx rl G0 H np nf G rd m ei)(q:B):jp (IH H (.o nx) name) A B:=BE (BG h.A rfl) q
end
inductive I1(nm:Zf->Zi)(names:Za Zf)(steps:Za (Zf×Zf))(held:Zf)(G:Za Nd)(r:Za Zf):S->Prop
 |mk (Gi:Za Nd) (H:Za (Zf×LW)) (o:Ze W) (e:LM steps r Gi=Zd G) (h:SF nm H (3+2*Gi.length) (.p .none) 0 0 (.dictW (Dq nm 3 (Gi.map (·.1)))) (Gi.map (·.1)) Gi):
  I1 nm names steps held G r ⟨H,3+2*Gi.length,fL nm names steps held o Zs Zs Zs Zs Zs⟩
inductive I2(nm:Zf->Zi)(names:Za Zf)(steps:Za (Zf×Zf))(held nx rl:Zf)(G0:Za Nd)(T:Za Nd×Za Zf×Z7×Z7×Za Zf)(r:Za Zf):S->Prop
 |mk (Gi:Za Nd) (rd:Za Zf) (np nf:Z7) (ei:Za Zf) (m:Zf) (H:Za (Zf×LW)) (o1 o2 o3:Ze W) (e:GS held r.length Gi rd np nf ei=Zd T) (h:LS nm nx rl G0 H np nf Gi rd m ei) (hM:m+1000*r.length<=62000):
  I2 nm names steps held nx rl G0 T r ⟨H,nx+2,fL nm names steps held o1 (Zd (.o nx)) (Zd (.o (nx+1))) o2 o3 Zs⟩
inductive I3(nm:Zf->Zi)(names:Za Zf)(steps:Za (Zf×Zf))(held nx rl:Zf)(G0:Za Nd)(np:Z7)(o2 o3:Ze W)(M:Zf)(T:Za Nd×Za Zf×Z7×Za Zf)(r:Za Zf):S->Prop
 |mk (Gi:Za Nd) (rd:Za Zf) (nf:Z7) (ei:Za Zf) (m:Zf) (H:Za (Zf×LW)) (o1:Ze W) (e:E1 held r Gi rd nf ei=Zd T) (h:LS nm nx rl G0 H np nf Gi rd m ei) (hM:m+r.length+M<=62000):
  I3 nm names steps held nx rl G0 np o2 o3 M T r ⟨H,nx+2,fL nm names steps held o1 (Zd (.o nx)) (Zd (.o (nx+1))) o2 o3 Zs⟩
inductive I4(nm:Zf->Zi)(names:Za Zf)(steps:Za (Zf×Zf))(held nx rl:Zf)(G0:Za Nd)(er:Za Zf)(T:Za Zf×Z7×Z7×Za Zf)(r:Za Zf):S->Prop
 |mk (Gi:Za Nd) (rd:Za Zf) (np nf:Z7) (li:Za Zf) (m:Zf) (H:Za (Zf×LW)) (o1 o2 o3:Ze W) (e:Kc r.length Gi rd np nf li=Zd T) (h:LS nm nx rl G0 H np nf Gi rd m er) (hM:m+r.length<=70000):
  I4 nm names steps held nx rl G0 er T r ⟨H,nx+2,fL nm names steps held o1 (Zd (.o nx)) (Zd (.o (nx+1))) o2 o3 (Zd (.p (.lst (strN nm li))))⟩
theorem zL(g:Yr c 90000=Zm)(h:l.length<=70000)(q:Q):A4 ((l.map f).length+c) Q:=Ac (by refine Ab (Zz ..) ?_;exact q8 h (Zw g) rfl) q
theorem zR{v:β}(h:m<=70000)(q:Q):A4 (Yb m v).length Q:=Ac (Ab V8 (q1 h rfl)) q
theorem bT{T:Za Nd×Za Zf×Z7×Za Zf}(e:E1 held (x::r) G rd nf er=Zd T)(c:er.length<=900->IK (ZX x held) (E1 held r G rd nf (er++[x])) (ob (Ea [x] G rd nf) λT=>E1 held r T.1 T.2.1 T.2.2 (er++[x]))=Zd T->P):P:=AH e λa e=>c (Zw a) e
inductive IL(nm:Zf->Zi)(x:Zf)(H:Za (Zf×LW))(nx:Zf):S->Prop
 |mk (o1 o2:Ze W):IL nm x H nx ⟨H,nx,[(160,o1),(161,o2),(165,Zd (.p (.str (nm x))))]⟩
theorem bU(e:GS held (k+1) G rd np nf er=Zd T)
 (c:∀G1 X,rd.length<=900->Eo rd G=Zd G1->E1 held rd G1 [] nf er=Zd X->GS held k X.1 X.2.1 (np+rd.length) X.2.2.1 X.2.2.2=Zd T->P):P:=
 AH e λa e=>Ah e λG1 b e=>Ah e λX d e=>c G1 X (Zw a) b d e
theorem fy{T:Za Zf×Z7×Z7×Za Zf}(e:Kc (k+1) G rd np nf lt=Zd T)
 (c:∀G1 X,rd.length<=900->lt.length<=900->Eo rd G=Zd G1->Ea rd G1 [] nf=Zd X->Kc k X.1 X.2.1 (np+rd.length) X.2.2 (lt++rd)=Zd T->P):P:=
 AH e λa e=>Ah e λG1 b e=>Ah e λX d e=>have a:=Yi.mp a
  c G1 X (Zw a.1) (Zw a.2) b d e
theorem fz(e:jI names steps held=Zd lt)
 (c:∀G s E D L,LM steps names []=Zd G->G.length<=900->te G (G.map (·.1)) 100 (G.map (·.1)) []=Zd s->GS held names.length G (FT G) 0 0 []=Zd E->pD E.2.1 E.2.2.1 E.2.2.2.1=Zm->E.2.1.length<=900->Ea [held] E.1 E.2.1 E.2.2.2.1=Zd D->
  Kc names.length D.1 D.2.1 E.2.2.1 D.2.2 []=Zd L->pD L.1 L.2.1 L.2.2.1=Zh->L.1.length<=900->(E.2.2.2.2++L.2.2.2).Perm names->L.2.2.2=lt->P):P:=
 Ah e λG z e=>AH e λA e=>Ah e λs B e=>Ah e λE g e=>AH e λC e=>AH e λu e=>Ah e λD j e=>Ah e λL h e=>AH e λr e=>AH e λb1 e=>AH e λb2 e=>c G s E D L z (Zw A) B g C (Zw u) j h ((YQ _).mp r) (Zw b1) (List.isPerm_iff.mp b2) (Yd e)
noncomputable section
theorem s9(g:Dt nm)(K:names.length<=60)(hs:steps.length<=900)(hm:jI names steps held=Zd lt)(hok:∀x∈names,Wi (nm x)=Zm):
 AS (d+12) 949 [.lst (strN nm names),.lst (steps.map (Ij nm)),.str (nm held)] (· =.lst (strN nm lt)):=by
 refine fz hm λG Q E D L e1 hGz e2 e3 e4 e5z e5 e6 e7 hz3 I elt=>?_;subst elt;refine Bk Nn sY (n:=200) rfl ?_;walk_at "s";refine zL (c:=0) rfl (by exact q1 K rfl) ?_;refine mEA _ rfl ?_;refine B0 (λx=>V.str (nm x)) (I1 nm names steps held G) (I1.mk [] [(2,LW.dictW []),(0,.inst 860 1),(1,.attrs (atS (.p .none) 0 0))] Zs e1 ⟨rfl,rfl,rfl,λi x n ss e=>by trivial,rfl,ZL _⟩) ?_ ?_
 ·intro x r R kk C k1 k2;cases C with|mk T H o e h=>
  refine Ah e λGj ea e=>?_;have hp:=lJ ea;walk_at "s";refine Aa h.im ?_;refine Ac (lq hs rfl) ?_;refine Ge (fS (nm x)) (IL nm x H (3+2*T.length)) 16777216 ?_ (.mk Zs Zs) ?_ ?_
  ·refine Ab (kN g ..) ?_;exact q8 (ZL 0) (lm hp) rfl
  ·intro v acc R kk2 hv hB C a0;cases C with|mk o1 o2=>
   refine Ag (Ye.mp hv) λp R ep=>?_;subst ep;walk_at "s";refine Au (λq=>?_) (λq=>?_)
   ·walk_at "s";have ef:fS (nm x) (Ij nm p)=[.str (nm p.1)]:=if_pos q;rw[ef]at a0 hB;exact Ac (Zv (ZF _ _) hB) (a0 _ (.mk _ _))
   ·walk_at "s";have ef:fS (nm x) (Ij nm p)=[]:=Yc (λh=>ZK (h.symm.trans q));rw[ef,YL]at a0;exact a0 _ (.mk _ _)
  ·intro R C;cases C with|mk o1 o2=>
   refine Ab (kN g ..) ?_;refine Ab (W3 ..) ?_;walk_at "s";refine Ac (lq hp rfl) ?_;refine Ac (by refine Ab (Zz ..) ?_;simp;exact q1 hp rfl) ?_;refine⟨(),?_⟩;refine Bj (Hs (nat_lit 194) (d+10) ..) ?_;refine tI (n:=114) (d:=d) g h rfl ea λH' h'=>?_;walk_at "s";exact k1 _ (I1.mk Gj H' _ e h')
 ·intro R C;cases C with|mk T H o e h=>
  cases e;walk_at "s";refine BU h.im ?_;refine⟨(),?_⟩;refine Bj (Hs (nat_lit 193) (d+10) ..) ?_;refine nv (n:=103) (d:=d+4) g h (lm hGz) e2 λH1 O hr1=>?_;have P:3+2*G.length<3+2*G.length+5+2*Q.length:=ZB (YT (YH 4)) (ZF _ _);generalize hnx:3+2*G.length+5+2*Q.length=nx at O P;generalize hrl:3+2*G.length=rl at*;walk_at "s";refine zL (c:=0) rfl (q1 K rfl) ?_;refine Ac (lm (Zv (Z1 Y5) (lq K rfl))) ?_;refine mEA _ rfl ?_;refine B0 (λi:Zf=>V.int (i:Z7)) (I2 nm names steps held nx rl G E)
   (I2.mk G (FT G) 0 0 [] 1 ((nx+1,LW.list [])::(nx,LW.list [V.none])::H1) o Zs Zs (by refine Ab (Y5 ..) ?_;refine Ab (Zz ..) ?_;exact e3)
    ⟨O.frame (ZF _ _) (λl q=>have q:l<nx:=Nat.lt_trans (hrl▸q) P;Bg (Yp (Xh q)) (Bg (Yp q) rfl)),rfl,Bg (Yp (Xh P)) (Bg (Yp P) hr1),Bg (Yq _).symm Cl,Cl,hrl,P⟩
    (by refine Ab (Y5 ..) ?_;refine Ab (Zz ..) ?_;exact q1 (Yy (Y1 1000 K) 1) rfl)) ?_ ?_
  ·intro i r R kk C k1 k2;cases C with|mk T rd np nf ei m H o1 o2 o3 e h j=>
   refine bU e λGj X z em ex e=>?_;walk_at "s";refine BU h.h.im ?_;refine⟨(),?_⟩;refine Bj (Hs (nat_lit 191) (d+10) ..) ?_;refine h.rdy (n:=111) (d:=d+5) g z em λH2 u=>?_;walk_at "s";refine u.mA ?_;refine Aa (BZ u.A rfl) ?_;refine⟨rfl,?_⟩;refine Aa u.A ?_;refine zR (qe j rfl) ?_;refine u.putA λH3 h3=>?_;refine zL (c:=0) rfl (q1 z rfl) ?_;refine mEA _ rfl ?_;refine B0 (λx=>V.str (nm x)) (I3 nm names steps held nx rl G (np+rd.length) (Zd (.p (.int (i:Z7)))) (Zd (.p (.tup (strN nm rd)))) (1000*r.length) X)
    (I3.mk Gj [] nf ei (m+1) H3 o1 ex h3 (mM j z)) ?_ ?_
   ·intro x r2 R kk C k1 k2;cases C with|mk T rdi nfi ei m H o1 e h j=>
    refine bT e λK e=>?_;walk_at "s";refine BE (BG h.B rfl) ?_;refine Aa (BZ h.B rfl) ?_;refine Aa h.B ?_;refine zL (c:=0) rfl (q1 K rfl) ?_;refine h.aaz λH1 O=>?_;refine Au (λq=>?_) (λq=>?_)
    ·refine Ah ((EY ((YQ _).mp ((g.bne x held).symm.trans q))).symm.trans e) λU ed e=>?_;walk_at "s";refine O.mA ?_;refine Aa (BZ O.A rfl) ?_;refine BU O.h.im ?_;refine⟨(),?_⟩;refine Bj (Hs (nat_lit 182) (d+10) ..) ?_;refine O.don (n:=102) (d:=d+5) g (xs:=[x]) (YH _) ed λH4 h4=>?_;walk_at "s";refine Aa h4.A ?_;refine zR (qe (Zv (ZF _ _) j) rfl) ?_;refine h4.putA λH5 h5=>?_;walk_at "s";exact k1 _ (I3.mk U.1 U.2.1 U.2.2 _ (m+1) H5 _ e h5 (sh j))
    ·have e:=(gdE_t ((Rx _).mp ((g.bne x held).symm.trans q))).symm.trans e;walk_at "s";exact k1 _ (I3.mk T rdi nfi _ m H1 _ e O (Zv (Xm (Yy (YY _) m) _) j))
   ·intro R C;cases C with|mk T rdi nfi ei m H o1 e' h j=>
    cases e';walk_at "s";exact k1 _ (I2.mk T rdi _ nfi ei m H _ _ _ e h j)
  ·intro R C;cases C with|mk T rd np nf ei m H o1 o2 o3 e h j=>
   cases e;have j:m<=62000:=j;walk_at "s";refine h.mA ?_;refine Aa (BZ h.A rfl) ?_;refine BU h.h.im ?_;refine⟨(),?_⟩;refine Bj (Hs (nat_lit 188) (d+10) ..) ?_;refine d0 (n:=108) (d:=d+5) h.h h.r e5z ?_;refine Ab ((show(decide (nf<np)|| !rd.isEmpty)=Zm from e4) ..) ?_;walk_at "s";refine Aa h.A ?_;refine zR (q1 j rfl) ?_;refine h.putA λH2 u=>?_;refine u.mA ?_;refine Aa (BZ u.A rfl) ?_;refine BU u.h.im ?_;refine⟨(),?_⟩;refine Bj (Hs (nat_lit 189) (d+10) ..) ?_;refine u.don (n:=109) (d:=d+5) g (xs:=[held]) (YH _) e5 λH3 h3=>?_;walk_at "s";refine Aa h3.A ?_;refine zR (q4 j rfl) ?_;refine h3.putA λH4 h4=>?_;refine zL (c:=0) rfl (q1 K rfl) ?_;refine Ac (lm (Zv (Z1 Y5) (lq K rfl))) ?_;refine mEA _ rfl ?_;refine B0 (λi:Zf=>V.int (i:Z7)) (I4 nm names steps held nx rl G ei L)
    (I4.mk D.1 D.2.1 np D.2.2 [] (m+2) H4 o1 o2 o3 (by refine Ab (Y5 ..) ?_;refine Ab (Zz ..) ?_;exact e6) h4 (by refine Ab (Y5 ..) ?_;refine Ab (Zz ..) ?_;exact q8 (Xm j 2) K rfl)) ?_ ?_
   ·intro i r R kk C k1 k2;cases C with|mk T rd np nf Y m H o1 o2 o3 e h j=>
    refine fy e λGj X z hz2 em ed e=>?_;walk_at "s";refine BU h.h.im ?_;refine⟨(),?_⟩;refine Bj (Hs (nat_lit 187) (d+10) ..) ?_;refine h.rdy (n:=107) (d:=d+5) g z em λH2 u=>?_;walk_at "s";refine zL (c:=0) rfl (q1 z rfl) ?_;refine Ac (q8 (lm hz2) (lm z) rfl) ?_;refine u.mA ?_;refine Aa (BZ u.A rfl) ?_;refine Aa u.h.im ?_;refine zL (c:=0) rfl (q1 z rfl) ?_;refine Ac (by refine Ab (Zz ..) ?_;simp;exact q1 z rfl) ?_;refine⟨(),?_⟩;refine Bj (Hs (nat_lit 183) (d+10) ..) ?_;refine u.don (n:=103) (d:=d+5) g (xs:=rd) z ed λH3 h3=>?_;walk_at "s";refine Aa h3.A ?_;refine zR (qe j rfl) ?_;refine h3.putA λH4 h4=>?_;walk_at "s";refine k1 _ ?_;refine Ab ((show strN nm Y++strN nm rd=strN nm (Y++rd)from(ZA).symm) ..) ?_;exact I4.mk X.1 X.2.1 _ X.2.2 (Y++rd) (m+1) H4 _ _ _ e h4 (sh (M:=0) j)
   ·intro R C;cases C with|mk T rd np nf Y m H o1 o2 o3 e h j=>
    cases e;have j:m<=70000:=j;walk_at "s";refine h.mA ?_;refine Aa (BZ h.A rfl) ?_;refine BU h.h.im ?_;refine⟨(),?_⟩;refine Bj (Hs (nat_lit 184) (d+10) ..) ?_;refine d0 (n:=104) (d:=d+5) h.h h.r hz3 ?_;refine Ab ((show(decide (nf<np)|| !rd.isEmpty)=Zh from e7) ..) ?_;walk_at "s";refine Aa h.A ?_;refine zR j ?_;refine h.putA λH2 u=>?_;refine Aa (DI u.A) ?_;refine Ac (by refine Ab (V8 ..) ?_;exact q8 j (ZL 1) rfl) ?_;walk_at "s";refine Ab (V8 ..) ?_;refine Cp (ZI _) (UH.mpr (q8 j (ZL 1) rfl)) ?_;refine AU (m+1) (DI u.A) rfl ?_;refine Aa (DI u.B) ?_;refine Ac ?_ ?_
    ·have t:=I.length_eq;rw[Zt]at t;refine Ab (Zz ..) ?_;refine Ab (Zz ..) ?_;exact q1 (Zv (Z1 t) K) rfl
    walk_at "s";have eM:∀l:Za Zf,strN nm l=(l.map nm).map V.str:=λl=>(YX).symm;refine Bw ((ei++Y).map nm) (Ji ((ei++Y).map nm)) (ZH Zd (ZA.symm.trans (eM (ei++Y)))) ?_ (λr O u=>Ff O u) ?_
    ·refine Ab (Zz ..) ?_;exact I.length_eq▸q4 K rfl
    walk_at "s";refine Bw (names.map nm) (Ji (names.map nm)) (ZH Zd (eM names)) ?_ (λr O u=>Ff O u) ?_
    ·refine Ab (Zz ..) ?_;exact q4 K rfl
    walk_at "s";have hsx:∀x∈Ji (names.map nm),Wi x=true:=λx hx=>Ag (Ye.mp ((DB _).mem_iff.mp hx)) λy hy e=>e▸hok y hy;have hse:Ji ((ei++Y).map nm)=Ji (names.map nm):=JI (I.map nm);refine Ck (Ji ((ei++Y).map nm)) (Ji (names.map nm)) rfl rfl (by refine Ab (hse ..) ?_;exact hsx) hsx ?_;refine Ab (hse ..) ?_;refine Ab ((show decide (Ji (names.map nm)=Ji (names.map nm))=Zm from Yl rfl) ..) ?_
    conv=>whnf
end
end
section
noncomputable def DT:Za Zf->Za Zf->Za Zf
 | [],acc=>acc
 |x::r,acc=>IK (BV x acc) (DT r acc) (DT r (acc++[x]))
noncomputable def Mg:Za Zf->Za Zf->Ze (Za Zf)
 |l,[]=>Zd l
 |l,x::r=>gd (BV x l) (Mg (l.erase x) r)
noncomputable def DU(a b:Za Zf):Bool:=gp (Mg (DT b []) (DT a [])) (λr=>r.isEmpty) Zh
theorem NI(l:Za Zf):∀acc:Za Zf,(DT l acc).length<=acc.length+l.length:=by
 induction l with
 |nil=>exact λacc=>ZL _
 |cons x r g=>
  intro acc;refine(?_:(IK (BV x acc) (DT r acc) (DT r (acc++[x]))).length<=_);cases BV x acc with
  |true=>exact XO (g acc)
  |false=>exact Zv (g _) (Z1 (Ab Zt (Wx _ 1 _)))
theorem jk(g:Dt nm)(x:Zf)(l:Za Zf):(l.map nm).erase (nm x)=(l.erase x).map nm:=by
 induction l with
 |nil=>rfl
 |cons y r h=>
  refine Ab QP (Ab QP ?_);refine Ab (((g.beq y x).trans xH:(nm y==nm x)=(y==x)) ..) ?_;cases y==x with
  |true=>rfl
  |false=>exact ZH (nm y:: ·) h
theorem Mf(g:Dt nm)(a:Za Zf):∀l:Za Zf,AT (l.map nm) (a.map nm)=(Mg l a).map λr=>r.map nm:=by
 induction a with
 |nil=>exact λl=>rfl
 |cons x r h=>
  intro l;refine(?_:(if nm x∈l.map nm then AT ((l.map nm).erase (nm x)) (r.map nm)else Zs)=(gd (BV x l) (Mg (l.erase x) r)).map _);cases hm:BV x l with
  |true=>refine Ab (if_pos (of_decide_eq_true ((CV g x l).trans hm)) ..) ?_;refine Ab (jk g ..) ?_;exact h _
  |false=>exact Yc (VI ((CV g x l).trans hm))
noncomputable def dm(nm:Zf->Zi)(a:Za (Zf×Za Zf)):Za (Zi×W):=a.map λp=>(nm p.1,.p (.lst (p.2.map λx=>V.str (nm x))))
noncomputable def putN(x:Zf)(v:α):Za (Zf×α)->Za (Zf×α)
 | []=>[(x,v)]
 |p::r=>IK (ZX p.1 x) ((p.1,v)::r) (p::putN x v r)
theorem Kg(g:Dt nm)(f:α->β)(x:Zf)(a:Za (Zf×α)):(a.map λp=>(nm p.1,f p.2)).lookup (nm x)=(Ai x a).map f:=by
 induction a with
 |nil=>rfl
 |cons p r h=>
  refine(?_:(match nm x==nm p.1 with|true=>Zd (f p.2)|false=>(r.map λp=>(nm p.1,f p.2)).lookup (nm x))=(match ZX x p.1 with|true=>Zd p.2|false=>Ai x r).map f);refine Ab (g.beq ..) ?_;cases ZX x p.1 with
  |true=>rfl
  |false=>exact h
theorem FW(g:Dt nm)(f:α->β)(x:Zf)(v:α)(a:Za (Zf×α)):putD (nm x) (f v) (a.map λp=>(nm p.1,f p.2))=(putN x v a).map λp=>(nm p.1,f p.2):=by
 induction a with
 |nil=>rfl
 |cons p r j=>
  refine(?_:(if nm p.1=nm x then(nm p.1,f v)::(r.map λp=>(nm p.1,f p.2))else(nm p.1,f p.2)::putD (nm x) (f v) (r.map λp=>(nm p.1,f p.2)))=(IK (ZX p.1 x) ((p.1,v)::r) (p::putN x v r)).map _);cases q:ZX p.1 x with
  |true=>exact if_pos (ZH nm (Z4 q))
  |false=>exact(Yc λh=>ZT (q.symm.trans ((g.beq p.1 x).symm.trans (beq_iff_eq.mpr h))) XW).trans (ZH (_:: ·) j)
theorem bW(g:Dt nm)(x:Zf)(l:Za Zf)(a:Za (Zf×Za Zf)):putD (nm x) (.p (.lst (l.map λx=>V.str (nm x)))) (dm nm a)=dm nm (putN x l a):=FW g (λl:Za Zf=>W.p (.lst (l.map λx=>V.str (nm x)))) x l a
noncomputable def MN(l:Za Zf):Bool:=Yr l.length 800
noncomputable def Eh(h g:Za (Zf×Za Zf))(one:Zf):Za Zf->Ze (Ze (Zf×Zf×Zl))
 | []=>Zd Zs
 |other::r=>IK (ZX one other) (Eh h g one r) (ob (Ai one h) λu=>ob (Ai other h) λat_=>ob (Ai one g) λs=>ob (Ai other g) λj=>gd (MN u&&(MN at_&&(MN s&&MN j)))
  (IK (DU u (at_++[other])&&DU j (s++[one])) (Zd (Zd (one,other,Zh))) (IK (DU u at_&&DU s j) (Zd (Zd (one,other,Zm))) (Eh h g one r))))
noncomputable def FI(h g:Za (Zf×Za Zf))(left:Za Zf):Za Zf->Ze (Ze (Zf×Zf×Zl))
 | []=>Zd Zs
 |one::r=>ob (Eh h g one left) λt=>gp t (λq=>Zd (Zd q)) (FI h g left r)
end
section
variable{f:Zb}{args:Args}{b:Yx}
noncomputable abbrev cO:Str:=Zc "a"
noncomputable abbrev qm:Str:=Zc "b;c"
noncomputable abbrev ql:Str:=Zc "it's"
noncomputable abbrev pZ:Str:=Zc "(d)"
noncomputable abbrev rY:Str:=Zc "# e"
theorem c7(P:Z9)(x:Zi)(t:QE):Qk (kx P) ⟨ZM,P⟩ (V2 (.ref 737) ⟨[.str x t],[]⟩)=Zd (.again (.builtin "re.Pattern.search" ⟨[.ref 49,.str x t],[]⟩)):=by kernel_rfl
theorem xd(P:Z9)(t:QE):Qk (kx P) ⟨ZM,P⟩ (Yx.«re.Pattern.search» ⟨[.ref 49,.str cO t],[]⟩)=Zd (.done (.ret .none)):=by kernel_rfl
noncomputable def Nw(P:Z9)(x:Zi)(t:QE):Ze Unit:=
 ob (Qk (kx P) ⟨ZM,P⟩ (Os "re.Pattern.search" "search" ⟨[.ref 49,.str x t],[]⟩)) λr=>ob (Qk (kx P) ⟨ZM,P⟩ (P5 (Sre.forSearch r.code r.text r.groups r.pos r.lim Zh))) λq=>ob q λg=>gd (ZX r.groups 0) (Zd ())
theorem vH(P:Z9)(t:QE):Nw P qm t=Zd ():=by kernel_rfl
theorem vG(P:Z9)(t:QE):Nw P ql t=Zd ():=by kernel_rfl
theorem vF(P:Z9)(t:QE):Nw P pZ t=Zd ():=by kernel_rfl
theorem vE(P:Z9)(t:QE):Nw P rY t=Zd ():=by kernel_rfl
theorem Gq:Wf UD "re.Pattern.search"=Zd Yx.«re.Pattern.search»:=YP (by kernel_rfl)
section
theorem Ig(X:K.In c.h1)(e:Qk K ⟨c.M.prog,c.M.w.params⟩ (V2 f ⟨vs,[]⟩)=Zd (.again (.builtin id args)))
 (q:id.startsWith "lifetime."=Zh) (r:Wf UD id=Zd b)
 (h:∀s G,Ar c ⟨T,L,F⟩ G s->∀A,ZZ c.M A (b args) (λfin j=>match fin with|.done (.ret v)=>∃g,MR c g j/\P v g|_=>ZP) No s):Ev c ⟨T,L,F⟩ (Y8 f vs) P:=Ev.raw λs G m=>by
 refine Xg (XT ?_);refine(?_:ZZ _ _ (V2 f _) _ _ _);refine(Xc (X.keeps m.old) e).here ⟨YK _ q,YU r ?_⟩;refine Zu (h s G m _) (λfin j z=>?_) λu u z=>z.elim;rcases fin with f|c'
 ·cases f<;>first|exact z|exact z.elim
 ·exact z.elim
theorem e8(ok:Ok c d)(j:(v',.str cO)∈T)(h:P .none ⟨(.none,.none)::T,L,F⟩):Ev c ⟨T,L,F⟩ (Y8 (.ref 737) [v']) P:=Ev.raw λs G m=>by
 refine xE ((m.temps _ j).zJ) λt g=>?_;subst g;refine Ig (T:=T) (L:=L) (F:=F) ok.kx (c7 _ _ _) (by decide+kernel) Gq (λs G m A=>?_) s ⟨G,m⟩;exact(Xc (ok.kx.keeps m.old) (xd _ t)).here (mEA _ ⟨G,m.zH VR.val⟩ h)
theorem Mz(ok:Ok c d)(H:∀t,Nw c.w.params x t=Zd ())(O:(v',.str x)∈T)(h:∀a,P (.ref a) ⟨(.ref a,.val (.ref a))::T,L,F⟩):Ev c ⟨T,L,F⟩ (Y8 (.ref 737) [v']) P:=Ev.raw λs G m=>by
 refine xE ((m.temps _ O).zJ) λt g=>?_;subst g;refine Ig (T:=T) (L:=L) (F:=F) ok.kx (c7 _ _ _) (by decide+kernel) Gq (λs G m A=>?_) s ⟨G,m⟩;refine Ah (H t) λr I Q=>Ah Q λu R z2=>Ah z2 λq K E=>AH E λz j=>?_;subst K;unfold Yx.«re.Pattern.search»;refine Zg ((Xc (ok.kx.keeps m.old) I).here ?_);unfold Ot;refine Zg ((Xc (ok.kx.keeps m.old) R).here ?_);refine Zg ?_;unfold P6;refine Ab (Z4 z) ?_;refine Zg (Q1 ?_ ?_)
 rotate_left
 exact Y7▸Zw rfl;refine YR (Am (m.zP (o:={cls:=.type "tuple",data:=.seq (Xj ↑q.start::Xj ↑q.handed::[]).toArray}) (tk:=s.toks) rfl) λU j j D=>?_);exact Am (D.zP (o:={cls:=.type "re.Match",data:=.fields #[r.string,r.pattern,Xj ↑r.pos,Xj ↑r.lim,Xj q.lastindex,.ref s.heap.objs.size]}) (tk:=s.toks) rfl) λC j j B=>Zp (mEA _ ⟨C,B.zH VR.val⟩ (h _))
theorem hO:AS d 737 [.str cO] (· =.none):=λc ok T L F s vs P h g=>by
 cases h with
 |cons r j=>
  cases j;exact e8 ok r (g _ _ rfl)
theorem aF(u:∀P t,Nw P x t=Zd ()):AS d 737 [.str x] (λr=>∃a,r=.val (.ref a)):=λc ok T L F z vs P h g=>by
 cases h with
 |cons s j=>
  cases j;exact Mz ok (u _) s λa=>g _ _ ⟨a,rfl⟩
end
end
section
noncomputable def di:AM:=⟨[37,38],[],[],Zh,[(.ite (.bop .And [(.cmp .IsNot (.callb .ty Zh [(.nm 37)]) (.gv (.type "int"))),(.cmp .IsNot (.callb .ty Zh [(.nm 37)]) (.gv (.type "bool")))]) [(.expr .any)] []),(.asg 37 (.callb .int Zh [(.nm 37)])),(.ite (.bop .Or [(.cmp .Gt (.nm 37) (.int 1099511627776)),(.cmp .Lt (.nm 37) (.un .USub (.int 1099511627776)))]) [(.expr .any)] []),(.ret (.nm 37))],[]⟩
noncomputable def Dn:AM:=⟨[19,20,21],[],[(.str (Zc "\n"))],Zh,[(.ite (.bop .And [(.cmp .IsNot (.nm 21) .none),(.cmp .IsNot (.callb .ty Zh [(.nm 21)]) (.gv (.type "str")))]) [(.expr .any)] []),(.ite (.bop .And [(.cmp .IsNot (.nm 21) .none),(.cmp .NotEq (.nm 21) (.str (Zc ""))),(.cmp .NotEq (.nm 21) (.str (Zc "\n"))),(.cmp .NotEq (.nm 21) (.str (Zc "\r"))),(.cmp .NotEq (.nm 21) (.str (Zc "\r\n")))]) [.any] []),(.ite (.bop .And [(.cmp .IsNot (.nm 20) .none),(.cmp .IsNot (.callb .ty Zh [(.nm 20)]) (.gv (.type "str")))]) [(.expr .any)] []),(.asga (.nm 19) 22 (.nm 21)),(.asga (.nm 19) 23 (.str (Zc ""))),(.asga (.nm 19) 24 (.int 0)),(.ite (.cmp .IsNot (.nm 20) .none) [(.asga (.nm 19) 23 (.meth (.nm 19) 28 [(.nm 20)]))] [])],[]⟩
noncomputable def Cg:AM:=⟨[19,30],[21],[],Zh,[(.asg 21 (.attr (.nm 19) 22)),(.ite (.cmp .Is (.nm 21) .none) [(.ret (.meth (.meth (.nm 30) 5 [(.str (Zc "\r\n")),(.str (Zc "\n"))]) 5 [(.str (Zc "\r")),(.str (Zc "\n"))]))] []),(.ite (.bop .Or [(.cmp .Eq (.nm 21) (.str (Zc "\r"))),(.cmp .Eq (.nm 21) (.str (Zc "\r\n")))]) [(.ret (.meth (.nm 30) 5 [(.str (Zc "\n")),(.nm 21)]))] []),(.ret (.nm 30))],[]⟩
noncomputable def Db:AM:=⟨[19],[],[],Zh,[(.ite (.cmp .Is (.attr (.nm 19) 23) .none) [.any] [])],[]⟩
noncomputable def AW:AM:=⟨[19,31],[32,33],[],Zm,[(.ite (.cmp .Is (.nm 31) .none) [(.asg 31 (.un .USub (.int 1)))] []),(.asg 31 (.calli 63 [(.nm 31),(.str (Zc "StringIO.read of a size that is no exact int"))])),(.expr (.meth (.nm 19) 35 [])),(.asg 32 (.attr (.nm 19) 24)),(.asg 33 (.callb .len Zh [(.attr (.nm 19) 23)])),(.ite (.cmp .GtE (.nm 32) (.nm 33)) [(.ret (.str (Zc "")))] []),(.ite (.bop .And [(.cmp .GtE (.nm 31) (.int 0)),(.cmp .Lt (.bin .Add (.nm 32) (.nm 31)) (.nm 33))]) [(.asg 33 (.bin .Add (.nm 32) (.nm 31)))] []),(.asga (.nm 19) 24 (.nm 33)),(.ret (.sl (.attr (.nm 19) 23) (Zd (.nm 32)) (Zd (.nm 33))))],[]⟩
noncomputable def Ez:AM:=⟨[19,41,42,43,44],[64],[.none],Zh,[(.ite (.callb .isinst Zh [(.nm 41),(.gv (.type "str"))]) [(.asg 41 (.mk 597 [(.nm 41)] []))] []),(.ite (.cmp .IsNot (.nm 41) .none) [(.asga (.nm 19) 41 (.nm 41)),(.asga (.nm 19) 42 (.nm 42))] [(.asga (.nm 19) 41 .any),(.asga (.nm 19) 42 .none)]),(.asga (.nm 19) 43 (.nm 43)),(.ite (.nm 43) [(.asga (.nm 19) 61 .none)] [(.asga (.nm 19) 61 (.str (Zc "")))]),(.asga (.nm 19) 45 (.str (Zc "#"))),(.asga (.nm 19) 46 (.str (Zc "abcdfeghijklmnopqrstuvwxyzABCDEFGHIJKLMNOPQRSTUVWXYZ0123456789_"))),(.ite (.attr (.nm 19) 43) [(.auga (.nm 19) 46 .Add (.str (Zc "ßàáâãäåæçèéêëìíîïðñòóôõöøùúûüýþÿÀÁÂÃÄÅÆÇÈÉÊËÌÍÎÏÐÑÒÓÔÕÖØÙÚÛÜÝÞ")))] []),(.asga (.nm 19) 47 (.str (Zc " \t\r\n"))),(.asga (.nm 19) 48 (.bool Zh)),(.asga (.nm 19) 49 (.str (Zc "'\""))),(.asga (.nm 19) 50 (.str (Zc "\\"))),(.asga (.nm 19) 51 (.str (Zc "\""))),(.asga (.nm 19) 52 (.str (Zc " "))),(.asga (.nm 19) 53 (.callb .deque Zh [])),(.asga (.nm 19) 54 (.int 1)),(.asga (.nm 19) 55 (.int 0)),(.asga (.nm 19) 56 (.str (Zc ""))),(.asga (.nm 19) 57 (.callb .deque Zh [])),(.asga (.nm 19) 58 .none),(.ite (.un .Not (.nm 44)) [(.asg 44 (.str (Zc "")))] [(.ite (.cmp .Is (.nm 44) (.bool Zm)) [(.asg 44 (.str (Zc "();<>|&")))] [])]),(.asga (.nm 19) 59 (.nm 44)),(.ite (.nm 44) [(.asga (.nm 19) 63 (.callb .deque Zh [])),(.auga (.nm 19) 46 .Add (.str (Zc "~-./*?="))),(.asg 64 (.mktr (.attr (.nm 19) 46) (.nm 44))),(.asga (.nm 19) 46 (.meth (.attr (.nm 19) 46) 13 [(.nm 64)]))] [])],[43,44]⟩
noncomputable def BQ:AM:=⟨[19],[],[],Zh,[(.ret (.attr (.nm 19) 59))],[]⟩
noncomputable def Bc:AM:=⟨[19],[70,69,72,77,78],[],Zm,[(.ite (.attr (.nm 19) 53) [(.asg 70 (.meth (.attr (.nm 19) 53) 15 [])),(.ite (.cmp .GtE (.attr (.nm 19) 55) (.int 1)) [(.expr .any)] []),(.ret (.nm 70))] []),(.asg 69 (.meth (.nm 19) 71 [])),(.ite (.cmp .IsNot (.attr (.nm 19) 58) .none) [(.while_ (.cmp .Eq (.nm 69) (.attr (.nm 19) 58)) [(.asg 72 (.meth (.nm 19) 74 [(.meth (.nm 19) 71 [])])),(.ite (.nm 72) [(.asgT [77,78] (.nm 72)),(.expr (.meth (.nm 19) 79 [(.nm 78),(.nm 77)]))] []),(.asg 69 (.meth (.nm 19) 75 []))] [])] []),(.while_ (.cmp .Eq (.nm 69) (.attr (.nm 19) 61)) [(.ite (.un .Not (.attr (.nm 19) 57)) [(.ret (.attr (.nm 19) 61))] [(.expr (.meth (.nm 19) 76 [])),(.asg 69 (.meth (.nm 19) 75 []))])] []),(.ite (.cmp .GtE (.attr (.nm 19) 55) (.int 1)) [(.ite (.cmp .NotEq (.nm 69) (.attr (.nm 19) 61)) [(.expr .any)] [(.expr .any)])] []),(.ret (.nm 69))],[]⟩
noncomputable def AI:AM:=⟨[19],[81,82,84,83],[],Zm,[(.asg 81 (.bool Zh)),(.asg 82 (.str (Zc " "))),(.while_ (.bool Zm) [(.ite (.bop .And [(.attr (.nm 19) 44),(.attr (.nm 19) 63)]) [(.asg 84 (.meth (.attr (.nm 19) 63) 2 []))] [(.asg 84 (.meth (.attr (.nm 19) 41) 17 [(.int 1)]))]),(.ite (.cmp .Eq (.nm 84) (.str (Zc "\n"))) [(.auga (.nm 19) 54 .Add (.int 1))] []),(.ite (.cmp .GtE (.attr (.nm 19) 55) (.int 3)) [(.expr .any)] []),(.ite (.cmp .Is (.attr (.nm 19) 52) .none) [(.asga (.nm 19) 56 (.str (Zc ""))),.brk] [(.ite (.cmp .Eq (.attr (.nm 19) 52) (.str (Zc " "))) [(.ite (.un .Not (.nm 84)) [(.asga (.nm 19) 52 .none),.brk] [(.ite (.cmp .In (.nm 84) (.attr (.nm 19) 47)) [(.ite (.cmp .GtE (.attr (.nm 19) 55) (.int 2)) [(.expr .any)] []),(.ite (.bop .Or [(.attr (.nm 19) 56),(.bop .And [(.attr (.nm 19) 43),(.nm 81)])]) [.brk] [.cnt])] [(.ite (.cmp .In (.nm 84) (.attr (.nm 19) 45)) [(.expr (.meth (.attr (.nm 19) 41) 85 [])),(.auga (.nm 19) 54 .Add (.int 1))] [(.ite (.bop .And [(.attr (.nm 19) 43),(.cmp .In (.nm 84) (.attr (.nm 19) 50))]) [(.asg 82 (.str (Zc "a"))),(.asga (.nm 19) 52 (.nm 84))] [(.ite (.cmp .In (.nm 84) (.attr (.nm 19) 46)) [(.asga (.nm 19) 56 (.nm 84)),(.asga (.nm 19) 52 (.str (Zc "a")))] [(.ite (.cmp .In (.nm 84) (.attr (.nm 19) 44)) [(.asga (.nm 19) 56 (.nm 84)),(.asga (.nm 19) 52 (.str (Zc "c")))] [(.ite (.cmp .In (.nm 84) (.attr (.nm 19) 49)) [(.ite (.un .Not (.attr (.nm 19) 43)) [(.asga (.nm 19) 56 (.nm 84))] []),(.asga (.nm 19) 52 (.nm 84))] [(.ite (.attr (.nm 19) 48) [(.asga (.nm 19) 56 (.nm 84)),(.asga (.nm 19) 52 (.str (Zc "a")))] [(.asga (.nm 19) 56 (.nm 84)),(.ite (.bop .Or [(.attr (.nm 19) 56),(.bop .And [(.attr (.nm 19) 43),(.nm 81)])]) [.brk] [.cnt])])])])])])])])])] [(.ite (.cmp .In (.attr (.nm 19) 52) (.attr (.nm 19) 49)) [(.asg 81 (.bool Zm)),(.ite (.un .Not (.nm 84)) [(.ite (.cmp .GtE (.attr (.nm 19) 55) (.int 2)) [(.expr .any)] []),.any] []),(.ite (.cmp .Eq (.nm 84) (.attr (.nm 19) 52)) [(.ite (.un .Not (.attr (.nm 19) 43)) [(.auga (.nm 19) 56 .Add (.nm 84)),(.asga (.nm 19) 52 (.str (Zc " "))),.brk] [(.asga (.nm 19) 52 (.str (Zc "a")))])] [(.ite (.bop .And [(.attr (.nm 19) 43),(.cmp .In (.nm 84) (.attr (.nm 19) 50)),(.cmp .In (.attr (.nm 19) 52) (.attr (.nm 19) 51))]) [(.asg 82 (.attr (.nm 19) 52)),(.asga (.nm 19) 52 (.nm 84))] [(.auga (.nm 19) 56 .Add (.nm 84))])])] [(.ite (.cmp .In (.attr (.nm 19) 52) (.attr (.nm 19) 50)) [(.ite (.un .Not (.nm 84)) [(.ite (.cmp .GtE (.attr (.nm 19) 55) (.int 2)) [(.expr .any)] []),.any] []),(.ite (.bop .And [(.cmp .In (.nm 82) (.attr (.nm 19) 49)),(.cmp .NotEq (.nm 84) (.attr (.nm 19) 52)),(.cmp .NotEq (.nm 84) (.nm 82))]) [(.auga (.nm 19) 56 .Add (.attr (.nm 19) 52))] []),(.auga (.nm 19) 56 .Add (.nm 84)),(.asga (.nm 19) 52 (.nm 82))] [(.ite (.cmp .In (.attr (.nm 19) 52) (.tup [(.str (Zc "a")),(.str (Zc "c"))])) [(.ite (.un .Not (.nm 84)) [(.asga (.nm 19) 52 .none),.brk] [(.ite (.cmp .In (.nm 84) (.attr (.nm 19) 47)) [(.ite (.cmp .GtE (.attr (.nm 19) 55) (.int 2)) [(.expr .any)] []),(.asga (.nm 19) 52 (.str (Zc " "))),(.ite (.bop .Or [(.attr (.nm 19) 56),(.bop .And [(.attr (.nm 19) 43),(.nm 81)])]) [.brk] [.cnt])] [(.ite (.cmp .In (.nm 84) (.attr (.nm 19) 45)) [(.expr (.meth (.attr (.nm 19) 41) 85 [])),(.auga (.nm 19) 54 .Add (.int 1)),(.ite (.attr (.nm 19) 43) [(.asga (.nm 19) 52 (.str (Zc " "))),(.ite (.bop .Or [(.attr (.nm 19) 56),(.bop .And [(.attr (.nm 19) 43),(.nm 81)])]) [.brk] [.cnt])] [])] [(.ite (.cmp .Eq (.attr (.nm 19) 52) (.str (Zc "c"))) [(.ite (.cmp .In (.nm 84) (.attr (.nm 19) 44)) [(.auga (.nm 19) 56 .Add (.nm 84))] [(.ite (.cmp .NotIn (.nm 84) (.attr (.nm 19) 47)) [(.expr (.meth (.attr (.nm 19) 63) 1 [(.nm 84)]))] []),(.asga (.nm 19) 52 (.str (Zc " "))),.brk])] [(.ite (.bop .And [(.attr (.nm 19) 43),(.cmp .In (.nm 84) (.attr (.nm 19) 49))]) [(.asga (.nm 19) 52 (.nm 84))] [(.ite (.bop .And [(.attr (.nm 19) 43),(.cmp .In (.nm 84) (.attr (.nm 19) 50))]) [(.asg 82 (.str (Zc "a"))),(.asga (.nm 19) 52 (.nm 84))] [(.ite (.bop .Or [(.cmp .In (.nm 84) (.attr (.nm 19) 46)),(.cmp .In (.nm 84) (.attr (.nm 19) 49)),(.bop .And [(.attr (.nm 19) 48),(.cmp .NotIn (.nm 84) (.attr (.nm 19) 44))])]) [(.auga (.nm 19) 56 .Add (.nm 84))] [(.ite (.attr (.nm 19) 44) [(.expr (.meth (.attr (.nm 19) 63) 1 [(.nm 84)]))] [(.expr (.meth (.attr (.nm 19) 53) 14 [(.nm 84)]))]),(.ite (.cmp .GtE (.attr (.nm 19) 55) (.int 2)) [(.expr .any)] []),(.asga (.nm 19) 52 (.str (Zc " "))),(.ite (.bop .Or [(.attr (.nm 19) 56),(.bop .And [(.attr (.nm 19) 43),(.nm 81)])]) [.brk] [.cnt])])])])])])])])] [])])])])])] []),(.asg 83 (.attr (.nm 19) 56)),(.asga (.nm 19) 56 (.str (Zc ""))),(.ite (.bop .And [(.attr (.nm 19) 43),(.un .Not (.nm 81)),(.cmp .Eq (.nm 83) (.str (Zc "")))]) [(.asg 83 .none)] []),(.ite (.cmp .Gt (.attr (.nm 19) 55) (.int 1)) [(.ite (.nm 83) [(.expr .any)] [(.expr .any)])] []),(.ret (.nm 83))],[]⟩
theorem kM(P:Z9):LQ 63 di P:=⟨⟨by kernel_rfl,by kernel_rfl⟩,FG (λg h=>mEA ([]) (λG=>Ay.nil) (λS=>by kernel_rfl))⟩
theorem kJ(P:Z9):LQ 367 Dn P:=⟨⟨by kernel_rfl,by kernel_rfl⟩,FG (λg h=>mEA ([.str (Zc "\n") 756]) (λG=>Ay.cons (by exact VR.str) Ay.nil) (λS=>by kernel_rfl))⟩
theorem oF(P:Z9):LQ 374 Cg P:=⟨⟨by kernel_rfl,by kernel_rfl⟩,FG (λg h=>mEA ([]) (λG=>Ay.nil) (λS=>by kernel_rfl))⟩
theorem fR(P:Z9):LQ 381 Db P:=⟨⟨by kernel_rfl,by kernel_rfl⟩,Eb (λg=>mEA ([]) (λG=>Ay.nil) (λS=>by kernel_rfl))⟩
theorem kI(P:Z9):LQ 543 AW P:=⟨⟨by kernel_rfl,by kernel_rfl⟩,FG (λg h=>mEA ([]) (λG=>Ay.nil) (λS=>by kernel_rfl))⟩
theorem fQ(P:Z9):LQ 656 Ez P:=⟨⟨by kernel_rfl,by kernel_rfl⟩,ul (λg j r h=>mEA ([.none]) (λG=>Ay.cons VR.val Ay.nil) (λS=>by kernel_rfl))⟩
theorem kK(P:Z9):LQ 663 BQ P:=⟨⟨by kernel_rfl,by kernel_rfl⟩,Eb (λg=>mEA ([]) (λG=>Ay.nil) (λS=>by kernel_rfl))⟩
theorem oH(P:Z9):LQ 693 Bc P:=⟨⟨by kernel_rfl,by kernel_rfl⟩,Eb (λg=>mEA ([]) (λG=>Ay.nil) (λS=>by kernel_rfl))⟩
theorem oG(P:Z9):LQ 700 AI P:=⟨⟨by kernel_rfl,by kernel_rfl⟩,Eb (λg=>mEA ([]) (λG=>Ay.nil) (λS=>by kernel_rfl))⟩
noncomputable def yd:Za (Zo×AM):=[(63,di),(367,Dn),(374,Cg),(381,Db),(543,AW),(656,Ez),(663,BQ),(693,Bc),(700,AI)]
noncomputable def CP:Zo->Ze AM:=λf=>Ai f yd
theorem sZ:CR CP:=λf D h P=>by
 have g:(f,D)∈yd:=lkp_mem h;simp only[yd,Zr,Wl,ZE,Od]at g;rcases g with⟨rfl,rfl⟩|⟨rfl,rfl⟩|⟨rfl,rfl⟩|⟨rfl,rfl⟩|⟨rfl,rfl⟩|⟨rfl,rfl⟩|⟨rfl,rfl⟩|⟨rfl,rfl⟩|⟨rfl,rfl⟩
 ·exact kM P
 ·exact kJ P
 ·exact oF P
 ·exact fR P
 ·exact kI P
 ·exact fQ P
 ·exact kK P
 ·exact oH P
 ·exact oG P
end
section
noncomputable def oI:AM:=⟨[30],[],[],Zh,[(.ite (.un .Not (.nm 30)) [(.ret (.str (Zc "''")))] []),(.ite (.cmp .Is (.callc 737 [(.nm 30)]) .none) [(.ret (.nm 30))] []),(.ret (.bin .Add (.addrepl (Zc "'") 30 (Zc "'") (Zc "'\"'\"'")) (.str (Zc "'"))))],[]⟩
theorem Nk(P:Z9):Ef 744 oI P:=⟨⟨by kernel_rfl,by kernel_rfl⟩,Eb (λg=>by kernel_rfl)⟩
theorem nt:AS (d+1) 744 [.str cO] (· =.str cO):=by
 refine Bk Nk Cm (n:=200) rfl ?_;walk_at "s";refine mEA _ hO (λr g=>?_);subst g;exact rfl
theorem EH(z:∀P t,Nw P x t=Zd ())(u:((x.length:Z7) !=0)=Zm)(h:x.length<=1000)(g:Zc "'"++WW x (Zc "'") (Zc "'\"'\"'")++Zc "'"=y)(r:(WW x (Zc "'") (Zc "'\"'\"'")).length<=1000):AS (d+1) 744 [.str x] (· =.str y):=by
 refine Bk Nk Cm (n:=200) rfl ?_;walk_at "s";refine Ac (by exact q1 h rfl) (Ab u ?_);walk_at "s";refine⟨_,aF z,λy g=>?_⟩;obtain⟨a,rfl⟩:=g;walk_at "s";refine⟨by rfl,by exact q1 h rfl,by exact YH _,by exact ZQ _ _,by exact q1 r rfl,?_⟩;walk_at "s";have j:(Zc "'").length=1:=by rfl
 refine Ac (by refine Ab (YW ..) ?_;refine Ab (j ..) ?_;lia) ?_;exact ZH V.str g
noncomputable abbrev uj:Str:=Zc "'b;c'"
noncomputable abbrev ui:Str:=Zc "'it'\"'\"'s'"
noncomputable abbrev uh:Str:=Zc "'(d)'"
noncomputable abbrev ug:Str:=Zc "'# e'"
theorem nr:AS (d+1) 744 [.str qm] (· =.str uj):=EH vH (by rfl) (by exact ZQ _ _) (by decide+kernel) (by decide+kernel)
theorem nq:AS (d+1) 744 [.str ql] (· =.str ui):=EH vG (by rfl) (by exact ZQ _ _) (by decide+kernel) (by decide+kernel)
theorem no:AS (d+1) 744 [.str pZ] (· =.str uh):=EH vF (by decide+kernel) (by decide+kernel) (by decide+kernel) (by decide+kernel)
theorem nk:AS (d+1) 744 [.str rY] (· =.str ug):=EH vE (by rfl) (by exact ZQ _ _) (by decide+kernel) (by decide+kernel)
end
section
noncomputable section
noncomputable def zd:Str:=Zc "abcdfeghijklmnopqrstuvwxyzABCDEFGHIJKLMNOPQRSTUVWXYZ0123456789_"++Zc "ßàáâãäåæçèéêëìíîïðñòóôõöøùúûüýþÿÀÁÂÃÄÅÆÇÈÉÊËÌÍÎÏÐÑÒÓÔÕÖØÙÚÛÜÝÞ"++Zc "~-./*?="
end
end
section
variable{pre post:Za Zf}{c c0:Zf}{st:V}{k:Fl->S->Prop}
noncomputable section
noncomputable abbrev ch(c:Zf):Str:=⟨#[c]⟩
theorem Mq(h:line.cps.toList=pre++c::post):ST line (Zd (pre.length:Z7)) (Zd ((pre.length:Z7)+1))=ch c:=by
 generalize(by
  show line.cps.size=_;refine Bj Xe ?_;refine Ab h ?_;exact Zt:line.length=pre.length+(post.length+1))=hlen
 refine Ab (Tt (slice_one_closes (x:=line) (n:=(pre.length:Z7)) (by exact ZI _) (Ab hlen (Xs.mpr (vu rfl))))) ?_;generalize(by refine Bj (ZD.getElem?_toList ..) ?_;refine Ab h ?_;simp:line.cps[pre.length]? =Zd c)=g;show(⟨#[line.cps.getD pre.length 0]⟩:Zi)=ch c;refine Ab (Ab (ZD.getD_eq_getD_getElem? ..) (Ab g (rfl)):line.cps.getD pre.length 0=c) ?_;rfl
structure LK where
 cm:Zi
 wc:Zi
 ws:Zi
 qs:Zi
 es:Zi
 eq:Zi
 pc:Zi
noncomputable def HG(K:LK)(ts:Za V)(line:Zi)(pos:Z7)(st:V)(tok:Zi)(dn:Z7)(dl:Za V):Za (Zf×LW):=
 [(8,.list ts),(7,.trn (Zc "();|")),(6,.deq dn dl),(5,.deq 0 []),(4,.deq 0 []),(2,.inst 597 3),(3,.attrs [(22,.p (.str (Zc "\n"))),(23,.p (.str line)),(24,.p (.int pos))]),(0,.inst 732 1),
  (1,.attrs [(41,.o 2),(42,.p .none),(43,.p (.bool Zm)),(61,.p .none),(45,.p (.str K.cm)),(46,.p (.str K.wc)),(47,.p (.str K.ws)),(48,.p (.bool Zh)),(49,.p (.str K.qs)),(50,.p (.str K.es)),
   (51,.p (.str K.eq)),(52,.p st),(53,.o 4),(54,.p (.int 1)),(55,.p (.int 0)),(56,.p (.str tok)),(57,.o 5),(58,.p .none),(59,.p (.str K.pc)),(63,.o 6)])]
theorem m9{K:LK}(h:line.cps.toList=pre++c::post)(hl:line.length<=100000){k:W->S->Prop}
 (j:k (.p (.str (ch c))) ⟨HG K ts line ((pre.length:Z7)+1) st tok dn dl,nx,rho⟩):
 go CP (n+25) (d+3) (.sts AW.body (Bs rho k)) ⟨HG K ts line (pre.length:Z7) st tok dn dl,nx,[(19,Zd (.o 2)),(31,Zd (.p (.int 1))),(32,Zs),(33,Zs)]⟩:=by
 have g:line.length=pre.length+(post.length+1):=by
  refine(?_:line.cps.size=_);refine Bj Xe (Ab h ?_);exact Zt
 walk_at "s";refine Ac (by exact q1 hl rfl) ?_;walk_at "s";refine Au (λhb=>ZT (of_decide_eq_true hb) (Ab g (Int.not_le.mpr (Xs.mpr (vu rfl))))) (λr=>?_);walk_at "s";refine Au (λhb=>?_) (λhb=>?_)
 ·walk_at "s";refine Ac (q1 hl rfl) ?_;walk_at "s";exact Ab (Mq h ..) j
 ·walk_at "s";generalize(VI hb)=hb;have e:(line.length:Z7)=(pre.length:Z7)+1:=Z7.le_antisymm (QY.mp hb) (UH.mpr (g▸Yy (ZQ 1 _) _:pre.length+1<=line.length));refine Ac (q1 hl rfl) ?_;walk_at "s";refine Ab e (Ab (Mq h ..) ?_);exact j
theorem ig{K:LK}(hl:line.length<=100000){k:W->S->Prop}
 (g:k (.p (.str (Zc ""))) ⟨HG K ts line (line.length:Z7) st tok dn dl,nx,rho⟩):
 go CP (n+25) (d+3) (.sts AW.body (Bs rho k)) ⟨HG K ts line (line.length:Z7) st tok dn dl,nx,[(19,Zd (.o 2)),(31,Zd (.p (.int 1))),(32,Zs),(33,Zs)]⟩:=by
 walk_at "s";refine Ac (by lia) ?_;walk_at "s";refine Au (λh=>?_) (λhb=>ZT (VI hb) (by lia));walk_at "s";exact g
noncomputable def HY:Za PS:=match AI.body with
 |_::_::.while_ _ b _::_=>b
 |_=>[]
noncomputable def Be(q:Zl)(g:V):Za (Zf×Ze W):=[(19,Zd (.o 0)),(81,Zd (.p (.bool q))),(82,Zd (.p (.str (Zc " ")))),(84,Zd (.p g)),(83,Zs)]
theorem dG{K:LK}
 (g:k .br ⟨HG K ts line nf .none tok dn dl,9,Be q (.str (Zc ""))⟩):
 go CP (n+60) (d+5) (.sts HY.tail k) ⟨HG K ts line nf (.str (Zc " ")) tok dn dl,9,Be q (.str (Zc ""))⟩:=by
 walk_at "s";exact g
theorem Mm{K:LK}{tok:Zi}{pos:Z7}{q:Zl}(g:(ch c==Zc "\n")=Zh)(h:ZC K.ws (ch c)=Zm)
 (j:k .ct ⟨HG K ts line pos (.str (Zc " ")) (Zc "") dn dl,9,Be Zh (.str (ch c))⟩):
 go CP (n+60) (d+5) (.sts HY.tail k) ⟨HG K ts line pos (.str (Zc " ")) (Zc "") dn dl,9,Be Zh (.str (ch c))⟩:=by
 walk_at "s";refine Ab g ?_;walk_at "s";refine Ab h ?_;walk_at "s";exact j
theorem az{K:LK}(g:(ch c==Zc "\n")=Zh)(h:ZC K.ws (ch c)=Zh)(u:ZC K.cm (ch c)=Zh)(r:ZC K.es (ch c)=Zh)(z:ZC K.wc (ch c)=Zm)
 (j:k .nx ⟨HG K ts line nf (.str (Zc "a")) (ch c) dn dl,9,Be q (.str (ch c))⟩):
 go CP (n+60) (d+5) (.sts HY.tail k) ⟨HG K ts line nf (.str (Zc " ")) tok dn dl,9,Be q (.str (ch c))⟩:=by
 walk_at "s";refine Ab g ?_;walk_at "s";refine Ab h ?_;walk_at "s";refine Ab u ?_;walk_at "s";refine Ab r ?_;walk_at "s";refine Ab z ?_;walk_at "s";exact j
theorem aA{K:LK}(g:(ch c==Zc "\n")=Zh)(h:ZC K.ws (ch c)=Zh)(z:ZC K.cm (ch c)=Zh)(u:ZC K.es (ch c)=Zh)(A:ZC K.wc (ch c)=Zh)(j:ZC K.pc (ch c)=Zm)
 (r:k .nx ⟨HG K ts line nf (.str (Zc "c")) (ch c) dn dl,9,Be q (.str (ch c))⟩):
 go CP (n+60) (d+5) (.sts HY.tail k) ⟨HG K ts line nf (.str (Zc " ")) tok dn dl,9,Be q (.str (ch c))⟩:=by
 walk_at "s";refine Ab g ?_;walk_at "s";refine Ab h ?_;walk_at "s";refine Ab z ?_;walk_at "s";refine Ab u ?_;walk_at "s";refine Ab A ?_;walk_at "s";refine Ab j ?_;walk_at "s";exact r
theorem Ml{K:LK}(g:(ch c==Zc "\n")=Zh)(z:ZC K.ws (ch c)=Zh)(r:ZC K.cm (ch c)=Zh)(B:ZC K.es (ch c)=Zh)(u:ZC K.wc (ch c)=Zh)(A:ZC K.pc (ch c)=Zh)(h:ZC K.qs (ch c)=Zm)
 (j:k .nx ⟨HG K ts line nf (.str (ch c)) tok dn dl,9,Be q (.str (ch c))⟩):
 go CP (n+60) (d+5) (.sts HY.tail k) ⟨HG K ts line nf (.str (Zc " ")) tok dn dl,9,Be q (.str (ch c))⟩:=by
 walk_at "s";refine Ab g ?_;walk_at "s";refine Ab z ?_;walk_at "s";refine Ab r ?_;walk_at "s";refine Ab B ?_;walk_at "s";refine Ab u ?_;walk_at "s";refine Ab A ?_;walk_at "s";refine Ab h ?_;walk_at "s";exact j
theorem gW{K:LK}(h:ZC K.qs (Zc "a")=Zh)(g:ZC K.es (Zc "a")=Zh)
 (j:k .br ⟨HG K ts line nf .none tok dn dl,9,Be q (.str (Zc ""))⟩):
 go CP (n+60) (d+5) (.sts HY.tail k) ⟨HG K ts line nf (.str (Zc "a")) tok dn dl,9,Be q (.str (Zc ""))⟩:=by
 walk_at "s";refine Ab h ?_;walk_at "s";refine Ab g ?_;walk_at "s";exact j
theorem aC{K:LK}(g:(ch c==Zc "\n")=Zh)(u:ZC K.qs (Zc "a")=Zh)(s:ZC K.es (Zc "a")=Zh)(h:ZC K.ws (ch c)=Zm)(r:((tok.length:Z7) !=0)=Zm)(z:tok.length<=1000)
 (j:k .br ⟨HG K ts line nf (.str (Zc " ")) tok dn dl,9,Be q (.str (ch c))⟩):
 go CP (n+60) (d+5) (.sts HY.tail k) ⟨HG K ts line nf (.str (Zc "a")) tok dn dl,9,Be q (.str (ch c))⟩:=by
 conv=>whnf
 rw[g]
 conv=>whnf
 rw[u]
 conv=>whnf
 rw[s]
 conv=>whnf
 rw[h]
 conv=>whnf
 refine Ac (by exact q1 z rfl) ?_
 conv=>whnf
 rw[r]
 conv=>whnf
 exact j
theorem dI{K:LK}(g:(ch c==Zc "\n")=Zh)(B:ZC K.qs (Zc "a")=Zh)(z:ZC K.es (Zc "a")=Zh)(D:ZC K.ws (ch c)=Zh)(A:ZC K.cm (ch c)=Zh)(r:ZC K.qs (ch c)=Zh)(G:ZC K.es (ch c)=Zh)(C:ZC K.wc (ch c)=Zh)(s:((K.pc.length:Z7) !=0)=Zm)(j:K.pc.length<=1000)(E:((tok.length:Z7) !=0)=Zm)(H:tok.length<=1000)
 (u:k .br ⟨HG K ts line nf (.str (Zc " ")) tok (dn+1) [.str (ch c)],9,Be q (.str (ch c))⟩):
 go CP (n+60) (d+5) (.sts HY.tail k) ⟨HG K ts line nf (.str (Zc "a")) tok dn [],9,Be q (.str (ch c))⟩:=by
 conv=>whnf
 refine Ab g ?_
 conv=>whnf
 refine Ab B ?_
 conv=>whnf
 refine Ab z ?_
 conv=>whnf
 refine Ab D ?_
 conv=>whnf
 refine Ab A ?_
 conv=>whnf
 refine Ab r ?_
 conv=>whnf
 refine Ab G ?_
 conv=>whnf
 refine Au (b:=ZC K.wc (ch c)) (λhb=>ZT (hb.symm.trans C) ZK) (λh=>?_)
 conv=>whnf
 refine Au (b:=ZC K.qs (ch c)) (λhb=>ZT (hb.symm.trans r) ZK) (λh=>?_)
 conv=>whnf
 refine Ac (by exact q1 j rfl) ?_
 conv=>whnf
 refine Au (b:=((K.pc.length:Z7) !=0)) (λh=>?_) (λhb=>ZT (hb.symm.trans s) ZK)
 conv=>whnf
 refine⟨rfl,?_⟩
 conv=>whnf
 refine Ac (by lia) ?_
 conv=>whnf
 refine Au (b:=((tok.length:Z7) !=0)) (λh=>?_) (λhb=>ZT (hb.symm.trans E) ZK)
 conv=>whnf
 exact u
theorem HV{K:LK}(g:(ch c==Zc "\n")=Zh)(A:ZC K.qs (Zc "a")=Zh)(u:ZC K.es (Zc "a")=Zh)(h:ZC K.ws (ch c)=Zh)(z:ZC K.cm (ch c)=Zh)(j:ZC K.qs (ch c)=Zm)
 (r:k .nx ⟨HG K ts line nf (.str (ch c)) tok dn dl,9,Be q (.str (ch c))⟩):
 go CP (n+60) (d+5) (.sts HY.tail k) ⟨HG K ts line nf (.str (Zc "a")) tok dn dl,9,Be q (.str (ch c))⟩:=by
 walk_at "s";refine Ab g ?_;walk_at "s";refine Ab A ?_;walk_at "s";refine Ab u ?_;walk_at "s";refine Ab h ?_;walk_at "s";refine Ab z ?_;walk_at "s";refine Ab j ?_;walk_at "s";exact r
theorem gV{K:LK}(h:ZC K.qs (Zc "c")=Zh)(g:ZC K.es (Zc "c")=Zh)
 (j:k .br ⟨HG K ts line nf .none tok dn dl,9,Be q (.str (Zc ""))⟩):
 go CP (n+60) (d+5) (.sts HY.tail k) ⟨HG K ts line nf (.str (Zc "c")) tok dn dl,9,Be q (.str (Zc ""))⟩:=by
 walk_at "s";refine Ab h ?_;walk_at "s";refine Ab g ?_;walk_at "s";exact j
theorem aB{K:LK}(g:(ch c==Zc "\n")=Zh)(z:ZC K.qs (Zc "c")=Zh)(u:ZC K.es (Zc "c")=Zh)(h:ZC K.ws (ch c)=Zm)(r:((tok.length:Z7) !=0)=Zm)(A:tok.length<=1000)
 (j:k .br ⟨HG K ts line nf (.str (Zc " ")) tok dn dl,9,Be q (.str (ch c))⟩):
 go CP (n+60) (d+5) (.sts HY.tail k) ⟨HG K ts line nf (.str (Zc "c")) tok dn dl,9,Be q (.str (ch c))⟩:=by
 walk_at "s";refine Ab g ?_;walk_at "s";refine Ab z ?_;walk_at "s";refine Ab u ?_;walk_at "s";refine Ab h ?_;walk_at "s";refine Ac (by lia) ?_;walk_at "s";refine Ab r ?_;walk_at "s";exact j
theorem dH{K:LK}(g:(ch c==Zc "\n")=Zh)(u:ZC K.qs (Zc "c")=Zh)(j:ZC K.es (Zc "c")=Zh)(z:ZC K.ws (ch c)=Zh)(r:ZC K.cm (ch c)=Zh)(A:ZC K.pc (ch c)=Zm)(B:tok.length<=1000)
 (h:k .nx ⟨HG K ts line nf (.str (Zc "c")) (tok++ch c) dn dl,9,Be q (.str (ch c))⟩):
 go CP (n+60) (d+5) (.sts HY.tail k) ⟨HG K ts line nf (.str (Zc "c")) tok dn dl,9,Be q (.str (ch c))⟩:=by
 walk_at "s";refine Ab g ?_;walk_at "s";refine Ab u ?_;walk_at "s";refine Ab j ?_;walk_at "s";refine Ab z ?_;walk_at "s";refine Ab r ?_;walk_at "s";refine Ab A ?_;walk_at "s";refine Ac (by refine(?_:tok.length+1<=_);exact q4 B rfl) ?_;walk_at "s";exact h
theorem HU{K:LK}(g:(ch c==Zc "\n")=Zh)(A:ZC K.qs (Zc "c")=Zh)(u:ZC K.es (Zc "c")=Zh)(h:ZC K.ws (ch c)=Zh)(z:ZC K.cm (ch c)=Zh)(j:ZC K.pc (ch c)=Zh)
 (r:k .br ⟨HG K ts line nf (.str (Zc " ")) tok (dn+1) [.str (ch c)],9,Be q (.str (ch c))⟩):
 go CP (n+60) (d+5) (.sts HY.tail k) ⟨HG K ts line nf (.str (Zc "c")) tok dn [],9,Be q (.str (ch c))⟩:=by
 walk_at "s";refine Ab g ?_;walk_at "s";refine Ab A ?_;walk_at "s";refine Ab u ?_;walk_at "s";refine Ab h ?_;walk_at "s";refine Ab z ?_;walk_at "s";refine Ab j ?_;walk_at "s";refine Ab h ?_;walk_at "s";refine⟨rfl,?_⟩;walk_at "s";exact r
theorem HT{K:LK}(g:(ch c0==Zc "\n")=Zh)(b1:(ch c0==Zc " ")=Zh)(b2:ZC K.qs (ch c0)=Zm)
 (h:k .nx ⟨HG K ts line nf (.str (Zc "a")) tok dn dl,9,Be Zm (.str (ch c0))⟩):
 go CP (n+60) (d+5) (.sts HY.tail k) ⟨HG K ts line nf (.str (ch c0)) tok dn dl,9,Be q (.str (ch c0))⟩:=by
 walk_at "s";refine Ab (g ..) ?_;walk_at "s";refine Ab (b1 ..) ?_;walk_at "s";refine Ab (b2 ..) ?_;walk_at "s";refine Ab (WP ..) ?_;walk_at "s";exact h
theorem HS{K:LK}(g:(ch c==Zc "\n")=Zh)(b1:(ch c0==Zc " ")=Zh)(b2:ZC K.qs (ch c0)=Zm)(b3:(ch c==ch c0)=Zh)(j:ZC K.es (ch c)=Zh)(r:tok.length<=1000)
 (h:k .nx ⟨HG K ts line nf (.str (ch c0)) (tok++ch c) dn dl,9,Be Zm (.str (ch c))⟩):
 go CP (n+60) (d+5) (.sts HY.tail k) ⟨HG K ts line nf (.str (ch c0)) tok dn dl,9,Be q (.str (ch c))⟩:=by
 walk_at "s";refine Ab g ?_;walk_at "s";refine Ab b1 ?_;walk_at "s";refine Ab b2 ?_;walk_at "s";refine Ab b3 ?_;walk_at "s";refine Ab j ?_;walk_at "s";refine Ac (by refine(?_:tok.length+1<=_);lia) ?_;walk_at "s";exact h
end
end
section
variable{K:LK}{tok pre l rest rest' pb0:Za Zf}{nc:Ze W}{c:Zf}{q' b:Zl}{s:S}
noncomputable section
theorem ub(n d:Zf)(t:Task)(s:S):go CP n d t s=Wh (motive:=λg=>Zf->Task->S->Prop) (λg g g=>ZP) (λg h d t s=>LP CP h d t s) n d t s:=rfl
noncomputable def Jm(q:Zl)(nc:Ze W):Za (Zf×Ze W):=[(19,Zd (.o 0)),(81,Zd (.p (.bool q))),(82,Zd (.p (.str (Zc " ")))),(84,nc),(83,Zs)]
def IZ(n d:Zf)(kk:Fl->S->Prop)(W:S->Prop)(f:Fl)(g:S):Prop:=match f with
 |.nx=>W g
 |.ct=>W g
 |.br=>kk .nx g
 |.rt w=>kk (.rt w) g
def WG(n d:Zf)(kk:Fl->S->Prop)(N:Zf)(s:S):Prop:=GE (λq g=>go CP (n+61) (d+5) (.ts (.bool Zm) q) g) (λg q=>go CP (n+61) (d+5) (.sts HY q) g) (λg q=>go CP (n+61) (d+5) (.sts [] q) g) kk N s
theorem g7(j:((K.pc.length:Z7) !=0)=Zm)(g:K.pc.length<=1000)
 (h:go CP (n+60) (d+5) (.sts HY.tail (IZ n d kk (WG n d kk N))) ⟨HG K ts line nf D8 y (dn+1) [],9,Be q (.str x)⟩):
 WG n d kk (N+1) ⟨HG K ts line nf D8 y dn [.str x],9,Jm q nc⟩:=by
 walk_at "s";refine Ac (by exact q1 g rfl) ?_;walk_at "s";refine Au (b:=((K.pc.length:Z7) !=0)) (λr=>?_) (λhb=>ZT (hb.symm.trans j) ZK);walk_at "s";refine⟨rfl,?_⟩;walk_at "s";generalize h=h2
 conv at h2=>whnf
 exact h2
theorem cz(j:((K.pc.length:Z7) !=0)=Zm)(s:K.pc.length<=1000){pre g:Za Zf}{c:Zf}(hl:line.cps.toList=pre++c::g)(u:line.length<=100000)
 (h:go CP (n+60) (d+5) (.sts HY.tail (IZ n d kk (WG n d kk N))) ⟨HG K ts line ((pre.length:Z7)+1) D8 x dn [],9,Be q (.str (ch c))⟩):
 WG n d kk (N+1) ⟨HG K ts line (pre.length:Z7) D8 x dn [],9,Jm q nc⟩:=by
 conv=>whnf
 refine Ac (by lia) ?_
 conv=>whnf
 refine Au (b:=((K.pc.length:Z7) !=0)) (λz=>?_) (λhb=>ZT (hb.symm.trans j) ZK)
 conv=>whnf
 refine⟨(),?_⟩;refine Bj (ub (n+56) (d+4) ..) ((λk r=>m9 (n:=n+31) (d:=d+1) hl u r:∀k,k (.p (.str (ch c))) ⟨HG K ts line ((pre.length:Z7)+1) D8 x dn [],9,Jm q nc⟩->go CP (n+56) (d+4) (.sts AW.body (Bs (Jm q nc) k)) ⟨HG K ts line (pre.length:Z7) D8 x dn [],9,[(19,Zd (.o 2)),(31,Zd (.p (.int 1))),(32,Zs),(33,Zs)]⟩) _ ?_)
 conv=>whnf
 generalize h=h2
 conv at h2=>whnf
 exact h2
theorem g8(g:((K.pc.length:Z7) !=0)=Zm)(r:K.pc.length<=1000)(u:line.length<=100000)
 (h:go CP (n+60) (d+5) (.sts HY.tail (IZ n d kk (WG n d kk N))) ⟨HG K ts line (line.length:Z7) D8 x dn [],9,Be q (.str (Zc ""))⟩):
 WG n d kk (N+1) ⟨HG K ts line (line.length:Z7) D8 x dn [],9,Jm q nc⟩:=by
 walk_at "s";refine Ac (by lia) ?_;walk_at "s";refine Au (b:=((K.pc.length:Z7) !=0)) (λz=>?_) (λhb=>ZT (hb.symm.trans g) ZK);walk_at "s";refine⟨(),?_⟩;refine Bj (ub (n+56) (d+4) ..) ((λk j=>ig (n:=n+31) (d:=d+1) u j:∀k,k (.p (.str (Zc ""))) ⟨HG K ts line (line.length:Z7) D8 x dn [],9,Jm q nc⟩->go CP (n+56) (d+4) (.sts AW.body (Bs (Jm q nc) k)) ⟨HG K ts line (line.length:Z7) D8 x dn [],9,[(19,Zd (.o 2)),(31,Zd (.p (.int 1))),(32,Zs),(33,Zs)]⟩) _ ?_);walk_at "s";generalize h=h2
 conv at h2=>whnf
 exact h2
set_option genCtorIdx true in
inductive CQ where
 |sp|a|c|q1|q2|eof
noncomputable abbrev CQ.v(s:CQ):V:=s.casesOn (.str (Zc " ")) (.str (Zc "a")) (.str (Zc "c")) (.str (ch 39)) (.str (ch 34)) .none
noncomputable abbrev AP(l:Za Zf):Str:=⟨l.toArray⟩
noncomputable def wL:Za Nat:=[98,59,99,105,116,115,40,100,41,35,32,101]
noncomputable def stp(st:CQ)(tok:Za Zf)(q:Zl)(c:Zf):Ze (Zl×CQ×Za Zf×Zl×Za Zf):=match st with
 |.sp=>if c=32 then(if tok=[]/\q=Zh then Zd (Zm,.sp,tok,q,[])else Zs)
  else if c=97 then Zd (Zm,.a,[c],q,[])
  else if c=40∨c=41∨c=59∨c=124 then(if q=Zh then Zd (Zm,.c,[c],q,[])else Zs)
  else if c=39 then Zd (Zm,.q1,tok,q,[])
  else Zs
 |.a=>if tok=[]then Zs
  else if c=32 then Zd (Zh,.sp,tok,q,[])
  else if c=40∨c=41∨c=59∨c=124 then Zd (Zh,.sp,tok,q,[c])
  else if c=39 then Zd (Zm,.q1,tok,q,[])
  else if c=34 then Zd (Zm,.q2,tok,q,[])
  else Zs
 |.c=>if tok=[]then Zs
  else if c=32 then Zd (Zh,.sp,tok,q,[])
  else if c=40∨c=41∨c=59∨c=124 then Zd (Zm,.c,tok++[c],q,[])
  else if c=97∨c=39 then Zd (Zh,.sp,tok,q,[c])
  else Zs
 |.q1=>if c=39 then Zd (Zm,.a,tok,Zm,[])else if c∈wL then Zd (Zm,.q1,tok++[c],Zm,[])else Zs
 |.q2=>if c=34 then Zd (Zm,.a,tok,Zm,[])else if c=39 then Zd (Zm,.q2,tok++[c],Zm,[])else Zs
 |.eof=>Zs
noncomputable abbrev cw:=CQ×Za Zf×Zl×Za Zf×Za Zf
noncomputable def yQ(st:CQ)(tok:Za Zf)(q:Zl):Ze cw:=match st with
 |.sp=>Zd (.eof,tok,q,[],[])
 |.a=>Zd (.eof,tok,q,[],[])
 |.c=>Zd (.eof,tok,q,[],[])
 |.q1=>Zs
 |.q2=>Zs
 |.eof=>Zs
noncomputable def xL(o:Ze (Zl×CQ×Za Zf×Zl×Za Zf))(F:CQ->Za Zf->Zl->Ze cw)(r:Za Zf):Ze cw:=match o with
 |some t=>(match t.1 with|true=>F t.2.1 t.2.2.1 t.2.2.2.1|false=>Zd (t.2.1,t.2.2.1,t.2.2.2.1,t.2.2.2.2,r))
 |none=>Zs
noncomputable def lx(st:CQ)(tok:Za Zf)(q:Zl):Za Zf->Ze cw
 | []=>yQ st tok q
 |c::r=>xL (stp st tok q c) (λst tok q=>lx st tok q r) r
theorem La{st:CQ}{t:cw}(h:yQ st tok q=Zd t):(st=.sp∨st=.a∨st=.c)/\Zd (CQ.eof,tok,q,([]:Za Zf),([]:Za Zf))=Zd t:=by
 cases st with
 |sp=>exact⟨.inl rfl,h⟩
 |a=>exact⟨.inr (.inl rfl),h⟩
 |c=>exact⟨.inr (.inr rfl),h⟩
 |_=>exact nj h
theorem Iu{o:Ze (Zl×CQ×Za Zf×Zl×Za Zf)}{F:CQ->Za Zf->Zl->Ze cw}{t:cw}(h:xL o F r=Zd t):(∃a b c d,o=Zd (Zm,a,b,c,d)/\F a b c=Zd t)∨∃a b c d,o=Zd (Zh,a,b,c,d)/\Zd (a,b,c,d,r)=Zd t:=by
 cases o with
 |none=>exact nj h
 |some u=>
  obtain⟨b,a⟩:=u;cases b with
  |true=>exact .inl ⟨_,_,_,_,rfl,h⟩
  |false=>exact .inr ⟨_,_,_,_,rfl,h⟩
noncomputable def K0:LK:=⟨Zc "#",zd,Zc " \t\r\n",Zc "'\"",Zc "\\",Zc "\"",Zc "();|"⟩
structure ww(c:Zf)(ws wc pc qs:Zl):Prop where
 nl:(ch c==Zc "\n")=Zh
 ws:ZC K0.ws (ch c)=ws
 cm:ZC K0.cm (ch c)=Zh
 es:ZC K0.es (ch c)=Zh
 wc:ZC K0.wc (ch c)=wc
 pc:ZC K0.pc (ch c)=pc
 qs:ZC K0.qs (ch c)=qs
theorem GV:ww 32 Zm Zh Zh false:=⟨by rfl,by decide+kernel,by decide+kernel,by decide+kernel,by decide+kernel,by decide+kernel,by decide+kernel⟩
theorem DV:ww 97 Zh Zm Zh false:=⟨by rfl,by decide+kernel,by decide+kernel,by decide+kernel,by decide+kernel,by decide+kernel,by decide+kernel⟩
theorem BK:ww 39 Zh Zh Zh true:=⟨by rfl,by decide+kernel,by decide+kernel,by decide+kernel,by decide+kernel,by decide+kernel,by decide+kernel⟩
theorem LG:ww 34 Zh Zh Zh true:=⟨by decide+kernel,by decide+kernel,by decide+kernel,by decide+kernel,by decide+kernel,by decide+kernel,by decide+kernel⟩
theorem cg(h:c=40∨c=41∨c=59∨c=124):ww c Zh Zh Zm false:=by
 rcases h with rfl|rfl|rfl|rfl<;>exact⟨by rfl,by decide+kernel,by decide+kernel,by decide+kernel,by decide+kernel,by decide+kernel,by decide+kernel⟩
theorem qH(a b:Zf):(ch a==ch b)=(a==b):=by
 by_cases h:a=b
 ·subst h;simp
 ·have:ch a≠ch b:=λe=>h (by injection e with e;simpa using e);refine Ab (beq_eq_false_iff_ne.mpr this ..) (Ab (beq_eq_false_iff_ne.mpr h ..) ?_);rfl
theorem kj(h:c∈wL):(ch c==Zc "\n")=Zh/\ZC K0.es (ch c)=false:=by
 exact(by decide+kernel:∀c∈wL,(ch c==Zc "\n")=Zh/\ZC K0.es (ch c)=Zh) c h
theorem lW:ZC K0.qs (Zc "a")=Zh/\ZC K0.es (Zc "a")=false:=by decide+kernel
theorem lV:ZC K0.qs (Zc "c")=Zh/\ZC K0.es (Zc "c")=false:=by decide+kernel
theorem bI:((K0.pc.length:Z7) !=0)=true:=by rfl
theorem I5:K0.pc.length<=1000:=by exact ZQ _ _
theorem lU:ZC K0.qs (ch 39)=Zm/\ZC K0.qs (ch 34)=Zm/\(ch 39==Zc " ")=Zh/\(ch 34==Zc " ")=Zh/\(ch 39==Zc "\n")=Zh/\(ch 34==Zc "\n")=false:=by decide+kernel
theorem N8:Zc ""=AP []:=by rfl
theorem KY(l:Za Zf)(c:Zf):AP l++ch c=AP (l++[c]):=by
 show(⟨l.toArray++ #[c]⟩:Zi)=⟨(l++[c]).toArray⟩;simp
theorem cR(l:Za Zf):(AP l).length=l.length:=by show l.toArray.size=_;rfl
theorem bn(h:l≠[]):(((AP l).length:Z7) !=0)=true:=by
 refine Ab (cR ..) ?_;generalize(S4.mpr h)=this;simp;exact h
theorem ay{M:CQ->Za Zf->Zl->Zf->Zl×CQ×Za Zf×Zl×Za Zf->Prop}(L:M .sp [] Zh 32 (Zm,.sp,[],Zh,[]))(E:∀tok q,M .sp tok q 97 (Zm,.a,[97],q,[]))
 (G:∀tok c,(c=40∨c=41∨c=59∨c=124)->M .sp tok Zh c (Zm,.c,[c],Zh,[])) (K:∀tok q,M .sp tok q 39 (Zm,.q1,tok,q,[])) (P:∀tok q,tok≠[]->M .a tok q 32 (Zh,.sp,tok,q,[]))
 (H:∀tok q c,tok≠[]->(c=40∨c=41∨c=59∨c=124)->M .a tok q c (Zh,.sp,tok,q,[c])) (O:∀tok q,tok≠[]->M .a tok q 39 (Zm,.q1,tok,q,[])) (D:∀tok q,tok≠[]->M .a tok q 34 (Zm,.q2,tok,q,[]))
 (I:∀tok q,tok≠[]->M .c tok q 32 (Zh,.sp,tok,q,[])) (z:∀tok q c,tok≠[]->(c=40∨c=41∨c=59∨c=124)->M .c tok q c (Zm,.c,tok++[c],q,[])) (C:∀tok q c,tok≠[]->(c=97∨c=39)->M .c tok q c (Zh,.sp,tok,q,[c]))
 (A:∀tok q,M .q1 tok q 39 (Zm,.a,tok,Zm,[])) (s:∀tok q c,c≠39->c∈wL->M .q1 tok q c (Zm,.q1,tok++[c],Zm,[])) (u:∀tok q,M .q2 tok q 34 (Zm,.a,tok,Zm,[]))
 (B:∀tok q,M .q2 tok q 39 (Zm,.q2,tok++[39],Zm,[])) {st:CQ} {tok:Za Zf} {q:Zl} {c:Zf} {r:Zl×CQ×Za Zf×Zl×Za Zf} (h:stp st tok q c=Zd r):M st tok q c r:=by
 cases st with
 |sp=>
  refine Hj h (λe h=>?_) λg h=>Hj h (λe h=>?_) λg h=>Hj h (λe h=>?_) λg h=>Hj h (λe h=>?_) λg h=>nj h
  ·subst e;exact Hj h (λe h=>by obtain⟨rfl,rfl⟩:=e;exact sj h L) λg h=>nj h
  ·subst e;exact sj h (E _ _)
  ·exact Hj h (λeq h=>by subst eq;exact sj h (G _ _ e)) λg h=>nj h
  ·subst e;exact sj h (K _ _)
 |a=>
  refine Hj h (λg h=>nj h) λj h=>Hj h (λe h=>?_) λg h=>Hj h (λe h=>?_) λg h=>Hj h (λe h=>?_) λg h=>Hj h (λe h=>?_) λg h=>nj h
  ·subst e;exact sj h (P _ _ j)
  ·exact sj h (H _ _ _ j e)
  ·subst e;exact sj h (O _ _ j)
  ·subst e;exact sj h (D _ _ j)
 |c=>
  refine Hj h (λg h=>nj h) λj h=>Hj h (λe h=>?_) λg h=>Hj h (λe h=>?_) λg h=>Hj h (λe h=>?_) λg h=>nj h
  ·subst e;exact sj h (I _ _ j)
  ·exact sj h (z _ _ _ j e)
  ·exact sj h (C _ _ _ j e)
 |q1=>
  refine Hj h (λe h=>?_) λj h=>Hj h (λe h=>?_) λg h=>nj h
  ·subst e;exact sj h (A _ _)
  ·exact sj h (s _ _ _ j e)
 |q2=>
  refine Hj h (λe h=>?_) λj h=>Hj h (λe h=>?_) λg h=>nj h
  ·subst e;exact sj h (u _ _)
  ·subst e;exact sj h (B _ _)
 |eof=>exact nj h
theorem tY(h:tok.length<=1000):(AP tok).length<=1000:=by refine Ab (cR ..) ?_;exact h
theorem Hz{pos:Z7}{st u:CQ}(s:tok.length<=1000)(h:stp st tok q c=Zd (b,u,tok',q',pb))
 (B:b=Zm->WG n d kk N ⟨HG K0 ts line pos u.v (AP tok') dn [],9,Be q' (.str (ch c))⟩)
 (A:b=Zh->kk .nx ⟨HG K0 ts line pos u.v (AP tok') (dn+pb.length) (pb.map λc=>.str (ch c)),9,Be q' (.str (ch c))⟩):
 go CP (n+60) (d+5) (.sts HY.tail (IZ n d kk (WG n d kk N))) ⟨HG K0 ts line pos st.v (AP tok) dn [],9,Be q (.str (ch c))⟩:=by
 refine ay (M:=λst tok q c r=>tok.length<=1000->(r.1=Zm->WG n d kk N ⟨HG K0 ts line pos r.2.1.v (AP r.2.2.1) dn [],9,Be r.2.2.2.1 (.str (ch c))⟩)->
  (r.1=Zh->kk .nx ⟨HG K0 ts line pos r.2.1.v (AP r.2.2.1) (dn+r.2.2.2.2.length) (r.2.2.2.2.map λc=>.str (ch c)),9,Be r.2.2.2.1 (.str (ch c))⟩)->
  go CP (n+60) (d+5) (.sts HY.tail (IZ n d kk (WG n d kk N))) ⟨HG K0 ts line pos st.v (AP tok) dn [],9,Be q (.str (ch c))⟩) ?_ ?_ ?_ ?_ ?_ ?_ ?_ ?_ ?_ ?_ ?_ ?_ ?_ ?_ ?_ h s B A
 ·intro j g j;generalize(Mm (n:=n) (d:=d) (K:=K0) (ts:=ts) (line:=line) (pos:=pos) (dn:=dn) (dl:=[]) (tok:=Zc "") (q:=Zh) (c:=32) (k:=IZ n d kk (WG n d kk N)) GV.nl GV.ws (Ab N8 (g rfl)))=this;rw[N8]at this;exact this
 ·exact λj j j g j=>az DV.nl DV.ws DV.cm DV.es DV.wc (g rfl)
 ·exact λj j e j g j=>let C:=cg e
  aA C.nl C.ws C.cm C.es C.wc C.pc (g rfl)
 ·exact λj j j g j=>Ml BK.nl BK.ws BK.cm BK.es BK.wc BK.pc BK.qs (g rfl)
 ·exact λj j z s j g=>aC GV.nl lW.1 lW.2 GV.ws (bn z) (tY s) (RV dn▸g rfl)
 ·exact λj j j z e s j g=>let C:=cg e
  dI C.nl lW.1 lW.2 C.ws C.cm C.qs C.es C.wc bI I5 (bn z) (tY s) (g rfl)
 ·exact λj j j j g j=>HV BK.nl lW.1 lW.2 BK.ws BK.cm BK.qs (g rfl)
 ·exact λj j j j g j=>HV LG.nl lW.1 lW.2 LG.ws LG.cm LG.qs (g rfl)
 ·exact λj j z s j g=>aB GV.nl lV.1 lV.2 GV.ws (bn z) (tY s) (RV dn▸g rfl)
 ·exact λtok j c j e s g j=>let C:=cg e;dH C.nl lV.1 lV.2 C.ws C.cm C.pc (tY s) (by refine Ab (KY ..) ?_;exact g rfl)
 ·intro tok q c j e j j g;rcases e with rfl|rfl
  ·exact HU DV.nl lV.1 lV.2 DV.ws DV.cm DV.pc (g rfl)
  ·exact HU BK.nl lV.1 lV.2 BK.ws BK.cm BK.pc (g rfl)
 ·exact λj j j g j=>HT lU.2.2.2.2.1 lU.2.2.1 lU.1 (g rfl)
 ·exact λj j j z e s g j=>HS (kj e).1 lU.2.2.1 lU.1 (by refine Ab (qH ..) ?_;exact beq_eq_false_iff_ne.mpr z) (kj e).2 (tY s) (by refine Ab (KY ..) ?_;exact g rfl)
 ·exact λj j j g j=>HT lU.2.2.2.2.2 lU.2.2.2.1 lU.2.1 (g rfl)
 ·exact λj j s g j=>HS BK.nl lU.2.2.2.1 lU.2.1 (by refine Ab (qH ..) ?_;rfl) BK.es (tY s) (by refine Ab (KY ..) ?_;exact g rfl)
theorem Hy{st z:CQ}(h:stp st tok q c=Zd (b,z,tok',q',pb)):tok'.length<=tok.length+1/\(b=Zm->pb=[]):=by
 have u:∀tok:Za Zf,1<=tok.length+1:=λg=>ZQ _ _;have j:∀tok:Za Zf,tok.length<=tok.length+1:=λg=>YY _;have s:∀(tok:Za Zf) (c:Zf),(tok++[c]).length<=tok.length+1:=λg g=>Z1 Zt;refine ay (M:=λst tok q c r=>r.2.2.1.length<=tok.length+1/\(r.1=Zm->r.2.2.2.2=[])) ⟨XG _,λg=>rfl⟩ (λt g=>⟨u t,λg=>rfl⟩) (λt g g=>⟨u t,λg=>rfl⟩) (λt g=>⟨j t,λg=>rfl⟩) (λt g g=>⟨j t,λe=>ZK e⟩) (λt g g g g=>⟨j t,λe=>ZK e⟩)
  (λt g g=>⟨j t,λg=>rfl⟩) (λt g g=>⟨j t,λg=>rfl⟩) (λt g g=>⟨j t,λe=>ZK e⟩) (λt g c g g=>⟨s t c,λg=>rfl⟩) (λt g g g g=>⟨j t,λe=>ZK e⟩) (λt g=>⟨j t,λg=>rfl⟩) (λt g c g g=>⟨s t c,λg=>rfl⟩) (λt g=>⟨j t,λg=>rfl⟩) (λt g=>⟨s t 39,λg=>rfl⟩) h
theorem Kz{st:CQ}{r:Zl×CQ×Za Zf×Zl×Za Zf}(h:stp st tok q c=Zd r):r.1=Zh->r.2.2.1=tok/\(r.2.2.2.2=[]∨∃c,r.2.2.2.2=[c]):=by
 refine ay (M:=λst tok q c r=>r.1=Zh->r.2.2.1=tok/\(r.2.2.2.2=[]∨∃c,r.2.2.2.2=[c])) (λe=>ZK e) (λg g e=>ZK e) (λg g g e=>ZK e) (λg g e=>ZK e) (λg g g g=>⟨rfl,.inl rfl⟩) (λg g g g g g=>⟨rfl,.inr ⟨_,rfl⟩⟩) (λg g g e=>ZK e) (λg g g e=>ZK e) (λg g g g=>⟨rfl,.inl rfl⟩) (λg g g g g e=>ZK e) (λg g g g g g=>⟨rfl,.inr ⟨_,rfl⟩⟩) (λg g e=>ZK e) (λg g g g g e=>ZK e) (λg g e=>ZK e) (λg g e=>ZK e) h
theorem tw{st:CQ}(g:st=.sp∨st=.a∨st=.c)
 (h:kk .nx ⟨HG K0 ts line nf .none (AP tok) dn [],9,Be q (.str (Zc ""))⟩):
 go CP (n+60) (d+5) (.sts HY.tail (IZ n d kk (WG n d kk N))) ⟨HG K0 ts line nf st.v (AP tok) dn [],9,Be q (.str (Zc ""))⟩:=by
 rcases g with rfl|rfl|rfl
 ·exact dG h
 ·exact gW lW.1 lW.2 h
 ·exact gV lV.1 lV.2 h
theorem qp(Q:line.length<=1000):∀(rest pre:Za Zf) {st g:CQ} {tok tok':Za Zf} {q q':Zl} {pb rest':Za Zf} {nc:Ze W},line.cps.toList=pre++rest->tok.length<=pre.length+1->lx st tok q rest=Zd (g,tok',q',pb,rest')->
 (∀G,kk .nx ⟨HG K0 ts line ((line.length:Z7)-rest'.length) g.v (AP tok') (dn+pb.length) (pb.map λc=>.str (ch c)),9,Be q' G⟩)->
 ∃N,WG n d kk N ⟨HG K0 ts line (pre.length:Z7) st.v (AP tok) dn [],9,Jm q nc⟩:=by
 intro rest
 induction rest with
 |nil=>
  intro pre st g tok tok' q q' pb rest' nc hl L h A;have e:line.length=pre.length:=by
   show line.cps.size=_;rw[<-Xe,hl];simp
  have B:∀j:st=.sp∨st=.a∨st=.c,Zd (CQ.eof,tok,q,([]:Za Zf),([]:Za Zf))=Zd (g,tok',q',pb,rest')->∃N,WG n d kk N ⟨HG K0 ts line (pre.length:Z7) st.v (AP tok) dn [],9,Jm q nc⟩:=by
   intro j h;cases h;refine⟨1,?_⟩;rw[<-e];refine g8 bI I5 (by lia) (tw j ?_);have z:=A (.str (Zc ""));rw[show dn+(([]:Za Zf).length:Z7)=dn from RV _,show(line.length:Z7)-(([]:Za Zf).length:Z7)=line.length from PJ _]at z;exact z
  exact xA (La h) B
 |cons c r O=>
  intro pre st g tok tok' q q' pb rest' nc hl L h A;have e:line.length=pre.length+(r.length+1):=by
   show line.cps.size=_;rw[<-Xe,hl];simp
  refine(Iu h).elim (λz=>Bt z λC u q1 E j h=>?_) λz=>Bt z λC u q1 E j h=>?_
  ·have D:line.cps.toList=(pre++[c])++r:=by rw[hl];simp
   obtain⟨I,s⟩:=Hy j;have s:=s rfl;obtain⟨N,H⟩:=O (pre++[c]) (nc:=Zd (.p (.str (ch c)))) D (by simp;lia) h A;refine⟨N+1,cz bI I5 hl (by lia) (Hz (by lia) j (λP=>?_) (λhb=>(ZK hb)))⟩;have K:((pre++[c]).length:Z7)=(pre.length:Z7)+1:=by simp
   rw[K]at H;exact H
  ·cases h;refine⟨1,cz bI I5 hl (by lia) (Hz (by lia) j (λhb=>(ZK hb)) (λP=>?_))⟩;have z:=A (.str (ch c));rw[show(line.length:Z7)-(r.length:Z7)=(pre.length:Z7)+1 by lia]at z;exact z
theorem qD(h:∃N,WG n d kk N s):∃N,GE (λq r=>Wh (motive:=λg=>Zf->Task->S->Prop) (λg g g=>ZP) (λg j d t s=>LP CP j d t s) (n+61) (d+5) (.ts (.bool Zm) q) r)
 (λr q=>Wh (motive:=λg=>Zf->Task->S->Prop) (λg g g=>ZP) (λg j d t s=>LP CP j d t s) (n+61) (d+5) (.sts HY q) r)
 (λr q=>Wh (motive:=λg=>Zf->Task->S->Prop) (λg g g=>ZP) (λg j d t s=>LP CP j d t s) (n+61) (d+5) (.sts [] q) r) kk N s:=h
theorem vw(G:line.length<=1000){rest pre:Za Zf}{c:Zf}{r:CQ}{tok':Za Zf}{q':Zl}{pb rest':Za Zf}{nc:Ze W}(hl:line.cps.toList=pre++rest)(h:lx .sp [] Zh (c::rest)=Zd (r,tok',q',pb,rest'))
 (E:∀g C,kk .nx ⟨HG K0 ts line ((line.length:Z7)-rest'.length) r.v (AP tok') C (pb.map λc=>.str (ch c)),9,Be q' g⟩):
 ∃N,WG n d kk N ⟨HG K0 ts line (pre.length:Z7) CQ.sp.v (AP []) dn [.str (ch c)],9,Jm Zh nc⟩:=by
 generalize(by
  show line.cps.size=_;rw[<-Xe,hl];simp:line.length=pre.length+rest.length)=e
 refine(Iu h).elim (λz=>Bt z λB s q1 D u h=>?_) λz=>Bt z λB s q1 D u h=>?_
 ·obtain⟨A,j⟩:=Hy u;generalize(j rfl)=j;obtain⟨N,I⟩:=qp (n:=n) (d:=d) (ts:=ts) (dn:=dn+1) (nc:=Zd (.p (.str (ch c)))) (kk:=kk) G rest pre hl (by simpa using Zv A (Xq (XG _))) h (λg=>E g _);exact⟨N+1,g7 bI I5 (Hz (by simp) u (λH=>I) (λhb=>nomatch hb))⟩
 ·cases h;refine⟨1,g7 bI I5 (Hz (by simp) u (λhb=>nomatch hb) (λH=>?_))⟩;generalize(E (.str (ch c)) (dn+1+pb.length))=z;rw[show(line.length:Z7)-(rest.length:Z7)=(pre.length:Z7) by lia]at z;exact z
theorem hW{pos:Z7}{u:CQ}(E:line.length<=1000)(hl:line.cps.toList=pre++rest)(B:pb0=[]∨∃c,pb0=[c])
 (h:lx .sp [] Zh (pb0++rest)=Zd (u,tok',q',pb,rest')) (g:tok'≠[]∨q'=Zh)
 (j:∀z,k (.p (match tok' with| []=>.none|_=>.str (AP tok'))) ⟨HG K0 ts line ((line.length:Z7)-rest'.length) u.v (AP []) z (pb.map λc=>.str (ch c)),9,rho⟩):
 go CP (n+70) (d+5) (.sts AI.body (Bs rho k)) ⟨HG K0 ts line (pre.length:Z7) CQ.sp.v (AP []) dn (pb0.map λc=>.str (ch c)),9,[(19,Zd (.o 0)),(81,Zs),(82,Zs),(84,Zs),(83,Zs)]⟩:=by
 walk_at "s";refine qD (n:=n+5) (d:=d) ?_;rcases B with rfl|⟨c,rfl⟩
 ·refine qp E rest pre hl (XG _) h λD=>?_;cases tok' with
  |nil=>
   generalize(g.elim (λh=>ZT rfl h) id:q'=Zh)=A;subst A;walk_at "s";exact j _
  |cons x r=>
   generalize(by
    rw[N8];exact beq_eq_false_iff_ne.mpr λe=>by injection e with e;simp at e:(AP (x::r)==Zc "")=Zh)=C
   cases q' with
   |true=>
    walk_at "s";exact j _
   |false=>
    walk_at "s";exact j _
 ·refine vw E hl h λD z=>?_;cases tok' with
  |nil=>
   generalize(g.elim (λh=>ZT rfl h) id:q'=Zh)=A;subst A;walk_at "s";exact j _
  |cons x r=>
   generalize(by
    rw[N8];exact beq_eq_false_iff_ne.mpr λe=>by injection e with e;simp at e:(AP (x::r)==Zc "")=Zh)=C
   cases q' with
   |true=>
    walk_at "s";exact j _
   |false=>
    walk_at "s";exact j _
end
end
variable{st:CQ}
section
variable{st':CQ}{w rest tok:Za Zf}{l:Za (Za Zf)}{P:Za (Za Zf)->Prop}{G:Prop}{t:cw}{q':Zl}{c:Zf}
noncomputable section
theorem rg(h:line.length<=1000)
 (g:k (.p .none) ⟨HG K0 ts line (line.length:Z7) .none (AP []) dn [],9,rho⟩):
 go CP (n+70) (d+5) (.sts AI.body (Bs rho k)) ⟨HG K0 ts line (line.length:Z7) .none (AP []) dn [],9,[(19,Zd (.o 0)),(81,Zs),(82,Zs),(84,Zs),(83,Zs)]⟩:=by
 walk_at "s";refine qD (n:=n+5) (d:=d) ⟨1,g8 bI I5 (by exact q1 h rfl) ?_⟩;walk_at "s";exact g
noncomputable abbrev uy:Za Zf->V
 | []=>.none
 |x::r=>.str (AP (x::r))
theorem df{pos pos':Z7}{st st':V}{dl':Za V}
 (j:∀(rho:Za (Zf×Ze W)) (k:W->S->Prop),(∀g,k (.p (uy tok')) ⟨HG K0 ts line pos' st' (AP []) g dl',9,rho⟩)->go CP (n+76) (d+5) (.sts AI.body (Bs rho k)) ⟨HG K0 ts line pos st (AP []) dn dl,9,[(19,Zd (.o 0)),(81,Zs),(82,Zs),(84,Zs),(83,Zs)]⟩)
 (h:∀g,k (.p (uy tok')) ⟨HG K0 ts line pos' st' (AP []) g dl',9,rho⟩):
 go CP (n+80) (d+6) (.sts Bc.body (Bs rho k)) ⟨HG K0 ts line pos st (AP []) dn dl,9,[(19,Zd (.o 0)),(70,Zs),(69,Zs),(72,Zs),(77,Zs),(78,Zs)]⟩:=by
 walk_at "s";refine⟨(),?_⟩;refine Bj (ub (n+76) (d+5) ..) (j _ _ λg=>?_);cases tok' with
 |nil=>
  walk_at "s";refine⟨1,?_⟩;walk_at "s";exact h g
 |cons x r=>
  walk_at "s";refine⟨1,?_⟩;walk_at "s";exact h g
noncomputable abbrev cx:=Ze (Za (Za Zf))
noncomputable def xM(f:cw->cx)(o:Ze cw):cx:=match o with
 |some t=>f t
 |none=>Zs
noncomputable def yP(w:Za Zf)(o:cx):cx:=match o with
 |some l=>Zd (w::l)
 |none=>Zs
noncomputable def zt(w pb r:Za Zf):cx:=match pb with
 | []=>(match r with| []=>Zd [w]|_::_=>Zs)
 |_::_=>Zs
noncomputable def zu(o:cx)(w pb r:Za Zf)(st:CQ):cx:=match st with
 |.sp=>yP w o
 |.eof=>zt w pb r
 |.a=>Zs
 |.c=>Zs
 |.q1=>Zs
 |.q2=>Zs
noncomputable def zv(q:Zl)(st:CQ):cx:=match q with
 |true=>Zs
 |false=>(match st with|.eof=>Zd []|.sp=>Zs|.a=>Zs|.c=>Zs|.q1=>Zs|.q2=>Zs)
noncomputable def xN(F:Za Zf->Za Zf->cx)(t:cw):cx:=match t.2.1 with
 | []=>zv t.2.2.1 t.1
 |x::r=>zu (F t.2.2.2.1 t.2.2.2.2) (x::r) t.2.2.2.1 t.2.2.2.2 t.1
noncomputable def Cf:Zf->Za Zf->Za Zf->cx
 |0=>λg g=>Zs
 |n+1=>λpb rest=>xM (xN (Cf n)) (lx .sp [] Zh (pb++rest))
theorem nH{o:cx}(h:yP w o=Zd l){P:Za (Za Zf)->Prop}(k:∀g,o=Zd g->P (w::g)):P l:=by
 cases o with
 |none=>exact nj h
 |some g=>exact sj h (k _ rfl)
theorem nL{f:cw->cx}{o:Ze cw}(h:xM f o=Zd l){G:Prop}(k:∀t,o=Zd t->f t=Zd l->G):G:=by
 cases o with
 |none=>exact nj h
 |some t=>exact k t rfl h
theorem nM{F:Za Zf->Za Zf->cx}(h:xN F t=Zd l){P:cw->Za (Za Zf)->Prop}(u:∀pb r,P (.eof,[],Zh,pb,r) [])
 (s:∀x r q pb e g,F pb e=Zd g->P (.sp,x::r,q,pb,e) ((x::r)::g)) (j:∀x r q,P (.eof,x::r,q,[],[]) [x::r]):P t l:=by
 obtain⟨st,tok,q,pb,e⟩:=t;cases tok with
 |nil=>
  cases q with
  |true=>exact nj h
  |false=>cases st with
   |eof=>exact sj h (u _ _)
   |_=>exact nj h
 |cons x r=>
  cases st with
  |sp=>exact nH (P:=P _) h λg e=>s _ _ _ _ _ _ e
  |eof=>
   cases pb with
   |nil=>
    cases e with
    |nil=>exact sj h (j _ _ _)
    |cons=>exact nj h
   |cons=>exact nj h
  |_=>exact nj h
@[elab_as_elim] theorem JY(h:Cf (n+1) pb rest=Zd l)
 (z:∀j g,lx .sp [] Zh (pb++rest)=Zd (.eof,[],Zh,j,g)->P [])
 (A:∀x r q j g s,lx .sp [] Zh (pb++rest)=Zd (.sp,x::r,q,j,g)->Cf n j g=Zd s->P ((x::r)::s))
 (u:∀x r q,lx .sp [] Zh (pb++rest)=Zd (.eof,x::r,q,[],[])->P [x::r]):P l:=
 nL h λt e h=>nM h (P:=λt l=>lx .sp [] Zh (pb++rest)=Zd t->P l) z (λx r q pb e s a b=>A x r q pb e s b a) u e
theorem qZ(h:stp st tok q c=Zd (ck,st',tok',q',pb)):pb=[]∨∃c,pb=[c]:=by
 cases ck with
 |true=>exact .inl ((Hy h).2 rfl)
 |false=>exact(Kz h rfl).2
theorem bp:∀(rest:Za Zf) {st st':CQ} {tok tok':Za Zf} {q q':Zl} {pb j:Za Zf},lx st tok q rest=Zd (st',tok',q',pb,j)->(pb=[]∨∃c,pb=[c])/\∃p,rest=p++j:=by
 intro rest
 induction rest with
 |nil=>
  intro st g g g g g g g h;refine xA (La h) λg h=>?_;cases h;exact cV (.inl rfl) ([]) rfl
 |cons c r s=>
  intro g g g g g g g g h;refine(Iu h).elim (λz=>Bt z λa b d f e h=>xA (s h) λB A=>xE A λp u=>cV B (c::p) (ZH (c:: ·) u)) λz=>Bt z λa b d f e h=>?_;cases h;exact cV (qZ e) ([c]) rfl
theorem nJ{g:Za Zf}(h:lx st tok q (c::r)=Zd (st',tok',q',pb,g)):∃p,r=p++g:=by
 refine(Iu h).elim (λz=>Bt z λa b d f e h=>(bp r h).2) λz=>Bt z λa b d f e h=>?_;cases h;exact⟨[],rfl⟩
def wO(line:Zi)(st:CQ)(pb rest:Za Zf)(l:Za (Za Zf)):Prop:=
 (st=.sp/\(∃n,Cf n pb rest=Zd l)/\(pb=[]∨∃c,pb=[c])/\∃g,line.cps.toList=g++rest)∨(st=.eof/\pb=[]/\rest=[]/\l=[])
theorem ku(E:line.length<=1000)(L:wO line st pb rest l)
 (A:l=[]->∀pos' g dl',k (.p .none) ⟨HG K0 ts line pos' .none (AP []) g dl',9,rho⟩)
 (B:∀t H st' D u g,l=t::H->t≠[]->wO line st' D u H->k (.p (.str (AP t))) ⟨HG K0 ts line ((line.length:Z7)-u.length) st'.v (AP []) g (D.map λc=>.str (ch c)),9,rho⟩):
 go CP (n+80) (d+6) (.sts Bc.body (Bs rho k)) ⟨HG K0 ts line ((line.length:Z7)-rest.length) st.v (AP []) dn (pb.map λc=>.str (ch c)),9,[(19,Zd (.o 0)),(70,Zs),(69,Zs),(72,Zs),(77,Zs),(78,Zs)]⟩:=by
 rcases L with⟨rfl,⟨m,hm⟩,hpb,pre,hl⟩|⟨rfl,rfl,rfl,rfl⟩
 ·have e:(line.length:Z7)-rest.length=pre.length:=by
   have:line.length=pre.length+rest.length:=by
    show line.cps.size=_;rw[<-Xe,hl];simp
   lia
  rw[e];cases m with
  |zero=>cases hm
  |succ m=>
   revert A B;refine JY hm (λs h j A B=>?_) (λx r q1 s h l2 j G A B=>?_) λx r q1 j A B=>?_
   ·exact df (tok':=[]) (λrho k z=>hW (n:=n+6) (pos:=0) E hl hpb j (.inr rfl) z) λg=>A rfl ((line.length:Z7)-h.length) g (s.map λc=>.str (ch c))
   ·refine xA (by
     rcases hpb with rfl|⟨c,rfl⟩
     ·exact bp _ j
     ·exact⟨(bp _ j).1,nJ j⟩:(s=[]∨∃c,s=[c])/\∃p,rest=p++h) λC K=>xE K λp I=>?_
    exact df (tok':=x::r) (λrho k z=>hW (n:=n+6) (pos:=0) E hl hpb j (.inl (XU _ _)) z) λg=>B (x::r) l2 .sp s h g rfl (XU _ _) (.inl ⟨rfl,⟨m,G⟩,C,pre++p,by rw[hl,I,ZS]⟩)
   ·exact df (tok':=x::r) (λrho k z=>hW (n:=n+6) (pos:=0) E hl hpb j (.inl (XU _ _)) z) λg=>B (x::r) [] .eof [] [] g rfl (XU _ _) (.inr ⟨rfl,rfl,rfl,rfl⟩)
 ·have e:(line.length:Z7)-(([]:Za Zf).length:Z7)=line.length:=PJ _;rw[e];exact df (tok':=[]) (pos:=line.length) (st:=.none) (dn:=dn) (dl:=[]) (pos':=line.length) (st':=.none) (dl':=[]) (λrho k z=>rg (n:=n+6) E (z dn)) λg=>A rfl _ _ _
end
end
section
variable{b:Z7}{s:S}{l:Za (Za Zf)}{m:Zf}
noncomputable section
noncomputable def Lo:AM:=⟨[146,150],[155,131,153,154,156,151,56],[],Zm,[(.asg 155 (.str (Zc ""))),(.for_ Zm [131] (.callb .range Zh [(.callb .len Zh [(.nm 146)])]) [(.asgT [153,154] (.sub (.nm 146) (.nm 131))),(.asg 155 (.bin .Add (.bin .Add (.nm 155) (.ife (.nm 154) (.nm 153) (.callc 744 [(.nm 153)]))) (.bin .Mult (.str (Zc " ")) (.bin .Mod (.bin .FloorDiv (.nm 150) (.bin .Pow (.int 2) (.nm 131))) (.int 2)))))]),(.asg 156 (.mk 732 [(.nm 155)] [(43,(.bool Zm)),(44,(.str (Zc "();|")))])),(.asg 151 (.list Zm [])),(.asg 56 (.meth (.nm 156) 75 [])),(.while_ (.cmp .IsNot (.nm 56) .none) [(.expr (.meth (.nm 151) 1 [(.nm 56)])),(.asg 56 (.meth (.nm 156) 75 []))] []),(.ret (.nm 151))],[]⟩
theorem Jx(P:Z9):Ef 939 Lo P:=⟨⟨by kernel_rfl,by kernel_rfl⟩,FG (λh g=>by kernel_rfl)⟩
noncomputable def Bf(x:Zi):Str:=if x=cO then cO else if x=qm then uj else if x=ql then ui else if x=pZ then uh else ug
theorem cG(g:x∈Js):AS (d+1) 744 [.str x] (· =.str (Bf x)):=by
 generalize(by simpa[Js]using g:x=cO∨x=qm∨x=ql∨x=pZ∨x=rY)=this;rcases this with rfl|rfl|rfl|rfl|rfl
 ·exact Ab ((show Bf cO=cO by rfl) ..) nt
 ·exact Ab ((show Bf qm=uj by rfl) ..) nr
 ·exact Ab ((show Bf ql=ui by rfl) ..) nq
 ·exact Ab ((show Bf pZ=uh by rfl) ..) no
 ·exact Ab ((show Bf rY=ug by rfl) ..) nk
noncomputable def N7(p:Zi×Zl):Str:=if p.2 then p.1 else Bf p.1
noncomputable def CM(b:Z7)(ps:Za (Zi×Zl)):Zf->Zi
 |0=>Zc ""
 |i+1=>match ps[i]? with
  |none=>CM b ps i
  |some p=>(CM b ps i++N7 p)++UG (Zc " ") (blank b i)
theorem Fp(h:i<ps.length):CM b ps (i+1)=(CM b ps i++N7 ps[i])++UG (Zc " ") (blank b i):=by
 show(match ps[i]? with|none=>CM b ps i|some p=>_)=_;refine Ab (Za.getElem?_eq_getElem h ..) ?_;rfl
theorem Ii(x:Zi):(Bf x).length<=20:=by
 unfold Bf
 repeat' split
 all_goals exact ZQ _ _
theorem vR(h:∃N,GE (λq j=>go CP 193 (d+11) (.ts (.cmp .IsNot (.nm 56) .none) q) j) (λj q=>go CP 193 (d+11) (.sts [.expr (.meth (.nm 151) 1 [.nm 56]),.asg 56 (.meth (.nm 156) 75 [])] q) j) (λj q=>go CP 193 (d+11) (.sts [] q) j) kk N s):
 ∃N,GE (λq j=>Wh (motive:=λg=>Zf->Task->S->Prop) (λg g g=>ZP) (λg r d t s=>LP CP r d t s) 193 (d+11) (.ts (.cmp .IsNot (.nm 56) .none) q) j) (λj q=>Wh (motive:=λg=>Zf->Task->S->Prop) (λg g g=>ZP) (λg r d t s=>LP CP r d t s) 193 (d+11) (.sts [.expr (.meth (.nm 151) 1 [.nm 56]),.asg 56 (.meth (.nm 156) 75 [])] q) j) (λj q=>Wh (motive:=λg=>Zf->Task->S->Prop) (λg g g=>ZP) (λg r d t s=>LP CP r d t s) 193 (d+11) (.sts [] q) j) kk N s:=h
theorem sQ(E:line.length<=1000)(C:Cf m [] line.cps.toList=Zd l)
 (B:l=[]->∀s j z,k (.p .none) ⟨HG K0 ts line s .none (AP []) j z,9,rho⟩)
 (D:∀t A r u h j,l=t::A->t≠[]->wO line r u h A->k (.p (.str (AP t))) ⟨HG K0 ts line ((line.length:Z7)-h.length) r.v (AP []) j (u.map λc=>.str (ch c)),9,rho⟩):
 go CP (n+80) (d+6) (.sts Bc.body (Bs rho k)) ⟨HG K0 ts line 0 (.str (Zc " ")) (Zc "") dn [],9,[(19,Zd (.o 0)),(70,Zs),(69,Zs),(72,Zs),(77,Zs),(78,Zs)]⟩:=by
 generalize(ku (n:=n) (d:=d) (ts:=ts) (line:=line) (dn:=dn) (st:=.sp) (pb:=[]) (rest:=line.cps.toList) (l:=l) (k:=k) (rho:=rho) E (.inl (Cp rfl ⟨m,C⟩ (cV (.inl rfl) ([]) rfl))) B D)=g;generalize(by
  refine Ab Xe ?_;exact Int.sub_self _:(line.length:Z7)-(line.cps.toList.length:Z7)=0)=e
 rw[e,<-N8]at g;exact g
noncomputable def uK(P B L j h g:Ze W)(tk:V):Za (Zf×Ze W):=[(146,P),(150,B),(155,L),(131,j),(153,h),(154,g),(156,Zd (.o 0)),(151,Zd (.o 8)),(56,Zd (.p tk))]
def WH(n d:Zf)(kk:Fl->S->Prop)(N:Zf)(s:S):Prop:=GE (λq g=>go CP (n+90) (d+7) (.ts (.cmp .IsNot (.nm 56) .none) q) g) (λg q=>go CP (n+90) (d+7) (.sts [.expr (.meth (.nm 151) 1 [.nm 56]),.asg 56 (.meth (.nm 156) 75 [])] q) g) (λg q=>go CP (n+90) (d+7) (.sts [] q) g) kk N s
theorem uk{P B L o1 o2 o3:Ze W}(Q:line.length<=1000):∀(l:Za (Za Zf)) {t:Za Zf} {C:CQ} {A j:Za Zf} {ts:Za V} {dn':Z7},t≠[]->wO line C A j l->l.length+ts.length<=100000->
 (∀r dn' u,kk .nx ⟨HG K0 ((ts++[.str (AP t)])++(l.map AP).map .str) line r .none (AP []) dn' u,9,uK P B L o1 o2 o3 .none⟩)->
 WH n d kk (l.length+2) ⟨HG K0 ts line ((line.length:Z7)-j.length) C.v (AP []) dn' (A.map λc=>.str (ch c)),9,uK P B L o1 o2 o3 (.str (AP t))⟩:=by
 intro l
 induction l with
 |nil=>
  intro t C A j ts dn' T O h H;generalize(by exact qf h rfl:ts.length<=100000)=h;walk_at "s";refine Ac (by exact q1 h rfl) ?_;walk_at "s";refine⟨(),?_⟩;refine Bj (ub (n+86) (d+6) ..) ?_;generalize(λ(rho:Za (Zf×Ze W)) (k:W->S->Prop) h0 E=>ku (n:=n+6) (d:=d) (ts:=ts++[.str (AP t)]) (dn:=dn') (k:=k) (rho:=rho) Q O h0 E)=g;rw[show n+6+80=n+86 from rfl]at g;refine g _ _ (λG r D u=>?_) (λt1 l1 G G G G e=>nomatch e);walk_at "s";generalize(H r D u)=z;simp only[X3,YL]at z;exact z
 |cons t2 l2 Y=>
  intro t C A j ts dn' T O h H;generalize(by simp only[Xr]at h;lia:l2.length+(ts.length+1)<=100000)=h;show WH n d kk ((l2.length+2)+1) _;walk_at "s";refine Ac (Zv (Yf (Zv (ZQ ..) h)) (by decide)) ?_;walk_at "s";refine⟨(),?_⟩;refine Bj (ub (n+86) (d+6) ..) ?_;generalize(λ(rho:Za (Zf×Ze W)) (k:W->S->Prop) h0 E=>ku (n:=n+6) (d:=d) (ts:=ts++[.str (AP t)]) (dn:=dn') (k:=k) (rho:=rho) Q O h0 E)=g;rw[show n+6+80=n+86 from rfl]at g;refine g _ _ (λe=>nomatch e) (λt1 l1 U X K I e E R=>?_);cases e;generalize(Y (ts:=ts++[.str (AP t)]) (dn':=I) E R (by simp;trivial) (λr D u=>by
   have y:=H r D u;simp only[Z3,ZS,List.singleton_append]at y⊢;exact y))=z
  walk_at "s"
  conv at z=>whnf
  exact z
theorem nI:∀(rest:Za Zf) {st j:CQ} {tok tok':Za Zf} {q s:Zl} {pb g:Za Zf},lx st tok q rest=Zd (j,tok',s,pb,g)->tok'.length+pb.length+g.length<=tok.length+rest.length:=by
 intro rest
 induction rest with
 |nil=>
  intro st j tok tok' q s pb g h;refine xA (La h) λE h=>?_;cases h;exact ZL _
 |cons c r B=>
  intro st j tok tok' q s pb g h;refine(Iu h).elim (λz=>Bt z λa b d f e h=>?_) λz=>Bt z λa b d f e h=>?_
  ·generalize(B h)=D;generalize((Hy e).1)=C;simp only[Xr];lia
  ·cases h;have A:tok'=tok:=(Kz e rfl).1;rw[A,Xb];refine Yy ?_ _;rcases(Kz e rfl).2 with h|h
   ·have h:pb=[]:=h;rw[h,Xo,Y0];exact YY _
   ·refine xE h λu h=>?_;have h:pb=[u]:=h;rw[h];exact Z1 (XM _ _)
theorem fp:∀{m:Zf} {pb rest:Za Zf} {l:Za (Za Zf)},Cf m pb rest=Zd l->l.length<=pb.length+rest.length+1:=by
 intro m
 induction m with
 |zero=>
  intro g g g h;cases h
 |succ m s=>
  intro pb rest l h;refine JY h (λg g g=>XG _) (λx r q z u B j e=>?_) λg g g g=>ZQ 1 _;generalize(nI _ j)=A;simp only[Zt,Xo,Y0,Xr]at A⊢;generalize(s e)=this;lia
theorem gN(j:ps.length<=20)(hp:∀p∈ps,(p.2=Zm/\p.1.length=1)∨(p.2=Zh/\p.1∈Js))(hb:∀i,i<=ps.length->(CM b ps i).length<=50*i)(hx:Cf m [] (CM b ps ps.length).cps.toList=Zd l):
 AS (d+12) 939 [.lst (ps.map BC),.int b] (· =.lst ((l.map AP).map .str)):=by
 refine Bk Jx sZ (n:=200) rfl ?_;walk_at "s";refine Ac (by simp;exact q1 j rfl) ?_;walk_at "s";refine Ac (by simp;exact q1 j rfl) ?_;refine mEA _ rfl (Cv (λi s=>∃(o1 o2 o3:Ze W),s=⟨[],0,[(146,Zd (.p (.lst (ps.map BC)))),(150,Zd (.p (.int b))),(155,Zd (.p (.str (CM b ps i)))),(131,o1),(153,o2),(154,o3),(156,Zs),(151,Zs),(56,Zs)]⟩) (It Zs Zs Zs rfl) ?_ ?_)
 ·rintro i v z_ kk hv ⟨o1,o2,o3,rfl⟩ U k2;rw[Zz]at hv;refine xA (CX hv) λA r=>?_;subst A;generalize(Fp (b:=b) r)=O;generalize(hp ps[i] (Wq r))=I;generalize(BM (f:=BC) (Za.getElem?_eq_getElem r))=C;generalize(hb i (by exact YB r))=Q;generalize(hb (i+1) (by trivial))=u;rw[O]at U u;generalize ps[i]=pc at I C U u;obtain⟨R,sg⟩:=pc;generalize CM b ps i=ln at Q u U;generalize(by exact TQ (Oc (by exact ZI _)):(2^i:Z7)≠0)=D;generalize(JS i (by exact q6 r j rfl))=H;walk_at "s";refine Ac (by simp;exact q1 j rfl) ?_;refine Aa C ?_;generalize(by exact YH _:(Zc " ").length<=16)=T;generalize(XN _ (by exact ZI _):0<=blank b i)=E;generalize(by
   have:blank b i<2:=Wr _ (by exact ZI _);exact RW (Int.le_of_lt this) (by decide):blank b i<=1048576)=G
  cases sg with
  |true=>
   generalize(by
    rcases I with h|h
    ·exact h.2
    ·exact ZT h.1 (by simp):R.length=1)=K
   walk_at "s";refine Ac (Of Q r j (K▸ZQ 1 19)) ?_;walk_at "s";refine Cp (by exact ZI _) (by exact qb r j rfl) ?_;walk_at "s";refine Cp D H ?_;walk_at "s";refine⟨by decide,?_⟩;walk_at "s";refine Ba T E G ?_;walk_at "s";generalize(by refine Bj (YW ..) ?_;exact tk2 u r j:(ln++N7 (R,Zm)).length+(UG (Zc " ") (blank b i)).length<=16777216)=e3;refine Ac e3 ?_;walk_at "s";exact U _ (It (Zd (.p (.int i))) (Zd (.p (.str R))) (Zd (.p (.bool Zm))) rfl)
  |false=>
   generalize(by
    rcases I with h|h
    ·exact ZT h.1 (by simp)
    ·exact h.2:R∈Js)=K
   generalize(Ii R)=hql;walk_at "s";refine det (cG K) ?_;walk_at "s";refine Ac (Of Q r j hql) ?_;walk_at "s";refine Cp (ZI _) (Xs.mpr (ZB r (Zv j (by decide)))) ?_;walk_at "s";refine Cp D H ?_;walk_at "s";refine⟨by decide,?_⟩;walk_at "s";refine Ba T E G ?_;walk_at "s";generalize(by refine Bj (YW ..) ?_;exact tk2 u r j:(ln++N7 (R,Zh)).length+(UG (Zc " ") (blank b i)).length<=16777216)=e3;refine Ac e3 ?_;walk_at "s";exact U _ (It (Zd (.p (.int i))) (Zd (.p (.str R))) (Zd (.p (.bool Zh))) rfl)
 ·rintro z_ ⟨o1,o2,o3,rfl⟩;refine Ab (Zz ..) ?_;refine Ab (Y5 ..) ?_;refine Ab (Zz ..) ?_;generalize(hb ps.length (ZL _))=Y;generalize(Zv Y (Y1 50 j):(CM b ps ps.length).length<=1000)=z;generalize CM b ps ps.length=line at hx z;walk_at "s"
  iterate 8 (first|refine⟨rfl,?_⟩|refine Ac (by first|lia|decide+kernel) ?_|(walk_at "s"))
  refine⟨by decide+kernel,?_⟩;walk_at "s";refine⟨by decide+kernel,?_⟩;walk_at "s";refine⟨(),?_⟩;refine Bj (ub (nat_lit 193) (d+10) ..) (sQ (n:=113) (d:=d+4) (l:=l) (ts:=[]) (dn:=0) z hx ?_ ?_)
  ·intro e X dn' dl';subst e;walk_at "s";refine⟨1,?_⟩;walk_at "s";exact Es rfl ([]) rfl rfl
  ·intro t l' st' pb' rest' dn' e ht hR;subst e;walk_at "s";refine vR ⟨l'.length+2,?_⟩;generalize(λ(kk:Fl->S->Prop) hk=>uk (n:=103) (d:=d+4) (line:=line) (P:=Zd (.p (.lst (ps.map BC)))) (B:=Zd (.p (.int b))) (L:=Zd (.p (.str line))) (o1:=o1) (o2:=o2) (o3:=o3) (kk:=kk) z l' (ts:=[]) (dn':=dn') ht hR (by have h9:=fp hx;have h8:line.cps.size=line.length:=rfl;simp at h9⊢;exact q5 h9 z rfl) hk)=g;unfold WH at g;rw[show 103+90=193 from rfl,show d+4+7=d+11 from rfl]at g;refine g _ λX dn2 dl'=>?_;walk_at "s";exact Es rfl _ rfl (by rfl)
end
end
section
variable{c:Zf}{b:Z7}{p:Zi×Zl}{r tl:Za (Zi×Zl)}{l a pre tk:Za Zi}{D:Za (Za Zf)}{z:Za Zf}{tx:Zi}{sg run:Zl}
noncomputable def tZ(m:Zf)(o:Ze cw):cx:=xM (xN (Cf m)) o
theorem Da(m:Zf)(pb rest:Za Zf):Cf (m+1) pb rest=tZ m (lx .sp [] Zh (pb++rest)):=rfl
def Sg(c:Zf):Prop:=c=40∨c=41∨c=59∨c=124
theorem wJ(st:CQ)(tok:Za Zf)(q:Zl)(c:Zf)(r:Za Zf):lx st tok q (c::r)=xL (stp st tok q c) (λst tok q=>lx st tok q r) r:=rfl
theorem sA(h:Sg c)(L:Za Zf):lx .sp [] Zh (c::L)=lx .c [c] Zh L:=by
 rcases h with rfl|rfl|rfl|rfl<;>rfl
theorem nU(h:Sg c)(x:Zf)(t L:Za Zf):lx .c (x::t) Zh (c::L)=lx .c (x::t++[c]) Zh L:=by
 rcases h with rfl|rfl|rfl|rfl<;>rfl
theorem MZ(x:Zf)(t L:Za Zf):lx .c (x::t) Zh (32::L)=Zd (.sp,x::t,Zh,[],L):=rfl
theorem xR(x:Zf)(t:Za Zf):lx .c (x::t) Zh []=Zd (.eof,x::t,Zh,[],[]):=rfl
theorem nV(h:c=97∨c=39)(x:Zf)(t L:Za Zf):lx .c (x::t) Zh (c::L)=Zd (.sp,x::t,Zh,[c],L):=by
 rcases h with rfl|rfl<;>rfl
theorem jJ(x:Zf)(t:Za Zf)(q:Zl)(L:Za Zf):lx .a (x::t) q (32::L)=Zd (.sp,x::t,q,[],L):=rfl
theorem xS(x:Zf)(t:Za Zf)(q:Zl):lx .a (x::t) q []=Zd (.eof,x::t,q,[],[]):=rfl
theorem nW(h:Sg c)(x:Zf)(t:Za Zf)(q:Zl)(L:Za Zf):lx .a (x::t) q (c::L)=Zd (.sp,x::t,q,[c],L):=by
 rcases h with rfl|rfl|rfl|rfl<;>rfl
noncomputable def cpsL(x:Zi):Za Nat:=x.cps.toList
theorem rX:cpsL cO=[97]/\cpsL qm=[98,59,99]/\cpsL ql=[105,116,39,115]/\cpsL pZ=[40,100,41]/\cpsL rY=[35,32,101]:=by decide
theorem qM:cpsL uj=[39,98,59,99,39]/\cpsL ui=[39,105,116,39,34,39,34,39,115,39]/\cpsL uh=[39,40,100,41,39]/\cpsL ug=[39,35,32,101,39]:=by decide
theorem eU:Bf cO=cO/\Bf qm=uj/\Bf ql=ui/\Bf pZ=uh/\Bf rY=ug:=by decide+kernel
theorem sC(s:x∈Js):∃q g e y t,cpsL (Bf x)=g::e/\(g=97∨g=39)/\cpsL x=y::t/\∀L,lx .sp [] Zh (cpsL (Bf x)++L)=lx .a (cpsL x) q L:=by
 generalize(by simpa[Js]using s:x=cO∨x=qm∨x=ql∨x=pZ∨x=rY)=this;refine CU rX λn1 n2 r u n5=>CC qM λz j h A=>CU eU λq1 q2 q3 q4 q5=>?_;rcases this with rfl|rfl|rfl|rfl|rfl
 ·refine Ab q1 (Ab n1 ?_);exact Ce Zh 97 ([]) 97 ([]) rfl (.inl rfl) rfl (λL=>rfl)
 ·refine Ab q2 (Ab n2 ?_);exact Ab z (Ce Zm 39 _ _ _ rfl (.inr rfl) rfl (λL=>rfl))
 ·refine Ab q3 (Ab r ?_);exact Ab j (Ce Zm 39 _ _ _ rfl (.inr rfl) rfl (λL=>rfl))
 ·refine Ab q4 (Ab u ?_);exact Ab h (Ce Zm 39 _ _ _ rfl (.inr rfl) rfl (λL=>rfl))
 ·refine Ab q5 (Ab n5 ?_);exact Ab A (Ce Zm 39 _ _ _ rfl (.inr rfl) rfl (λL=>rfl))
noncomputable def bl(b:Z7)(i:Zf):Za Nat:=if blank b i=0 then[]else[32]
noncomputable def BF(b:Z7):Zf->Za (Zi×Zl)->Za Zf
 |_,[]=>[]
 |i,p::r=>cpsL (N7 p)++(bl b i++BF b (i+1) r)
theorem cX:BF b i (p::r)=cpsL (N7 p)++(bl b i++BF b (i+1) r):=rfl
noncomputable def DG(b:Z7):Zf->Za (Zi×Zl)->Ze (Za Zf)->Za (Za Zf)
 |_,[],cur=>cur.toList
 |i,p::r,cur=>match p.2 with
  |true=>if blank b i=0 then DG b (i+1) r (Zd (cur.getD []++cpsL p.1))else(cur.getD []++cpsL p.1)::DG b (i+1) r Zs
  |false=>cur.toList++(cpsL p.1::DG b (i+1) r Zs)
noncomputable def y3:Za (Zi×Zl)->Prop
 | []=>O0
 |p::_=>p.2=Zm
noncomputable def Good:Za (Zi×Zl)->Prop
 | []=>O0
 |p::r=>(match p.2 with
  |true=>∃c,Sg c/\cpsL p.1=[c]
  |false=>p.1∈Js/\y3 r)/\Good r
theorem pU(m c:Zf)(L:Za Zf)(h:0<m):Cf m [c] L=Cf m [] (c::L):=by
 obtain⟨k,rfl⟩:∃k,m=k+1:=⟨m-1,sb h⟩;rw[Da,Da];rfl
theorem nX(z:Good r)(g:y3 r)(A:0<n)(h:Cf n [] (BF b j r)=Zd (DG b j r Zs))(x:Zf)(t:Za Zf)(q:Zl):
 tZ n (lx .a (x::t) q (bl b i++BF b j r))=Zd ((x::t)::DG b j r Zs):=by
 unfold bl;split
 ·skip
  cases r with
  |nil=>
   rfl
  |cons C s=>
   obtain⟨tx,sg⟩:=C;revert g;refine(?_:(sg=Zm)->_);intro g;subst g;obtain⟨⟨c,D,u⟩,G⟩:=z;have E:N7 (tx,Zm)=tx:=rfl;have B:BF b j ((tx,Zm)::s)=c::(bl b j++BF b (j+1) s):=by
    refine Ab (cX ..) ?_;refine Ab (E ..) ?_;refine Ab (u ..) ?_;rfl
   rw[B]at h⊢;refine Ab (nW D ..) ?_;refine(?_:(match Cf n [c] _ with|some l=>Zd ((x::t)::l)|none=>Zs)=_);refine Ab (pU _ _ _ A ..) ?_;refine Ab (h ..) ?_;rfl
 ·refine(?_:tZ n (lx .a (x::t) q (32::BF b j r))=_);refine Ab (jJ ..) ?_;refine(?_:(match Cf n [] (BF b j r)with|some l=>Zd ((x::t)::l)|none=>Zs)=_);refine Ab (h ..) ?_;rfl
theorem jC(b:Z7):∀(ps:Za (Zi×Zl)) (i m:Zf),Good ps->ps.length<m->
 Cf m [] (BF b i ps)=Zd (DG b i ps Zs)/\∀x t,tZ m (lx .c (x::t) Zh (BF b i ps))=Zd (DG b i ps (Zd (x::t))):=by
 intro ps
 induction ps with
 |nil=>
  intro i m O s;obtain⟨k,rfl⟩:∃k,m=k+1:=⟨m-1,sb s⟩;refine⟨?_,λx t=>?_⟩
  ·rw[Da];rfl
  ·rfl
 |cons p r D=>
  intro i m G s;obtain⟨k,rfl⟩:∃k,m=k+1:=⟨m-1,sb s⟩;simp only[Xr]at s;obtain⟨tx,sg⟩:=p;cases sg with
  |true=>
   refine xA G λh g=>?_;obtain⟨c,K,E⟩:=h;refine xA (D (i+1) k g (by exact WZ s)) λC R=>xA (D (i+1) (k+1) g (by exact X9 s)) λY B2=>?_;have z:BF b i ((tx,Zm)::r)=c::(bl b i++BF b (i+1) r):=by
    refine(?_:cpsL tx++_=_);rw[E];rfl
   have I:∀j,DG b i ((tx,Zm)::r) j=if blank b i=0 then DG b (i+1) r (Zd (j.getD []++[c]))else(j.getD []++[c])::DG b (i+1) r none:=λj=>by
    refine(?_:(if blank b i=0 then _ else _)=_);rw[E]
   refine⟨?_,λx t=>?_⟩
   ·rw[Da,z,W3,sA K,I];unfold bl;split
    ·exact R c []
    ·refine(?_:tZ k (lx .c [c] Zh (32::BF b (i+1) r))=_);rw[MZ];refine(?_:(match Cf k [] (BF b (i+1) r)with|some l=>Zd ([c]::l)|none=>Zs)=_);rw[C];rfl
   ·rw[z,nU K,I];unfold bl;split
    ·exact B2 x (t++[c])
    ·refine(?_:tZ (k+1) (lx .c (x::(t++[c])) Zh (32::BF b (i+1) r))=_);rw[MZ];refine(?_:(match Cf (k+1) [] (BF b (i+1) r)with|some l=>Zd ((x::(t++[c]))::l)|none=>Zs)=_);rw[Y];rfl
  |false=>
   refine xA G λu g=>?_;obtain⟨T,P⟩:=u;refine xA (D (i+1) k g (WZ s)) λC O=>ac (sC T) λq c0 e Q=>AF Q λy t0 U B H X=>?_;have z:BF b i ((tx,Zh)::r)=cpsL (Bf tx)++(bl b i++BF b (i+1) r):=rfl;have L:0<k:=R2 (WZ s);have A:Cf (k+1) [] (BF b i ((tx,Zh)::r))=Zd (DG b i ((tx,Zh)::r) Zs):=by
    rw[Da,z,W3,X,H,nX g P L C];refine(?_:_=Zd ([]++(cpsL tx::DG b (i+1) r Zs)));rw[H];rfl
   refine⟨A,λx t=>?_⟩;rw[z,U,YO]at A⊢;rw[nV B];refine(?_:(match Cf (k+1) [c0] _ with|some l=>Zd ((x::t)::l)|none=>Zs)=_);rw[pU _ _ _ (by exact YH _),A];rfl
theorem Gr(x y:Zi):cpsL (x++y)=cpsL x++cpsL y:=by
 refine(?_:(x.cps++y.cps).toList=_);simp[cpsL]
theorem NK(b:Z7)(i:Zf):cpsL (UG (Zc " ") (blank b i))=bl b i:=by
 have h:0<=blank b i:=XN _ (by exact ZI _);have g:blank b i<2:=Wr _ (by exact ZI _);have:=z2 h g;unfold bl;rcases this with e|e
 ·refine Ab e ?_;rfl
 ·refine Ab e ?_;rfl
theorem nP(b:Z7)(ps:Za (Zi×Zl)):∀i,i<=ps.length->cpsL (CM b ps i)++BF b i (ps.drop i)=BF b 0 ps:=by
 intro i
 induction i with
 |zero=>
  intro j;rw[UT,show cpsL (CM b ps 0)=[]from(by rfl:cpsL (Zc "")=[])];rfl
 |succ i g=>
  intro h;rw[<-g (by exact YB h),Fp (by trivial),Gr,Gr,NK,Yg h];refine Ab cX ?_;simp[ZS]
theorem jA(b:Z7)(ps:Za (Zi×Zl)):cpsL (CM b ps ps.length)=BF b 0 ps:=by
 generalize(nP b ps ps.length (ZL _))=this;rw[YV]at this;exact(YL _).symm.trans this
noncomputable def ML(b:Z7)(i:Zf)(rest:Za (Zi×Zl))(st:Za Zi×Zl):Za (Za Zf):=match st.2 with
 |true=>st.1.dropLast.map cpsL++DG b i rest (Zd (cpsL (st.1.getLastD Br)))
 |false=>st.1.map cpsL++DG b i rest Zs
theorem Iz(h:l≠[]):l.dropLast.map cpsL++[cpsL (l.getLastD Br)]=l.map cpsL:=by
 conv=>rhs;rw[<-Wa h]
 rw[ZA,Z3,X3]
 congr 2
 cases l with
 |nil=>exact ZT rfl h
 |cons x r=>rfl
theorem ma:(a++[x]).map cpsL++D=a.map cpsL++(cpsL x::D):=by
 rw[ZA,ZS];rfl
theorem qE(e:cpsL y=z):ML b (i+1) tl (pre++[y],Zm&&(blank b i==0))=pre.map cpsL++(if blank b i=0 then DG b (i+1) tl (Zd z)else z::DG b (i+1) tl Zs):=by
 subst e;by_cases hb:blank b i=0
 ·rw[if_pos hb,hb];refine(?_:(pre++[y]).dropLast.map cpsL++DG b (i+1) tl (Zd (cpsL ((pre++[y]).getLastD Br)))=_);rw[Vi,Sv]
 ·rw[Yc hb,show(blank b i==0)=Zh from beq_eq_false_iff_ne.mpr hb];exact ma
theorem kZ(h:run=Zm->tk≠[]):ML b (i+1) tl (Cn b i (tk,run) (tx,sg))=ML b i ((tx,sg)::tl) (tk,run):=by
 cases sg with
 |false=>
  cases run with
  |false=>exact ma
  |true=>exact ma.trans ((ZH (· ++(cpsL tx::DG b (i+1) tl Zs)) (Iz (h rfl))).symm.trans (ZS ..))
 |true=>
  cases run with
  |false=>exact qE (pre:=tk) rfl
  |true=>exact qE (pre:=tk.dropLast) (Gr ..)
theorem tz:(Cn b i (tk,run) (tx,sg)).1≠[]:=by
 cases sg with
 |false=>exact Ww _ (XU _ _)
 |true=>
  cases run with
  |false=>exact Ww _ (XU _ _)
  |true=>exact Ww _ (XU _ _)
theorem t4(b:Z7)(ps:Za (Zi×Zl)):∀i,i<=ps.length->((Cc b ps i).2=Zm->(Cc b ps i).1≠[])/\ML b i (ps.drop i) (Cc b ps i)=DG b 0 ps none:=by
 intro i
 induction i with
 |zero=>exact λs=>⟨λh=>ZK h,rfl⟩
 |succ i j=>
  intro h;refine xA (j (YB h)) λr g=>?_;rw[Yg h]at g;rw[DF h];exact⟨λs=>tz,(kZ r).trans g⟩
theorem oV(b:Z7)(ps:Za (Zi×Zl)):DG b 0 ps Zs=(Cc b ps ps.length).1.map cpsL:=by
 refine xA (t4 b ps ps.length (ZL _)) λg h=>?_;refine Bj (h ..) ?_;refine Ab (YV ..) ?_;unfold ML;split
 ·rename_i e;refine(?_:_++(Zd _:Ze (Za Zf)).toList=_);exact Iz (g e)
 ·refine(?_:_++[]=_);refine Ab (YL ..) ?_;rfl
theorem nQ(g:Good ps):Cf (ps.length+1) [] (CM b ps ps.length).cps.toList=Zd ((Cc b ps ps.length).1.map cpsL):=by
 generalize((jC b ps 0 (ps.length+1) g (YI _)).1)=this;rw[<-jA,oV]at this;exact this
end
section
variable{p:Zi×Zl}{b:Z7}{t:Tr}
theorem mkS_cps(x:Zi):AP (cpsL x)=x:=by cases x;simp[AP,cpsL]
theorem Ln:∀{ps:Za (Zi×Zl)},Good ps->∀p∈ps,(p.2=Zm/\p.1.length=1)∨(p.2=Zh/\p.1∈Js):=by
 intro ps
 induction ps with
 |nil=>exact λu u h=>(ZT h ZE)
 |cons q r j=>
  intro B p g;obtain⟨s,z⟩:=B;rcases Zr.mp g with rfl|g
  ·obtain⟨A,C⟩:=p;cases C with
   |true=>
    obtain⟨c,u,e⟩:=s;refine .inl ⟨rfl,?_⟩;refine(?_:A.cps.size=1)
    skip
    exact ZH XS e
   |false=>exact .inr ⟨rfl,s.1⟩
  ·exact j z p g
theorem kY(h:(p.2=Zm/\p.1.length=1)∨(p.2=Zh/\p.1∈Js)):(N7 p).length<=20:=by
 obtain⟨j,s⟩:=p;rcases h with⟨g,r⟩|⟨g,r⟩
 ·generalize(g:s=Zm)=g;subst g;refine(?_:j.length<=20);generalize(r:j.length=1)=this;exact q9 r rfl
 ·generalize(g:s=Zh)=g;subst g;exact Ii j
theorem fq(u:Good ps):∀i,i<=ps.length->(CM b ps i).length<=50*i:=by
 intro i
 induction i with
 |zero=>intro z;exact(by exact ZL _:(Zc "").length<=50*0)
 |succ i g=>
  intro h;generalize(g (by exact YB h))=r;generalize(kY (Ln u ps[i] (Wq (by trivial))))=j;generalize(by
   show(UG (Zc " ") (blank b i)).cps.size<=1;refine Bj (Xe ..) ?_;show(cpsL (UG (Zc " ") (blank b i))).length<=1;refine Ab (NK ..) ?_;unfold bl;split<;>exact ZQ _ _:(UG (Zc " ") (blank b i)).length<=1)=s
  refine Ab (Fp h ..) ?_;refine Ab (YW ..) ?_;refine Ab (YW ..) ?_;exact zB r j s
theorem Mc(j:ps.length<=20)(g:Good ps):AS (d+12) 939 [.lst (ps.map BC),.int b] (· =.lst ((Cc b ps ps.length).1.map .str)):=by
 generalize(gN (d:=d) (b:=b) j (Ln g) (fq g) (nQ g))=h;generalize(λl=>by rw[YX,show(AP∘cpsL)=id from funext mkS_cps,Sr]:∀l:Za Zi,(l.map cpsL).map AP=l)=e;rw[e]at h;exact h
theorem Il(h:i<5):D0 i∈Js:=by
 cases i with
 |zero=>exact .head _
 |succ i=>cases i with
  |zero=>exact .tail _ (.head _)
  |succ i=>cases i with
   |zero=>exact .tail _ (.tail _ (.head _))
   |succ i=>cases i with
    |zero=>exact .tail _ (.tail _ (.tail _ (.head _)))
    |succ i=>cases i with
     |zero=>exact .tail _ (.tail _ (.tail _ (.tail _ (.head _))))
     |succ i=>exact ZT h (Vk (ZQ 5 i))
theorem KD:cpsL (Zc "(")=[40]/\cpsL (Zc ")")=[41]/\cpsL (kS Zh)=[59]/\cpsL (kS Zm)=[124]:=by decide+kernel
theorem Tr.good:∀(t:Tr) {rest:Za (Zi×Zl)},(∀i∈t.zG,i<5)->Good rest->y3 rest->Good (t.pieces++rest):=by
 intro t
 induction t with
 |leaf i=>exact @λrest hl h u=>⟨⟨Il (hl i (.head _)),u⟩,h⟩
 |node k l r g s=>
  intro rest hl h u;have D:∀i∈l.zG,i<5:=λi j=>hl i (Zk _ j);have B:∀i∈r.zG,i<5:=λi j=>hl i (Zq _ j);have A:Good ((Zc ")",Zm)::rest):=⟨⟨41,.inr (.inl rfl),KD.2.1⟩,h⟩
  have E:Good ((kS k,Zm)::(r.pieces++((Zc ")",Zm)::rest))):=⟨by
   cases k
   ·exact mEA 59 (.inr (.inr (.inl rfl))) KD.2.2.1
   ·exact mEA 124 (.inr (.inr (.inr rfl))) KD.2.2.2,(s B A rfl)⟩
  generalize(g D E rfl)=z;have C:Good ((Zc "(",Zm)::(l.pieces++((kS k,Zm)::(r.pieces++((Zc ")",Zm)::rest))))):=⟨⟨40,.inl rfl,KD.1⟩,z⟩;have e:Tr.pieces (.node k l r)++rest=(Zc "(",Zm)::(l.pieces++((kS k,Zm)::(r.pieces++((Zc ")",Zm)::rest)))):=by
   simp[Tr.zV,ZS]
  exact Ab e C
theorem ak(hl:∀i∈t.zG,i<5)(h:t.zG.length<=5):AS (d+12) 939 [.lst (t.pieces.map BC),.int b] (· =.lst ((Cc b t.pieces t.pieces.length).1.map .str)):=by
 generalize t.zS=hp;generalize(t.good (rest:=[]) hl trivial trivial)=g;rw[YL]at g;exact Mc (UM (Zv (Z1 hp) (Zv (Y1 4 h) (ZF 20 3)))) g
end
section
variable{x:Zf}{l:Za Zf}
noncomputable def D2:AM:=⟨[120],[121,64],[],Zm,[(.asg 121 (.list Zm [])),(.for_ Zm [64] (.nm 120) [(.ite (.cmp .NotIn (.nm 64) (.nm 121)) [(.expr (.meth (.nm 121) 1 [(.nm 64)]))] [])]),(.ret (.nm 121))],[]⟩
noncomputable def D3:AM:=⟨[122,123],[124,125,64,128],[],Zh,[(.asg 124 (.callc 871 [(.nm 122)])),(.asg 125 (.callc 871 [(.nm 123)])),(.asg 64 (.callb .list Zm [(.nm 125)])),(.tryRm 128 124 64),(.ret (.un .Not (.nm 64)))],[]⟩
theorem De(P:Z9):Ef 871 D2 P:=⟨⟨by kernel_rfl,by kernel_rfl⟩,Eb (λg=>by kernel_rfl)⟩
theorem Df(P:Z9):Ef 878 D3 P:=⟨⟨by kernel_rfl,by kernel_rfl⟩,FG (λh g=>by kernel_rfl)⟩
noncomputable section
theorem Mh(nm:Zf->Zi)(l:Za Zf):strsOf (strN nm l)=Zd (l.map nm):=by
 induction l with
 |nil=>rfl
 |cons x r g=>
  refine(?_:(match strsOf (strN nm r)with|some l=>Zd (nm x::l)|none=>Zs)=_);refine Ab g ?_;rfl
theorem km(g:Dt nm):Nu (nm x) (strN nm xs)=Zd (BV x xs):=by
 refine(?_:(match strsOf (strN nm xs)with|some ss=>Zd (ss.any (· ==nm x))|none=>Zs)=_);refine Ab (Mh ..) ?_;exact ZH Zd ((List.any_beq' ..).trans ((List.contains_eq_mem ..).trans (CV g x xs)))
theorem in_list(g:Dt nm)(h:Ai n H=Zd (.list (strN nm xs))):qA H (.p (.str (nm x))) (.o n)=Zd (BV x xs):=(qz h).trans (km g)
inductive ID(nm:Zf->Zi)(l r:Za Zf):S->Prop
 |mk (acc:Za Zf) (o:Ze W) (e:DT r acc=DT l []) (hz:acc.length+r.length<=1000):ID nm l r ⟨[(0,.list (strN nm acc))],1,[(120,Zd (.p (.lst (strN nm l)))),(121,Zd (.o 0)),(64,o)]⟩
theorem dp(g:Dt nm)(h:l.length<=1000):AS (d+1) 871 [.lst (strN nm l)] (· =.lst (strN nm (DT l []))):=by
 refine Bk De Cm (n:=200) rfl ?_;walk_at "s";refine Ac (lq h rfl) (mEA _ rfl ?_);refine B0 (λx=>V.str (nm x)) (ID nm l) (.mk [] Zs rfl (Yy h 0)) ?_ ?_
 ·intro x r z kk j u A;refine j.casesOn ?_;intro acc o e h;walk_at "s";refine Aa (v:= !BV x acc) (by refine(?_:n9 (qA _ _ _)=_);refine Ab (in_list g rfl ..) ?_;rfl) ?_;cases hm:BV x acc with
  |true=>
   walk_at "s";exact u _ (.mk acc _ ((gdE_t hm).symm.trans e) (Yf h))
  |false=>
   walk_at "s";refine Ac (lq (qe h rfl:acc.length<=1000) rfl) ?_;walk_at "s";refine u _ (Ab (((ZA (l₂:=[x])).symm:strN nm acc++[V.str (nm x)]=strN nm (acc++[x])) ..) ?_);exact .mk (acc++[x]) _ ((EY hm).symm.trans e) (Ab Zt (sh (M:=0) h))
 ·intro z j;refine j.casesOn ?_;intro acc o e h;revert e;refine(?_:(acc=DT l [])->_);intro e;subst e;walk_at "s";exact Es rfl _ rfl rfl
theorem dq(g:Dt nm)(j:xs.length<=900)(hb:rd.length<=900):AS (d+2) 878 [.lst (strN nm xs),.lst (strN nm rd)] (· =.bool (DU xs rd)):=by
 refine Bk Df Cm (n:=200) rfl ?_;have la:(DT xs []).length<=900:=Zv (NI xs []) (by refine Ab ((show([]:Za Zf).length+xs.length=xs.length from Y0 _) ..) ?_;exact j);have lb:(DT rd []).length<=900:=Zv (NI rd []) (by refine Ab ((show([]:Za Zf).length+rd.length=rd.length from Y0 _) ..) ?_;exact hb);walk_at "s";refine det (dp (d:=d) g (q1 j rfl)) ?_;walk_at "s";refine det (dp (d:=d) g (q1 hb rfl)) ?_;walk_at "s";refine Ac (lq lb rfl) ?_;walk_at "s";have u:∀l:Za Zf,strN nm l=(l.map nm).map V.str:=λl=>(YX).symm;refine .mk ((DT xs []).map nm) 0 ((DT rd []).map nm) ⟨rfl,by refine Bj (u ..) ?_;rfl,rfl,by refine Bj (u ..) ?_;rfl,lm (q1 la rfl),lm (q1 lb rfl)⟩ _ (Mf g _ _) (λA z h=>?_);cases ht:Mg (DT rd []) (DT xs [])with
 |none=>
  refine Ab ((show DU xs rd=Zh from pY ht) ..) ?_
  conv=>whnf
 |some r=>
  refine Ab ((show DU xs rd=r.isEmpty from pX ht) ..) ?_;rw[ht]at h;rcases h with h|h
  ·cases h
  cases h;have h:=Hb (Mf g (DT xs []) (DT rd [])|>.trans (by refine Ab (ht ..) ?_;rfl));walk_at "s";refine Ac (by simp only[Zz]at h⊢;exact q5 h lb rfl) ?_
  conv=>whnf
  refine Ab (Tp ..) ?_;refine Ab (Tp ..) ?_;refine Ab (Bool.not_not ..) ?_;rfl
end
end
section
variable{k:Fl->S->Prop}{x c other:Zf}{a after ahead:Za (Zf×Za Zf)}{l:Za Zf}{Q P:Prop}{T:Ze (Zf×Zf×Zl)}
noncomputable def E0:AM:=⟨[141,175,176],[160,161],[],Zm,[(.for_ Zm [160] (.nm 141) [(.for_ Zm [161] (.nm 141) [(.ite (.cmp .NotEq (.nm 160) (.nm 161)) [(.ite (.callc 878 [(.sub (.nm 175) (.nm 160)),(.bin .Add (.sub (.nm 175) (.nm 161)) (.list Zh [(.nm 161)]))]) [(.ite (.callc 878 [(.sub (.nm 176) (.nm 161)),(.bin .Add (.sub (.nm 176) (.nm 160)) (.list Zh [(.nm 160)]))]) [(.ret (.list Zh [(.nm 160),(.nm 161),(.str (Zc ";"))]))] [])] []),(.ite (.callc 878 [(.sub (.nm 175) (.nm 160)),(.sub (.nm 175) (.nm 161))]) [(.ite (.callc 878 [(.sub (.nm 176) (.nm 160)),(.sub (.nm 176) (.nm 161))]) [(.ret (.list Zh [(.nm 160),(.nm 161),(.str (Zc "|"))]))] [])] [])] [])])]),(.ret (.list Zh []))],[]⟩
noncomputable def Lr:AM:=⟨[162,178],[175,176,144,141,135,179,160,161,138,165],[],Zh,[(.asg 175 (.dzip (.nm 162) (.nm 178))),(.asgc 176 (.dcomp 165 (.nm 162) (.lc Zh [161] (.nm 162) (Zd (.cmp .In (.nm 165) (.sub (.nm 175) (.nm 161)))) (.nm 161) [165,175]) [162,175])),(.asgc 144 (.dcomp 165 (.nm 162) (.tup [(.str (Zc "")),(.list Zh [(.callc 744 [(.nm 165)])])]) [])),(.asg 141 (.callb .list Zh [(.nm 162)])),(.for_ Zm [135] (.callb .range Zh [(.int 4)]) [(.asg 179 (.calli 956 [(.nm 141),(.nm 175),(.nm 176)])),(.ite (.un .Not (.nm 179)) [(.ret (.str (Zc "")))] []),(.asgT [160,161,138] (.nm 179)),(.asgs (.nm 144) (.nm 160) (.callc 920 [(.nm 138),(.sub (.nm 144) (.nm 160)),(.sub (.nm 144) (.nm 161))])),(.ite (.cmp .Eq (.nm 138) (.str (Zc ";"))) [(.asgs (.nm 175) (.nm 160) (.sub (.nm 175) (.nm 161)))] []),(.asgc 141 (.lc Zh [165] (.nm 141) (Zd (.cmp .NotEq (.nm 165) (.nm 161))) (.nm 165) [161])),(.for_ Zm [165] (.nm 141) [(.asgs (.nm 175) (.nm 165) (.lc Zh [182] (.sub (.nm 175) (.nm 165)) (Zd (.cmp .NotEq (.nm 182) (.nm 161))) (.nm 182) [161])),(.asgs (.nm 176) (.nm 165) (.lc Zh [182] (.sub (.nm 176) (.nm 165)) (Zd (.cmp .NotEq (.nm 182) (.nm 161))) (.nm 182) [161]))])]),(.ret (.callc 913 [(.sub (.nm 144) (.sub (.nm 141) (.int 0)))]))],[]⟩
theorem Jz(P:Z9):Ef 961 Lr P:=⟨⟨by kernel_rfl,by kernel_rfl⟩,FG (λh g=>by kernel_rfl)⟩
theorem kE(P:Z9):LQ 956 E0 P:=⟨⟨by kernel_rfl,by kernel_rfl⟩,gA (λg h j=>mEA ([]) (λG=>Ay.nil) (λS=>by kernel_rfl))⟩
noncomputable def sU:Za (Zf×AM):=[(956,E0)]
noncomputable def sX:Zo->Ze AM:=λf=>Ai f sU
theorem sW:CR sX:=λf D h P=>by
 generalize(lkp_mem h:(f,D)∈sU)=g;simp only[sU,Zr,Wl,ZE,Od]at g;obtain⟨rfl,rfl⟩:=g;exact kE P
theorem IN(f:α->V){stp:V->S->(Fl->S->Prop)->Prop}(I:Za α->S->Prop):
 ∀{l:Za α} {s:S},I l s->(∀v r s (kk:Fl->S->Prop),I (v::r) s->(∀g,I r g->kk .nx g)->(∀g,I r g->kk .ct g)->(∀w g,k (.rt w) g->kk (.rt w) g)->stp (f v) s kk)->(∀s,I [] s->k .nx s)->Gp stp k (l.map f) s:=by
 intro l
 induction l with
 |nil=>exact @λs A B u=>u s A
 |cons v r j=>exact @λs A z u=>z v r s _ A (λg h=>j h z u) (λg h=>j h z u) λw g h=>h
noncomputable section
theorem yb(n d:Zf)(t:Task)(s:S):go sX n d t s=Wh (motive:=λg=>Zf->Task->S->Prop) (λg g g=>ZP) (λg h d t s=>LP sX h d t s) n d t s:=rfl
noncomputable def wA(nm:Zf->Zi):Ze (Zf×Zf×Zl)->V
 |none=>.lst []
 |some (a,b,q)=>.lst [.str (nm a),.str (nm b),.str (kS q)]
theorem Ca(g:Dt nm)(h:Ai x a=Zd l):(dm nm a).lookup (nm x)=Zd (.p (.lst (strN nm l))):=(Kg g (λl:Za Zf=>W.p (.lst (l.map λx=>V.str (nm x)))) x a).trans (ZH _ h)
theorem DP(h:MN l=Zm):l.length<=900:=Zv (Zw h) (ZQ 800 100)
theorem yD(g:Yr c 900=Zm)(h:MN l=Zm)(q:Q):A4 ((strN nm l).length+c) Q:=Ac (q8 (lm (DP h)) (Zw g) rfl) q
theorem cL(h:MN l=Zm):(l++[x]).length<=900:=by
 exact Ab Zt (q8 (Zw h) (ZL 1) rfl)
theorem ai(e:Eh after ahead n (other::r)=Zd T)
 (C:ZX n other=Zm->Eh after ahead n r=Zd T->P)
 (B:ZX n other=Zh->∀h at_ g j,Ai n after=Zd h->Ai other after=Zd at_->Ai n ahead=Zd g->Ai other ahead=Zd j->MN h=Zm->MN at_=Zm->MN g=Zm->MN j=Zm->
  IK (DU h (at_++[other])&&DU j (g++[n])) (Zd (Zd (n,other,Zh))) (IK (DU h at_&&DU g j) (Zd (Zd (n,other,Zm))) (Eh after ahead n r))=Zd T->P):P:=by
 cases q:ZX n other with
 |true=>exact C q ((gdE_t q).symm.trans e)
 |false=>
  exact Ah ((EY q).symm.trans e) λh l1 e=>Ah e λat_ l2 e=>Ah e λg l3 e=>Ah e λj A e=>AH e λz e=>have s:=Yi.mp z
   have z2:=Yi.mp s.2;have u:=Yi.mp z2.2
   B q h at_ g j l1 l2 l3 A s.1 z2.1 u.1 u.2 e
noncomputable def fT(nm:Zf->Zi)(left:Za Zf)(g h:Ze W):Za (Zf×Ze W):=[(141,Zd (.p (.lst (strN nm left)))),(175,Zd (.o 0)),(176,Zd (.o 1)),(160,g),(161,h)]
noncomputable def wV:Za PS:=[(.ite (.callc 878 [(.sub (.nm 175) (.nm 160)),(.sub (.nm 175) (.nm 161))]) [(.ite (.callc 878 [(.sub (.nm 176) (.nm 160)),(.sub (.nm 176) (.nm 161))]) [(.ret (.list Zh [(.nm 160),(.nm 161),(.str (Zc "|"))]))] [])] [])]
theorem ze(g:Dt nm)
 (u:Ai 0 H=Zd (.dictW (dm nm after))) (j:Ai 1 H=Zd (.dictW (dm nm ahead))) (l1:Ai i after=Zd r) (l2:Ai other after=Zd xs) (l3:Ai i ahead=Zd rd) (z:Ai other ahead=Zd row)
 (B:MN r=Zm) (z2:MN xs=Zm) (C:MN rd=Zm) (A:MN row=Zm)
 (h:∀b,(DU r xs&&DU rd row)=b->k (match b with|true=>.rt (.p (wA nm (Zd (i,other,Zm))))|false=>.nx) ⟨H,nx,fT nm left (Zd (.p (.str (nm i)))) (Zd (.p (.str (nm other))))⟩):
 go sX (n+30) (d+6) (.sts wV k) ⟨H,nx,fT nm left (Zd (.p (.str (nm i)))) (Zd (.p (.str (nm other))))⟩:=by
 walk_at "s";refine Aa u (Aa (Ca g l1) ?_);walk_at "s";refine Aa u (Aa (Ca g l2) ?_);refine det (dq (d:=d+4) g (DP B) (DP z2)) ?_;cases q3:DU r xs with
 |false=>
  walk_at "s";exact(h Zh (Ab q3 (rfl)))
 |true=>
  generalize(λb e=>h b (Ab q3 (e)))=h;walk_at "s";refine Aa j (Aa (Ca g l3) ?_);walk_at "s";refine Aa j (Aa (Ca g z) ?_);refine det (dq (d:=d+4) g (DP C) (DP A)) ?_;cases q4:DU rd row with
  |true=>have h:=h Zm q4;walk_at "s";exact h
  |false=>have h:=h Zh q4;walk_at "s";exact h
inductive IA(nm:Zf->Zi)(H:Za (Zf×LW))(nx:Zf)(after ahead:Za (Zf×Za Zf))(left:Za Zf)(T:Ze (Zf×Zf×Zl))(r:Za Zf):S->Prop
 |mk (o1 o2:Ze W) (e:FI after ahead left r=Zd T):IA nm H nx after ahead left T r ⟨H,nx,fT nm left o1 o2⟩
inductive IB(nm:Zf->Zi)(H:Za (Zf×LW))(nx:Zf)(after ahead:Za (Zf×Za Zf))(left:Za Zf)(o1:Ze W)(one:Zf)(t:Ze (Zf×Zf×Zl))(r:Za Zf):S->Prop
 |mk (o2:Ze W) (e:Eh after ahead one r=Zd t):IB nm H nx after ahead left o1 one t r ⟨H,nx,fT nm left o1 o2⟩
theorem gD(g:Dt nm){r:Ze (Zf×Zf×Zl)}{k:W->S->Prop}
 (A:Ai 0 H=Zd (.dictW (dm nm after))) (B:Ai 1 H=Zd (.dictW (dm nm ahead))) (P:left.length<=900) (hm:FI after ahead left left=Zd r) (G:k (.p (wA nm r)) ⟨H,nx,rho⟩):
 go sX (n+60) (d+6) (.sts E0.body (Bs rho k)) ⟨H,nx,[(141,Zd (.p (.lst (strN nm left)))),(175,Zd (.o 0)),(176,Zd (.o 1)),(160,Zs),(161,Zs)]⟩:=by
 walk_at "s";refine Ac (lq P rfl) (mEA _ rfl ?_);refine IN (λx=>V.str (nm x)) (IA nm H nx after ahead left r) (.mk Zs Zs hm) ?_ ?_
 ·intro one rr C kk j U k2 X;refine j.casesOn ?_;intro Y u e;refine Ah e λt e1 R=>?_;walk_at "s";refine Ac (lq P rfl) (mEA _ rfl ?_);refine IN (λx=>V.str (nm x)) (IB nm H nx after ahead left (Zd (.p (.str (nm one)))) one t) (.mk u e1) ?_ ?_
  ·intro other r2 C kk j O c2 c3;refine j.casesOn ?_;intro u h;have fd:∀b,Zd (Zd (one,other,b))=Zd t->∀rho,kk (.rt (.p (wA nm (Zd (one,other,b))))) ⟨H,nx,rho⟩:=λb q rho=>c3 _ _ (X _ _ (by cases q;cases R;exact G));refine ai h (λq h=>?_) λq I at_ z E l1 l2 l3 Q L z2 D K h=>?_
   ·walk_at "s";refine Au (λp=>?_) (λp=>?_)
    ·revert p;refine(?_:((nm one !=nm other)=Zm)->_);intro p;rw[g.bne,q]at p;cases p
    ·walk_at "s";exact O _ (.mk _ h)
   walk_at "s";refine Au (λp=>?_) (λp=>?_)
   ·walk_at "s";refine Aa A (Aa (Ca g l1) ?_);walk_at "s";refine Aa A (Aa (Ca g l2) ?_);walk_at "s";refine yD (c:=1) rfl z2 (Ab (((ZA (l₂:=[other])).symm:strN nm at_++[V.str (nm other)]=strN nm (at_++[other])) ..) ?_);refine det (dq (d:=d+4) g (DP L) (cL z2)) ?_;have T:∀(h:IK (DU I at_&&DU z E) (Zd (Zd (one,other,Zm))) (Eh after ahead one r2)=Zd t),_:=λh=>ze (n:=n+23) (d:=d) (nx:=nx) (left:=left) (k:=gR (go sX (n+55)) (d+6) [] kk) g A B l1 l2 l3 Q L z2 D K (λb q=>by
     cases b with
     |true=>exact fd Zm ((gdE_t q).symm.trans h) _
     |false=>exact O _ (.mk _ ((EY q).symm.trans h)))
    conv at T=>intro x;whnf
    cases q1:DU I (at_++[other])with
    |true=>
     rw[q1,Rh]at h;walk_at "s";refine Aa B (Aa (Ca g Q) ?_);walk_at "s";refine Aa B (Aa (Ca g l3) ?_);walk_at "s";refine yD (c:=1) rfl D (Ab (((ZA (l₂:=[one])).symm:strN nm z++[V.str (nm one)]=strN nm (z++[one])) ..) ?_);refine det (dq (d:=d+4) g (DP K) (cL D)) ?_;cases q2:DU E (z++[one])with
     |true=>
      walk_at "s";exact fd Zh ((gdE_t q2).symm.trans h) _
     |false=>
      walk_at "s";exact T ((EY q2).symm.trans h)
    |false=>
     rw[q1,UN]at h;walk_at "s";exact T h
   ·revert p;refine(?_:((nm one !=nm other)=Zh)->_);intro p;rw[g.bne,q]at p;cases p
  ·intro C j;refine j.casesOn ?_;intro u h;cases h;walk_at "s";exact U _ (.mk _ _ R)
 ·intro C j;refine j.casesOn ?_;intro Y u e;cases e;walk_at "s";exact G
end
end
section
variable{x:Zf}{l:Za Zf}{f:Zf->Zf}{a:Za (Zf×Tr)}{t:Tr}
noncomputable def Tr.rel(f:Zf->Zf):Tr->Tr
 |.leaf i=>.leaf (f i)
 |.node k l r=>.node k (l.rel f) (r.rel f)
theorem Tr.aam(f:Zf->Zf)(t:Tr):(t.rel f).zG.length=t.zG.length:=by
 induction t with
 |leaf=>rfl
 |node k l r h g=>exact Zt.trans ((congr (ZH _ h) g).trans Zt.symm)
noncomputable def Tr.cnt:Tr->Zf
 |.leaf _=>1
 |.node _ l r=>l.cnt+r.cnt
theorem Tr.aat(t:Tr):t.cnt=t.zG.length:=by
 induction t with
 |leaf=>rfl
 |node j l r h g=>exact(congr (ZH _ h) g).trans Zt.symm
noncomputable abbrev AL:=Za (Zf×Za Zf)
noncomputable def Gw(g:AL)(x:Zf):Za Zf->Ze (Za Zf)
 | []=>Zd []
 |o::r=>ob (Ai o g) λl=>ob (Gw g x r) λt=>Zd (IK (BV x l) (o::t) t)
theorem LL{g:AL}:∀{t:Za Zf},Gw g x l=Zd t->t.length<=l.length:=by
 induction l with
 |nil=>exact λh=>sj h (M:=λt=>t.length<=0) (ZL _)
 |cons o r j=>
  intro t h;refine Ah h λl u h=>Ah h λs e h=>sj h (M:=λt=>t.length<=r.length+1) ?_;cases BV x l with
  |true=>exact Xq (j e)
  |false=>exact XO (j e)
noncomputable def EC(g:AL)(names:Za Zf):Za Zf->AL->Ze AL
 | [],acc=>Zd acc
 |x::r,acc=>ob (Gw g x names) λl=>EC g names r (putN x l acc)
noncomputable def CZ:Za Zf->Za (Zf×Tr)->Za (Zf×Tr)
 | [],acc=>acc
 |x::r,acc=>CZ r (putN x (.leaf x) acc)
noncomputable def Dc(o:Zf):Za Zf->Za Zf
 | []=>[]
 |x::r=>IK (ZX x o) (Dc o r) (x::Dc o r)
noncomputable def E3(o:Zf):Za Zf->AL->AL->Ze (AL×AL)
 | [],after,ahead=>Zd (after,ahead)
 |x::r,after,ahead=>ob (Ai x after) λa=>ob (Ai x ahead) λh=>gd (MN a&&(MN h&&(Yr after.length 900&&Yr ahead.length 900))) (E3 o r (putN x (Dc o a) after) (putN x (Dc o h) ahead))
noncomputable def IO:Zf->AL->AL->Za (Zf×Tr)->Za Zf->Ze (Za (Zf×Tr)×Za Zf)
 |0,_,_,parts,left=>Zd (parts,left)
 |n+1,after,ahead,parts,left=>gd (Yr left.length 900&&(Yr parts.length 900&&Yr after.length 900)) (ob (FI after ahead left left) λj=>ob j λq=>ob (Ai q.1 parts) λg=>ob (Ai q.2.1 parts) λh=>ob (Ai q.2.1 after) λr=>gd (Yr (g.cnt+h.cnt) 5) (ob (E3 q.2.1 (Dc q.2.1 left) (IK q.2.2 after (putN q.1 r after)) ahead) λD=>IO n D.1 D.2 (putN q.1 (.node q.2.2 g h) parts) (Dc q.2.1 left)))
noncomputable def KU:Za Zf->Zl
 | []=>Zm
 |x::r=> !BV x r&&KU r
theorem bg:KU l=Zm->l.Nodup:=by
 induction l with
 |nil=>exact λj=>.nil
 |cons x r g=>
  intro h;have h:=Yi.mp (h:(!BV x r&&KU r)=Zm);exact Z0.mpr ⟨HA.mp ((YQ _).mp h.1),g h.2⟩
noncomputable def yA(l:Za α):Ze (α×Za α):=match l with| []=>Zs|x::r=>Zd (x,r)
theorem qR{l:Za α}{u:α×Za α}(h:yA l=Zd u):l=u.1::u.2:=by
 cases l with
 |nil=>exact nj h
 |cons x r=>exact sj h (M:=λu=>x::r=u.1::u.2) rfl
noncomputable def foldM(names:Za Zf)(rows:Za (Za Zf)):Ze Tr:=gd (KU names&&(Yr names.length 60&&ZX names.length rows.length)) (ob (EC (names.zip rows) names names []) λg=>ob (IO 4 (names.zip rows) g (CZ names []) names) λR=>ob (yA R.2) λu=>ob (Ai u.1 R.1) λt=>gd (Yr t.cnt 5&&Yr u.2.length 900) (Zd t))
noncomputable def pm(nm:Zf->Zi)(f:Zf->Zf)(a:Za (Zf×Tr)):Za (Zi×W):=a.map λp=>(nm p.1,.p (Cj (p.2.rel f).part))
theorem KQ(g:Dt nm)(h:Ai x a=Zd t):(pm nm f a).lookup (nm x)=Zd (.p (Cj (t.rel f).part)):=(Kg g (λt:Tr=>W.p (Cj (t.rel f).part)) x a).trans (ZH _ h)
theorem rR(g:Dt nm)(x:Zf)(t:Tr)(a:Za (Zf×Tr)):putD (nm x) (.p (Cj (t.rel f).part)) (pm nm f a)=pm nm f (putN x t a):=FW g (λt:Tr=>W.p (Cj (t.rel f).part)) x t a
theorem MF(x:Zf)(v:α)(a:Za (Zf×α)):(putN x v a).length<=a.length+1:=by
 induction a with
 |nil=>exact ZL _
 |cons p r g=>
  refine(?_:(IK (ZX p.1 x) ((p.1,v)::r) (p::putN x v r)).length<=_);cases ZX p.1 x with
  |true=>exact YY _
  |false=>exact Xq g
end
section
variable{x other:Zf}{t:Tr}{l names:Za Zf}{af ah a after0 ahead0:AL}{T:Za (Zf×Tr)×Za Zf}{P:Prop}{f:Zf->Zf}{parts:Za (Zf×Tr)}{k:Fl->S->Prop}{acc acc':Za (Zi×V)}{s:S}
theorem NJ(f:α->V){stp:V->Za (Zi×V)->S->(Za (Zi×V)->S->Prop)->Prop}{fin:Za (Zi×V)->S->Prop}(I:Za α->Za (Zi×V)->S->Prop):
 ∀{l:Za α} {acc:Za (Zi×V)} {s:S},I l acc s->(∀v r acc s (kk:Za (Zi×V)->S->Prop),I (v::r) acc s->(∀g h,I r g h->kk g h)->stp (f v) acc s kk)->(∀acc s,I [] acc s->fin acc s)->fZ stp fin (l.map f) acc s:=by
 intro l
 induction l with
 |nil=>exact @λacc s j C z=>z acc s j
 |cons v r u=>exact @λacc s j A z=>A v r acc s _ j λg h B=>u B A z
theorem GP(f:α->V){stp:V->Za V->S->(Za V->S->Prop)->Prop}{fin:Za V->S->Prop}(I:Za α->Za V->S->Prop):
 ∀{l:Za α} {acc:Za V} {s:S},I l acc s->(∀v r acc s (kk:Za V->S->Prop),I (v::r) acc s->(∀g h,I r g h->kk g h)->stp (f v) acc s kk)->(∀acc s,I [] acc s->fin acc s)->Jv stp fin (l.map f) acc s:=by
 intro l
 induction l with
 |nil=>exact @λacc s j C z=>z acc s j
 |cons v r u=>exact @λacc s j A z=>A v r acc s _ j λg h B=>u B A z
noncomputable section
theorem sN(g:Dt nm):on H (.p (.str (nm x))) (.p (.lst (strN nm xs)))=Zd (BV x xs):=by
 refine(?_:(match Nu (nm x) (strN nm xs)with|some q=>Zd q|none=>_)=_);refine Ab (km g ..) ?_;rfl
theorem gL(f:Zf->Zf)(h:t.cnt<=5):GZ (t.rel f).part:=
 have e:(t.rel f).zG.length<=5:=Zv (Z1 ((Tr.aam f t).trans (Tr.aat t).symm)) h
 ((t.rel f).bd e).ok (q1 e rfl)
noncomputable def JO(nm:Zf->Zi)(rows:Za (Za Zf)):Za V:=rows.map λl=>V.lst (strN nm l)
noncomputable def am(nm:Zf->Zi)(a:AL):Za (Zi×V):=a.map λp=>(nm p.1,V.lst (strN nm p.2))
theorem qJ(nm:Zf->Zi)(a:AL):((am nm a).map λp=>(p.1,W.p p.2))=dm nm a:=YX
theorem qL(nm:Zf->Zi)(names:Za Zf):∀rows:Za (Za Zf),(names.map nm).zip (JO nm rows)=am nm (names.zip rows):=by
 induction names with
 |nil=>exact λh=>rfl
 |cons x r g=>
  intro rows;cases rows with
  |nil=>rfl
  |cons l t=>exact ZH (_:: ·) (g t)
noncomputable def yG(nm:Zf->Zi)(f:Zf->Zf)(a:Za (Zf×Tr)):Za (Zi×V):=a.map λp=>(nm p.1,Cj (p.2.rel f).part)
theorem rQ(nm:Zf->Zi)(f:Zf->Zf)(a:Za (Zf×Tr)):((yG nm f a).map λp=>(p.1,W.p p.2))=pm nm f a:=YX
theorem eT(h:i<5):Bf (D0 i)=LY i:=xP (P:=λi=>Bf (D0 i)=LY i) rfl rfl rfl rfl rfl i h
noncomputable def HF(nm:Zf->Zi)(f:Zf->Zf)(h g:AL)(parts:Za (Zf×Tr)):Za (Zf×LW):=[(2,.dictW (pm nm f parts)),(1,.dictW (dm nm g)),(0,.dictW (dm nm h))]
noncomputable def fF(nm:Zf->Zi)(names:Za Zf)(rows:Za (Za Zf))(left:Za Zf)(s r g o4 h j:Ze W):Za (Zf×Ze W):=
 [(162,Zd (.p (.lst (strN nm names)))),(178,Zd (.p (.lst (JO nm rows)))),(175,Zd (.o 0)),(176,Zd (.o 1)),(144,Zd (.o 2)),(141,Zd (.p (.lst (strN nm left)))),(135,s),(179,r),(160,g),(161,o4),(138,h),(165,j)]
theorem bv(g:Dt nm){stp:V->Za V->S->(Za V->S->Prop)->Prop}{fin:Za V->S->Prop}(h:Ze W->S)
 (u:∀y acc o kk,br (nm y !=nm other) (A4 acc.length (kk (acc++[.str (nm y)]) (h (Zd (.p (.str (nm y))))))) (kk acc (h (Zd (.p (.str (nm y))))))->stp (.str (nm y)) acc (h o) kk):
 ∀{a:Za Zf} {o:Ze W},a.length+l.length<=900->(∀o,fin (strN nm (a++Dc other l)) (h o))->Jv stp fin (strN nm l) (strN nm a) (h o):=by
 induction l with
 |nil=>intro a o z j;exact(YL a▸j o:fin (strN nm a) (h o))
 |cons y l s=>
  intro a o r j;refine u y _ o _ (Au (λq=>?_) (λq=>?_))
  ·have q:=(YQ _).mp ((g.bne y other).symm.trans q);refine Ac (lq (qe r rfl:a.length<=900) rfl) ?_;refine Ab (((ZA (l₂:=[y])).symm:strN nm a++[V.str (nm y)]=strN nm (a++[y])) ..) ?_;refine s (by refine Ab (Zt ..) ?_;exact sh (M:=0) r) λo=>?_;refine Ab (ZS ..) ?_;have t:=j o;rw[show Dc other (y::l)=y::Dc other l from EY q]at t;exact t
  ·have q:=(Rx _).mp ((g.bne y other).symm.trans q);exact s (Yf r) λo=>(gdE_t q:Dc other (y::l)=Dc other l)▸j o
theorem ll(o:Zf)(l:Za Zf):(Dc o l).length<=l.length:=by
 induction l with
 |nil=>exact ZL _
 |cons x r g=>
  refine(?_:(IK (ZX x o) (Dc o r) (x::Dc o r)).length<=_);cases ZX x o with
  |true=>exact XO g
  |false=>exact Xq g
noncomputable def tc:Za PS:=[(.asgc 141 (.lc Zh [165] (.nm 141) (Zd (.cmp .NotEq (.nm 165) (.nm 161))) (.nm 165) [161])),(.for_ Zm [165] (.nm 141) [(.asgs (.nm 175) (.nm 165) (.lc Zh [182] (.sub (.nm 175) (.nm 165)) (Zd (.cmp .NotEq (.nm 182) (.nm 161))) (.nm 182) [161])),(.asgs (.nm 176) (.nm 165) (.lc Zh [182] (.sub (.nm 176) (.nm 165)) (Zd (.cmp .NotEq (.nm 182) (.nm 161))) (.nm 182) [161]))])]
inductive za(nm:Zf->Zi)(f:Zf->Zf)(parts:Za (Zf×Tr))(fr:Ze W->Za (Zf×Ze W))(other:Zf)(T:AL×AL)(r:Za Zf):S->Prop
 |mk (af ah:AL) (o:Ze W) (e:E3 other r af ah=Zd T):za nm f parts fr other T r ⟨HF nm f af ah parts,3,fr o⟩
inductive yZ(nm:Zf->Zi)(f:Zf->Zf)(names:Za Zf)(rows:Za (Za Zf))(T:Za (Zf×Tr)×Za Zf)(r:Za Zf):S->Prop
 |mk (after ahead:AL) (parts:Za (Zf×Tr)) (left:Za Zf) (o1 o2 o3 o4 o5 o6:Ze W) (e:IO r.length after ahead parts left=Zd T):
  yZ nm f names rows T r ⟨HF nm f after ahead parts,3,fF nm names rows left o1 o2 o3 o4 o5 o6⟩
theorem ca{T:AL×AL}(e:E3 n (x::r) af ah=Zd T)(k:∀a h,Ai x af=Zd a->Ai x ah=Zd h->a.length<=900->h.length<=900->af.length<=900->ah.length<=900->E3 n r (putN x (Dc n a) af) (putN x (Dc n h) ah)=Zd T->P):P:=
 Ah e λa l1 e=>Ah e λh l2 e=>AH e λz e=>have g:=Yi.mp z
  have z2:=Yi.mp g.2;have j:=Yi.mp z2.2
  k a h l1 l2 (DP g.1) (DP z2.1) (Zw j.1) (Zw j.2) e
theorem yj(h:a.length<=n)(e:Yr n 1000=Zm):Yr (dm nm a).length 1000=true:=YZ (lq h e)
theorem o0(g:Dt nm){T:AL×AL}{o1 o2 o3 o5 o6:Ze W}
 (r:left.length<=900) (O:E3 other (Dc other left) af ah=Zd T)
 (E:∀o,k .nx ⟨HF nm f T.1 T.2 parts,3,fF nm names rows (Dc other left) o1 o2 o3 (Zd (.p (.str (nm other)))) o5 o⟩):
 go sX (n+60) (d+8) (.sts tc k) ⟨HF nm f af ah parts,3,fF nm names rows left o1 o2 o3 (Zd (.p (.str (nm other)))) o5 o6⟩:=by
 have z:∀{l:Za Zf},l.length<=900->([]:Za Zf).length+l.length<=900:=λh=>Zv (Z1 (Y0 _)) h;walk_at "s";refine zL (c:=0) rfl (q1 r rfl) (bv g (a:=[]) (λo=>⟨HF nm f af ah parts,3,[(165,o),(161,Zd (.p (.str (nm other))))]⟩) (λy acc o kk h=>h) (z r) λo=>?_);walk_at "s";refine zL (c:=0) rfl (q1 (Zv (ll other left) r) rfl) (mEA _ rfl ?_);refine B0 (λx=>V.str (nm x)) (za nm f parts (fF nm names rows (Dc other left) o1 o2 o3 (Zd (.p (.str (nm other)))) o5) other T) (.mk af ah o6 O) ?_ ?_
 ·intro x R H D u I Q;refine u.casesOn ?_;intro af ah o j;refine ca j λP U K C A B G L j=>?_;walk_at "s";refine Aa (Ca g K) (zL (c:=0) rfl (q1 A rfl) ?_);refine bv g (a:=[]) (λo=>⟨HF nm f af ah parts,3,[(182,o),(161,Zd (.p (.str (nm other))))]⟩) (λy acc o kk h=>h) (z A) λo=>?_;walk_at "s";refine⟨yj G rfl,?_⟩;refine Ab (bW g ..) ?_;walk_at "s";refine Aa (Ca g C) (zL (c:=0) rfl (q1 B rfl) ?_);refine bv g (a:=[]) (λo=>⟨HF nm f (putN x (Dc other P) af) ah parts,3,[(182,o),(161,Zd (.p (.str (nm other))))]⟩) (λy acc o kk h=>h) (z B) λo=>?_;walk_at "s";refine⟨yj L rfl,?_⟩;refine Ab (bW g ..) ?_;walk_at "s";exact I _ (.mk _ _ _ j)
 ·intro H u;refine u.casesOn ?_;intro af ah o j;cases j;walk_at "s";exact E _
theorem fO(e:foldM names rows=Zd t)
 (k:∀g R (u:Zf×Za Zf),names.Nodup->names.length<=60->names.length=rows.length->EC (names.zip rows) names names []=Zd g->IO 4 (names.zip rows) g (CZ names []) names=Zd R->R.2=u.1::u.2->Ai u.1 R.1=Zd t->t.cnt<=5->u.2.length<=900->P):P:=
 AH e λz e=>Ah e λg j e=>Ah e λR A e=>Ah e λu r e=>Ah e λB s e=>AH e λw e=>sj e (M:=λt=>(∀g R (u:Zf×Za Zf),names.Nodup->names.length<=60->names.length=rows.length->EC (names.zip rows) names names []=Zd g->IO 4 (names.zip rows) g (CZ names []) names=Zd R->R.2=u.1::u.2->Ai u.1 R.1=Zd t->t.cnt<=5->u.2.length<=900->P)->P) (λk=>have h:=Yi.mp z
  have z2:=Yi.mp h.2;have w:=Yi.mp w
  k g R u (bg h.1) (Zw z2.1) (Z4 z2.2) j A (qR r) s (Zw w.1) (Zw w.2)) k
theorem fN{g h:AL}(e:IO (n+1) g h parts left=Zd T)
 (k:∀q j r s D,left.length<=900->parts.length<=900->g.length<=900->FI g h left left=Zd (Zd q)->Ai q.1 parts=Zd j->Ai q.2.1 parts=Zd r->Ai q.2.1 g=Zd s->j.cnt+r.cnt<=5->
  E3 q.2.1 (Dc q.2.1 left) (IK q.2.2 g (putN q.1 s g)) h=Zd D->IO n D.1 D.2 (putN q.1 (.node q.2.2 j r) parts) (Dc q.2.1 left)=Zd T->P):P:=
 AH e λz e=>Ah e λI C e=>Ah e λq B e=>Ah e λj E e=>Ah e λr H e=>Ah e λs A e=>AH e λw e=>Ah e λD G e=>have u:=Yi.mp z
  have z2:=Yi.mp u.2
  k q j r s D (Zw u.1) (Zw z2.1) (Zw z2.2) (C.trans (ZH Zd B)) E H A (Zw w) G e
inductive JA(nm:Zf->Zi)(names:Za Zf)(after0 ahead0:AL)(r:Za Zf):Za (Zi×V)->S->Prop
 |mk (a:AL) (o:Ze W) (e:EC after0 names r a=Zd ahead0) (hl:a.length+r.length<=60):JA nm names after0 ahead0 r (am nm a) ⟨[(0,.dictW (dm nm after0))],1,[(165,o),(162,Zd (.p (.lst (strN nm names)))),(175,Zd (.o 0))]⟩
inductive JB(nm:Zf->Zi)(after0:AL)(x:Zf)(row r:Za Zf):Za V->S->Prop
 |mk (p t:Za Zf) (o:Ze W) (e:Gw after0 x r=Zd t) (e2:p++t=row):JB nm after0 x row r (strN nm p) ⟨[(0,.dictW (dm nm after0))],1,[(161,o),(165,Zd (.p (.str (nm x)))),(175,Zd (.o 0))]⟩
inductive JC(nm:Zf->Zi)(f:Zf->Zf)(names:Za Zf)(after0 ahead0:AL)(r:Za Zf):Za (Zi×V)->S->Prop
 |mk (a:Za (Zf×Tr)) (o:Ze W) (e:CZ r a=CZ names []) (hl:a.length+r.length<=60) (hm:∀x∈r,x∈names):JC nm f names after0 ahead0 r (yG nm f a) ⟨[(1,.dictW (dm nm ahead0)),(0,.dictW (dm nm after0))],2,[(165,o)]⟩
theorem JA.eq(h:JA nm names after0 ahead0 r acc' s)(e:acc=acc'):JA nm names after0 ahead0 r acc s:=e▸h
theorem JB.eq(h:JB nm after0 x row r dl s)(e:ts=dl):JB nm after0 x row r ts s:=e▸h
theorem JC.eq(h:JC nm f names after0 ahead0 r acc' s)(e:acc=acc'):JC nm f names after0 ahead0 r acc s:=e▸h
theorem tb(g:Dt nm)(hf:∀x∈names,nm x=D0 (f x)/\f x<5)(hm:foldM names rows=Zd t):
 AS (d+10) 961 [.lst (strN nm names),.lst (JO nm rows)] (· =.str (B1 (t.rel f).part.1 (t.rel f).part.2)):=by
 refine fO hm λahead0 R u hnd H L e1 E A e4 hc a0=>?_;refine Bk Jz sW (n:=200) rfl ?_;walk_at "s";have eN:strN nm names=(names.map nm).map V.str:=(YX).symm;refine At (names.map nm) (JO nm rows) (ZH Zd eN) rfl (Ba ?_ ?_ ?_ ?_)
 ·exact WD.mpr (hnd.imp λh q=>h (g.inj q))
 ·rw[Zz,JO,Zz];exact L
 ·exact lm (q1 H rfl)
 walk_at "s";refine Ab (qL ..) ?_;refine Ab (qJ ..) ?_;refine⟨YZ (lq H rfl),?_⟩;walk_at "s";generalize names.zip rows=after0 at*;refine NJ (λx=>V.str (nm x)) (JA nm names after0 ahead0) (.mk [] Zs e1 (Yy H 0)) ?_ ?_
 ·intro x r B B kk j hk;cases j with|mk a o e hl=>
  refine Ah e λrow er e=>?_;walk_at "s";refine Ac (lq H rfl) ?_;walk_at "s";refine GP (λx=>V.str (nm x)) (JB nm after0 x row) (.mk [] row Zs er rfl) ?_ ?_
  ·intro y r2 acc B kk2 j P;cases j with|mk p t o2 E A=>
   refine Ah E λl el E=>Ah E λO X E=>?_;walk_at "s";refine Aa (Ca g el) ?_;walk_at "s";refine Aa (v:=BV x l) (sN g) ?_;cases hmx:BV x l with
   |true=>
    have A:p++y::O=row:=by refine Bj (A ..) ?_;refine Bj (Yd E ..) ?_;refine Ab (gdE_t hmx ..) ?_;rfl
    walk_at "s";refine Ac (lq (Zv (Zt▸ZF _ _:p.length<=(p++y::O).length) (A▸Zv (LL er) H)) rfl) ?_;exact P _ _ (.eq (.mk (p++[y]) O _ X ((ZS ..).trans A)) (ZA (l₂:=[y])).symm)
   |false=>
    have A:p++O=row:=by refine Bj (A ..) ?_;refine Bj (Yd E ..) ?_;refine Ab (EY hmx ..) ?_;rfl
    walk_at "s";exact P _ _ (.mk p O _ X A)
  ·intro acc B j;cases j with|mk p t o2 E A=>
   have A:p=row:=by refine Bj (A ..) ?_;refine Bj (Yd E ..) ?_;refine Ab (YL ..) ?_;rfl
   subst A;walk_at "s";refine Ac (lq (qe hl rfl:a.length<=60) rfl) ?_;exact hk _ _ (.eq (.mk (putN x p a) _ e (Zv (Xm (MF x p a) _) (sh (M:=0) hl))) (FW g (λl:Za Zf=>V.lst (strN nm l)) x p a))
 ·intro B B j;cases j with|mk a o e hl=>
  cases e;walk_at "s";refine Ab (qJ ..) ?_;refine⟨YZ (lq H rfl),?_⟩;walk_at "s";refine NJ (λx=>V.str (nm x)) (JC nm f names after0 ahead0) (.mk [] Zs rfl (Yy H 0) (λB h=>h)) ?_ ?_
  ·intro x r B B kk j hk;cases j with|mk a o e hl C=>
   refine xA (hf x (C x (.head _))) λQ K=>?_;walk_at "s";refine det (cG (d:=d+8) (by refine Ab (Q ..) ?_;exact Il K)) ?_;walk_at "s";refine Ac (lq (qe hl rfl:a.length<=60) rfl) ?_;refine Ab ((show V.tup [V.str (Zc ""),V.lst [V.str (Bf (nm x))]]=Cj ((Tr.leaf x).rel f).part by rw[Q,eT K];rfl) ..) ?_;exact hk _ _ (.eq (.mk (putN x (.leaf x) a) _ e (Zv (Xm (MF x (Tr.leaf x) a) _) (sh (M:=0) hl)) λy hy=>C y (.tail _ hy)) (FW g (λt:Tr=>Cj (t.rel f).part) x (.leaf x) a))
  ·intro B B j;cases j with|mk a o e hl C=>
   have e:a=CZ names []:=e;subst e;walk_at "s";refine Ab (rQ ..) ?_;refine Ac (lq H rfl) ?_;walk_at "s";refine mEA _ rfl ?_;refine B0 (λi:Zf=>V.int (i:Z7)) (yZ nm f names rows R) (l:=[0,1,2,3]) (.mk after0 _ _ names Zs Zs Zs Zs Zs Zs E) ?_ ?_
   ·intro i r B kk j k1 k2;cases j with|mk I z parts left o1 o2 o3 o4 o5 o6 e=>
    refine fN e λq Y U ao D z1 z2 z3 X l1 l2 l3 G ed e=>?_;obtain⟨one,other,q⟩:=q;walk_at "s";refine⟨(),?_⟩;refine Bj (yb (nat_lit 191) (d+8) ..) ?_;refine gD (n:=131) (d:=d+2) g rfl rfl z1 X ?_;walk_at "s";refine Aa (v:=.p (Cj (Y.rel f).part)) (KQ g l1) ?_;walk_at "s";refine Aa (v:=.p (Cj (U.rel f).part)) (KQ g l2) ?_;walk_at "s";refine det (Ni (d:=d+7) (gL f (qe G rfl)) (gL f (qf G rfl))) ?_;refine Ab ((show Cj (kS q,AY (kS q) (Y.rel f).part++AY (kS q) (U.rel f).part)=Cj ((Tr.node q Y U).rel f).part from rfl) ..) ?_;walk_at "s";refine⟨YZ (lq z2 rfl),?_⟩;walk_at "s";refine Ab (rR g ..) ?_;have T:=λaf (hf:E3 other (Dc other left) af z=Zd D)=>o0 (n:=129) (d:=d+1) (f:=f) (names:=names) (rows:=rows) (parts:=putN one (.node q Y U) parts) (af:=af) (ah:=z) (o1:=Zd (.p (.int (i:Z7)))) (o2:=Zd (.p (wA nm (Zd (one,other,q))))) (o3:=Zd (.p (.str (nm one)))) (o5:=Zd (.p (.str (kS q)))) (o6:=o6) (k:=kk) g z1 hf λo=>k1 _ (.mk _ _ _ _ _ _ _ _ _ _ e);cases q with
    |true=>
     refine Ab ((show(kS Zm==Zc ";")=Zh by rfl) ..) ?_;have T:=T _ ed
     conv at T=>whnf
     walk_at "s";exact T
    |false=>
     refine Ab ((show(kS Zh==Zc ";")=Zm by rfl) ..) ?_;walk_at "s";refine Aa (Ca g l3) ?_;refine⟨yj z3 rfl,?_⟩;refine Ab (bW g ..) ?_;have T:=T _ ed
     conv at T=>whnf
     walk_at "s";exact T
   ·intro B j;cases j with|mk I z parts left o1 o2 o3 o4 o5 o6 e=>
    cases e;have A:left=u.1::u.2:=A;subst A;walk_at "s";refine Ac (lq (Xq a0:(u.1::u.2).length<=901) rfl) ?_;walk_at "s";refine Aa (v:=.p (Cj (t.rel f).part)) (KQ g e4) ?_;walk_at "s";have ok:=gL (t:=t) f hc;refine det (ar (d:=d+8) ok.ne ok.n64 ok.sum ok.len) ?_
    conv=>whnf
end
end
section
variable{P:Prop}{k:Zl}{a:Tr}{bs as:Za Tr}{f:Zf->Zf->Za Tr}
noncomputable def Fy(a b:Za Zf):Za (Zf×Zf):=a.flatMap λx=>b.map λy=>(x,y)
noncomputable def Tr.hts:Tr->Za Zf×Za Zf×Za (Zf×Zf)
 |.leaf i=>([i],[i],[])
 |.node k l r=>match l.hts,r.hts with
  |(lh,lt,ls),(rh,rt,rs)=>match k with
   |false=>(lh,rt,ls++rs++Fy lt rh)
   |true=>(lh++rh,lt++rt,ls++rs)
noncomputable def Tr.side(k:Zl):Tr->Za Tr
 |.leaf i=>[.leaf i]
 |.node q l r=>if q=k then l.side k++r.side k else[.node q l r]
noncomputable def pick(p:Tr->Zl):Za Tr->Ze (Za Tr)
 | []=>Zs
 |b::r=>IK (p b) (Zd r) (ob (pick p r) λg=>Zd (b::g))
noncomputable def cI(e:Tr->Tr->Zl):Za Tr->Za Tr->Zl
 | [],bs=>bs.isEmpty
 |a::r,bs=>gp (pick (e a) bs) (λg=>cI e r g) Zh
noncomputable def allB(e:Tr->Tr->Zl):Za Tr->Za Tr->Zl
 | [],bs=>bs.isEmpty
 |a::r,bs=>(match bs with| []=>Zh|b::s=>e a b&&allB e r s)
theorem KS{o:Ze α}{f:α->Zl}(h:gp o f Zh=Zm)(k:∀a,o=Zd a->f a=Zm->P):P:=by
 cases o with
 |none=>exact ZK h
 |some a=>exact k a rfl h
noncomputable def eqv:Zf->Tr->Tr->Zl
 |0,_,_=>Zh
 |n+1,a,b=>match a,b with
  |.leaf i,.leaf j=>ZX i j
  |.node k l r,.node q l' r'=>match k,q with
   |false,Zh=>allB (eqv n) (l.side Zh++r.side Zh) (l'.side Zh++r'.side Zh)
   |true,Zm=>cI (eqv n) (l.side Zm++r.side Zm) (l'.side Zm++r'.side Zm)
   |_,_=>Zh
  |_,_=>Zh
noncomputable def Mt(names:Za Zf)(steps:Za (Zf×Zf)):Za Zf->Ze (Za (Za Zf))
 | []=>Zd []
 |x::r=>ob (jI names steps x) λl=>ob (Mt names steps r) λt=>Zd (l::t)
noncomputable def chk(names:Za Zf)(t:Tr):Bool:=gp (Mt names t.hts.2.2 names) (λrows=>gp (foldM names rows) (λu=>eqv 20 u t) Zh) Zh
noncomputable def splits(f:Zf->Zf->Za Tr)(a n:Zf):Zf->Za Tr
 |0=>[]
 |i+1=>((f a (i+1)).flatMap λl=>(f (a+(i+1)) (n-(i+1))).flatMap λr=>[Tr.node Zh l r,Tr.node Zm l r])++splits f a n i
noncomputable def gj:Zf->Zf->Zf->Za Tr
 |0,_,_=>[]
 |m+1,a,n=>if n=1 then[.leaf a]else splits (gj m) a n (n-1)
noncomputable def Tr.txt(t:Tr):Str:=B1 t.part.1 t.part.2
theorem sJ(h:kS k=kS q):k=q:=by
 cases k<;>cases q<;>first|rfl|exact ZT h (by decide)
theorem Mr(k:Zl)(t:Tr):AY (kS k) t.part=(t.side k).map Tr.txt:=by
 induction t with
 |leaf i=>exact Yc λh:Br=kS k=>jR k h.symm
 |node q l r hl g=>
  refine(?_:(if kS q=kS k then AY (kS q) l.part++AY (kS q) r.part else[Tr.txt (.node q l r)])=(if q=k then l.side k++r.side k else[.node q l r]).map Tr.txt);by_cases h:q=k
  ·subst h;refine Ab (if_pos rfl ..) (Ab (if_pos rfl ..) ?_);refine Ab ZA (Ab hl ?_);refine Ab g ?_;rfl
  ·refine Ab (Yc h ..) (Ab (Yc λz=>h (sJ z) ..) ?_);rfl
theorem LZ(k:Zl)(l r:Tr):(Tr.node k l r).txt=B1 (kS k) ((l.side k++r.side k).map Tr.txt):=by
 refine(?_:B1 (kS k) (AY (kS k) l.part++AY (kS k) r.part)=_);refine Ab (Mr ..) ?_;refine Ab (Mr ..) ?_;refine Ab (ZA ..) ?_;rfl
theorem FQ(f:Zf->Zf)(k:Zl)(t:Tr):(t.rel f).side k=(t.side k).map (Tr.rel f):=by
 induction t with
 |leaf i=>rfl
 |node q l r hl g=>
  refine(?_:(if q=k then(l.rel f).side k++(r.rel f).side k else[.node q (l.rel f) (r.rel f)])=(if q=k then l.side k++r.side k else[.node q l r]).map _);by_cases h:q=k
  ·refine Ab (if_pos h ..) (Ab (if_pos h ..) ?_);refine Ab ZA (Ab hl ?_);refine Ab g ?_;rfl
  ·refine Ab (Yc h ..) (Ab (Yc h ..) ?_);rfl
section
variable{e:Tr->Tr->Zl}{g:Tr->Zi}(he:∀a b,e a b=Zm->g a=g b)
include he
theorem eX:∀{r:Za Tr},pick (e a) bs=Zd r->(bs.map g).Perm (g a::r.map g):=by
 induction bs with
 |nil=>exact λh=>nj h
 |cons b bs j=>
  intro r h;cases q:e a b with
  |true=>exact sj ((gdE_t q).symm.trans h) (M:=λr=>(g b::bs.map g).Perm (g a::r.map g)) (he a b q▸ .refl _)
  |false=>exact Ah ((EY q).symm.trans h) λu s h=>sj h (M:=λr=>(g b::bs.map g).Perm (g a::r.map g)) (((j s).cons _).trans (.swap ..))
theorem aY:∀{bs:Za Tr},cI e as bs=Zm->(as.map g).Perm (bs.map g):=by
 induction as with
 |nil=>
  intro bs h;cases bs with
  |nil=>exact .nil
  |cons=>exact ZK h
 |cons a r s=>exact λh=>KS h λj u h=>((s h).cons _).trans (eX he u).symm
theorem pC:∀{bs:Za Tr},allB e as bs=Zm->as.map g=bs.map g:=by
 induction as with
 |nil=>
  intro bs h;cases bs with
  |nil=>rfl
  |cons=>exact ZK h
 |cons a r j=>
  intro bs h;cases bs with
  |nil=>exact ZK h
  |cons b s=>
   have h:=Yi.mp h;exact(congr (ZH Qm (he a b h.1)) (j h.2):g a::r.map g=g b::s.map g)
end
theorem oP(f:Zf->Zf):∀(n:Zf) (a b:Tr),eqv n a b=Zm->(a.rel f).txt=(b.rel f).txt:=by
 intro n
 induction n with
 |zero=>
  intro A A h;cases h
 |succ n z=>
  intro a b h;generalize z=ih;cases a with
  |leaf i=>cases b with
   |leaf j=>
    generalize(Z4 (show ZX i j=Zm from h))=this;subst this;rfl
   |node=>cases h
  |node k l r=>cases b with
   |leaf j=>cases h
   |node q u s=>
    show(Tr.node k (l.rel f) (r.rel f)).txt=(Tr.node q (u.rel f) (s.rel f)).txt;refine Ab (LZ ..) ?_;refine Ab (LZ ..) ?_;refine Ab (FQ ..) ?_;refine Ab (FQ ..) ?_;refine Ab (FQ ..) ?_;refine Ab (FQ ..) ?_;refine Bj (ZA ..) ?_;refine Bj (ZA ..) ?_;refine Ab (YX ..) ?_;refine Ab (YX ..) ?_;cases k with
    |false=>cases q with
     |false=>
      generalize(h:allB (eqv n) (l.side Zh++r.side Zh) (u.side Zh++s.side Zh)=Zm)=h;refine Ab (pC (g:=Tr.txt∘Tr.rel f) ih h ..) ?_;rfl
     |true=>cases h
    |true=>cases q with
     |false=>cases h
     |true=>
      generalize(h:cI (eqv n) (l.side Zm++r.side Zm) (u.side Zm++s.side Zm)=Zm)=h;generalize(JI (aY (g:=Tr.txt∘Tr.rel f) ih h))=this;unfold B1;rw[Yc (jR Zm),Yc (jR Zm),if_pos jT,if_pos jT,this]
theorem aD{l r:Tr}(j:0<tk)(hl:l∈f d tk)(s:r∈f (d+tk) (n-tk)):tk<=i->Tr.node k l r∈splits f d n i:=by
 induction i with
 |zero=>exact λh=>ZT (ZB j h) (X4 0)
 |succ i g=>
  intro h;by_cases e:tk=i+1
  ·subst e;exact Zk _ (Tz.mpr (mEA l hl (Tz.mpr (mEA r s (by cases k with|false=>exact .head _|true=>exact .tail _ (.head _))))))
  ·exact Zq _ (g (Va (Nat.lt_of_le_of_ne h e)))
theorem Tr.zT(t:Tr):0<t.zG.length:=by
 induction t with
 |leaf g=>exact N1
 |node g l r h=>exact Zt▸ZB h (ZF _ _)
theorem lH(m:Zf):∀(t:Tr) (a:Zf),t.zG.length<=m->t.zG=Tc a t.zG.length->t∈gj m a t.zG.length:=by
 induction m with
 |zero=>exact λt z h z=>ZT (ZB t.zT h) (X4 0)
 |succ m j=>
  intro t a h e;cases t with
  |leaf i=>
   cases(Nc (show[i]=[a]from e)).1;exact Ab ((show gj (m+1) a (Tr.leaf a).zG.length=[Tr.leaf a]from if_pos rfl) ..) (.head _)
  |node k l r=>
   have hl:=l.zT;have g:=r.zT;rw[show(Tr.node k l r).zG.length=l.zG.length+r.zG.length from Zt]at h e⊢;refine xA (List.append_inj (show l.zG++r.zG=Tc a l.zG.length++Tc (a+l.zG.length) r.zG.length from e.trans List.range'_append_1.symm) (List.length_range'.symm)) λs u=>Ab ((show gj (m+1) a (l.zG.length+r.zG.length)=splits (gj m) a (l.zG.length+r.zG.length) (l.zG.length+r.zG.length-1)from Yc (Y2 (Xa hl g))) ..) (aD hl (j l a (Va (ZB (YT g) h)) s) ?_ (Nat.le_sub_one_of_lt (YT g)));refine Ab (WQ ..) ?_;exact j r _ (Va (ZB (Nat.lt_add_of_pos_left hl) h)) u
theorem uL(t:Tr):∀a:Zf,∃j:Tr,j.zG=Tc a t.zG.length/\∀f:Zf->Zf,(∀i x,t.zG[i]? =Zd x->f (a+i)=x)->j.rel f=t:=by
 induction t with
 |leaf x=>exact λa=>mEA (.leaf a) rfl λf h=>ZH Tr.leaf (h 0 x rfl)
 |node k l r hl u=>
  intro a;refine Ag (hl a) λl0 B s=>Ag (u (a+l.zG.length)) λg z A=>mEA (.node k l0 g) ?_ λf h=>?_
  ·refine(?_:l0.zG++g.zG=Tc a (l.zG++r.zG).length);refine Ab B (Ab z ?_);exact Ab Zt List.range'_append_1
  ·refine(?_:Tr.node k (l0.rel f) (g.rel f)=_);exact congr (ZH (Tr.node k) (s f λi x e=>h i x ((Za.getElem?_append_left (Kh e)).trans e))) (A f λi x e=>Xb a _ i▸h (l.zG.length+i) x ((Za.getElem?_append_right (ZF _ _)).trans (by refine Ab (WQ ..) ?_;exact e)))
end
section
variable{k:Zl}{L R:Za Zf×Za Zf×Za (Zf×Zf)}{st:Za SE}{f:Zf->Zf}
noncomputable abbrev NU:=Za SE×Za (Zi×Zi)
noncomputable def By(st:NU)(p:Zi×Zl):Ze NU:=match p.2 with
 |true=>AC st p.1
 |false=>Zd (.blk [p.1] [p.1]::st.1,st.2)
noncomputable def AD:Za (Zi×Zl)->NU->Ze NU
 | [],st=>Zd st
 |p::r,st=>match By st p with|some s=>AD r s|none=>Zs
theorem DN:∀(a b:Za (Zi×Zl)) (st:NU),AD (a++b) st=(AD a st).bind (AD b):=by
 intro a
 induction a with
 |nil=>exact λh h=>rfl
 |cons p r g=>
  intro b st;show(match By st p with|some s=>AD (r++b) s|none=>Zs)=(match By st p with|some s=>AD r s|none=>Zs).bind (AD b);cases By st p with
  |none=>rfl
  |some s=>exact g b s
noncomputable def kr(k:Zl)(a b:Za Zf×Za Zf×Za (Zf×Zf)):Za Zf×Za Zf×Za (Zf×Zf):=match a,b with
 |(lh,lt,ls),(rh,rt,rs)=>match k with
  |false=>(lh,rt,ls++rs++Fy lt rh)
  |true=>(lh++rh,lt++rt,ls++rs)
theorem vD(k:Zl)(l r:Tr):(Tr.node k l r).hts=kr k l.hts r.hts:=rfl
def HB(x:Za Zf×Za Zf×Za (Zf×Zf))(n:Zf):Prop:=x.1.length<=n/\x.2.1.length<=n/\x.2.2.length+1<=n*n
theorem gb(a b:Za Zf):(Fy a b).length=a.length*b.length:=by
 induction a with
 |nil=>exact(Nat.zero_mul _).symm
 |cons x a g=>exact Zt.trans ((congr (ZH _ (Zz _)) g).trans ((XM _ _).trans (Nat.succ_mul _ _).symm))
theorem oo(h:HB L n)(g:HB R d):HB (kr k L R) (n+d):=by
 have j:∀{c:Zf},c<=n*d->L.2.2.length+c+(R.2.2.length+1)<=(n+d)*(n+d):=λr=>by
  refine Ab (U8 ..) ?_;refine Ab (Um ..) ?_;refine Ab (Um ..) ?_;exact Xa (Xa (Yf h.2.2) r) (Zv g.2.2 (ZQ _ _))
 cases k with
 |false=>
  refine Cp (Zv h.1 (ZF _ _)) (Zv g.2.1 (ZQ _ _)) (Zv (Z1 ?_) (j (UR h.2.1 g.1)));show(L.2.2++R.2.2++Fy L.2.1 R.1).length+1=_;refine Ab (Zt ..) ?_;refine Ab (Zt ..) ?_;refine Ab (gb ..) ?_;refine Ab (Wx L.2.2.length ..) ?_;rfl
 |true=>
  refine Cp ?_ ?_ (Zv (Z1 ?_) (j (XG _)))
  ·exact Zt▸Xa h.1 g.1
  ·exact Zt▸Xa h.2.1 g.2.1
  ·exact ZH UU Zt
theorem Lm(t:Tr):HB t.hts t.zG.length:=by
 induction t with
 |leaf i=>exact Cp (ZL _) (ZL _) (ZL _)
 |node k l r h g=>exact(Zt:(l.zG++r.zG).length=_)▸oo h g
noncomputable def FX(nm:Zf->Zi)(p:Zf×Zf):Zi×Str:=(nm p.1,nm p.2)
theorem ga(nm:Zf->Zi)(a b:Za Zf):((a.map nm).flatMap λx=>(b.map nm).map λy=>(x,y))=(Fy a b).map (FX nm):=by
 unfold Fy
 induction a with
 |nil=>rfl
 |cons x a g=>
  refine Ab Z3 (Ab Ys ?_);refine Ab Ys (Ab ZA ?_);refine Ab g (Ab YX ?_);refine Ab YX ?_;rfl
theorem JM:HX≠Dx/\kS Zm≠Dx/\kS Zh≠Dx/\kS Zm≠HX/\kS Zh≠HX/\kS Zm≠JN:=by decide
theorem wF{b:Za (Zi×Zl)}{s g h:NU}(j:AD ps s=Zd g)(r:AD b g=Zd h):AD (ps++b) s=Zd h:=by refine Ab (DN ..) ?_;refine Ab (j ..) ?_;exact r
theorem xu{s g:NU}(h:AC s x=Zd g):AD [(x,Zm)] s=Zd g:=by
 show(match AC s x with|some s=>Zd s|none=>Zs)=_;refine Ab h ?_;rfl
theorem uG(k:Zl){st:NU}:AC st (kS k)=Zd (.kd (kS k)::st.1,st.2):=by
 cases k with
 |true=>exact(Yc JM.2.1).trans (if_pos JM.2.2.2.1)
 |false=>exact(Yc JM.2.2.1).trans (if_pos JM.2.2.2.2.1)
theorem gY(h:HB L d)(g:HB R i)(j:d+i<=10)(z:sp.length+(d+i)*(d+i)<=90000):
 AC (.blk (R.1.map nm) (R.2.1.map nm)::.kd (kS k)::.blk (L.1.map nm) (L.2.1.map nm)::st,sp++L.2.2.map (FX nm)++R.2.2.map (FX nm)) Dx=Zd (.blk ((kr k L R).1.map nm) ((kr k L R).2.1.map nm)::st,sp++(kr k L R).2.2.map (FX nm)):=by
 have m:∀{l:Za Zf} {n:Zf},l.length<=n->n<=10->(l.map nm).length<=100:=λu s=>Zv (Z1 (Zz _)) (q1 (Zv u s) rfl);have r:d<=10:=qe j rfl;have hb:i<=10:=qf j rfl;refine(if_pos rfl).trans ((if_pos (Ty (m g.1 hb) (Ba (m g.2.1 hb) (m h.1 r) (m h.2.1 r) ?_))).trans ?_)
 ·show(sp++_++_).length<=_;refine Ab (Zt ..) ?_;refine Ab (Zt ..) ?_;refine Ab (Zz ..) ?_;refine Ab (Zz ..) ?_;refine Ab (Xb ..) ?_;refine q1 (Zv (Yy ?_ _) z) rfl;refine Ab (U8 ..) ?_;refine Ab (Um ..) ?_;refine Ab (Um ..) ?_;exact Xa (Zv (Yf h.2.2) (ZF _ _)) (Zv (Yf g.2.2) (ZQ _ _))
 ·cases k with
  |false=>
   refine(if_pos rfl).trans ?_;show Zd (_,_)=Zd (_,sp++(L.2.2++R.2.2++Fy L.2.1 R.1).map (FX nm));refine Ab (ga ..) ?_;refine Ab (ZA ..) ?_;refine Ab (ZA ..) ?_;refine Ab (ZS ..) ?_;refine Ab (ZS ..) ?_;refine Ab (ZS ..) ?_;rfl
  |true=>
   refine(Yc JM.2.2.2.2.2).trans ?_;show _=Zd (.blk ((L.1++R.1).map nm) ((L.2.1++R.2.1).map nm)::st,sp++(L.2.2++R.2.2).map (FX nm));refine Ab (ZA ..) ?_;refine Ab (ZA ..) ?_;refine Ab (ZA ..) ?_;refine Ab (ZS ..) ?_;rfl
theorem gK(t:Tr):∀(st:NU),(∀k∈t.zG,nm k=D0 (f k))->t.zG.length<=10->st.2.length+t.zG.length*t.zG.length<=90000->
 AD (t.rel f).pieces st=Zd (.blk (t.hts.1.map nm) (t.hts.2.1.map nm)::st.1,st.2++t.hts.2.2.map (FX nm)):=by
 induction t with
 |leaf i=>
  intro st h B B;show Zd (SE.blk [D0 (f i)] [D0 (f i)]::st.1,st.2)=Zd (.blk [nm i] [nm i]::st.1,st.2++[]);refine Ab (h i (.head _) ..) ?_;refine Ab (YL ..) ?_;rfl
 |node k l r z u=>
  intro st h j g;rw[show(Tr.node k l r).zG.length=l.zG.length+r.zG.length from Zt]at j g;have hl:=Lm l;have A:=Lm r;refine wF (wF (wF (wF (xu ((Yc JM.1).trans (Yc λh=>h rfl))) (z st (λk s=>h k (Zk _ s)) (qe j rfl) ?_)) (xu (uG k))) (u _ (λk s=>h k (Zq _ s)) (qf j rfl) ?_)) (xu (gY hl A j g))
  ·exact Zv (Yy (UR (ZF _ _) (ZF _ _)) _) g
  ·refine Zv ?_ g;show(st.2++_).length+_<=_;refine Ab (Zt ..) ?_;refine Ab (Zz ..) ?_;refine Ab (Xb ..) ?_;refine Ab (U8 ..) ?_;refine Ab (Um ..) ?_;refine Ab (Um ..) ?_;exact Yy (Xa (Zv (Yf hl.2.2) (ZF _ _)) (ZQ _ _)) _
end
section
variable{c:Zf}{st:NU}{p:Zi×Zl}{b:Z7}
noncomputable def Bu:Za Zi->NU->Ze NU
 | [],st=>Zd st
 |t::r,st=>match Bi st t with|some s=>Bu r s|none=>Zs
theorem Dj:∀(a b:Za Zi) (st:NU),Bu (a++b) st=(Bu a st).bind (Bu b):=by
 intro a
 induction a with
 |nil=>exact λh h=>rfl
 |cons p r g=>
  intro b st;refine(?_:(match Bi st p with|some s=>Bu (r++b) s|none=>Zs)=(match Bi st p with|some s=>Bu r s|none=>Zs).bind (Bu b));cases Bi st p with
  |none=>rfl
  |some s=>exact g b s
theorem Di(t:Zi)(st:NU):Bu [t] st=Bi st t:=by
 refine(?_:(match Bi st t with|some s=>Zd s|none=>Zs)=_);cases Bi st t<;>rfl
theorem Kw(l:Za Zi):∀n,n<=l.length->Cw l n=Bu (l.take n) ([],[]):=by
 intro n
 induction n with
 |zero=>exact λj=>rfl
 |succ n g=>
  intro h;refine(?_:(Cw l n).bind (λs=>match l[n]? with|none=>Zs|some t=>Bi s t)=_);refine Ab (g (by exact YB h) ..) ?_;refine Ab (XR (by trivial) ..) ?_;refine Ab (Dj ..) ?_;refine Ab (Za.getElem?_eq_getElem (by lia) ..) ?_;cases Bu (l.take n) ([],[])with
  |none=>rfl
  |some s=>exact(Di _ _).symm
def tM(x:Zi):Prop:=0<x.cps.size/\∀c∈x.cps.toList,Sg c
theorem uH(h:Sg c):CW.cps.contains c=true:=by
 rcases h with rfl|rfl|rfl|rfl<;>decide+kernel
theorem Ms(h:tM x):x.cps.all (· <128)=true:=by
 rw[<-Qh,Yj];intro c g;rcases h.2 c g with rfl|rfl|rfl|rfl<;>rfl
theorem gQ{p:α->Zl}:∀{l:Za α},(∀x∈l,p x=Zm)->l.takeWhile p=l:=by
 intro l
 induction l with
 |nil=>exact λs=>rfl
 |cons x r g=>
  intro h;refine Ab (List.takeWhile_cons_of_pos (h x (.head _)) ..) (Ab (g λy j=>h y (.tail _ j) ..) ?_);rfl
theorem gS(h:tM x):Wt x CW=Br:=by
 generalize(gQ λc s=>uH (h.2 c s):x.cps.toList.takeWhile CW.cps.contains=x.cps.toList)=j;generalize(by
  unfold stripLo;refine Ab (if_pos rfl ..) ?_;refine Ab j ?_;simp:stripLo CW.cps.contains Zm x=x.cps.size)=hl
 generalize(by
  unfold stripHi;refine Ab (if_pos rfl ..) (Ab (TT (by simp) ..) ?_);rfl:stripHi CW.cps.contains Zm x x.cps.size=x.cps.size)=g
 refine(?_:Oj _ Zm Zm x=_);unfold Oj;generalize(by
  unfold stripSame;refine Ab hl ?_;have:(x.cps.size==0)=false:=by simpa using Y2 h.1
  refine Ab this ?_;rfl:stripSame CW.cps.contains Zm Zm x=Zh)=r
 refine Ab r ?_;unfold PySem.stripped;refine Ab hl (Ab g ?_);refine(?_:(⟨x.cps.extract x.cps.size x.cps.size⟩:Zi)=⟨#[]⟩);simp
theorem HN(h:tM x)(j:st.1.length<=10000)(g:x.cps.size<=10000):Bi st x=A0 x x.cps.size st:=by
 unfold Bi;refine Ab (if_pos ⟨j,g,g⟩ ..) (Ab (gS h ..) ?_);refine Ab (Yc (λq=>q rfl) ..) (Ab (if_pos (Ms h) ..) ?_);rfl
theorem ji(h:x∈Js):Wt x CW≠Br/\x.cps.size<=10000:=by
 generalize(by decide+kernel:(Js.all λx=>decide (Wt x CW≠Br)&&decide (x.cps.size<=10000))=Zm)=this;generalize(Yj.mp this x h)=this;simpa using this
theorem al(h:x∈Js)(r:st.1.length<=10000):Bi st x=Zd (.blk [x] [x]::st.1,st.2):=by
 refine xA (ji h) λj g=>?_;unfold Bi;refine Ab (if_pos ⟨r,g,g⟩ ..) (Ab (if_pos j ..) ?_);rfl
theorem l8(h:i<x.cps.size):gc (x++y) i=gc x i:=by
 unfold gc;refine(?_:(⟨#[((x.cps++y.cps)[i]?).getD 0]⟩:Zi)=_);refine Ab (ZD.getElem?_append_left h ..) ?_;rfl
theorem NM(h:cpsL y=[c]):gc (x++y) x.cps.size=y:=by
 generalize(by
  cases y with
  |mk a=>unfold cpsL at h;dsimp only at h;congr 1;rw[<-Ql];exact h:y=⟨#[c]⟩)=g
 subst g;unfold gc;refine(?_:(⟨#[((x.cps++ #[c])[x.cps.size]?).getD 0]⟩:Zi)=_);refine Ab (ZD.getElem?_append_right (ZL _) ..) ?_;refine Ab (PN ..) ?_;rfl
theorem Jk:∀n,n<=x.cps.size->A0 (x++y) n st=A0 x n st:=by
 intro n
 induction n with
 |zero=>exact λj=>rfl
 |succ n g=>
  intro h;refine(?_:(A0 (x++y) n st).bind (λs=>AC s (gc (x++y) n))=(A0 x n st).bind λs=>AC s (gc x n));refine Ab (g (by exact YB h) ..) (Ab (l8 (by trivial) ..) ?_);rfl
theorem KC(h:cpsL y=[c]):A0 (x++y) (x++y).cps.size st=(A0 x x.cps.size st).bind λs=>AC s y:=by
 generalize(by
  show(x.cps++y.cps).size=_;have:y.cps.size=1:=by have:=ZH XS h;simpa[cpsL]using this
  rw[Tb,this]:(x++y).cps.size=x.cps.size+1)=e
 rw[e];show(A0 (x++y) x.cps.size st).bind (λs=>AC s (gc (x++y) x.cps.size))=_;rw[Jk _ (ZL _),NM h]
theorem KA(h:cpsL y=[c]):A0 y y.cps.size st=AC st y:=by
 generalize(by have:=ZH XS h;simpa[cpsL]using this:y.cps.size=1)=e;rw[e];show(Zd st).bind (λs=>AC s (gc y 0))=_;generalize(NM (x:=⟨#[]⟩) h)=this;generalize(by
  show(⟨#[]++y.cps⟩:Zi)=y;rw[Array.empty_append]:((⟨#[]⟩:Zi)++y)=y)=g
 rw[g]at this;show AC st (gc y 0)=_;rw[show gc y 0=y from this]
theorem dg:∀{ps:Za (Zi×Zl)},Good ps->∀p∈ps,(p.2=Zm->∃c,Sg c/\cpsL p.1=[c])/\(p.2=Zh->p.1∈Js):=by
 intro ps
 induction ps with
 |nil=>exact λA A h=>(ZT h ZE)
 |cons q r u=>
  intro s p j;obtain⟨g,z⟩:=s;rcases Zr.mp j with rfl|j
  ·refine⟨λe=>?_,λe=>?_⟩
   ·rw[e]at g;exact g
   ·rw[e]at g;exact g.1
  ·exact u z p j
theorem bc(j:Sg c)(h:cpsL y=[c]):tM y:=by
 have e:y.cps.size=1:=by have:=ZH XS h;trivial
 refine⟨by exact Z1 e.symm,λd g=>?_⟩;have:d∈cpsL y:=g;rw[h,Yz]at this;subst this;exact j
theorem lG(g:tM x)(r:Sg c)(h:cpsL y=[c]):tM (x++y):=by
 have e:(x++y).cps.size=x.cps.size+y.cps.size:=by refine(?_:(x.cps++y.cps).size=_);refine Ab Tb ?_;rfl
 refine⟨by have:=g.1;lia,λd j=>?_⟩;have:d∈cpsL (x++y):=j;rw[Gr,h]at this;rcases ZW.mp this with q|q
 ·exact g.2 d q
 ·rw[Yz]at q;subst q;exact r
theorem Jq{s:NU}(h:By st p=Zd s):s.1.length<=st.1.length+1:=by
 unfold By at h;revert h;cases p.2 with
 |true=>exact λh=>FP h
 |false=>exact λh=>sj h (M:=λs=>s.1.length<=st.1.length+1) (ZL _)
theorem oS(X:Good ps)(C:ps.length<=100){fin:NU}(B:AD ps ([],[])=Zd fin):∀i,i<=ps.length->∃st,AD (ps.take i) ([],[])=Zd st/\Bu (Cc b ps i).1 ([],[])=Zd st/\st.1.length<=i/\
 ((Cc b ps i).2=Zm->∃u x sp,(Cc b ps i).1=u++[x]/\Bu u ([],[])=Zd sp/\tM x/\x.cps.size<=i/\A0 x x.cps.size sp=Zd st/\sp.1.length<=i):=by
 intro i
 induction i with
 |zero=>exact λP=>⟨([],[]),rfl,rfl,ZL _,λh=>ZK h⟩
 |succ i G=>
  intro h;obtain⟨st,O,z,h3,I⟩:=G (by exact YB h);have r:i<ps.length:=by trivial
  obtain⟨L,C⟩:=dg X ps[i] (Wq r);have H:∃s,By st ps[i]=Zd s:=by
   have e:ps=ps.take i++ps[i]::ps.drop (i+1):=by refine Bj (Yg r ..) ?_;refine Ab (Xx ..) ?_;rfl
   rw[e,DN,O]at B;have B:(match By st ps[i]with|some s=>AD (ps.drop (i+1)) s|none=>Zs)=Zd fin:=B;cases q:By st ps[i]with
   |none=>rw[q]at B;cases B
   |some s=>exact⟨s,rfl⟩
  obtain⟨s,g⟩:=H;generalize(Jq g)=hl;have hp:AD (ps.take (i+1)) ([],[])=Zd s:=by
   refine Ab (XR r ..) ?_;refine Ab (DN ..) ?_;refine Ab (O ..) ?_;show(match By st ps[i]with|some s=>Zd s|none=>Zs)=_;refine Ab (g ..) ?_;rfl
  refine⟨s,hp,?_⟩;refine Ab (DF r ..) ?_;generalize Cc b ps i=D at z I⊢;generalize ps[i]=p at L C g⊢;obtain⟨tk,K⟩:=D;obtain⟨j,sg⟩:=p;unfold Cn;dsimp only at z I L C⊢;cases sg with
  |false=>
   generalize(C rfl)=hm;have g:Zd (SE.blk [j] [j]::st.1,st.2)=Zd s:=g;cases g;simp only[UN,XV,Ul];refine⟨?_,by simp;trivial,λq=>nomatch q⟩;refine Ab (Dj ..) ?_;refine Ab (z ..) ?_;show Bu [j] st=_;refine Ab (Di ..) ?_;refine Ab (al hm (by lia) ..) ?_;rfl
  |true=>
   obtain⟨c,E,e⟩:=L rfl;have g:AC st j=Zd s:=g;cases K with
   |true=>
    obtain⟨u,x,sp,e1,Q,T,e4,U,Y⟩:=I rfl;subst e1;simp only[Rh,SU];refine Ab (Vi ..) ?_;refine Ab (Sv ..) ?_;have ez:(x++j).cps.size<=i+1:=by
     show(x.cps++j.cps).size<=_;have:j.cps.size=1:=by have:=ZH XS e;trivial
     refine Ab (Tb ..) ?_;refine Ab (this ..) ?_;exact Xq e4
    have A:A0 (x++j) (x++j).cps.size sp=Zd s:=by
     refine Ab (KC e ..) ?_;refine Ab (U ..) ?_;exact g
    refine⟨?_,by lia,λP=>⟨u,x++j,sp,rfl,Q,lG T E e,ez,A,by exact XO Y⟩⟩;refine Ab (Dj ..) ?_;refine Ab (Q ..) ?_;show Bu [x++j] sp=_;refine Ab (Di ..) ?_;refine Ab (HN (lG T E e) (by lia) (by lia) ..) ?_;refine Ab (A ..) ?_;rfl
   |false=>
    simp only[Sw,XV,Ul,Rh];have R:j.cps.size=1:=by have:=ZH XS e;trivial
    have A:A0 j j.cps.size st=Zd s:=by refine Ab (KA e ..) ?_;exact g
    refine⟨?_,by lia,λP=>⟨tk,j,st,rfl,z,bc E e,by exact q9 R rfl,A,by lia⟩⟩;refine Ab (Dj ..) ?_;refine Ab (z ..) ?_;show Bu [j] st=_;refine Ab (Di ..) ?_;refine Ab (HN (bc E e) (by lia) (by exact q9 R rfl) ..) ?_;refine Ab (A ..) ?_;rfl
theorem dA(r:Good ps)(s:ps.length<=100){fin:NU}(g:AD ps ([],[])=Zd fin):Cw (Cc b ps ps.length).1 (Cc b ps ps.length).1.length=Zd fin:=by
 refine Am (oS (b:=b) r s g ps.length (ZL _)) λst h j u=>?_;rw[XK,g]at h;cases h;refine Ab (Kw _ _ (ZL _) ..) (Ab XK ?_);exact j
end
section
theorem tD:(gj 5 0 5).all (chk [0,1,2,3,4])=true:=by decide+kernel
end
section
variable{l names N:Za Zf}{k:Zf}{b a:Za V}{t:Tr}{P:Prop}{s:S}{sc:Za Z7}
noncomputable def GJ(row:Za Zf)(k:Zf):Nat:=row.getD k 0
noncomputable def qr(k:Zf):Str:=⟨Sc (k+100) 97⟩
noncomputable def Ej(row:Za Zf)(k:Zf):Str:=if k<5 then D0 (GJ row k)else qr k
theorem jl:∀i,i<5->∀j,j<5->D0 i=D0 j->i=j:=by decide
theorem ff(s:l.Nodup)(r:i<l.length)(g:j<l.length)(h:l[i]=l[j]):i=j:=by
 have hp:=Vp.mp s;rcases Nat.lt_trichotomy i j with q|q|q
 ·exact ZT h (hp i j r g q)
 ·exact q
 ·exact ZT h.symm (hp j i g r q)
theorem fh:∀i,i<5->(D0 i).cps.size<100:=by decide
theorem bu(k:Zf):(qr k).cps.size=k+100:=Array.size_replicate
theorem KH(h:k<row.length):GJ row k=row[k]:=by
 unfold GJ;refine Ab (Za.getD_eq_getElem?_getD ..) ?_;refine Ab (Za.getElem?_eq_getElem h ..) ?_;rfl
theorem EF(h:k<5):Ej row k=D0 (GJ row k):=if_pos h
theorem GI(h: ¬k<5):(Ej row k).cps.size=k+100:=(ZH (λs:Zi=>s.cps.size) (Yc h)).trans (bu k)
section
variable(hp:row.Perm aI)
include hp
theorem EE:row.length=5:=hp.length_eq
theorem KG:∀n∈row,n<5:=λn g=>(by decide:∀n∈aI,n<5) n (hp.mem_iff.mp g)
theorem FS(h:k<5):GJ row k<5:=by
 have h:k<row.length:=EE hp▸h;exact KH h▸KG hp _ (Wq h)
theorem ib(h:k<5):(Ej row k).cps.size<100:=EF h▸fh _ (FS hp h)
theorem Mu:Dt (Ej row):=⟨λ{i j} h=>by
 have c:∀{i j},i<5-> ¬j<5->Ej row i=Ej row j->False:=λ{i j} a b e=>Ws.mpr (ZQ 100 j) (GI b▸e▸ib hp a);by_cases hi:i<5
 ·by_cases hj:j<5
  ·have g:i<row.length:=EE hp▸hi;have r:j<row.length:=EE hp▸hj;exact ff (hp.nodup_iff.mpr (by decide)) g r ((KH g).symm.trans ((jl _ (FS hp hi) _ (FS hp hj) ((EF hi).symm.trans (h.trans (EF hj)))).trans (KH r)))
  ·exact(c hi hj h).elim
 ·by_cases hj:j<5
  ·exact(c hj hi h.symm).elim
  ·exact Nat.add_right_cancel ((GI hi).symm.trans ((ZH (λs:Zi=>s.cps.size) h).trans (GI hj)))⟩
noncomputable def n5:Za Nat:=[0,1,2,3,4]
theorem dO:row.map (λn=>V.str (D0 n))=strN (Ej row) n5:=
 g9 (P:=λrow=>row.map (λn=>V.str (D0 n))=strN (Ej row) n5) (λa=>ul (P:=λr=>(a::r).map (λn=>V.str (D0 n))=strN (Ej (a::r)) n5) λb c d e=>rfl) row (EE hp)
end
theorem qn:∀x∈n5,x<5:=by refine(?_:∀x∈ [0,1,2,3,4],x<5);decide
noncomputable def Ja(x:Zi):Bool:=x.cps.all (· <128)
theorem cu(h:Ja x=Zm):Wi x=true:=by
 unfold Ja at h;unfold Wi;rw[<-Qh,Yj]at h⊢;intro c g;generalize(h c g)=this;simp at this⊢;exact q3 this rfl
theorem pB(h:Ja x=Zm)(g:Ja y=Zm):Ja (x++y)=true:=by
 unfold Ja at*;refine(?_:(x.cps++y.cps).all _=Zm);refine Ab Array.all_append (Ab h ?_);refine Ab g ?_;rfl
theorem lF(h:x∈Js):Ja x=true:=by
 exact Yj.mp (by decide+kernel:(Js.all Ja)=Zm) x h
theorem oU{b:Z7}(h:∀p∈ps,Ja p.1=Zm):∀i,i<=ps.length->∀x∈(Cc b ps i).1,Ja x=true:=by
 intro i
 induction i with
 |zero=>exact λB x j=>ZT j ZE
 |succ i r=>
  intro A;generalize(r (by exact YB A))=g;refine Ab (DF (by trivial) ..) ?_;generalize(h ps[i] (Wq (by lia)))=s;generalize Cc b ps i=D at g⊢;generalize ps[i]=p at s⊢;obtain⟨tk,u⟩:=D;unfold Cn;dsimp only at g⊢;intro x j;split at j
  ·rcases ZW.mp j with q|q
   ·exact g x ((Sh _).mem q)
   ·rw[Yz]at q;subst q;refine pB ?_ s;cases e:tk.getLast? with
    |none=>
     rw[Za.getLast?_eq_none_iff]at e;subst e
     decide+kernel
    |some z=>
     exact Ab (Ab (Za.getLastD_eq_getLast? ..) (Ab e (rfl)):tk.getLastD Br=z) (g z (Za.mem_of_getLast? e))
  ·rcases ZW.mp j with q|q
   ·exact g x q
   ·rw[Yz]at q;subst q;exact s
theorem ky(j:Good ps):∀p∈ps,Ja p.1=true:=λp hp=>by
 refine xA (dg j p hp) λh g=>?_;cases e:p.2 with
 |true=>
  exact Ag (h e) λc r s=>Ms (bc r s)
 |false=>exact lF (g e)
noncomputable def dh:AM:=⟨[129],[130,134,185,146,151,162,159,178],[],Zh,[(.asg 130 (.callc 885 [(.nm 129)])),(.asg 134 (.callc 906 [(.nm 130)])),(.asgT [185,146] (.callc 925 [(.nm 130),(.nm 134)])),(.asg 151 (.callc 939 [(.nm 146),(.sub (.nm 130) (.int 8))])),(.ite (.neL Zh (.nm 151) (.callc 932 [(.nm 146),(.sub (.nm 130) (.int 8))])) [(.ret (.bool Zh))] []),(.asgc 162 (.lc Zh [136] (.nm 134) Zs (.sub (.callc 892 []) (.nm 136)) [])),(.asg 159 (.callc 944 [(.nm 151)])),(.asgc 178 (.lc Zh [165] (.nm 162) Zs (.callc 949 [(.nm 162),(.nm 159),(.nm 165)]) [162,159])),(.ret (.cmp .Eq (.callc 961 [(.nm 162),(.nm 178)]) (.callc 913 [(.nm 185)])))],[]⟩
theorem sL(P:Z9):Ef 966 dh P:=⟨⟨by kernel_rfl,by kernel_rfl⟩,Eb (λg=>by kernel_rfl)⟩
theorem ia:∀{rows:Za (Za Zf)},Mt names steps l=Zd rows->rows.length=l.length:=by
 induction l with
 |nil=>exact λe=>sj e (M:=λr=>r.length=0) rfl
 |cons y l g=>exact λe=>Ah e λh h e=>Ah e λt j e=>sj e (M:=λr=>r.length=l.length+1) (ZH (· +1) (g j))
theorem aX(z:row.Perm aI)(D:t.zG=row)(k:∀g rows u,g.rel (GJ row)=t->g.zG.length=5->AD t.pieces ([],[])=Zd (.blk (g.hts.1.map (Ej row)) (g.hts.2.1.map (Ej row))::[],[]++g.hts.2.2.map (FX (Ej row)))->Mt n5 g.hts.2.2 n5=Zd rows->foldM n5 rows=Zd u->eqv 20 u g=Zm->P):P:=by
 refine Ag (uL t 0) λg B A=>?_;rw[show t.zG.length=5 by refine Ab (D ..) ?_;exact EE z]at B;have s:=A (GJ row) λi x e=>by
  rw[D]at e;unfold GJ;refine Ab (Y0 ..) ?_;refine Ab (Za.getD_eq_getElem?_getD ..) ?_;refine Ab (e ..) ?_;rfl
 have j:g.zG.length=5:=by refine Ab (B ..) ?_;rfl
 have E:=lH 5 g 0 (Z1 j) (by refine Ab (j ..) ?_;exact B);rw[j]at E;have r:=gK (nm:=Ej row) (f:=GJ row) g ([],[]) (λk I=>EF (qn k ((show g.zG=n5 from B)▸I))) (q9 j rfl) (by refine Ab (j ..) ?_;exact Zw rfl);rw[s]at r;exact KS (Yj.mp tD g E) λrows G h=>KS h λu H C=>k g rows u s j r G H C
theorem nA:∀x∈Js,x.length<=100:=by decide
inductive JD(row r:Za Zf):Za V->S->Prop
 |mk (p:Za Zf) (o:Ze W) (e:p++r=row):JD row r (p.map λn=>V.str (D0 n)) ⟨[],0,[(136,o)]⟩
inductive JE(nm:Zf->Zi)(N:Za Zf)(steps:Za (Zf×Zf))(rows:Za (Za Zf))(r:Za Zf):Za V->S->Prop
 |mk (p rr:Za (Za Zf)) (o:Ze W) (er:Mt N steps r=Zd rr) (e:p++rr=rows):JE nm N steps rows r (JO nm p) ⟨[],0,[(165,o),(162,Zd (.p (.lst (strN nm N)))),(159,Zd (.p (.lst (steps.map (Ij nm)))))]⟩
theorem JD.eq(h:JD row r b s)(e:a=b):JD row r a s:=e▸h
theorem JE.eq(h:JE nm N steps rows r b s)(e:a=b):JE nm N steps rows r a s:=e▸h
noncomputable section
theorem s8(hz:sc.length<=1000000):go vJ 200 (d+19) (.sts dh.body (ri Zh (· =.bool Zm))) ⟨[],0,rho0 dh.ps [.lst (sc.map .int)] dh.oth⟩:=by
 walk_at "s";refine mEA _ (pq hz) (λr z=>Ag z λcs B j=>?_);subst j;walk_at "s";refine mEA _ (oW B) (λr z=>Ag z λrow g j=>?_);subst j;have D:=EE g;walk_at "s";refine mEA _ (rS B D (KG g)) (λr z=>Ag z λt R j=>?_);subst j;refine aX g R λt0 rows u X h0l htr h hu hck=>?_;have C:t.zG.length=5:=by refine Ab (R ..) ?_;exact D
 have O:∀i∈t.zG,i<5:=R▸KG g;have G:Good t.pieces:=YL t.pieces▸t.good (rest:=[]) O trivial trivial;have H:t.pieces.length<=17:=UM (b:=3) (Z1 (t.zS.trans (ZH (4* ·) C)));have h8:8<cs.length:=Z1 B.symm;walk_at "s";refine Ac (nN B rfl) ?_;refine Aa (BM (Za.getElem?_eq_getElem h8)) ?_;walk_at "s";generalize hb:cs[8]=b;have T:=dA (b:=b) G (q1 H rfl) htr;refine det (ak (d:=d+7) O (Z1 C)) ?_;walk_at "s";refine Ac (nN B rfl) ?_;refine Aa (BM (Za.getElem?_eq_getElem h8)) ?_;refine Ab (hb ..) ?_;walk_at "s";have L:∀p∈t.pieces,p.1.length<=100:=λp hp=>(Ln G p hp).elim (λe=>q9 e.2 rfl) λe=>nA _ e.2;refine det (vX (d:=d+18) (q1 H rfl) L) ?_;walk_at "s";have P:=(N9 (b:=b) L t.pieces.length (ZL _)).2.1;have E:=oU (b:=b) (ky G) t.pieces.length (ZL _);generalize(Cc b t.pieces t.pieces.length).1=toks at*;refine Ck toks toks rfl rfl (λx K=>cu (E x K)) (λx K=>cu (E x K)) ?_;refine Ab (Yl (rfl:toks=toks) ..) ?_;walk_at "s";refine Ac (nN D rfl) ?_;walk_at "s";refine GP (λn:Zf=>V.int (n:Z7)) (JD row) (.mk [] Zs rfl) ?_ ?_
 ·intro n r acc z_ kk I U;cases I with|mk p o e=>
  have hn:n<5:=KG g n (e▸Zq p (.head _));walk_at "s";refine det (cP (d:=d+18)) ?_;walk_at "s";refine Aa (v:=V.str (D0 n)) (BM (f:=V.str) (l:=Js) (by unfold D0;refine Ab (Za.getElem?_eq_getElem hn ..) ?_;rfl)) ?_;refine Ac (lq (Zv (Zt▸ZF _ _:p.length<=(p++n::r).length) (e▸Z1 D)) rfl) ?_;exact U _ _ (.eq (.mk (p++[n]) _ ((ZS ..).trans e)) (ZA (l₂:=[n])).symm)
 ·intro acc z_ I;cases I with|mk p o e=>
  rw[YL]at e;subst e;walk_at "s";refine det (mr (d:=d+18) (q5 P H rfl) T) ?_;refine Ab (W3 ..) ?_;refine Ab (YX ..) ?_;refine Ab ((show(cJ∘FX (Ej p))=Ij (Ej p)from rfl) ..) ?_;refine Ab (dO g ..) ?_;have Q:n5.length=5:=rfl;have A:=qn;generalize n5=N at h hu Q A⊢;walk_at "s";refine Ac (nN Q rfl) ?_;walk_at "s";refine GP (λn:Zf=>V.str (Ej p n)) (JE (Ej p) N t0.hts.2.2 rows) (l:=N) (acc:=[]) (.mk [] rows Zs h rfl) ?_ ?_
  ·intro x r acc z_ kk I U;cases I with|mk q rr o j e=>
   refine Ah j λl el j=>Ah j λr2 Y j=>?_;have e:q++l::r2=rows:=(ZH _ (Yd j)).trans e;walk_at "s";refine det (s9 (d:=d+7) (Mu g) (q9 Q rfl) ?_ el ?_) ?_
   ·have t:=(Lm t0).2.2;rw[h0l]at t;exact q2 t rfl
   ·exact λy hy=>EF (A y hy)▸cu (lF (Il (FS g (A y hy))))
   walk_at "s";refine Ac (lq (Zv (Zt▸ZF _ _:q.length<=(q++l::r2).length) (e▸Z1 ((ia h).trans Q))) rfl) ?_;exact U _ _ (.eq (.mk (q++[l]) r2 _ Y ((ZS ..).trans e)) (ZA (l₂:=[l])).symm)
  ·intro acc z_ I;cases I with|mk q rr o j e=>
   have e:q=rows:=by refine Bj (e ..) ?_;refine Bj (Yd j ..) ?_;refine Ab (YL ..) ?_;rfl
   subst e;walk_at "s";refine det (tb (d:=d+9) (Mu g) (f:=GJ p) (λx K=>⟨EF (A x K),FS g (A x K)⟩) hu) ?_;walk_at "s";have ok:=(t.bd (Z1 C)).ok (q9 C rfl);refine det (ar (d:=d+18) ok.ne ok.n64 ok.sum ok.len) ?_;walk_at "s";have e2:=oP (GJ p) 20 u t0 hck;rw[X]at e2;refine Ab ((show B1 (u.rel (GJ p)).part.1 (u.rel (GJ p)).part.2=B1 t.part.1 t.part.2 from e2) ..) ?_;refine Ab (WP ..) ?_;rfl
end
end
section
set_option tactic.hygienic false
set_option Elab.async false
set_option linter.unusedVariables false
set_option maxRecDepth 100000
set_option maxHeartbeats 0
variable{w:Z8}{sc:Za Z7}
theorem gM:∀{sc:Za Z7} {items:Za Zb},IntsAre items sc->Ay G (sc.map .int) items:=by
 intro sc items h
 induction h with
 |nil=>exact Ay.nil
 |cons n t j g=>exact Ay.cons ⟨t,rfl⟩ g
theorem nT(ok:Ok (cT w OP s) 50)(u:s.gens= #[])(E:sc.length<=63)(hl:s.heap.get? a=Zd {cls:=.type "list",data:=.seq items.toArray})(z:IntsAre items sc):
 ZZ (XA ZM w) OP (Y8 (.ref 966) [.ref a]) (λv g=>(∀b o,s.heap.get? b=Zd o->g.heap.get? b=Zd o)/\g.os=s.os/\g.gens= #[]/\v=.bool Zm) No s:=by
 refine Zu (qV sL Cm (n:=200) (d:=49) (args:=[.lst (sc.map .int)]) (Q:=(· =.bool Zm)) rfl (s8 (d:=30) (by omega)) ok rfl u (vs:=[.ref a]) (Ay.cons ?_ Ay.nil)) (λv g q=>CC q λB h j q=>AV q λG r A C=>⟨B,h,j,?_⟩) λD D e=>e
 ·exact⟨a,items,0,rfl,hl,gM z⟩
 ·subst C;exact A.zI
noncomputable abbrev rl:=TR.row
set_option tactic.hygienic true in
theorem J:Challenge.rw_op0283_01.Holds:=by
 refine holds_law uJ λz=>?_;obtain⟨⟨d,kwd⟩,r⟩:=XB.mp (show(defOf qv rl.name).isSome=Zm by kernel_rfl);have e:=(show(defOf qv rl.name).map (λx=>(Zd (x.1.params,x.1.body,x.1.scope),kwWritten? x.1.params.kwonlyargs x.1.params.kw_defaults,x.2,x.1.name))=Zd (rl.prog.theDef rl.name,Zd [],[],Zc "law") by kernel_rfl);rw[r]at e;simp only[QO,VZ,Wl]at e;obtain⟨e1,e2,e3,e4⟩:=e;subst e3;refine holds_open (q:=qv) (loose:=Iv) (Xt:=λj=>Zm) (XP:=λj j=>O0) (nS bH xj) (λw s h=>(kHook kx xV bH).of w s h) (λw h h'=>(kHook kx xV bH).keeps w h h') (λj j=>trivial) (λj j j j j=>trivial) r e1.symm e2 (λs j=>recFacts_of rfl) rfl z (by decide+kernel) ⟨rfl,rfl,rfl,rfl,rfl,by decide+kernel⟩ ?_ ?_
 ·w_witness2
 ·intro w P u mg mb G Y U o pm cd doc dV kV ho hd hcd hD C R args O as B A L I K;have H:(kx w.params).In u.heap:=Y;have T:=G.T;have ok:Ok (cT w OP u) 50:=⟨⟨H,T.nolimit,⟨_,H 1 _ rfl⟩,⟨mg,mb,T.g,T.b,T.builtins⟩⟩,(by show callerA.depth+50<=WS;decide+kernel),rfl,(by show callerA.units+100*50+64<cLine;decide+kernel)⟩;have hf:U=966:=by
   rw[e4]at C;have:=(mg_of H T.g (show nsIn (kx w.params) Vj (Zc "law")=Zd (Zd (.ref 966)) by kernel_rfl)).symm.trans C;cases this;rfl
  subst hf
  wrow_args B A L I K
  rename_i ws _ _ _ _ _ _ a items _ hL _ W1 _ hI _ hz _;cases W1 with
  |list e j=>
  obtain⟨o',D,j,n,E⟩:=hL;rw[e]at D;cases D;cases E;refine Zu (nT ok R (by omega) e hI) (λv s' q=>CC q λQ k2 X k4=>?_) λj j e=>e.elim;subst k4;exact⟨.inl ⟨_,.bool Zm,[],rfl,raisesW_false (by wrow_none_raised),.bool Zm,(by wrow_post),λj=>⟨X6,λj h=>nomatch h⟩⟩,.of_keep Q,k2,.of_eq X⟩
end
end Mine
theorem PySem.Challenge.cw_op0283_01_holds : PySem.Challenge.rw_op0283_01.Holds :=
 Mine.J
