import PyProof.Rows.All
import PyProof.ListOps
import PyProof.IsRules
import PyProof.NeKinds
import PyProof.ExcBaseAll.ValueError
import PyProof.StationsW
import PyProof.ExcStrAll.ValueError
import PyProof.ExcStrCall
import PyProof.InstEq
import PyProof.ListIndexOut
import PyProof.ListRange
import PyProof.ListTruth
import PyProof.RulesAs
import PyProof.Rows.TupAssign
import PyProof.TupleCall
import PyProof.Rows.Catch
import PyProof.Rows.StrSplitCount
import PyProof.RulesFinally
import PyProof.Rows.ListCopyD
import PyProof.Rows.MinMaxN
import PyProof.TypeOfCall
import PyProof.TypeEq
import PyProof.Rows.SetFrom
import PyProof.Rows.ExtendIn
import KE.KLam
import KE.KDictIter
import KE.KIntText
import KE.KSortKey
import KE.KSortAsk
import KE.KStateDown
import KE.KSuperObj
import Wide.FinOn
import OpenK.AllK
import Wide.All
import Lean
import PySem.Challenge.RW_in0064_01
set_option Elab.async false
set_option maxRecDepth 100000
set_option linter.all false
set_option autoImplicit false
set_option tactic.hygienic false
set_option genSizeOf false
set_option compiler.extract_closed false
set_option maxHeartbeats 4000000
local macro_rules |`(tactic|lia)=>`(tactic|kernel_rfl)
open PySem PySem.W PyProof.Rows PySem.Calls PySem.Builtin.Frozenset PySem.Builtin.Str PySem.StrLaws PySem.SeqAt PySem.Builtin.BaseException PySem.Builtin.Exceptions PySem.Builtin.Getset_descriptor
namespace Mine
open _root_.PySem renaming Shared->aa,Value->ab,Addr->ae,wpAny_bind->af,wpAny_pure->ah,Around->aq,World->ar,model->au,Scope->aw,wpAny->aA,wpAny_mono->aG,wpAny_holding->aK,Params->a3,Heap->a7,sizeLine->a9,starEach->bD,PyData->bP,Expr->b7,SetTable->cr,wpAny_of_eq->cx,wpAny_Call_ofName->dr,Program->dQ,ReadsAll->ga,wpAny_setState_of->gE,codeAny_builtin->hN,wpAny_execs_cons->ii,isSubtype_type->kF,wpAny_truthy_bool->zF,foldedSetIterable->Ad,builtinLookup_eq_fast->FF,mainGlobals->FG,eval->He,wpAny_newObj_type->Ie,codeAny_call_builtin->Ig,Stmt->Il,wpAny_standAt->Iq,FuncData->It,compEnvC->Iz,strLen_append->IL,wpAny_items_cons->IM,wpAny_call_entry->IN,wpAny_askSetting->IP,builtinsNs->IT,plainId_quiet->I0,call->I1,typeLookup_type->I4,wpAny_call->Je,wpAny_Assign_Name->Jf,Arguments->Ji,Fin->Jj,wpAny_field->Jk,letOwnedTupleGo->Jl,NameKind->Jr,wpAny_rule->Ju,entryFor_of_tree->Jv,wpAny_callSpecial?_slot->JB,wpAny_Call_method_lateS->JC,slot_list_getitem->JD,typeIs_str->JF,rawInt->JG,Result->JH,wpAny_setEntries_of->JJ,codeAny->JM,wpAny_isInstance->JP,fromIndex->JQ,wpAny_isTrue_Compare1->JX,wpAny_ite_split->J1,wpAny_execs_nil->J2,wpAny_storeSet_of->J3,bindArgs->J4,OsState->J5,swappedStores->J8,attributeBase->J9,wpAny_setField->Ki,table->Kj,isSubtype->Kk,call_meets->Kx,entryFor->KE,GenState->KG,pyNext->KI,assignEach->K3,scanBound->K7,denote->Lc,clipAt->Le,behindInMarks->Lm,wpAny_items_nil->Lu,pyIter->Ly,sizeLine_eq->LK,Model->LL,ClassData->LM,wpAny_typeOf->LX,wpAny_setEpoch_of->LY,wpAny_assign_Name->LZ,firstArgMember->L0,wpAny_Name->L5,putSet_of->L6,backTo->L7,argsOk->L8,wpAny_attempt->Mf,signature?_of->Mg,holding->Mh,Comprehension->Mi,subscripted->Mj,relayAll->Mk,codeAny_of_tree->Ms,wpAny_Assign_stores->Mu,plainExc_IndexError->Mv,codeAny_mono->Mz,swapsWith->ME,codeAmong->MF,wpAny_load->ML,wpAny_pyIter_list->M1,wpAny_Return_some->M2,richCompare->M3,fits_of_scanBound->M4,wpCode_iff_wp->M9,wpAny_comprehension_free->M',typeOf->Na,wpAny_Try_except->Np,noteFrame->Nq,Code->Nv,standAt->NJ,setsByText->NK,isInstance->NL,intKind->NM,getItem->NN,closureFor->NO,cameBackBy->NP,wpAny_specialOf->NV,wpAny_storeName_local->N2,runN->N3,wpAny_throw->Oi,wpAny_runValue->Oj,wpAny_newFunctionEnv->Ok,wpAny_loadName_local->Ol,wpAny_ite_true->Om,interactive->On,assign->Oo,storeName->OD,leaving->OE,TriplesOk->OG,ElemsOf->OI,DictEntry->OJ,wpAny_Tuple_spliced->OT,wpAny_onRaise->O1,cLine->O3,wpAny_setField_rec->O9,wpAny_Expr->O',defaultsOf->Pa,wpAny_If->Pt,operate->Pw,notedBy->Px,compPost->Py,Flow->PF,wpAny_setScan_of->PP,specialOf->PQ,opaqueClassAbove->PR,checkBuiltinCall->PS,wpAny_alloc->P4,unpackItems->P5,callSpecialIfBoundUnlessNone?->P6,Drawn->P9,leftWithCleanup->Qf,wpAny_richCompare_same_room->Qq,spliced->Qr,relabel->Qs,getAttr->Qt,wpAny_tryCatch->QD,wpAny_seqItems->QE,setAddHashedIn->QF,recursionLimit->QG,qualnameIn->QH,layNew->QI,compTurn->QJ,Reads->QM,wpAny_tryCompare_declines->Q0,wpAny_newList->Rf,wpAny_handled->Rg,wpAny_getItem_list_slice->Rh,swapsWithSole->Ri,relayAll_perm->Rj,rangeSize_one->Rk,eval_ListComp->Rl,bltViewBooted->Rn,assignInOrder->Ro,Slot->Rp,wpAny_list_append_plain->RB,wpAny_listSubscript_int->RC,small_one->RD,pickOrder->RE,execs->RF,cellsFrom->RG,wpAny_handleBy_builtin->RW,setAddHashed->RX,setAdd->RY,collect->RZ,cellOf->R0,callSpecial?->R1,IsRange->R6,IsPart->R7,wpAny_allTrue_Or_cons->Sk,weight_type_call_type->Sl,hashByValue_scannable->Sm,codeAny_call_function->Sn,wpAny_point->SE,setMerge->SF,numAt->SG,layNew_perm->SH,Meets->SQ,CmpOp->SS,wpAny_Constant_bool->S4,codeAny_forLoop_any->S5,call_enumerate_list->S6,builtinType_eq_fast->S7,wpAny_getItem_list->Tf,wpAny_evalAll_cons->Tg,wpAny_assign_Tuple->Th,wpAny_Constant_str->Ti,wpAny_Call_Name_kw->Tj,typeLookup->Tk,frameCount->Tl,call_gives->Tm,Args->Tw,wpAny_sequenceKey->TB,wpAny_pyIter_slot->TC,wpAny_pyIter_enum->TD,wpAny_Try_finally->TE,slot_list_setitem->TF,setNext->TG,codeAny_whileLoop->TH,Gives->TO,wpAny_pyIter_str->TY,wpAny_enterFrame->TZ,wpAny_For->T0,strValues->T1,setFlight->T2,notIterableAtAll->T3,newFields->T4,compareOp->T5,byScan_of->T6,arm_assign_Tuple->T7,Runs->T',wpAny_updateSeq->Uq,wpAny_seqItemAt->Ur,slicePick_plain->Us,raiseErrorWords->Ut,getAttrByItsOwn->Uu,wpAny_fieldsOf->UL,wpAny_cRoomFor->UM,storeSet->UN,stack->UO,setField->UP,runOwn->UQ,raiseNew->UR,newTuple->US,newObj->UT,newFunctionEnv->UU,newExc->UV,mroOf->UW,loadName->UX,isSubtype_stop->UY,isSame->UZ,entryFor_alias->U0,constantsAlone->U1,Walks->U2,Thread->U4
open _root_.PySem.Str renaming ofString->ac,empty->aR,length->Ou,join->PU
open _root_.Nat renaming le_trans->an,le_refl->aB,lt_of_lt_of_le->aJ,le_of_lt->bn,ne_of_lt->br,lt_of_le_of_lt->bz,le_of_ble_eq_true->bW,add_le_add_left->bX,not_lt->b',zero_le->dk,le_add_right->dx,lt_succ_of_lt->gb,add_le_add_right->gp,succ_le_succ->H8,lt_succ_self->H9,le_sub_one_of_lt->Ib,zero_add->Ik,lt_of_le_of_ne->Ir,le_add_left->Iu,lt_irrefl->Iw,ne_of_gt->IA,le_of_lt_succ->IB,add_comm->IC,blt->IF,not_le->IQ,add_le_add->IU,min_eq_left->IX,le_succ->I5,zero_lt_of_lt->I',le_of_eq->Ja,add_sub_of_le->Jb,succ_pos->Js,le_succ_of_le->JY,one_pos->Kf,sub_lt->Km,eq_of_beq_eq_true->Ky,mul_le_mul_right->KN,sub_zero->KR,min_le_right->KS,min_eq_right->KU,add_zero->KV,add_assoc->K9,sub_add_cancel->Lh,sub_eq_zero_iff_le->LA,lt_trichotomy->LB,lt_trans->LC,lt_succ_of_le->LD,lt_one_iff->LF,eq_zero_of_not_pos->LG,ble->LH,lt_succ_iff->Mb,le_antisymm->Mc,sub_sub->MI,succ_add_eq_add_succ->MO,lt_succ_iff_lt_or_eq->MP,succ_pred_eq_of_pos->MX,lt_of_not_le->MY,lt_add_of_pos_right->MZ,sub_self->Nd,sub_le->Nf,mod_lt->Ng,min_le_left->Nk,div_lt_iff_lt_mul->Nx,ble_eq_true_of_le->Ny,two_pos->NR,mul_two->NS,add_lt_add_right->NT,sub_lt_sub_left->N9,add_lt_add_left->N',pos_of_ne_zero->Oz,lt_of_lt_of_eq->OA,add_right_comm->OB,succ_sub_succ->OX,succ_add->OY,sub_pos_of_lt->OZ,not_lt_zero->PK,add_lt_add_of_lt_of_le->PY,sub_lt_left_of_lt_add->Qa,add_sub_cancel_left->Qv,le_total->QO,beq->QP,le_div_iff_mul_le->Q',le_sub_of_add_le->Rt,div_lt_of_lt_mul->Ru,sub_le_sub_left->RQ,mul_le_mul_left->RS,add_sub_cancel->Sa,lt_of_sub_pos->Sv,le_of_succ_le->Sw,succ_lt_succ->SY,sub_sub_self->S0,lt_add_right->S1,le_of_not_lt->S2,pow_succ->Ui,mul_comm->Uj,min_self->Uk,mul_add->UG
open _root_.PySem.Heap renaming get?_push_of_some->ao,lt_size->az,get?_push_size->aF,get?_update_self->cQ,size_push->IE,ExtBut->I3,SameBut->Jq,get?_update_other->JE,get?_some_iff->JK,mk->MA,FlyingW->M6,get?_update_ne->NY,size_update->O5,get?_none_of_le->Q5
open _root_.Bool renaming false->ap,false_eq_true->cT,and_eq_true->kn,and_eq_true_iff->x4,not_eq_true'->IR,false_ne_true->Jn,or_eq_true->JW,and_false->NI,eq_iff_iff->Pr,true_and->Qe,or_false->Tz,and_true->TA
open _root_.List renaming getD_eq_getElem?_getD->av,getElem?_eq_getElem->ay,mem_singleton->aI,lookup_cons->aN,mem_cons->aP,range->a1,getElem?_eq_some_iff->a8,getElem?_map->a',length_map->be,mem_of_getElem?->ct,mem_range->cI,map_map->ec,length_append->eH,map_append->fs,mem_map->hp,drop_eq_getElem_cons->ht,mem_filter->hu,mem_append_right->iq,append_assoc->jB,mem_append->k9,take_of_length_le->lu,not_mem_nil->uR,map_cons->uW,length_cons->y3,length_filter_le->Ei,getElem?_append_left->GZ,filter_cons->H6,all_eq_true->H7,drop_of_length_le->Ia,mem_append_left->Im,getElem?_of_mem->Io,map_congr_left->Ix,forall_mem_cons->IG,take_length->IJ,getElem_mem->IK,count_cons->IV,append_nil->IW,filter_append->IZ,size_toArray->I8,getElem?_append_right->I9,filterMap_cons->Jc,nodup_cons->Jd,count_eq_zero->JL,findIdx?_eq_none_iff->JV,map_nil->Kg,getElem?_take->Kh,forIn_cons->Ku,length_singleton->Kw,ext_getElem?->KA,count_append->KC,mem_of_mem_drop->KH,length_take->KQ,take_succ_cons->K0,mem_map_of_mem->K1,filter_eq_self->K2,findIdx?->K6,length_range->Lw,drop_zero->Lx,take_append_drop->LU,map_fst_zip->LW,of_mem_zip->L3,length_nil->L4,takeWhile_cons->Md,pairwise_cons->Mp,getElem?_drop->Mq,count_pos_iff->Mr,pairwise_iff_getElem->Mw,reverse_cons->MB,filter_congr->MC,any_eq_false->MD,sum_cons->MJ,getElem?_take_of_lt->MK,mem_reverse->MT,length_drop->MU,isEmpty_nil->MV,range_succ->Nh,mem_iff_getElem?->Nl,lookup_cons_self->Nm,getElem?_toArray->No,range'->NA,pairwise_append->NB,not_lt->NC,nodup_nil->ND,lt_irrefl->NE,getElem_toArray->NF,count_singleton->NG,count_le_length->NH,length_reverse->NZ,length_pos_iff->N0,map_take->Oa,zip_cons_cons->Oe,map_singleton->Of,take_succ_eq_append_getElem->OO,sum_nil->OP,map_inj_left->OQ,getElem_drop->OR,getElem?_set->OS,isEmpty_iff->O7,cons_append->O8,lookup->Pk,nil_append->Pp,filter_nil->Pq,perm_ext_iff_of_nodup->PN,length_eraseIdx_of_lt->PO,mem_of_find?_eq_some->PZ,getElem?_zip_eq_some->P1,mem_of_mem_eraseIdx->Qb,map_drop->Qc,filterMap_cons_some->Qd,pairwise_singleton->Qj,pairwise_lt_range'->Qk,length_eq_zero_iff->Ql,filter_cons_of_pos->Qm,filter_cons_of_neg->Qn,toArray->Qw,range_succ_eq_map->Qx,pairwise_lt_range->Qy,length_pos_of_mem->Qz,getElem?_reverse->QQ,countP_singleton->QR,contains_iff_mem->QS,cons_lt_cons_iff->QT,mem_of_mem_take->Ra,getElem?_zipIdx->Rb,getElem?_append->Rc,count_cons_self->Rd,getElem?_range->Rv,flatMap_append->Rw,dropWhile_cons->Rx,range'_concat->RT,countP_append->RU,take_add_one->Sb,pairwise_map->Sc,nodup_append->Sd,mem_range'_1->Se,getElem?_inj->Sf,flatMap_cons->Sg,nodup_range->Sx,map_reverse->Sy,drop->Sz,find?_some->S3,take_zero->Tb,take_left->Tc,map->Td,map_set->TX,take->Va
open _root_.Option.some renaming inj->ax,injEq->Kb
open _root_.Eq renaming refl->aE
open _root_.Array renaming length_toList->aX,getElem?_eq_some_iff->eB,getD_eq_getD_getElem?->e0,getElem?_eq_getElem->hq,getElem?_eq_none->H',getElem?_modify->IS,getElem?_toList->Jg,getElem?_push->KW,ext_getElem?->K',size_map->Lr,getElem?_setIfInBounds_ne->LJ,toList_push->Mx,isEmpty_iff->My,size_empty->MQ,getD->Od,size_push->Pm,eraseIdxIfInBounds->P2,toList_filterMap->Qp,getElem?_mapIdx->QB,toList_extract->QY,toArray_toList->QZ,replicate->SA,map->UK
open _root_.Option renaming map_eq_some_iff->bh,bind_eq_some_iff->dg,map_some->ID,isSome_iff_exists->KZ,bind_some->LP,isNone_iff_eq_none->PJ,isSome_none->Q9,elim->Tx
open _root_.Decidable renaming decide->bF
open _root_.PySem.AutoSeq1 renaming wpAny_loadPart'->bK,sub_list_list->PM
open _root_.PySem.Calls renaming evalArgs_plain->b1,callWith_function->rS,callWith_builtin->Ip,spliced_cons->N5,spliced_nil->Ov,call_function_entry->Q7
open _root_.Inhabited renaming default->b2
open _root_.Int renaming toNat_natCast->b4,natCast_nonneg->IH,emod_lt_of_pos->Jp,emod_nonneg->Jz,not_lt->JO,ofNat_le->JZ,le_trans->J0,lt_of_lt_of_le->Kn,lt_of_le_of_lt->Ko,natCast_add->Kv,toNat_of_nonneg->K5,ofNat->Ll,lt_trans->LI,le_antisymm->Me,ofNat_lt->Mn,le_of_lt->Mo,sub_add_cancel->Mt,eq_ofNat_of_zero_le->M0,le_refl->NU,ofNat_sub->Og,ofNat_inj->Oh,toNat_lt->O0,max_eq_right->Pl,lt_irrefl->Qo,ediv_ediv_of_nonneg->QA,emod_def->QV,ediv_one->QW,sub_eq_add_neg->Sh,not_le->Si,min_eq_left->Te,ne_of_lt->Um,add_comm->Un,mul_one->UJ
open _root_.PySem.PyData renaming strOk->cs,keyHash->mL,str->tl,depthAll->JS,eqv->KD,canLayAll0->Lj,int->Pn
open _root_.PySem.SetTable.layClean renaming free->cF
open _root_.PySem.NameKind renaming free->cM,cell->Lz
open _root_.PySem.W renaming SharedT->fl,tabObj->Jw,Looks->Jx,emptyDict->JR,looks_findIn->K8,kas_item->Ln,boot_o_0->MM,through->MR,boot_heap->Nr,looks_mroIn->Op,looks_field->Oq,specialIn->OF,findIn->Pb,kas_rev->PA,boot_o_4->PB,absHeap_size->PC,looks_clsIn->P7,WellAll->Qu,kas_desc->QK,boot_o_1->QL,kas_place->RI,boot_o_10->RJ,absHeap->R2,boot_o_9->SI,boot_o_8->SJ,boot_o_7->SK,boot_o_5->SM,absHeap_ins->SN,check_slot->Tn,instObj->TJ,WData->TK,looks_specialIn->Uv,CodeHd->U3
open _root_.PySem.Around renaming under_plainId->fH,under_plain->Q8
open _root_.PySem.Heap.SameBut renaming update->gR,refl->Nj
open _root_.PySem.Value renaming ref->hk,type->Iv,str->I2,none->I7,builtin->NW,isInt_shape->Ot,isStrOf->PT,bool->T8,int->UA
open _root_.Pure renaming pure->jq
open _root_.LawfulBEq renaming eq_of_beq->pV
open _root_.PySem.SetTable renaming below->uX,runEnd->Ih,grown->Ii,bits->Jh,turns->Jm,fill->Jy,eraseAt->JA,sizeAbove->J7,fits->Kc,insertAt->Kl,laid->KP,Probe->La,layClean->NX,has->PL,roomFor->Q3,advance->Q4,relaid->Rq,road->R3,leap->R4,Met->So
open _root_.PyProof.Rows.ReadsAll renaming keeps->vr
open _root_.PySem.Obj renaming mapSeq->wx,putSet->JN,data_mapFields->Lf,mapFields->MN,isFreed_of_fields->Nt,cls_mapFields->Sq
open _root_.PySem.Builtin.Range renaming rangeSize->Ic,small->Jo
open _root_.PyProof.Rows renaming assignInOrder_cons->Ij,callWith_type->IY,assignInOrder_nil->J6,StrsAre->Ke,seqObj->L2,Subscript_->Ma,sortedS->M7,IntsAre->M8,tail_any->Nw,oneType'->Ox,Assign_Tuple_swapped->Oy,bindName_->OM,assign_Name->ON,listUpdate_at->O6,unpackItems_tuple->PI,get?_update_seq->Qi,isTrue_plain->R',FormattedValue_plain->SX,arrOf->TV,evalArgs_empty->UD,entry_list_sort->UE,add_str->UF,slot_list_sort->U'
open _root_.PySem.MeetsSeq3 renaming plain_eq_loop->Iy,entry_eq_loop->KY
open _root_.Classical renaming byContradiction->II,choose_spec->Kd,choose->Oc
open _root_.ForInStep renaming yield->I6
open _root_.PySem.F renaming plainAttrs_list->Jt,slot_list_count->JI,slot_tuple_iterator_next->JT,type_list_count->Ks,called_set->K4,slot_list_remove->LQ,plain_list_iadd->LR,slot_str_split->Nc,ks_slot_super_ga->OU,args_str_split_2->OV,entry_str_split->Pe,entry_list_iadd->Pf,type_list_remove->PG,slot_list_extend->PH,args_tuple_iterator_next_1->PW,entry_tuple_iterator_next->P8,called_tuple->Qh,entry_type_call->Q6,plain_proto_collect->RN,entry_proto_collect->RP,excBase_ValueError->R8,args_list_remove_2->R9,entry_list_remove->Ss,slot_str_getitem->SR,slot_tuple_iter->S',slot_str_rindex->Ta,slot_str_index->Tq,slot_str_count->Ts,slot_set_iter->TP,plain_set_new->TQ,slot_list_lt->Ua,slot_list_gt->Ub
open _root_.Prod.mk renaming inj->JU,injEq->LO
open _root_.Ne renaming symm->J'
open _root_.PyProof.Rows.Reads renaming keeps->Ka
open _root_.PySem.W.FB renaming owner_frozenset->Kr
open _root_.PyProof.Rows.F renaming plain_set_update_loop->Kt,entry_set_update_loop->MG
open _root_.PySem.Env renaming kindOf->KJ,blockKind->TS
open _root_.PySem.Code renaming quiet_builtin->Lb,builtin->TU
open _root_.PySem.Challenge renaming rw_in0064_01->Lg,pw_in0064_01->Tt
open _root_.PySem.W.Looks renaming ld->Lo,of_pure->LV
open _root_.PySem.Builtin.Frozenset renaming oneOther->Lp,addrOf->Lq,sizeOf->LS,isAnySet->Ml,updateFrom->OW,withSetAsKey->SU,slot0->SV,newClass->SW
open _root_.PySem.Builtin.Str renaming occurrences->LN,lastOccurrence->QN,strSliceIndices->UC,strOf->U7
open _root_.PySem.NumText renaming prefix?->L1,blank->Nz,digit?->Pd,digits?->RL,based->Sr,step->SO,sign->SP
open _root_.PySem.Unicode renaming numberText->L9
open _root_.PySem.StrLaws renaming sliceText->L'
open _root_.List.Perm renaming eq_of_pairwise->Mm,swap->Ry,cons->RA
open _root_.Nat.succ renaming inj->MH
open _root_.Prod renaming ext->MS
open _root_.PUnit renaming unit->MW
open _root_.PySem.SetTable.below renaming go->M5
open _root_.PySem.W.SharedT renaming abs->Nb
open _root_.PySem.W.KT renaming len_num->Ni
open _root_.PySem.Meets renaming of_wp->Nu
open _root_.PySem.Sem renaming wp->NQ,wp_mono->Rr,wp_bind->Rs
open _root_.Iff renaming rfl->N1
open _root_.PySem.SetTable.sizeAbove renaming go->N4
open _root_.PySem.Builtin.List renaming listSubscript?->N6,listLengthHint->N7,listExtendWith->N8,listSameRef->OK
open _root_.List.cons renaming injEq->OC
open _root_.PySem.IsRange renaming new->OH
open _root_.PySem.swappedStores renaming match_5->O2
open _root_.PySem.W.WShape renaming hasItems->O4
open _root_.PySem.Txt renaming split->Pc
open _root_.PySem.Expr renaming Lambda->Pg
open _root_.PySem.Bind renaming madeBy->Pj,staticBase->Po,madeHere->P'
open _root_.ToString renaming toString->Ps
open _root_.PySem.pickOrder renaming go->Pu
open _root_.PySem.Walks renaming list->Pz
open _root_.PySem.SeqAt renaming eqv_refl->PD
open _root_.PySem.Pin renaming globalOf_eq->PE
open _root_.PyProof renaming noPylong_small->PX
open _root_.PySem.Shared renaming asleep_of_life->Qg
open _root_.And renaming intro->QC
open _root_.LawfulMonad renaming bind_assoc->QU
open _root_.ForIn renaming forIn->QX
open _root_.PySem.callAny renaming viaDunder->Q1
open _root_.PySem.W.KF renaming slot_mset->Q2
open _root_.PySem.WalksT renaming enumerate->RH
open _root_.PySem.Value.ref renaming inj->RK
open _root_.PySem.Manifest renaming find?->RM
open _root_.PySem.P renaming gt_str->R5
open _root_.Function renaming comp->Sj
open _root_.PySem.Data.set renaming inj->Su
open _root_.PySem.Stmt.FunctionDef renaming elim->S8
open _root_.PySem.Moved renaming eq_with->S9
open _root_.PySem.NumText.prefix? renaming match_1->Tp
open _root_.PySem.Builtin.Getset_descriptor renaming descrCheckInstance->Tv
open _root_.PySem.SetTable.probe renaming go->TL
open _root_.PySem.SeqAt.EqAt renaming str_str->TM
open _root_.PySem.Heap.IsSliceOf renaming new->TN
open _root_.PySem.Expr.Attribute renaming elim->TR
open _root_.PyProof.Rows.SortSt renaming mk'->TW
open _root_.PySem.Stmt.ClassDef renaming elim->T9
open _root_.PySem.Expr.Constant renaming elim->Uc
open _root_.PySem.Builtin.Slots renaming target->Ud,slotNamesOf->Ue,bestBase->Uf,Plan->Ug
open _root_.PySem.BindsTo renaming of_defaults->Uh
open _root_.List.Pairwise renaming filterMap->Ul
open _root_.False renaming elim->Uo
open _root_.PySem.W.Fast renaming tw14364793385576792824->Uw,tw11892475500146522536->Ux,te14364793385576792824->Uy,te11892475500146522536->Uz
open _root_.PySem.NumText.sign renaming match_1->UB
open _root_.List.Sublist renaming map->UH,length_le->UI
open _root_.PySem.Stmt.Return renaming elim->U5
open _root_.PySem.Stmt.Assign renaming elim->U6
open _root_.PySem.AfterImport renaming unique->U8,of_importEnds->U9
variable{a b x Vs V5:Nat}{c:ar}{g VI:aw}{h Q Vo Vu VB VC Wj Wk:ae}{j Vd Wn:Str}{o VW:aq}{q H VH:aa}{s Vk:a7}{v J Vg VA VT Wq Wu WH:Pos}{w VE:ae->Prop}{y Vf:ab->aa->Prop}{z Vl Wd:b7}{B VL:List Int}{C Vq Wa:Int}{E:Env}{G VJ:List Str}{M We:Bool}{O VQ:Obj}{U V7:ab}{Y V4:List ae}{Vb Wr:Type}{Vc WF:List ab}{Ve Vn:Str->Option ab}{Vh:Prop}{Vj:dQ}{Vm:List bP}{Vp Wg:List Il}{Vr:List b7}{Vt Wo:Tok}{Vv:a3}{Vw:Nat->Tok}{Vx:Nat->ae}{Vy:cr}{Vz:Array ab}{VD:Nat->ab}{VF:String}{VG VZ:bP}{VK:LL}{VM:List (ae×Obj)}{VO:Unit->aa->Prop}{VP:Array Nat}{VR:Array (Int×ab)}{VU:Nat->Nat}{VV:J5}{V1:Il}{V2:Bool->aa->Prop}{V3:List (Str×ae)}{V6:fl}{V8:Ji}{V':Array KG}{Wb:Option ae}{Wc:List Nat}{Wf:JH->aa->Prop}{Wh:List (Option Str)}{Wi:P9}{Wl:Ctx}{Wm:Array (Option ab)}{Wp:It}{Ws:Array (Option Nat)}{Wv:Tw}{Wx:SS}{Wy:Str->Bool}{Wz:Nv->Sem Fin}{WA:Nat->Pos}{WB:PF}{WC:LM}{WD:Option ab->aa->Prop}{WE:Option Int}{WG:List Env}{WI:Jj->aa->Prop}{WJ:Nat->Nat->Int}
open Lean in def bc:Syntax:=Unhygienic.run `(tacticSeq|intros;rfl)
open Lean in def cN:Syntax:=Unhygienic.run `(tacticSeq|intro _;rfl)
open Lean in def ew:Syntax:=Unhygienic.run `(tacticSeq|decide)
open Lean in def gX:Syntax:=Unhygienic.run `(tacticSeq|with_unfolding_all rfl)
open Lean in def ir:Syntax:=Unhygienic.run `(tacticSeq|intro _ _;with_unfolding_all rfl)
def bA(h:a<b)(g:b<=x):a<x:=aJ h g
def c5(h:a<=b)(g:b<x):a<x:=bz h g
def j3(h:a<b)(g:b<x):a<x:=LC h g
def j4(h:a<=b)(g:b<=x):a<=x:=an h g
def j5(h:a<b):a<=b:=bn h
def j6(h:a=b):a<=b:=Ja h
def j7(h:b=a):a<=b:=Ja h.symm
def j8(h:¬b<a):a<=b:=b'.mp h
def j9(h:¬b<=a):a<b:=IQ.mp h
def hz(h:a<b):a+1<=b:=h
def dt(h:a<=b):a<b+1:=LD h
def gY(h:a+1<=b):a<b:=h
def dF(h:a<b+1):a<=b:=IB h
def mc(h:a+1<b+1):a<b:=Nat.lt_of_succ_lt_succ h
def x'(h:a+1<=b+1):a<=b:=Nat.le_of_succ_le_succ h
def gu(h:a<=b)(g:¬a<b):a=b:=Mc h (b'.mp g)
def hA(h:a<=b)(g:b<=a):a=b:=Mc h g
def a2(h:a<=b)(g:LH b x=true):a<=x:=an h (bW g)
def md(h:a<b)(g:LH b x=true):a<x:=aJ h (bW g)
def e3(h:x<=a)(g:LH b x=true):b<=a:=an (bW g) h
def rX:a+1-(b+1)=a-b:=OX a b
def jb(h:b<a):a+1-(b+1)<a+1-b:=by rw[OX,Nat.succ_sub (bn h)];exact H9 _
def hB(h:a-b=x+1):a-(b+1)=x:=by rw[Nat.sub_succ,h];rfl
def hC(h:a<0):Vh:=absurd h (PK _)
def dR(h:a<b)(g:b<=a):Vh:=absurd h (b'.mpr g)
def rY(h:a<b):a≠b:=br h
def oC(h:a<=b):¬b<a:=b'.mpr h
def oD(h:a<b):¬b<=a:=IQ.mpr h
def jc(h:a<=b)(g:a≠b):a<b:=Ir h g
def jd(h:a<b+1)(g:¬a=b):a<b:=Ir (IB h) g
def eO(e:b=x)(h:a<x):a<b:=e▸h
def je(e:x=b)(h:a<x):a<b:=e▸h
def kH(e:a=x)(h:x<b):a<b:=e▸h
def gZ(h:a<b):0<b:=I' h
def hD(h:a+(b+1)<=x):a+1+b<=x:=by rw[OB];exact h
def me:a+(b+1)=a+1+b:=(MO a b).symm
def hE:a+1+b=a+b+1:=OY a b
def hF(h:b<a):a-1-b<a:=by rw[MI];exact Km (I' h) (I' (S1 _ Kf))
def dh:0<=(a:Int):=IH a
def mf:((a+4:Nat):Int)=a+4:=rfl
def iu(h:a-b=0):a<=b:=LA.mp h
def rZ(h:a<=min b x):a<=b:=an h (Nk _ _)
def oE(h:a<=min b x):a<=x:=an h (KS _ _)
def fx:min a b<=a:=Nk _ _
def hG:min a b<=b:=KS _ _
def mh(h:a<b)(g:a<x):a<min b x:=Nat.lt_min.mpr ⟨h,g⟩
def iv(h:b-a=x+1):a<b:=Nat.lt_of_sub_eq_succ h
def r0(h:b+1<=a):a-(b+1)=a-1-b:=by rw[MI,IC]
def jf(h:a+1=b):a=b-1:=Nat.eq_sub_of_add_eq h
def gv(h:a+b<=x):a<=x:=an (dx a b) h
def ya(h:a+b<=x):b<=x:=an (Iu b a) h
def fy(h:a+b<x):a<x:=bz (dx a b) h
def jg(h:a+(x+1)<=b):a<b:=aJ (MZ (Js x)) h
def r1(h:a<=x)(g:b<=Vs):a+b<=x+Vs:=IU h g
def r2(h:0<a):a-1+1=a:=MX h
def fz(h:a<=b):a+(b-a)=b:=Jb h
def yb(h:b<a):a-b=a-(b+1)+1:=(MX (OZ h)).symm
def kI(h:(a:Int)<b):a<b:=Mn.mp h
def iw(h:a<b):(a:Int)<b:=Mn.mpr h
def oF(h:a<=b):(a:Int)<=b:=JZ.mpr h
def r3(h:(a:Int)<=b):a<=b:=JZ.mp h
def mi(h:C<Vq)(g:Vq<Wa):C<Wa:=LI h g
def r4(h:C<Vq)(g:Vq<=Wa):C<Wa:=Kn h g
def yc(h:C<=Vq)(g:Vq<Wa):C<Wa:=Ko h g
def r5(h:C<=Vq)(g:Vq<=Wa):C<=Wa:=J0 h g
def gw(h:C<Vq):C<=Vq:=Mo h
def oG(h:¬C<Vq):Vq<=C:=JO.mp h
def yd(h:¬C<=Vq):Vq<C:=Si.mp h
def oH(h:C<=Vq):¬Vq<C:=JO.mpr h
def ye(h:C<Vq):C≠Vq:=Um h
def r6(h:Vq<C):C≠Vq:=λ e=>Qo _ (e▸h)
def r7(h:C<=Vq)(g:Vq<=C):C=Vq:=Me h g
def oI(h:C<Vq)(g:Vq<=C):Vh:=absurd h (JO.mpr g)
def mj(h:a<b)(g:b<a):Vh:=absurd h (b'.mpr (bn g))
def jh(e:b=x)(h:a<=x):a<=b:=e▸h
def dS(e:a=x)(h:x<=b):a<=b:=e▸h
def r8(e:x=a)(h:x<=b):a<=b:=e▸h
def ml(h:a=x)(g:x=b):a=b:=h.trans g
def mn(h:¬a=b)(g:¬a<b):b<a:=Ir (b'.mp g) (J' h)
def r9(h:a+1<=b):a<=b:=Sw h
def kJ(h:a<b):a<b+1:=gb h
def ix(h:a<=b):a<=b+x:=Nat.le_add_right_of_le h
def r'(h:a<=b):a<=x+b:=Nat.le_add_left_of_le h
def dG:a<=a+b:=dx _ _
def bE:a<=b+a:=Iu _ _
def gx:a<=a:=aB _
def g0:0<a+1:=Js _
def iy:a<a+1:=H9 _
def sa(h:b<x):b+a<x+a:=NT h a
def sb(h:x+a<b):a<b-x:=Nat.lt_sub_of_add_lt (IC x a▸h)
def yf(h:a≠b):¬a=b:=h
def ji:a-b<=a:=Nf _ _
def hH(h:0<a)(g:0<b):a-b<a:=Km h g
def se(h:a<b+x)(g:b<=a):a-b<x:=Qa g h
def yg:((a+1:Nat):Int)=a+1:=rfl
def jj(h:a<=b)(g:IF (b+1) C.toNat=true):(a:Int)+1<C:=Int.lt_toNat.mp (bz (H8 h) (bW g))
def jk:(0:Int)<=a+1:=Int.le_add_one (IH a)
def c6(h:a<=b)(g:IF b x=true):a<x:=bz h (bW g)
def fC(h:a<=b)(g:bF ((b:Int)<C)=true):(a:Int)<C:=Ko (JZ.mpr h) (of_decide_eq_true g)
def mo(h:a<=b):min a b=a:=IX h
def jl(h:min b x-a=0)(g:b<=x):b<=a:=by rw[IX g]at h;exact LA.mp h
def jm(h:min x b-a=0)(g:b<=x):b<=a:=by rw[KU g]at h;exact LA.mp h
def sf(h:a<b*32):a/32<b:=Ru (Uj b 32▸h)
def yh(h:b<a):a-1-(a-1-b)=b:=S0 (Ib h)
def yi(h:b+1<=a):a-1-b+1=a-b:=by rw[MI,IC 1 b];exact MX (OZ h)
def yj(h:0<b):a-(b-1)=a+1-b:=by
 rcases b with _|b;·exact absurd h (Iw 0)
 ·exact(OX a b).symm
def jn(h:a<b):a<=b-1:=Ib h
def oJ(h:a<b)(g:¬a+1=b):a+1<b:=Ir h g
def iz(h:a<b-x):x+a<b:=IC a x▸Nat.add_lt_of_lt_sub h
def yk(h:a=b)(g:¬a=b):Vh:=absurd h g
def kK(h:a+(b+1)=x):a<x:=h▸MZ (Js b)
def e4(h:a<=Vs)(g:b<=V5)(k:LH (Vs+V5) x=true):a+b<=x:=an (IU h g) (bW k)
def iA(h:a<=b)(k:LH (b+x) Vs=true):a+x<=Vs:=an (gp h x) (bW k)
def yl(h:a<=b)(k:IF (b+x) Vs=true):a+x<Vs:=bz (gp h x) (bW k)
def jo(h:a<=x)(g:b<=a)(k:LH x Vs=true):b<=Vs:=an g (an h (bW k))
def mq(h:a<=b)(g:x<a):a-1<b:=aJ (Km (I' g) Kf) h
def oK(h:¬a=0):a-1<a:=Km (Oz h) Kf
def ym(h:a<b):b=a+1+(b-(a+1)):=(Jb h).symm
def mr:a+b-a=b:=Qv ..
def sh:a+b-b=a:=Sa ..
def si(h:b<=a):a=a-b+b:=(Lh h).symm
def sj(h:a<b):a<=(a+b)/2:=(Q' NR).mpr (by rw[NS];exact bX (bn h) a)
def yn(h:a<b)(g:b<a+1):Vh:=absurd h (b'.mpr (IB g))
def e5(h:a<b)(g:b<=x)(k:LH x Vs=true):a<Vs:=aJ h (an g (bW k))
def hI(h:a<b)(g:bF ((b:Int)<=C)=true):(a:Int)<C:=Kn (Mn.mpr h) (of_decide_eq_true g)
def yo(h:a<=x)(g:b<=a)(k:IF x b=true):Vh:=absurd (an g h) (IQ.mpr (bW k))
def oL(h:a=x)(g:b=x):a<=b:=Ja (h.trans g.symm)
def sk(h:0<=C)(g:C<Vq):C.toNat<Vq.toNat:=(Int.toNat_lt_toNat (Ko h g)).mpr g
def dT{p:Vb->Prop}:∀q∈([]:List Vb),p q:=λ _ h=>absurd h uR
def aV{p:Vb->Prop}{a:Vb}{l:List Vb}(h:p a)(g:∀q∈l,p q):∀q∈a::l,p q:=λ q m=>(aP.mp m).elim (λ e=>e▸h) (g q)
def yp(h:C<Vq):¬Vq<=C:=Si.mpr h
def sl(h:b<a):(0<=a-1-b)/\(a-1-b<0+(a+1-0)):=⟨dk _,by rw[Ik,KR];exact bz (an (Nf _ _) (Nf _ _)) (H9 _)⟩
def aO{x:Option Vb}{a b:Vb}(e:x=some a)(q:x=some b):a=b:=ax (e.symm.trans q)
def bN{x:Option Vb}{a:Vb}(e:x=none)(q:x=some a):Vh:=by rw[e]at q;cases q
def yq(h:b<=a)(g:IF x b=true):x<a:=aJ (bW g) h
def sm(h:¬0<a):a=0:=LG h
def ms(h:a<b)(g:¬a=b-1):a<b-1:=Ir (Ib h) g
def sn(h:¬a<b):¬(a<b/\Vh):=λ q=>h q.1
def oM(h:¬a<=b):¬(a<=b/\Vh):=λ q=>h q.1
def yr(h:a<=b)(g:x<Vs):a<=b/\x<Vs:=⟨h,g⟩
def yt(h:a<b)(g:x<a):a-1<b-1:=aJ (Km (I' g) Kf) (Ib h)
def oN(h:1<=a):a-1<a:=Km h Kf
def mv(h:a<b):a+1+(b-(a+1))<=b:=Ja (Jb h)
def yu(h:¬b<=a):(a+b)/2+1<=b:=Ru (Nat.two_mul b▸NT (MY h) b)
def so(h:x<b)(g:b<a):0+a-1-b<0+a-1-x:=by
 rw[Ik];exact N9 (aJ h (Ib g)) h
def sp(h:b<x)(g:x<a):0+a-1-b<a:=by
 rw[Ik,MI];exact Km (I' g) (I' (S1 _ Kf))
def sq(h:a<=b):a+(0+1)<=b+1+x:=an (H8 h) (dx _ _)
def sr(h:a<x)(g:x<b):0<=a/\a<b:=⟨dk _,LC h g⟩
def ss(h:a<b):0<=a/\a<b:=⟨dk _,h⟩
def yv(h:¬b<x)(g:a<=x)(k:¬a<b):a=b:=Mc (an g (b'.mp h)) (b'.mp k)
def yw(h:¬b<a)(g:¬a<b):a=b:=Mc (b'.mp h) (b'.mp g)
def kL(h:b<=x)(g:¬b<=a):(a+b)/2<x:=by
 rw[Nx NR,NS];exact PY (aJ (IQ.mp g) h) h
def oO(h:¬b<=a):a<=(a+b)/2:=by
 rw[Q' NR,NS];exact bX (bn (IQ.mp h)) a
def oP(e:x=b)(h:a<b+1)(g:Vs<a):a-1<b:=aJ (Km (I' g) Kf) (IB h)
def yx(h:a<=b+Vs):a+1<=b+1+x+(Vs+1+V5):=an (H8 h) (IU (an (I5 b) (dx _ x)) (dx (Vs+1) V5))
def yy(h:a<=b+Vs):a+1<=b+1+x+Vs:=an (an (H8 h) (Ja (OY b Vs).symm)) (gp (dx (b+1) x) Vs)
def yz(h:a<=b+x):a+1<=b+(x+1+Vs):=an (H8 h) (bX (dx (x+1) Vs) b)
def su:10*(a+1)+b=10+(10*a+b):=by rw[Nat.mul_succ,IC (10*a) 10,K9]
def yA(h:a<b)(g:(a+b)/2<x):(a+b)/2+1<=b:=by
 refine Nat.succ_le_of_lt ?_;rw[Nx NR,NS];exact NT h b
def yB(h:x<=a)(g:a-x<=0)(k:x<=b):a<=b:=an (LA.mp (Nat.le_zero.mp g)) k
def yC(h:a<x)(g:b<=a):a<b+(x-b):=by rw[Jb (an g (bn h))];exact h
def yD(h:x<b)(g:x=a):a<=b-1:=Ib (g▸h)
def aQ{a:Vb}(h:none=some a):Vh:=by cases h
def c7{a:Vb}(h:some a=none):Vh:=by cases h
def aj(h:(Vh->False)->False):Vh:=II h
def mw(h:a<=b+1+x):a<=b+(x+1):=by rw[<-MO];exact h
def yE(h:x<=b):¬(a<=b/\b<x):=λ q=>b'.mpr h q.2
def oQ(h:a<=x)(g:x<b):a+b-1-x<b:=Qa (Ib (aJ g (Iu b a))) (aJ (Km (aJ (I' g) (Iu b a)) Kf) (gp h b))
def oR(h:x<b):a<=a+b-1-x:=Rt (Ib (N' h a))
def yF(h:x<Vs)(g:Vs<b):a+b-1-Vs<a+b-1-x:=N9 (aJ h (Ib (aJ g (Iu b a)))) h
def sv:¬(Vh/\a<a):=λ h=>Iw _ h.2
def yG(h:b+1<=a):a-(b+1)<=a-1/\a-1<a:=⟨RQ (Iu 1 b) a,Km (aJ (Js b) h) Kf⟩
def yH(h:b+1<=a)(g:0<b):a-(b+1)+a-1-(a-1)<a-1:=by
 rw[Nat.add_sub_assoc (an (Iu 1 b) h),Sa];exact N9 (aJ (SY g) h) (SY g)
def yI(h:b-a<=x+1)(e:¬b<=a):(a+b)/2-a<=x:=IB (aJ (Nat.sub_lt_sub_right (oO e) (kL (aB _) e)) h)
def yJ(h:b-a<=x+1)(e:¬b<=a):b-((a+b)/2+1)<=x:=an (RQ (H8 (oO e)) b) (by show b-(a+1)<=x;rw[Nat.sub_add_eq];exact Nat.sub_le_of_le_add h)
def yK(d:x<=b)(c:a<b+1)(e:¬a=x)(f:¬(x<a/\a<=b)):a<b:=aJ (Ir (b'.mp λ g=>f ⟨g,IB c⟩) e) d
def yL(h:a<b)(e:a=x):¬b=x:=λ q=>br h (e.trans q.symm)
def sw(h:b<a):¬a=b:=IA h
def yM(h:a<=b+(x+1)):a<=b+1+x:=by rw[MO];exact h
def yN(h:b<=x)(g:a<b):(a+b)/2<x:=by
 rw[Nx NR,NS];exact PY (aJ g h) h
def oS(h:a+10*(b+1)+20<x):a+1+10*b+20<x:=bz (gp (by rw[K9,IC 1];exact bX (bX (by decide:1<=10) (10*b)) a) 20) h
def yO(h:a+10*(b+1)+20<x):a+10*b+20<x:=bz (gp (bX (dx (10*b) 10) a) 20) h
def mx(h:a+60*(b+1)+200<x)(g:LH Vs 60=true):a+Vs+60*b+200<x:=bz (gp (by rw[K9,IC Vs];exact bX (bX (bW g) (60*b)) a) 200) h
def sx(h:a+60*b+200<x)(g:LH Vs 200=true):a+Vs<x:=bz (IU (dx a (60*b)) (bW g)) h
def yP(h:a+Vs<b)(g:LH x Vs=true):a+x<b:=bz (bX (bW g) a) h
def oT(h:a+V5<b)(d:x<=9)(g:LH 9 V5=true):a+min x Vs<b:=bz (bX (an (Nk x Vs) (an d (bW g))) a) h
def yQ(h:a+200<b)(d:Vs<=9):a+1+min x Vs<b:=bz (by rw[K9];exact bX (an (bX (an (KS x Vs) d) 1) (by decide)) a) h
def kM(h:bF (C<=0)=true):C<=(a:Int):=J0 (of_decide_eq_true h) (IH a)
def yR(h:bF (C<=-1)=true):C<=(a:Int)-1:=J0 (of_decide_eq_true h) (Int.sub_le_sub_right (IH a) 1)
def yS(h:b<a):(a:Int)-1+b*-1=((a-1-b:Nat):Int):=by rw[Int.mul_neg_one,<-Sh,Og (Ib h),Og (bz (dk b) h)];rfl
def yT(h:b<a):(b:Int)+1=a-((a-1-b:Nat):Int):=by rw[MI,IC 1,Og h,Int.sub_sub_self];rfl
def my(h:a<=b)(g:IF (b+1) x=true):((a:Int)+1).natAbs<x:=bz (H8 h) (bW g)
def sy(h:a<=10)(g:b<=10):0+(5+(a+(9+(b+0))))<=40:=an (bX (bX (IU h (bX g 9)) 5) 0) (by decide)
def yU:(1:Int)<=a+1:=Int.add_le_add_right (IH a) 1
def yV:(-1+((a:Int)+1)).toNat=a:=by rw[Un (-1),<-Sh,Int.add_sub_cancel];rfl
def yW(c:(a:Int)+x<2^62)(d:b<=x):((a+b:Nat):Int)<2^63:=Ko (Int.add_le_add_left (JZ.mpr d) (a:Int)) (LI c (by decide))
def oU(h:a+b<x)(g:x<=Vs)(k:bF ((Vs:Int)<C)=true):(a:Int)+b<C:=Ko (JZ.mpr (an (bn h) g):((a+b:Nat):Int)<=Vs) (of_decide_eq_true k)
def oV:(C%4).toNat<4:=(O0 (Jz _ (by decide))).mpr (Jp _ (by decide))
def sC:(C%16).toNat<16:=(O0 (Jz _ (by decide))).mpr (Jp _ (by decide))
def oW(h:a<=14*x)(d:x<Vs)(e:Vs<=100)(c:b<=10):a+b<=1410:=IU (an h (RS 14 (an (bn d) e))) c
def yX(h:a<=9):a+1+b+(9-a)=10+b:=(by rw[OB,OB a 1,Jb h]:a+1+b+(9-a)=9+1+b)
def yY:10*(a+15)=10*13+(10*(a+1)+10):=(congrArg (10*·) (IC (a+2) 13)).trans (UG 10 13 (a+2))
def yZ(h:x+1<=b-a):a+(x+1)<=b:=(Nat.le_sub_iff_add_le' (bn (Sv (aJ (Js x) h)))).mp h
def y0(h:a-1-b<x)(c:x<a):a-1-x<b:=MY λ d=>IQ.mpr h (Rt (by rw[IC];exact Nat.add_le_of_le_sub (Ib c) d))
def y1(h:a<b+1):10*(b+1)+10=10*a+(10*(b+1-a)+9+1):=(congrArg (λ x=>10*x+10) (Jb (bn h)).symm).trans (congrArg (·+10) (UG 10 a (b+1-a)))
def y2(c:b<a)(q:¬b<=x):a-b+x<a:=OA (N' (IQ.mp q) (a-b)) (Lh (bn c))
def mz(h:C<=Vq)(g:¬C=Vq):C<Vq:=Int.lt_iff_le_and_ne.mpr ⟨h,g⟩
def oX(h:0<=C/\C<Vq/\Vh)(g:bF (Vq<=Wa)=true):C<Wa:=Kn h.2.1 (of_decide_eq_true g)
def sD(h:a<=b)(g:IF (b*5) x=true):a*5<x:=bz (KN 5 h) (bW g)
def sE(e:a<x)(f:b<Vs)(g:x+Vs<=a+b):Vh:=absurd g (IQ.mpr (Nat.add_lt_add e f))
def sF(h:a*5<21):a<64:=bz (Nat.le_mul_of_pos_right a (by decide)) (LC h (by decide))
def H4(h:a<=x)(k:LH x b=true)(g:¬(a:Int)<b):a=b:=Mc (an h (bW k)) (JZ.mp (JO.mp g))
def oY(a:0<=C):(if 0<C then C-0 else 0)=(C.toNat:Int):=by
 rw[K5 a];split;·exact Int.sub_zero C
 ·rename_i q;exact Me a (JO.mp q)
def oZ(h:a<2):a=0\/a=1:=(MP.mp h).imp LF.mp id
def mA(h:a<4):a=0\/a=1\/a=2\/a=3:=(MP.mp h).elim (λ h=>(MP.mp h).elim (λ h=>(oZ h).elim .inl λ e=>.inr (.inl e)) λ e=>.inr (.inr (.inl e))) λ e=>.inr (.inr (.inr e))
def sG{c b p:Vb}(h:[c,b][a]?=some p):(a=0/\c=p)\/(a=1/\b=p):=by
 rcases a with _|a;·exact .inl ⟨rfl,ax h⟩
 ·cases a with
  |zero=>exact .inr ⟨rfl,ax h⟩|succ a=>exact aQ h
def ey{x:Option Vb}(f:x=none->Vh)(g:∀a,x=some a->Vh):Vh:=by
 rcases x with _|a;·exact f rfl
 ·exact g a rfl
def gy(f:M=ap->Vh)(g:M=true->Vh):Vh:=by
 rcases M with _|_;·exact f rfl
 ·exact g rfl
def am{P0 a:Prop}(h:P0/\a)(f:P0->a->Vh):Vh:=by
 obtain⟨b,c⟩:=h;exact f b c
def a4{P0 a b:Prop}(h:P0/\a/\b)(f:P0->a->b->Vh):Vh:=by
 obtain⟨c,d,e⟩:=h;exact f c d e
def iB{P0 a b c:Prop}(h:P0/\a/\b/\c)(f:P0->a->b->c->Vh):Vh:=by
 obtain⟨d,e,g,i⟩:=h;exact f d e g i
def d6{P0 a b c d:Prop}(h:P0/\a/\b/\c/\d)(f:P0->a->b->c->d->Vh):Vh:=by
 obtain⟨e,g,i,j,k⟩:=h;exact f e g i j k
def mB{P0 a b c d e:Prop}(h:P0/\a/\b/\c/\d/\e)(f:P0->a->b->c->d->e->Vh):Vh:=by
 obtain⟨g,i,j,k,l,m⟩:=h;exact f g i j k l m
def sH{P0 a b c d e g i:Prop}(h:P0/\a/\b/\c/\d/\e/\g/\i)(f:P0->a->b->c->d->e->g->i->Vh):Vh:=by
 obtain⟨j,k,l,m,n,o,p,q⟩:=h;exact f j k l m n o p q
def ai.{c}{d:Sort c}{P0:d->Prop}(h:∃a,P0 a)(f:∀a,P0 a->Vh):Vh:=by
 obtain⟨a,b⟩:=h;exact f a b
def ak.{e}{g:Sort e}{P0 b:g->Prop}(h:∃a,P0 a/\b a)(f:∀a,P0 a->b a->Vh):Vh:=by
 obtain⟨a,c,d⟩:=h;exact f a c d
def ci.{i}{j:Sort i}{P0 b c:j->Prop}(h:∃a,P0 a/\b a/\c a)(f:∀a,P0 a->b a->c a->Vh):Vh:=by
 obtain⟨a,d,e,g⟩:=h;exact f a d e g
def mC.{k}{l:Sort k}{P0 b c d:l->Prop}(h:∃a,P0 a/\b a/\c a/\d a)(f:∀a,P0 a->b a->c a->d a->Vh):Vh:=by
 obtain⟨a,e,g,i,j⟩:=h;exact f a e g i j
def sI.{q}{r:Sort q}{P0 b c d e g i:r->Prop}(h:∃a,P0 a/\b a/\c a/\d a/\e a/\g a/\i a)(f:∀a,P0 a->b a->c a->d a->e a->g a->i a->Vh):Vh:=by
 obtain⟨a,j,k,l,m,n,o,p⟩:=h;exact f a j k l m n o p
def cP.{d,e}{g:Sort d}{i:Sort e}{P0:g->i->Prop}(h:∃a b,P0 a b)(f:∀a b,P0 a b->Vh):Vh:=by
 obtain⟨a,b,c⟩:=h;exact f a b c
def aW.{g,i}{j:Sort g}{k:Sort i}{P0 c:j->k->Prop}(h:∃a b,P0 a b/\c a b)(f:∀a b,P0 a b->c a b->Vh):Vh:=by
 obtain⟨a,b,d,e⟩:=h;exact f a b d e
def bS.{j,k}{l:Sort j}{m:Sort k}{P0 c d:l->m->Prop}(h:∃a b,P0 a b/\c a b/\d a b)(f:∀a b,P0 a b->c a b->d a b->Vh):Vh:=by
 obtain⟨a,b,e,g,i⟩:=h;exact f a b e g i
def di.{l,m}{n:Sort l}{o:Sort m}{P0 c d e:n->o->Prop}(h:∃a b,P0 a b/\c a b/\d a b/\e a b)(f:∀a b,P0 a b->c a b->d a b->e a b->Vh):Vh:=by
 obtain⟨a,b,g,i,j,k⟩:=h;exact f a b g i j k
def mD.{n,o}{p:Sort n}{q:Sort o}{P0 c d e g:p->q->Prop}(h:∃a b,P0 a b/\c a b/\d a b/\e a b/\g a b)(f:∀a b,P0 a b->c a b->d a b->e a b->g a b->Vh):Vh:=by
 obtain⟨a,b,i,j,k,l,m⟩:=h;exact f a b i j k l m
def iC.{e,g,i}{j:Sort e}{k:Sort g}{l:Sort i}{P0:j->k->l->Prop}(h:∃a b c,P0 a b c)(f:∀a b c,P0 a b c->Vh):Vh:=by
 obtain⟨a,b,c,d⟩:=h;exact f a b c d
def eb.{i,j,k}{l:Sort i}{m:Sort j}{n:Sort k}{P0 d:l->m->n->Prop}(h:∃a b c,P0 a b c/\d a b c)(f:∀a b c,P0 a b c->d a b c->Vh):Vh:=by
 obtain⟨a,b,c,e,g⟩:=h;exact f a b c e g
def o2.{k,l,m}{n:Sort k}{o:Sort l}{p:Sort m}{P0 d e:n->o->p->Prop}(h:∃a b c,P0 a b c/\d a b c/\e a b c)(f:∀a b c,P0 a b c->d a b c->e a b c->Vh):Vh:=by
 obtain⟨a,b,c,g,i,j⟩:=h;exact f a b c g i j
def bI.{m,n,o}{p:Sort m}{q:Sort n}{r:Sort o}{P0 d e g:p->q->r->Prop}(h:∃a b c,P0 a b c/\d a b c/\e a b c/\g a b c)(f:∀a b c,P0 a b c->d a b c->e a b c->g a b c->Vh):Vh:=by
 obtain⟨a,b,c,i,j,k,l⟩:=h;exact f a b c i j k l
def o3.{o,p,q}{r:Sort o}{s:Sort p}{t:Sort q}{P0 d e g i:r->s->t->Prop}(h:∃a b c,P0 a b c/\d a b c/\e a b c/\g a b c/\i a b c)(f:∀a b c,P0 a b c->d a b c->e a b c->g a b c->i a b c->Vh):Vh:=by
 obtain⟨a,b,c,j,k,l,m,n⟩:=h;exact f a b c j k l m n
def o5.{l,m,n,o}{p:Sort l}{q:Sort m}{r:Sort n}{s:Sort o}{P0 e g:p->q->r->s->Prop}(h:∃a b c d,P0 a b c d/\e a b c d/\g a b c d)(f:∀a b c d,P0 a b c d->e a b c d->g a b c d->Vh):Vh:=by
 obtain⟨a,b,c,d,i,j,k⟩:=h;exact f a b c d i j k
def du.{n,o,p,q}{r:Sort n}{s:Sort o}{t:Sort p}{u:Sort q}{P0 e g i:r->s->t->u->Prop}(h:∃a b c d,P0 a b c d/\e a b c d/\g a b c d/\i a b c d)(f:∀a b c d,P0 a b c d->e a b c d->g a b c d->i a b c d->Vh):Vh:=by
 obtain⟨a,b,c,d,j,k,l,m⟩:=h;exact f a b c d j k l m
def o6.{p,q,r,s}{t:Sort p}{u:Sort q}{v:Sort r}{w:Sort s}{P0 e g i j:t->u->v->w->Prop}(h:∃a b c d,P0 a b c d/\e a b c d/\g a b c d/\i a b c d/\j a b c d)(f:∀a b c d,P0 a b c d->e a b c d->g a b c d->i a b c d->j a b c d->Vh):Vh:=by
 obtain⟨a,b,c,d,k,l,m,n,o⟩:=h;exact f a b c d k l m n o
def o7.{q,r,s,t,u}{v:Sort q}{w:Sort r}{x:Sort s}{y:Sort t}{z:Sort u}{P0 g i j k:v->w->x->y->z->Prop}(h:∃a b c d e,P0 a b c d e/\g a b c d e/\i a b c d e/\j a b c d e/\k a b c d e)(f:∀a b c d e,P0 a b c d e->g a b c d e->i a b c d e->j a b c d e->k a b c d e->Vh):Vh:=by
 obtain⟨a,b,c,d,e,l,m,n,o,p⟩:=h;exact f a b c d e l m n o p
def aH{A B G:Prop}(h:A\/B)(f:A->G)(g:B->G):G:=h.elim f g
def ez{A B C G:Prop}(h:A\/B\/C)(f:A->G)(g:B->G)(k:C->G):G:=h.elim f λ h=>h.elim g k
def dv{P0 a:Prop}(b:P0)(c:a):P0/\a:=⟨b,c⟩
def b3{P0 a b:Prop}(c:P0)(d:a)(e:b):P0/\a/\b:=⟨c,d,e⟩
def iD{P0 a b c:Prop}(d:P0)(e:a)(f:b)(g:c):P0/\a/\b/\c:=⟨d,e,f,g⟩
def g1{P0 a b c d:Prop}(e:P0)(f:a)(g:b)(h:c)(i:d):P0/\a/\b/\c/\d:=⟨e,f,g,h,i⟩
def bj.{f}{c:Sort f}{P0 b:c->Prop}(a:c)(d:P0 a)(e:b a):∃a,P0 a/\b a:=⟨a,d,e⟩
def dU.{h}{d:Sort h}{P0 b c:d->Prop}(a:d)(e:P0 a)(f:b a)(g:c a):∃a,P0 a/\b a/\c a:=⟨a,e,f,g⟩
def o8.{j}{e:Sort j}{P0 b c d:e->Prop}(a:e)(f:P0 a)(g:b a)(h:c a)(i:d a):∃a,P0 a/\b a/\c a/\d a:=⟨a,f,g,h,i⟩
def dw.{h,i}{d:Sort h}{e:Sort i}{P0 c:d->e->Prop}(a:d)(b:e)(f:P0 a b)(g:c a b):∃a b,P0 a b/\c a b:=⟨a,b,f,g⟩
def kN.{j,k}{e:Sort j}{f:Sort k}{P0 c d:e->f->Prop}(a:e)(b:f)(g:P0 a b)(h:c a b)(i:d a b):∃a b,P0 a b/\c a b/\d a b:=⟨a,b,g,h,i⟩
def kO.{l,m}{f:Sort l}{g:Sort m}{P0 c d e:f->g->Prop}(a:f)(b:g)(h:P0 a b)(i:c a b)(j:d a b)(k:e a b):∃a b,P0 a b/\c a b/\d a b/\e a b:=⟨a,b,h,i,j,k⟩
def o9.{p,q}{h:Sort p}{i:Sort q}{P0 c d e f g:h->i->Prop}(a:h)(b:i)(j:P0 a b)(k:c a b)(l:d a b)(m:e a b)(n:f a b)(o:g a b):∃a b,P0 a b/\c a b/\d a b/\e a b/\f a b/\g a b:=⟨a,b,j,k,l,m,n,o⟩
def mE.{j,k,l}{e:Sort j}{f:Sort k}{g:Sort l}{P0 d:e->f->g->Prop}(a:e)(b:f)(c:g)(h:P0 a b c)(i:d a b c):∃a b c,P0 a b c/\d a b c:=⟨a,b,c,h,i⟩
def sJ.{l,m,n}{f:Sort l}{g:Sort m}{h:Sort n}{P0 d e:f->g->h->Prop}(a:f)(b:g)(c:h)(i:P0 a b c)(j:d a b c)(k:e a b c):∃a b c,P0 a b c/\d a b c/\e a b c:=⟨a,b,c,i,j,k⟩
def kP.{n,o,p}{g:Sort n}{h:Sort o}{i:Sort p}{P0 d e f:g->h->i->Prop}(a:g)(b:h)(c:i)(j:P0 a b c)(k:d a b c)(l:e a b c)(m:f a b c):∃a b c,P0 a b c/\d a b c/\e a b c/\f a b c:=⟨a,b,c,j,k,l,m⟩
def sK.{p,q,r}{h:Sort p}{i:Sort q}{j:Sort r}{P0 d e f g:h->i->j->Prop}(a:h)(b:i)(c:j)(k:P0 a b c)(l:d a b c)(m:e a b c)(n:f a b c)(o:g a b c):∃a b c,P0 a b c/\d a b c/\e a b c/\f a b c/\g a b c:=⟨a,b,c,k,l,m,n,o⟩
def sL.{r,s,t}{i:Sort r}{j:Sort s}{k:Sort t}{P0 d e f g h:i->j->k->Prop}(a:i)(b:j)(c:k)(l:P0 a b c)(m:d a b c)(n:e a b c)(o:f a b c)(p:g a b c)(q:h a b c):∃a b c,P0 a b c/\d a b c/\e a b c/\f a b c/\g a b c/\h a b c:=⟨a,b,c,l,m,n,o,p,q⟩
def g2.{p,q,r,s}{h:Sort p}{i:Sort q}{j:Sort r}{k:Sort s}{P0 e f g:h->i->j->k->Prop}(a:h)(b:i)(c:j)(d:k)(l:P0 a b c d)(m:e a b c d)(n:f a b c d)(o:g a b c d):∃a b c d,P0 a b c d/\e a b c d/\f a b c d/\g a b c d:=⟨a,b,c,d,l,m,n,o⟩
section
set_option genInjectivity false
abbrev Bq(M:LL)(A:aq)(f:Vb->Sem Wr)(Q:Wr->aa->Prop)(E:ab->aa->Prop)(a:Vb)(s:aa):Prop:=aA M A (f a) Q E s
def al{x:Sem Vb}{f:Vb->Sem Wr}{Q:Wr->aa->Prop}(h:aA VK o x (Bq VK o f Q y) y q):aA VK o (x>>=f) Q y q:=af h
structure Ob where
 Γ:Ctx
 p:Pos
 before:fl
 r:JH
 after:fl
noncomputable def SharedT.gen(s:fl)(g:Nat)(x:KG):fl:=⟨s.tree,s.n,s.life,s.gens.setIfInBounds g x,s.drawn,s.toks,s.os⟩
noncomputable def d7(b:Bool)(x:Option Vb):Option Vb:=match b with
 |true=>x|ap=>none
def gc{x:Option Vb}{y:Vb}(h:d7 M x=some y):M=true/\x=some y:=by
 cases M;·exact aQ h
 ·exact⟨rfl,h⟩
def e6{x:Option Vb}{f:Vb->Option Wr}{y:Wr}(h:x.bind f=some y):∃a,x=some a/\f a=some y:=dg.mp h
def y4{x:Option Vb}{d:Option Wr}{f:Vb->Option Wr}{y:Wr}(h:x.elim d f=some y):(x=none/\d=some y)\/∃a,x=some a/\f a=some y:=by
 cases x;·exact .inl ⟨rfl,h⟩
 ·exact .inr ⟨_,rfl,h⟩
noncomputable def o'(s:fl)(a:ae):Option Obj:=d7 (IF a s.n) ((s.tree.get a).bind alive)
noncomputable def pa(s:fl)(a:ae):Option (Option Obj):=match IF a s.n with
 |true=>(s.tree.get a).map alive|ap=>some none
noncomputable def sM:Resume->Bool
 |.send .none=>true|_=>ap
abbrev e7:=End×fl×List Ob
noncomputable def kQ(WQ:Nv->Sem Fin)(z:dQ)(w:ar)(u:Ctx->Pos->fl->Option (JH×fl))(n:Nat):Ctx->Pos->fl->List Ob->Sem Fin->Option e7:=n.rec (motive:=λ _=>Ctx->Pos->fl->List Ob->Sem Fin->Option e7) (λ _ _ _ _ _=>none) λ _ R b p WK d t=>t.casesOn (motive:=λ _=>Option e7) (λ f=>f.casesOn (motive:=λ _=>Option e7) (λ f=>some (.ret (.ok f),WK,d)) λ WM=>d7 WM.quiet (R (b.goto WM) p WK d (WQ WM))) (λ e=>some (.ret (.error e),WK,d)) (λ _=>none) (λ _=>none) (λ _ k=>R b p WK d (k ())) (λ y k=>R b y WK d (k ())) (λ WO _ k=>(o' WK WO).bind λ WP=>R b p WK d (k WP)) (λ WO _ g k=>(o' WK WO).bind λ _=>R b p ⟨WK.tree.set WO g,WK.n,WK.life,WK.gens,WK.drawn,WK.toks,WK.os⟩ d (k ())) (λ WP k=>d7 ((WK.tree.ins WK.n WP).get WK.n).isSome (R b p ⟨WK.tree.ins WK.n WP,WK.n+1,WK.life,WK.gens,WK.drawn,WK.toks,WK.os⟩ d (k WK.n))) (λ WO k=>(pa WK WO).bind λ WP=>R b p WK d (k WP)) (λ _ k=>R b p WK d (k ())) (λ _ _=>none) (λ k=>R b p ⟨WK.tree,WK.n,WK.life,WK.gens,WK.drawn,WK.toks+1,WK.os⟩ d (k WK.toks)) (λ k=>R b p WK d (k ⟨z,w.params⟩)) (λ _ _ _=>none) (λ _ _ _=>none) (λ WM h _ _ k=>(u (b.enter WM h p) p WK).elim ((R (b.enter WM h p) p WK d (WQ WM)).bind λ x=>match x with|(e,i,j)=>match e with
     |.ret r=>R b p i j (k r)|.susp ..=>none) λ x=>match x with|(r,i)=>R b p i (⟨b.enter WM h p,p,WK,r,i⟩::d) (k r)) (λ own k=>R b p WK d (k (if own then b.own else b.handled))) (λ WM k=>R b p ⟨WK.tree,WK.n,WK.life,WK.gens.push (.fresh WM),WK.drawn,WK.toks,WK.os⟩ d (k WK.gens.size)) (λ g k=>(WK.gens[g]?).bind λ st=>R b p WK d (k st.seen)) (λ g r _ k=>(WK.gens[g]?).bind λ st=>match st with
   |.fresh WM=>d7 (sM r) ((R (b.wake WM p) p (SharedT.gen WK g .running) d (WQ WM)).bind λ x=>match x with|(e,i,j)=>d7 e.quiet (R b p (SharedT.gen i g e.genState) j (k e.result)))|.suspended WR _ WM q m _=>d7 m.isEmpty ((R (b.wake WM p) q (SharedT.gen WK g .running) d (WR r)).bind λ x=>match x with|(e,i,j)=>d7 e.quiet (R b p (SharedT.gen i g e.genState) j (k e.result)))|.finished=>R b p WK d (k .finished)|.running=>none) (λ v g l k=>some (.susp v g l k b.code p [],WK,d)) (λ k=>R b p WK d (k ((b.code,p)::b.below))) (λ _ _=>none) (λ k=>R b p WK d (k 0)) (λ _ _ _ _ _=>none)
def Ob.Valid(WK:dQ)(WL:ar)(o:Ob):Prop:=Returns (au WK WL) o.Γ o.p o.before.abs o.r o.after.abs
def Ob.g3(a:Ctx->Pos->fl->Option (JH×fl))(o:Ob):Prop:=a o.Γ o.p o.before=some (o.r,o.after)
def db(b:IF h V6.n=true)(c:V6.tree.get h=some O)(d:alive O=some VQ):V6.abs.heap.get? h=some VQ:=by
 show(R2 V6.tree V6.n V6.life).get? h=some VQ;rw[abs_get (bW b) c,d]
def sO(b:o' V6 h=some O):V6.abs.heap.get? h=some O/\∃x,V6.tree.get h=some x:=by exact aj λ f=>am (gc b) λ d b=>ak (e6 b) λ x c e=>f ⟨db d c e,x,c⟩
def y5{o:Option Obj}(b:pa V6 h=some o):V6.abs.heap.get? h=o:=by
 show(R2 V6.tree V6.n V6.life).get? h=o;unfold pa at b;rcases c:IF h V6.n with _|_
 · rw[c]at b;obtain rfl:=ax b;exact abs_get_none λ q=>by rw[show IF h V6.n=true from Ny q]at c;cases c
 · rw[c]at b;refine ak (bh.mp b) λ x d e=>?_;rw[abs_get (bW c) d,e]
def hJ(WK:dQ)(WL:ar)(b:Ctx->Pos->fl->Option (JH×fl))(c:Ctx)(p:Pos)(s:fl)(a:List Ob)(t:Sem Fin)(y:e7):Prop:=(∃new,y.2.2=new++a/\∀o∈new,o.g3 b)/\((∀o∈y.2.2,o.Valid WK WL)->T' (au WK WL) c p t [] s.abs y.1 y.2.1.abs)
def hJ.map{b:Ctx->Pos->fl->Option (JH×fl)}{g h:Ctx}{s d:fl}{a:List Ob}{t e:Sem Fin}{y:e7}(T:hJ Vj c b g v s a t y)(f:T' (au Vj c) g v t [] s.abs y.1 y.2.1.abs->T' (au Vj c) h J e [] d.abs y.1 y.2.1.abs):hJ Vj c b h J d a e y:=⟨T.1,λ i=>f (T.2 i)⟩
def hJ.two{d:Ctx->Pos->fl->Option (JH×fl)}{m n:Ctx}{s i:fl}{h:List Ob}{t j:Sem Fin}{x y:e7}(T:hJ Vj c d m v s h t x)(r:hJ Vj c d n J i x.2.2 j y){k:Sem Fin}(f:T' (au Vj c) m v t [] s.abs x.1 x.2.1.abs->T' (au Vj c) n J j [] i.abs y.1 y.2.1.abs->T' (au Vj c) Wl Vg k [] V6.abs y.1 y.2.1.abs):hJ Vj c d Wl Vg V6 h k y:=by
 refine aj λ E=>?_;refine am T λ e u=>?_;refine ak e λ C g A=>?_;refine am r λ e z=>?_;refine ak e λ D a B=>?_;refine E ?_;rw[g,<-jB]at a;refine⟨⟨D++C,a,λ o b=>?_⟩,λ l=>f (u λ o b=>l o ?_) (z l)⟩
 · refine aH (k9.mp b) (λ q=>?_) λ q=>?_;·exact B o q
   ·exact A o q
 ·simp only[a,jB,<-g];exact iq _ b
def y6{r:Resume}(h:sM r=true):r=.send .none:=by cases r with
 |throw=>cases h|send v=>cases v<;>first|rfl|cases h
def sP(J:dQ)(w:ar)(H:Ctx->Pos->fl->Option (JH×fl))(n:Nat):∀(A:Ctx)(p:Pos)(s:fl)(u:List Ob)(t:Sem Fin)(y:e7),kQ (Lc Kj) J w H n A p s u t=some y->hJ J w H A p s u t y:=by induction n with
 |zero=>intro _ _ _ _ _ _ WK;exact aQ WK|succ n WL=>
   intro A p s u t y WK;cases t with
   |pure f=>cases f with
     |done f=>obtain rfl:=ax WK;exact⟨⟨[],rfl,λ _ WK=>nomatch WK⟩,λ _=>.done⟩|again c=>exact am (gc WK) λ m WK=>(WL _ _ _ _ _ _ WK).map (.again m)
   |raise x=>obtain rfl:=ax WK;exact⟨⟨[],rfl,λ _ WK=>nomatch WK⟩,λ _=>.raise⟩|rule WT k=>exact(WL _ _ _ _ _ _ WK).map .rule|«at»q k=>exact(WL _ _ _ _ _ _ WK).map .at|point l k=>exact(WL _ _ _ _ _ _ WK).map .point|load a q k=>exact aj λ d=>ak (e6 WK) λ o WN WK=>d ((WL _ _ _ _ _ _ WK).map (.load (sO WN).1))|update a q g k=>
     refine ak (e6 WK) λ o WN WK=>?_;obtain⟨L,x,M⟩:=sO WN;refine(WL _ _ _ _ _ _ WK).map λ WM=>.update (by rw[L];rfl) ?_;unfold Nb at WM;dsimp only at WM;rw[absHeap_set M]at WM;exact WM|alloc o k=>
     refine am (gc WK) λ WN WK=>(WL _ _ _ _ _ _ WK).map λ WM=>.alloc ?_;unfold Nb at WM;dsimp only at WM;rw[SN WN]at WM;show T' _ _ _ (k (R2 s.tree s.n s.life).objs.size) _ _ _ _;rw[PC];exact WM|loadIfAlive a k=>
     refine ak (e6 WK) λ o WN WK=>(WL _ _ _ _ _ _ WK).map λ WM=>.loadIfAlive ?_;rw[y5 WN];exact WM|fresh k=>exact(WL _ _ _ _ _ _ WK).map λ WM=>.fresh WM|ask k=>exact(WL _ _ _ _ _ _ WK).map .ask|handled own k=>exact(WL _ _ _ _ _ _ WK).map .handled|stack k=>exact(WL _ _ _ _ _ _ WK).map .stack|thread k=>exact(WL _ _ _ _ _ _ WK).map .thread|newGen c k=>exact(WL _ _ _ _ _ _ WK).map λ WM=>.newGen WM|genState g k=>exact ak (e6 WK) λ st WN WK=>(WL _ _ _ _ _ _ WK).map (.genState WN)|«yield»WQ g l k=>obtain rfl:=ax WK;exact⟨⟨[],rfl,λ _ WK=>nomatch WK⟩,λ _=>.yield⟩|call c N g l k=>
     refine aH (y4 WK) (λ T=>?_) λ U=>?_
     · refine am T λ _ WK=>aj λ d=>?_;refine ak (e6 WK) λ i WO WK=>?_;obtain⟨e,z,G⟩:=i;cases e with
       |susp=>exact aQ WK|ret r=>exact d ((WL _ _ _ _ _ _ WO).two (WL _ _ _ _ _ _ WK) .call)
     · refine ak U λ q Q WK=>aj λ d=>?_;obtain⟨r,z⟩:=q;refine am (WL _ _ _ _ _ _ WK) λ i WM=>?_;refine ak i λ new E O=>?_;refine d ?_;refine⟨⟨new++[_],by rw[E];exact(jB new [_] u).symm,λ o j=>?_⟩,λ WQ=>.call ?_ (WM WQ)⟩;rotate_left;·exact WQ ⟨A.enter c N p,p,s,r,z⟩ (by rw[E];exact iq _ (.head _))
       refine aH (k9.mp j) (λ j=>?_) λ j=>?_;·exact O o j
       ·simp only[aI.mp j];exact Q|resume g r l k=>
     refine ak (e6 WK) λ st C WK=>?_;cases st with
     |running=>exact aQ WK|finished=>exact(WL _ _ _ _ _ _ WK).map (.resumeFinished C)|fresh c=>
       refine aj λ d=>am (gc (show d7 _ _=some y from WK)) λ D WN=>?_;obtain rfl:=y6 D;refine ak (e6 WN) λ i WO B=>?_;obtain⟨e,z,G⟩:=i;exact am (gc (show d7 _ _=some y from B)) λ m WP=>d ((WL _ _ _ _ _ _ WO).two (WL _ _ _ _ _ _ WP) λ a WM=>.resumeFresh C a m WM)|suspended WR WS c q Y V=>
       refine aj λ d=>am (gc (show d7 _ _=some y from WK)) λ D WN=>?_;refine ak (e6 WN) λ i WO B=>?_;obtain⟨e,z,G⟩:=i;refine am (gc (show d7 _ _=some y from B)) λ m WP=>?_;obtain rfl:=O7.mp D;exact d ((WL _ _ _ _ _ _ WO).two (WL _ _ _ _ _ _ WP) λ a WM=>.resumeSuspended C a m WM)
   |_=>exact aQ WK
end
variable{Wt:Ob}
def bT[Decidable Vh]{a b:Sem Vb}{Q:Vb->aa->Prop}(h:¬Vh)(k:aA VK o b Q y q):aA VK o (if Vh then a else b) Q y q:=by rw[if_neg h];exact k
def eP[Decidable Vh]{a b:Sem Vb}{Q:Vb->aa->Prop}(h:Vh)(k:aA VK o a Q y q):aA VK o (if Vh then a else b) Q y q:=by rw[if_pos h];exact k
def gz{a b:Sem Vb}{Q:Vb->aa->Prop}(h:M=ap)(k:aA VK o b Q y q):aA VK o (if M=true then a else b) Q y q:=by subst h;exact k
def y7{a b:Sem Vb}{Q:Vb->aa->Prop}(h:M=true)(k:aA VK o a Q y q):aA VK o (if M=true then a else b) Q y q:=by subst h;exact k
noncomputable def dy:Data->Array (Int×ab)
 |.set a _ _=>a|_=>#[]
noncomputable def kR:Data->Nat
 |.set _ n _=>n|_=>0
noncomputable def eA:Data->cr
 |.set _ _ t=>t|_=>b2
noncomputable def g4(P:a3)(o:Obj)(x:Str)(v:ab):Array (Int×ab)×cr×Nat:=let L:=QI (eA o.data) (dy o.data) (mL P x) v;let a:cr:=if L.2.1.plain=true then{L.2.1 with plain:=ap}else L.2.1;if(!L.2.2.1&&a.tooFull)=true then let R:=Mk a L.1 (Ii L.1.size);(R.1,R.2.1,kR o.data+1+1)else(L.1,a,kR o.data+1)
noncomputable def cV(P:a3)(WN:Str)(WM:ab)(WK:Obj):Obj:=⟨WK.cls,WK.dict,.set (g4 P WK WN WM).1 (g4 P WK WN WM).2.2 (g4 P WK WN WM).2.1,WK.slots⟩
def mF{f g:Obj->Obj}(c:s.get? h=some O)(e:f O=g O):s.update h f=s.update h g:=by
 obtain⟨b,l⟩:=s;show MA (b.modify h f) l=MA (b.modify h g) l;have :b.modify h f=b.modify h g:=by
   apply K';intro i;simp only[IS,IS];by_cases q:h=i
   · subst q;rw[if_pos rfl,if_pos rfl];rw[((JK.mp c).1)];simp[e]
   ·rw[if_neg q,if_neg q]
 rw[this]
def sQ(h:a7)(a:ae)(f g:Obj->Obj):(h.update a f).update a g=h.update a (λ WL=>g (f WL)):=by
 obtain⟨b,l⟩:=h;show MA ((b.modify a f).modify a g) l=MA (b.modify a λ WL=>g (f WL)) l;have :(b.modify a f).modify a g=b.modify a λ WL=>g (f WL):=by
  apply K';intro i;rw[IS,IS,IS];by_cases q:a=i;·subst q;rw[if_pos rfl,if_pos rfl,if_pos rfl];cases b[a]?<;>rfl
  ·rw[if_neg q,if_neg q,if_neg q]
 rw[this]
def sR(WK:dQ)(WL:ar)(a:Array (Int×ab))(b:List Str):Prop:=∀k,k∈b↔∃e∈a.toList,(strKind WK WL).is k e.2=true
inductive bk(WK:dQ)(WL:ar)(o:Obj)(b:List Str):Prop|mk(c:o.cls=.type "frozenset")(d:o.dict=none)(k:o.slots=#[])(a:Array (Int×ab))(e:Nat)(t:cr)(f:o.data=.set a e t)(g:OI (strKind WK WL) a.toList)(i:sR WK WL a b)(j:a.size=b.length)(h:t.fits a.size=true)
def bk.cls{Vj:dQ}{c:ar}(g:bk Vj c O G):O.cls=.type "frozenset":=by
 obtain⟨a,_⟩:=g;exact a
def bk.kS(x:bk Vj c O G)(n:s.get? h=some O):FrozAt (strKind Vj c) s h (λ k=>bF (k∈G)) G.length:=by
 refine aj λ q=>?_;obtain⟨b,d,f,i,g,t,e,j,m,p,l⟩:=x;obtain⟨r,u,v,y⟩:=O;dsimp only at b d f e;subst b d f e;refine q ?_;exact sK i g t n j (λ k=>by simp only[decide_eq_true_eq];exact m k) p l
def iE(x:Str)(a:Tok):(strKind Vj c).is x (.str x a)=true:=isStrOf_self x a
def mG(g:bk Vj c O G)(WL:j∉G):bk Vj c (cV c.params j (.str j Vt) O) (G++[j]):=by
 refine aj λ U=>?_;obtain⟨B,d,T,b,s,t,u,m,J,M,WK⟩:=g;refine U ?_;have fin:∀{b s t},(cV c.params j (.str j Vt) O).data=.set b s t->OI (strKind Vj c) b.toList/\sR Vj c b (G++[j])/\b.size=(G++[j]).length/\t.fits b.size=true->bk Vj c (cV c.params j (.str j Vt) O) (G++[j]):=λ h k=>⟨B,d,T,_,_,_,h,k.1,k.2.1,k.2.2.1,k.2.2.2⟩;refine fin rfl ?_;have H:mL c.params j=(strKind Vj c).hash j:=rfl;have i:=SH t b ((strKind Vj c).hash j) (.str j Vt);have n:=layNew_fits t b ((strKind Vj c).hash j) (.str j Vt);have C:dy O.data=b:=by rw[u];rfl
 have D:eA O.data=t:=by rw[u];rfl
 unfold g4;rw[C,D,H];generalize QI t b ((strKind Vj c).hash j) (.str j Vt)=L at i n⊢;obtain⟨a,l,WN,V⟩:=L;dsimp only at i n⊢;simp only[Mx]at i;have v:OI (strKind Vj c) a.toList:=(m.push (iE j Vt) rfl).perm i;have z:∀k,k∈G++[j]↔∃e∈a.toList,(strKind Vj c).is k e.2=true:=λ k=>by
   have :=mem_push_iff (S:=λ k=>bF (k∈G)) (iE (Vj:=Vj) (c:=c) j Vt) (λ Q=>by simp only[decide_eq_true_eq];exact J Q) i k;simp only[<-this];simp
 have A:a.size=(G++[j]).length:=by rw[<-aX,i.length_eq,eH,aX,M,eH];rfl
 have y:(if l.plain=true then{l with plain:=ap}else l:cr).fits a.size=true:=by
   split;·exact SetTable.fits_plain_off n
   ·exact n
 generalize(if l.plain=true then{l with plain:=ap}else l:cr)=r at y⊢;split
 · have f:=Rj r a (Ii a.size);have p:=relayAll_fits r a (Ii a.size);generalize Mk r a (Ii a.size)=R at f p⊢;obtain⟨E,WM,Y⟩:=R;dsimp only at f p⊢;have N:E.size=a.size:=by rw[<-aX,f.length_eq,aX]
   exact iD (v.perm f) (λ k=>(z k).trans ⟨λ⟨e,m,q⟩=>⟨e,f.mem_iff.mpr m,q⟩,λ⟨e,m,q⟩=>⟨e,f.mem_iff.mp m,q⟩⟩) (N.trans A) p
 ·exact iD v z A y
def sS(g:bk Vj c O G)(m:q.heap.get? h=some O)(WN:j∉G)(WK:G.length+1<K7)(J:V2 true {q with heap:=q.heap.update h (cV c.params j (.str j Vt))}):aA (au Vj c) o (RX h (.str j Vt) ((strKind Vj c).hash j)) V2 y q:=by
 have W0:=mG (Vt:=Vt) g WN;obtain⟨WZ,d,W3,p,u,t,k,T,WS,WL,U⟩:=g;have WM:(I2 j Vt).scannable=true:=rfl;unfold RX QF;refine aK (af (gE m k U ?_));dsimp only;rw[T6 WM (by rw[WL];exact fy WK) T];simp only[↓reduceIte];unfold setAddByScan;refine af (af (Ju (af (PP (iE (Vj:=Vj) (c:=c) j Vt) m k U T ?_))));have WT:K6 (λ e=>(strKind Vj c).is j e.2) p.toList=none:=JV.mpr λ e WR=>by
   rcases WW:(strKind Vj c).is j e.2 with _|_;·rfl
   ·exact absurd ((WS j).mpr ⟨e,WR,WW⟩) WN
 rw[WT];have V:∀(b:Bool){C:aa}{z:Unit->aa->Prop},z () C->aA (au Vj c) o (match b with|true=>rule "set.scan.the-table-gave-way"|ap=>jq ()) z y C:=λ b C z n=>by cases b<;>first|exact ah n|exact Ju n
 have v:=SH t p ((strKind Vj c).hash j) (.str j Vt);have N:cV c.params j (.str j Vt) O=⟨O.cls,O.dict,.set (g4 c.params O j (.str j Vt)).1 (g4 c.params O j (.str j Vt)).2.2 (g4 c.params O j (.str j Vt)).2.1,O.slots⟩:=rfl;have l:g4 c.params O j (.str j Vt)=(let L:=QI t p ((strKind Vj c).hash j) (.str j Vt);let i:cr:=if L.2.1.plain=true then{L.2.1 with plain:=ap}else L.2.1;if(!L.2.2.1&&i.tooFull)=true then let R:=Mk i L.1 (Ii L.1.size);(R.1,R.2.1,u+1+1)else(L.1,i,u+1)):=by unfold g4;refine k.symm▸?_;rfl
 generalize QI t p ((strKind Vj c).hash j) (.str j Vt)=L at v l⊢;obtain⟨f,D,WY,W1⟩:=L;dsimp only at v l⊢;simp only[Mx]at v;have M:f.size<=a9:=by
   have :f.size=p.size+1:=by rw[<-aX,v.length_eq,eH,aX];rfl
   refine M4 ?_;exact by rw[this,WL];exact WK
 refine af (V _ ?_);have WP:∀i:cr,(if D.plain=true then{D with plain:=ap}else D:cr)=i->aA (au Vj c) o (do
     UN h f i if(!WY&&i.tooFull)=true then do
         (match(Mk i f (Ii f.size)).2.2 with|true=>rule "set.scan.the-table-gave-way"|ap=>jq ())UN h (Mk i f (Ii f.size)).1 (Mk i f (Ii f.size)).2.1
         jq (some true)else jq (some true)) (λ r WX=>aA (au Vj c) o (match r with|some WQ=>jq WQ|none=>QF h (.str j Vt) ((strKind Vj c).hash j) 99999) V2 y WX) y q:=by
   intro i WV;rw[WV]at l;refine af (J3 m k ?_ M);have WU:(q.heap.update h (JN f i)).get? h=some {O with data:=.set f (u+1) i}:=by
     have :=cQ (JN f i) m (by rw[L6 f i k];rfl);rw[L6 f i k]at this;exact this
   split
   · rename_i n;rw[if_pos n]at l;have Y:=Rj i f (Ii f.size);generalize Mk i f (Ii f.size)=R at Y l⊢;obtain⟨H,WO,W2⟩:=R;refine af (V _ ?_);refine af (J3 WU rfl (ah (ah ?_)) (by rw[<-aX,Y.length_eq,aX];exact M));dsimp only;rw[sQ];have :q.heap.update h (λ O=>JN H WO (JN f i O))=q.heap.update h (cV c.params j (.str j Vt)):=mF m (by rw[L6 f i k,L6 (o:={O with data:=.set f (u+1) i}) H WO rfl,N,l]);refine this.symm▸?_;exact J
   · rename_i n;rw[if_neg n]at l;refine ah (ah ?_);have :q.heap.update h (JN f i)=q.heap.update h (cV c.params j (.str j Vt)):=mF m (by rw[L6 f i k,N,l]);rw[this];exact J
 split
 · rename_i B;refine af ?_;rw[Sm 8 WM];exact ah (WP _ (if_pos B))
 · rename_i B;refine af (ah ?_);simp only[↓reduceIte];exact WP _ (if_neg B)
def y8(g:bk Vj c O G)(d:q.heap.get? h=some O)(f:j∉G)(e:G.length+1<K7)(b:V2 true {q with heap:=q.heap.update h (cV c.params j (.str j Vt)),toks:=q.toks+1}):aA (au Vj c) o (RY h (.str j Vt)) V2 y q:=by
 unfold RY;exact aK (al ((strKind Vj c).pyHash (iE j Vt) (sS (q:={q with toks:=q.toks+1}) g d f e b)))
noncomputable def sT(M i:Nat):Nat:=(i*5+1)%M
noncomputable def dz(WL:Nat):Nat->Nat->Nat
 |0,WK=>WK|m+1,WK=>dz WL m (sT WL WK)
noncomputable def fD(M:Nat):Bool:=(a1 M).all λ j=>(a1 M).any λ m=>dz M m 0==j
def sU:fD 8=true/\dz 8 8 0=0:=by decide+kernel
def y9:fD 128=true/\dz 128 128 0=0:=by decide+kernel
theorem mH(WL:Nat):∀(WK b WM:Nat),dz WL (WK+b) WM=dz WL b (dz WL WK WM)
 |0,b,WM=>by rw[Ik];rfl|WK+1,b,WM=>by rw[show WK+1+b=(WK+b)+1 by exact hE];exact mH WL WK b (sT WL WM)
def sV(h:fD a=true/\dz a a 0=0)(o:b<a)(p:x<a):∃m,m<a/\dz a m b=x:=by
 refine aj λ u=>am h λ f s=>?_;unfold fD at f;rw[H7]at f;have bt:∀e,e<a->∃m,m<a/\dz a m 0=e:=λ e t=>by exact ak (List.any_eq_true.mp (f e (cI.mpr t))) λ m r q=>bj m (cI.mp r) (beq_iff_eq.mp q)
 refine ak (bt b o) λ c l g=>ak (bt x p) λ d n k=>u ?_;by_cases q:c<=d
 · refine bj (d-c) (by exact c5 ji n) ?_;rw[<-g,<-mH,show c+(d-c)=d by exact fz q,k]
 · refine bj (a-c+d) (y2 l q) ?_;rw[<-g,<-mH,show c+(a-c+d)=a+d from by rw[<-K9,Jb (bn l)],mH,s,k]
def sW(h:cF a Ws (b+1) Vs V5=none):((a1 (Ih a Vs+1-Vs)).find? λ k=>(Ws.getD (Vs+k) (some 0)).isNone)=none/\cF a Ws b ((Vs*5+1+V5/32)%(a+1)) (V5/32)=none:=by
 have c:((a1 (Ih a Vs+1-Vs)).find? λ k=>(Ws.getD (Vs+k) (some 0)).isNone).elim (cF a Ws b ((Vs*5+1+V5/32)%(a+1)) (V5/32)) (λ k=>some (Vs+k))=none:=Eq.trans (by lia) h;refine ey (x:=(a1 (Ih a Vs+1-Vs)).find? λ k=>(Ws.getD (Vs+k) (some 0)).isNone) (λ e=>⟨e,?_⟩) λ k e=>?_;·rw[e]at c;exact c
 ·rw[e]at c;exact c7 c
def y':∀(b i p:Nat),cF a Ws b i p=none->0<b->(Ws.getD i (some 0)).isNone=ap
 |b+1,i,p,h,_=>by
   · have :=List.find?_eq_none.mp (sW h).1 0 (cI.mpr (by unfold Ih;split<;>exact OZ (LD (by first|exact dx _ _|exact aB _))));simp only[KV]at this;rcases z:(Ws.getD i (some 0)).isNone with _|_;·rfl
     ·exact absurd z this
def sX(h:cF a Ws (b+1) x Vs=none):cF a Ws b ((x*5+1+Vs/32)%(a+1)) (Vs/32)=none:=by exact(sW h).2
theorem sY{b:Nat}{c:Array (Option Nat)}:∀(m a i:Nat),cF b c (m+a) i 0=none->cF b c a (dz (b+1) m i) 0=none
 |0,a,i,h=>by rw[Ik]at h;exact h|m+1,a,i,h=>by
  rw[show m+1+a=(m+a)+1 by exact hE]at h;have :=sX h;rw[Nat.zero_div,KV]at this;exact sY m a _ this
theorem sZ{c:Nat}{f:Array (Option Nat)}:∀(m a i p:Nat),i<=c->p<32^m->cF c f (m+a) i p=none->∃e,e<=c/\cF c f a e 0=none
 |0,a,i,p,d,b,h=>by
  obtain rfl:p=0:=by simpa using b
  rw[Ik]at h;exact bj i d h|m+1,a,i,p,d,b,h=>by
  rw[show m+1+a=(m+a)+1 by exact hE]at h;have :=sX h;refine sZ m a _ _ ?_ ?_ this;·exact Mb.mp (Ng _ (Js _))
  ·simp only[Ui]at b;exact sf b
def za(g:fD (a+1)=true/\dz (a+1) (a+1) 0=0)(k:b<=a)(q:x<2^64)(n:Vs<=a)(o:(Ws.getD Vs (some 0)).isNone=true):∃r,cF a Ws (Jm a) b x=some r:=by
 rcases h:cF a Ws (Jm a) b x with _|r
 · exfalso;rw[show Jm a=13+(a+2)by unfold Jm;exact IC (a+2) 13]at h;refine ak (sZ 13 (a+2) b x k (aJ q (by decide)) h) λ f l c=>?_;refine ak (sV g (b:=f) (x:=Vs) (dt l) (dt n)) λ m d e=>?_;rw[show a+2=m+(a+2-m)from(Jb (bn (gb d))).symm]at c;have z:=sY m (a+2-m) f c;rw[e]at z;have :=y' _ _ _ z (c5 bE (jb d));rw[o]at this;cases this
 ·exact⟨r,rfl⟩
set_option tactic.hygienic true in theorem s0{c:Nat}{d:Array (Option Nat)}:∀(e i p r:Nat),i<=c->cF c d e i p=some r->r<=c/\(d.getD r (some 0)).isNone=true
 |e+1,i,p,r,j,h=>by
   have h:(match(a1 (Ih c i+1-i)).find? λ k=>(d.getD (i+k) (some 0)).isNone with|some k=>some (i+k)|none=>cF c d e (R4 c i p).1 (R4 c i p).2)=some r:=h;rcases q:(a1 (Ih c i+1-i)).find? (λ k=>(d.getD (i+k) (some 0)).isNone)with _|k<;>rw[q]at h;rotate_left
   · obtain rfl:=ax h;have g:=S3 q;have f:=cI.mp (PZ q);refine⟨?_,g⟩;unfold Ih at f;split at f;·exact an (bX (IB (OA f (mr (a:=i) (b:=10)))) i) ‹_›
     ·exact an (bX (IB (OA f (mr (a:=i) (b:=1)))) i) j
   ·exact s0 e _ _ r (Mb.mp (Ng _ (Js _))) h
noncomputable def hK(a:Nat)(b:Array (Option Nat)):List (Nat×Nat):=(a1 (a+1)).filterMap λ j=>(b.getD j none).map (j,·)
theorem s1{a c:Type}{f g:a->Option c}:∀{l:List a},(∀y∈l,g y=f y)->l.filterMap g=l.filterMap f
 |[],_=>rfl|i::l,h=>by simp only[Jc,Jc,h i (.head _),s1 λ y b=>h y (.tail _ b)]
theorem s2{f g:Nat->Option (Nat×Nat)}{j:Nat}{x:Nat×Nat}(b:f j=none)(c:g j=some x)(h:∀i,i≠j->g i=f i):∀{l:List Nat},l.Nodup->j∈l->(l.filterMap g).Perm (x::l.filterMap f)
 |[],_,a=>(by cases a)|i::l,m,a=>by
   have d:=Jd.mp m;by_cases e:i=j
   · subst e;have :l.filterMap g=l.filterMap f:=s1 λ y n=>h y λ q=>d.1 (q▸n);rw[Jc,c,Jc,b,this]
   · have k:=s2 b c h d.2 ((aP.mp a).resolve_left λ q=>e q.symm);simp only[Jc,Jc,h i e];rcases f i with _|y;·exact k
     ·exact(RA y k).trans (Ry _ _ _)
def s3(a:Array (Option Nat))(j:Nat)(b:j<a.size):((a.getD j (some 0)).isNone=true)↔a.getD j none=none:=by
 simp only[e0,e0,hq b];simp
structure iF(WK k:Nat)(WL:Array (Option Nat)):Prop where
 size:WL.size=WK+1
 perm:((hK WK WL).map (·.2)).Perm (a1 k)
def s4(x:iF a b Ws):(hK a Ws).length=b:=by have :=x.perm.length_eq;simpa using this
theorem s5{f:Nat->Option (Nat×Nat)}:∀{l:List Nat},(∀j∈l,(f j).isSome=true)->(l.filterMap f).length=l.length
 |[],_=>rfl|i::l,h=>by
  refine ai (KZ.mp (h i (.head _))) λ y b=>?_;simp only[Jc,b];show(l.filterMap f).length+1=l.length+1;rw[s5 λ j a=>h j (.tail _ a)]
def zb(x:iF a b Ws)(e:b<=a):∃j,j<=a/\(Ws.getD j (some 0)).isNone=true:=by
 apply II;intro f;have all:∀j∈a1 (a+1),((Ws.getD j none).map (j,·)).isSome=true:=λ j d=>by
  have c:=cI.mp d;have :¬(Ws.getD j (some 0)).isNone=true:=λ q=>f ⟨j,dF c,q⟩;simp only[s3 Ws j (by rw[x.size];exact c)]at this;rcases h:Ws.getD j none with _|y;·exact absurd h this
  ·rfl
 have :=s5 all;simp only[show(a1 (a+1)).filterMap (λ j=>(Ws.getD j none).map (j,·))=hK a Ws from rfl,s4 x,Lw]at this;exact dR (dt e) (j7 this)
def s6(h:Int):Jh h<2^64:=by
 unfold Jh;have a:h%(2^64:Int)<2^64:=Jp _ (by decide);exact(O0 (Jz _ (by decide))).mpr (Jp _ (by decide))
def zc(n:fD (a+1)=true/\dz (a+1) (a+1) 0=0)(x:iF a b Ws)(o:b<=a)(h:Int):∃j,cF a Ws (Jm a) (Jh h%(a+1)) (Jh h)=some j/\iF a (b+1) (Ws.setIfInBounds j (some b)):=by
 refine aj λ p=>ak (zb x o) λ q g l=>?_;have c:Jh h%(a+1)<=a:=Mb.mp (Ng _ (Js _));refine ai (za (Ws:=Ws) n c (s6 h) g l) λ j e=>am (s0 _ _ _ _ c e) λ d m=>p ?_;have f:j<Ws.size:=by simp only[x.size];exact dt d
 refine⟨j,e,by simp[x.size],?_⟩;have P:(hK a (Ws.setIfInBounds j (some b))).Perm ((j,b)::hK a Ws):=by
  refine s2 (j:=j) (x:=(j,b)) (by rw[((s3 Ws j f).mp m)];rfl) ?_ (λ i c=>?_) Sx (cI.mpr (dt d));·rw[e0,Array.getElem?_setIfInBounds_self_of_lt f];rfl
  ·simp only[e0,e0,LJ (J' c)]
 refine(P.map _).trans ?_;simp only[uW,Nh];exact((RA b x.perm).trans (List.perm_append_comm (l₁:=[b]) (l₂:=a1 b)))
theorem s7{a:Nat}(f:fD (a+1)=true/\dz (a+1) (a+1) 0=0):∀(b:List Int)(c:Array (Option Nat))(k:Nat),iF a k c->k+b.length<=a+1->∃g,(b.foldl (init:=some (c,k)) λ i h=>do
     let(c,k)<-i let j<-cF a c (Jm a) (Jh h%(a+1)) (Jh h)jq (c.setIfInBounds j (some k),k+1))=some (g,k+b.length)/\iF a (k+b.length) g
 |[],c,k,x,_=>⟨c,rfl,x⟩|h::b,c,k,x,d=>by
   simp only[y3]at d;refine aj λ o=>ak (zc f x (by exact j4 dG (x' d)) h) λ j l n=>?_;refine ak (s7 f b _ _ n (by exact hD d)) λ m e y=>?_;refine o (bj m ?_ ?_)
   · simp only[List.foldl_cons,y3,show k+(b.length+1)=k+1+b.length by exact me,<-e];congr 1;show(cF a c (Jm a) (Jh h%(a+1)) (Jh h)).bind _=_;refine l.symm▸?_;rfl
   ·simp only[y3,show k+(b.length+1)=k+1+b.length by exact me];exact y
def zd(a:Nat):iF a 0 (SA (a+1) none):=by
 refine⟨by simp,?_⟩;have :hK a (SA (a+1) none)=[]:=by
  unfold hK;rw[List.filterMap_eq_nil_iff];intro j b;rw[e0,Array.getElem?_replicate,if_pos (cI.mp b)];rfl
 refine this.symm▸?_;exact .nil
def s8(g:fD (a+1)=true/\dz (a+1) (a+1) 0=0)(f i:Nat)(h k:Bool){b:Array Int}(c:b.size<=a):∃t d,KP a f i h k b=some (t,d)/\d.toList.Perm (a1 b.size)/\t.fits b.size=true:=by
 refine aj λ l=>?_;refine ak (s7 g b.toList _ 0 (zd a) (by simp;exact ix c)) λ j e x=>?_;refine l ?_;simp only[aX,Ik]at x;have q:NX a b=some j:=by
   unfold NX;rw[<-Array.foldl_toList];rw[e];rfl
 unfold KP;refine q.symm▸(kN _ _ rfl ?_ ?_);·exact x.perm
 · unfold Kc Jy;have :=s4 x;unfold hK at this;simp only[I8,be,this,beq_self_eq_true,Qe,decide_eq_true_eq,MQ,KV];exact c
noncomputable def dj(P:a3):cr:=.fresh 0 0 (!(P.followText "set-order"))
noncomputable def bO(P:a3)(n:Nat):cr×Nat:=match(dj P).roomFor n with
 |some a=>(match(dj P).relaid #[] a with|some r=>r.1|none=>dj P,1)|none=>(dj P,0)
noncomputable def iG(P:a3)(o:Obj):Array (Int×ab)×cr×Nat:=let R:=bO P (dy o.data).size;let a:=eA o.data;match R.1.road a with
 |.slotForSlot=>(dy o.data,{a with finger:=R.1.finger,led:=R.1.led&&a.led,moves:=R.1.moves,plain:=R.1.plain&&a.plain},R.2+1)|_=>match KP R.1.mask R.1.finger R.1.moves (R.1.led&&a.led) (R.1.plain&&a.plain) ((dy o.data).map (·.1))with
  |some r=>(r.2.filterMap ((dy o.data)[·]?),r.1,R.2+1)|none=>b2
noncomputable def g5(P:a3):Obj:=⟨.type "frozenset",none,.set #[] 0 (dj P),#[]⟩
noncomputable def bp(P:a3)(WL:Obj):Obj:=⟨.type "frozenset",none,.set (iG P WL).1 (iG P WL).2.2 (iG P WL).2.1,#[]⟩
def Met(n:Nat):Prop:=(n*5<21/\n<=7)\/(21<=n*5/\32<=n/\n<=63)
def kT(n k s:Nat):N4 n (k+1) s=if s<=n then N4 n k (s*2)else s:=rfl
def s9(b:32<=a)(c:a<=63):J7 (a*2)=128:=by
 unfold J7;rw[kT,if_pos (by exact j4 (e3 b (aE true)) bE),kT,if_pos (by exact j4 (e3 b (aE true)) bE),kT,if_pos (by exact r' b),kT,if_pos (by exact r1 (r' b) b),kT,if_neg (IQ.mpr (bz (KN 2 c) (by decide)))]
def mI(P:a3)(h:Met a):(((dj P).roomFor a=none/\bO P a=(dj P,0)/\a<=7)\/∃f,(dj P).roomFor a=some f/\f=a*2/\(dj P).relaid #[] f=some ((bO P a).1,#[])/\(bO P a).2=1/\(bO P a).1.mask=127/\32<=a/\a<=63)/\(bO P a).1.place=#[]/\(bO P a).1.dummies=#[]:=by
 have e:∀m,(dj P).roomFor m=if m*5>=21 then some (m*2)else none:=λ m=>by
   unfold Q3 dj SetTable.fresh Jy;simp
 refine aH h (λ k=>?_) λ l=>?_
 · refine am k λ d c=>?_;have :(dj P).roomFor a=none:=by rw[e,if_neg (by exact oD d)]
   have r:bO P a=(dj P,0):=by unfold bO;rw[this]
   exact b3 (.inl ⟨this,r,c⟩) (by rw[r];rfl) (by rw[r];rfl)
 · refine a4 l λ d c g=>?_;have q:(dj P).roomFor a=some (a*2):=by rw[e,if_pos (by exact d)]
   have o:J7 (a*2)=128:=s9 c g;have i:(dj P).relaid #[] (a*2)=some ({mask:=127,place:=#[],dummies:=#[],finger:=0,led:=!(P.followText "set-order"),moves:=1,plain:=true},#[]):=by
     unfold Rq;refine o.symm▸?_;generalize j:(!(P.followText "set-order"))=b;unfold dj;refine j.symm▸?_;cases b<;>lia
   have r:bO P a=({mask:=127,place:=#[],dummies:=#[],finger:=0,led:=!(P.followText "set-order"),moves:=1,plain:=true},1):=by unfold bO;rw[q];dsimp only;rw[i]
   refine b3 (.inr ⟨a*2,q,rfl,?_,by rw[r],by rw[r],c,g⟩) (by rw[r]) (by rw[r]);rw[r];exact i
def ze{t a:cr}(b:t.place=#[])(c:t.dummies=#[]):(t.road a=.slotForSlot/\t.mask=a.mask/\a.dummies=#[])\/t.road a=.clean:=by
 unfold R3 Jy;rw[b,c];simp only[MQ,KV,bne_self_eq_false,cT,if_false];split
 · rename_i q;rw[kn,beq_iff_eq,My]at q;exact .inl ⟨rfl,q.1,q.2⟩
 ·exact .inr rfl
inductive zf(o:Obj)(R:cr×Nat)(a:Array (Int×ab))(b:Nat)(t:cr):Prop|slots(q:R.1.road (eA o.data)=.slotForSlot)(d:a=dy o.data)(e:b=R.2+1)(h:t={eA o.data with finger:=R.1.finger,led:=R.1.led&&(eA o.data).led,moves:=R.1.moves,plain:=R.1.plain&&(eA o.data).plain})|clean(q:R.1.road (eA o.data)=.clean)(c:Array Nat)(f:KP R.1.mask R.1.finger R.1.moves (R.1.led&&(eA o.data).led) (R.1.plain&&(eA o.data).plain) ((dy o.data).map (·.1))=some (t,c))(d:a=c.filterMap ((dy o.data)[·]?))(g:a.size=(dy o.data).size)(e:b=R.2+1)
inductive zg(d:dQ)(w:ar)(o:Obj)(a:List Str):Prop|mk(h:bk d w (bp w.params o) a)(c:Array (Int×ab))(b:Nat)(t:cr)(e:(bp w.params o).data=.set c b t)(g:t.mask=(bO w.params a.length).1.mask)(f:t.dummies=#[])(R:cr×Nat)(i:R=bO w.params a.length)(j:zf o R c b t)
def kU(g:bk Vj c O G)(T:Met G.length):zg Vj c O G:=by
 refine aj λ C=>?_;obtain⟨WO,d,WS,a,ep,t,D,j,E,n,Q⟩:=g;refine a4 (mI c.params T) λ J U N=>C ?_;have f:dy O.data=a:=by rw[D];rfl
 have h:eA O.data=t:=by rw[D];rfl
 refine aH (ze (a:=t) U N) (λ s=>?_) λ q=>?_
 · refine a4 s λ q WM WL=>?_;have v:iG c.params O=(a,{t with finger:=(bO c.params G.length).1.finger,led:=(bO c.params G.length).1.led&&t.led,moves:=(bO c.params G.length).1.moves,plain:=(bO c.params G.length).1.plain&&t.plain},(bO c.params G.length).2+1):=by unfold iG;rw[f,h,n];simp only[q]
   have m:(bp c.params O).data=.set a ((bO c.params G.length).2+1) {t with finger:=(bO c.params G.length).1.finger,led:=(bO c.params G.length).1.led&&t.led,moves:=(bO c.params G.length).1.moves,plain:=(bO c.params G.length).1.plain&&t.plain}:=by unfold bp;rw[v]
   exact⟨⟨rfl,rfl,rfl,a,_,_,m,j,E,n,by subst t;exact Q⟩,a,_,_,m,WM.symm,WL,_,rfl,.slots (h▸q) f.symm rfl (by rw[h])⟩
 · have M:fD ((bO c.params G.length).1.mask+1)=true/\dz ((bO c.params G.length).1.mask+1) ((bO c.params G.length).1.mask+1) 0=0:=by
     refine aH J (λ s=>?_) λ A=>?_
     · refine a4 s λ _ r _=>?_;refine r.symm▸?_;exact sU
     · obtain⟨_,_,_,_,_,r,_⟩:=A;refine r.symm▸?_;exact y9
   have V:(a.map (·.1)).size<=(bO c.params G.length).1.mask:=by
     simp only[Lr,n];refine aH J (λ s=>?_) λ A=>?_
     · refine a4 s λ _ r L=>?_;refine r.symm▸?_;exact L
     · refine sI A λ _ _ _ _ _ r L WN=>?_;refine r.symm▸?_;exact a2 WN (aE true)
   refine aj λ C=>bS (s8 M (bO c.params G.length).1.finger (bO c.params G.length).1.moves ((bO c.params G.length).1.led&&t.led) ((bO c.params G.length).1.plain&&t.plain) V) λ u p b Y WK=>C ?_;have v:iG c.params O=(p.filterMap (a[·]?),u,(bO c.params G.length).2+1):=by unfold iG;rw[f,h,n];simp only[q,b]
   have H:u.mask=(bO c.params G.length).1.mask/\u.dummies=#[]:=by
     unfold KP at b;refine ey (x:=NX (bO c.params G.length).1.mask (a.map (·.1))) (λ z=>?_) λ WR z=>?_;·rw[z]at b;exact aQ b
     ·rw[z]at b;cases b;exact⟨rfl,rfl⟩
   have P:(p.filterMap (a[·]?)).toList.Perm a.toList:=by
     rw[Qp];refine(Y.filterMap _).trans ?_;rw[Lr];have :((a1 a.size).filterMap λ i=>a[i]?)=a.toList:=by
       have :∀(l:List (Int×ab)),(a1 l.length).filterMap (λ i=>l[i]?)=l:=by
         intro l;induction l with
         |nil=>rfl|cons x l WQ=>
           rw[y3,Qx,Jc];simp only[List.getElem?_cons_zero,List.filterMap_map];congr 1
       have z:=this a.toList;rw[aX]at z;simpa using z
     rw[this]
   have y:(p.filterMap (a[·]?)).size=a.size:=by rw[<-aX,P.length_eq,aX]
   have m:(bp c.params O).data=.set (p.filterMap (a[·]?)) ((bO c.params G.length).2+1) u:=by unfold bp;rw[v]
   exact⟨⟨rfl,rfl,rfl,_,_,_,m,j.perm P,λ k=>(E k).trans ⟨λ B=>(by refine ak B λ e j q=>?_;exact⟨e,P.mem_iff.mpr j,q⟩),λ B=>by refine ak B λ e j q=>?_;exact⟨e,P.mem_iff.mp j,q⟩⟩,y.trans n,by rw[y];simpa using WK⟩,_,_,_,m,H.1,H.2,_,rfl,.clean (h▸q) p (by rw[f,h];exact b) (by rw[f]) (by rw[f];exact y) rfl⟩
def zh(h:a7)(a:ae):h.update a id=h:=by
 obtain⟨b,l⟩:=h;show MA (b.modify a id) l=MA b l;have :b.modify a id=b:=by
  apply K';intro i;rw[IS];split<;>simp
 rw[this]
def zi(h:Vf (.ref q.heap.objs.size) {q with heap:=q.heap.push (g5 c.params)}):aA (au Vj c) o (newSet (.type "frozenset")) Vf y q:=by
 unfold newSet NK;refine al (al (IP (ah ?_)));dsimp only;unfold UT;exact al (P4 (ah h))
def zj{WU:Sem Unit}(ne:h≠Q)(m:q.heap.get? h=some (g5 c.params))(WX:q.heap.get? Q=some O)(g:bk Vj c O G)(n:Met G.length)(WW:G≠[])(WV:VO () {q with heap:=q.heap.update h (λ _=>bp c.params O)}):aA (au Vj c) o (SF h Q WU) VO y q:=by
 refine aj λ WK=>?_;obtain⟨Xh,Xg,Xf,Xa,cd,Xd,Xc,R,M,WY⟩:=kU g n;refine a4 (mI c.params n) λ W0 WP WO=>?_;obtain⟨Xb,d,Xk,C,ep,t,N,Xi,Xj,D,WZ⟩:=g;refine WK ?_;have z:dy O.data=C:=by rw[N];rfl
 have B:eA O.data=t:=by rw[N];rfl
 have WQ:0<C.size:=by simp only[D];exact N0.mpr WW
 unfold SF;refine bT (by simpa using ne) ?_;refine af (gE WX N WZ ?_);refine bT (by rw[My];intro i;rw[i]at WQ;exact absurd WQ (by simp)) ?_;refine af (aG (Q:=λ(_:Unit)(L:aa)=>∃(p:cr)(l:Nat),(p,l)=R/\L={q with heap:=q.heap.update h (λ _=>⟨.type "frozenset",none,.set #[] l p,#[]⟩)}) ?first (λ _ L W1=>?rest) (λ _ _ x=>x));case rest=>
   refine aj λ WK=>aW W1 λ p l H U=>WK ?_;have u:R.1=p:=by rw[<-H]
   have WL:R.2=l:=by rw[<-H]
   simp only[<-M,u]at WP WO;have WR:L.heap.get? h=some ⟨.type "frozenset",none,.set #[] l p,#[]⟩:=by rw[U];exact cQ (λ _=>_) m rfl
   refine af (gE WR rfl (by unfold Kc Jy;rw[WP,WO];simp) ?_);dsimp only;have store:∀(e:Array (Int×ab))(j:cr),(bp c.params O)=⟨.type "frozenset",none,.set e (l+1) j,#[]⟩->e.size=C.size->aA (au Vj c) o (UN h e j) VO y L:=λ e j i T=>by
     refine J3 WR rfl ?_ (by simp only[T,D];rcases n with n|n<;>exact M4 (by unfold K7;first|exact c6 n.right (aE true)|exact c6 n.right.right (aE true)));refine U.symm▸?_;rw[sQ];have :(λ WS:Obj=>JN e j ((λ _=>(⟨.type "frozenset",none,.set #[] l p,#[]⟩:Obj)) WS))=λ _=>bp c.params O:=by
       funext WS;rw[i];rfl
     rw[this];exact WV
   have co:∀e k j,(bp c.params O).data=.set e k j->bp c.params O=⟨.type "frozenset",none,.set e k j,#[]⟩:=λ e k j i=>by
     show(⟨.type "frozenset",none,(bp c.params O).data,#[]⟩:Obj)=_;rw[i]
   rcases WY with⟨i,v,V,W8⟩|⟨i,W2,J,v,Y,V⟩
   · rw[u,B]at i;rw[i];refine store _ _ ?_ rfl;rw[co _ _ _ cd,v,z,V,W8,WL,u,B]
   · rw[u,B]at i;rw[i];rw[u,z,B]at J;rw[J];rw[v,z]at Y;rw[z]at v;refine af (cx (a:=(W2.filterMap (C[·]?),Xa)) (if_neg (by rw[Y];simp)) ?_);refine store _ _ ?_ Y;rw[co _ _ _ cd,v,V,WL]
 unfold setRoomFor;refine aH W0 (λ W5=>?_) λ W6=>?_
 · refine a4 W5 λ i r _=>af (gE m rfl rfl ?_);rw[D,i];refine ah (dw (dj c.params) (0) (by rw[M,r]) ?_);have :q.heap.update h (λ _=>(⟨.type "frozenset",none,.set #[] 0 (dj c.params),#[]⟩:Obj))=q.heap:=by rw[mF (f:=λ _=>(⟨.type "frozenset",none,.set #[] 0 (dj c.params),#[]⟩:Obj)) (g:=id) m rfl,zh]
   rw[this]
 · refine sI W6 λ WT i W9 J H U W3 W4=>af (gE m rfl rfl ?_);rw[D,i];unfold setRelay;refine af (gE m rfl rfl ?_);have T:¬J7 WT>a9:=by
     rw[W9];have W':J7 (G.length*2)=128:=s9 W3 W4;rw[W'];decide
   refine bT T ?_;have W7:(dj c.params).relaid (UK (λ x:Int×ab=>x.fst) #[]) WT=some ((bO c.params G.length).1,#[]):=by rw[show UK (λ x:Int×ab=>x.fst) #[]=#[]from by simp];exact J
   rw[W7];refine af (cx (a:=((#[]:Array (Int×ab)),(bO c.params G.length).1)) rfl (J3 m rfl ?_ (by decide)));refine dw ((bO c.params G.length).1) (1) (by rw[M,<-H]) ?_;congr 1;exact mF m rfl
def s':Kk (.type "frozenset") (.type "set")=jq ap:=by rw[kF];lia
def zk:Kk (.type "frozenset") (.type "frozenset")=jq true:=by rw[kF];lia
def bk.type(g:bk Vj c O G)(b:q.heap.get? h=some O):q.TypeIs (.ref h) "frozenset":=⟨O,b,g.cls⟩
def iH(a:q.TypeIs U "frozenset")(h:V2 true q):aA (au Vj c) o (Ml U) V2 y q:=by
 unfold Ml;exact al (JP a s' (JP a zk h))
def ta(e:q.heap.get? h=some O)(g:bk Vj c O G)(m:Met G.length)(k:G≠[])(j:Vf (.ref q.heap.objs.size) {q with heap:=q.heap.push (bp c.params O)}):aA (au Vj c) o (copyOf h) Vf y q:=by
 unfold copyOf baseOf;refine al (al (JP (g.type e) s' (ah (al (zi (al (cx (a:=q.heap.objs.size) rfl ?_)))))));refine al (zj (O:=O) (IA (az e)) (aF _ rfl) (ao _ e) g m k ?_);refine ah ?_;have :(q.heap.push (g5 c.params)).update q.heap.objs.size (λ _=>bp c.params O)=q.heap.push (bp c.params O):=by
  obtain⟨⟨d,l⟩,_,_,_,_⟩:=q;show MA ((d.push _).modify d.size _) l=MA (d.push _) l;have :(d.push (g5 c.params)).modify d.size (λ _=>bp c.params O)=d.push (bp c.params O):=by
   apply K';intro i;simp only[IS,KW,KW];by_cases f:d.size=i;·subst f;simp
   ·simp[f,J' f]
  rw[this]
 exact this.symm▸j
def mJ(g:bk Vj c O [j]):∃f t h,O.data=.set #[((strKind Vj c).hash j,.str j h)] f t/\t.fits 1=true:=by
 obtain⟨E,d,G,q,f,t,s,u,A,n,v⟩:=g;obtain⟨l⟩:=q;rcases l with _|⟨e,r⟩;·cases n
 ·cases r with
  |cons=>simp at n|nil=>
   refine aj λ D=>?_;refine am (u e (.head _)) λ C _=>?_;obtain⟨k,z,i⟩:=C;refine ak ((A j).mp (.head _)) λ y B m=>?_;obtain rfl:y=e:=by simpa using B
   refine ai (Value.isStrOf_shape m) λ h p=>?_;have :k=j:=(strKind Vj c).inj _ _ _ z m;obtain rfl:=this.symm;refine D (mE f t h ?_ v);simp only[s];obtain⟨a,b⟩:=y;dsimp only at p i;simp only[p,i]
def zl(f:Nat->Nat)(e:Vb):RE f #[e]=#[e]:=by
 have h:RE f #[e]=([e][f 0%1]?).elim #[] λ x=>Pu f 0 1 ([e].eraseIdx (f 0%1)) (#[].push x):=by lia
 rw[h,Nat.mod_one];rfl
def zm{e:Int×ab}{Q:Array (Int×ab)->aa->Prop}(f:q.heap.get? h=some O)(g:O.data=.set #[e] b Vy)(i:Vy.fits 1=true)(d:Q #[e] q):aA (au Vj c) o (setWalk h) Q y q:=by
 unfold setWalk NK;refine af (gE f g i (af (af (IP (ah ?_)))));split
 · refine af (IP (ah ?_));rw[zl];exact d
 · refine bT (by show¬(!Vy.plain&&bF ((#[e]:Array (Int×ab)).size>1))=true;simp) ?_;refine af (cx (a:=()) (if_neg (by simp)) ?_);exact ah d
def tb{e:Int×ab}{d:Array (Int×ab)->aa->Prop}(g:q.heap.get? Q=some O)(i:O.data=.set #[e] a Vy)(j:Vy.fits 1=true)(k:d #[e] q):aA (au Vj c) o (setWalkUnseen Q [h] Wb) d y q:=by
 unfold setWalkUnseen NK;refine al (gE g i j (al (al (IP (ah (eP (by simp) ?_))))));exact zm g i j k
def tc{x:Vb}{f:Vb->PUnit->Sem (ForInStep PUnit)}{Q:PUnit->aa->Prop}(h:aA (au Vj c) o (f x ⟨⟩) (λ r a=>r=.yield ⟨⟩/\Q ⟨⟩ a) y q):aA (au Vj c) o (QX #[x] MW f) Q y q:=by
 rw[<-Array.forIn_toList];rw[Ku];refine al (aG h (λ r a d=>?_) λ _ _ e=>e);obtain⟨rfl,b⟩:=d;exact ah b
def zn{z:Sem Unit}(ne:h≠Q)(l:q.heap.get? h=some O)(m:q.heap.get? Q=some VQ)(C:bk Vj c O G)(J:bk Vj c VQ [j])(WM:j∉G)(M:G≠[])(T:G.length<64)(WK:∀k g t,O.data=.set k g t->t.roomFor 1=none)(N:∀(r:aa)(v:Unit->aa->Prop),r.heap.get? Q=some VQ->v () r->aA (au Vj c) o z v y r)(L:∀e g t,VQ.data=.set #[((strKind Vj c).hash j,.str j e)] g t->VO () {q with heap:=q.heap.update h (cV c.params j (.str j e))}):aA (au Vj c) o (SF h Q z) VO y q:=by
 refine aj λ WN=>eb (mJ J) λ B u e i p=>?_;have H:=C;obtain⟨WO,d,WR,k,g,t,n,WP,WQ,WL,f⟩:=C;refine WN ?_;have U:0<k.size:=by simp only[WL];exact N0.mpr M
 unfold SF;refine bT (by simpa using ne) ?_;refine af (gE m i p ?_);dsimp only;refine bT (by simp) ?_;unfold setRoomFor;refine af (af (gE l n f ?_));have V:t.roomFor (#[((strKind Vj c).hash j,I2 j e)]:Array (Int×ab)).size=none:=WK _ _ _ n;rw[V];refine ah (af (gE l n f ?_));have Y:t.road u=.oneByOne:=by
  unfold R3;rw[if_pos];unfold Kc at f;rw[kn,beq_iff_eq]at f;unfold Jy;rw[bne_iff_ne,ne_eq];exact IA (aJ (f.1.symm▸U) (dx _ _))
 refine Y.symm▸(af (tb m i p (af (tc ?_))));refine af (aK (sS H l WM (by unfold K7;exact bA (sa T) bE) ?_));have D:(q.heap.update h (cV c.params j (.str j e))).get? Q=some VQ:=(NY _ _ _ _ (J' ne)).trans m;refine af (N _ _ D (af (gE (es:=#[((strKind Vj c).hash j,.str j e)]) (ep:=B) (t:=u) D i p (bT (by simp) ?_))));exact ah ⟨rfl,(ah (L e B u i))⟩
noncomputable def pb(o:Obj):Obj:=⟨.type "frozenset",none,.set (dy o.data) (kR o.data) (eA o.data),#[]⟩
def bk.zo(g:bk Vj c O G):pb O=O:=by
 obtain⟨a,d,e,h,f,t,b,_⟩:=g;obtain⟨i,j,k,l⟩:=O;dsimp only at a d e b;subst a d e b;rfl
noncomputable def e8(P:a3)(WL a:Obj):Obj:=pb (match((dy a.data)[0]?:Option (Int×ab))with
 |some (_,.str x b)=>cV P x (.str x b) (bp P WL)|_=>bp P WL)
def td(g:bk Vj c O G)(f:Met G.length)(i:j∉G)(d:VQ.data=.set #[(C,.str j Vt)] a Vy):e8 c.params O VQ=cV c.params j (.str j Vt) (bp c.params O)/\bk Vj c (e8 c.params O VQ) (G++[j]):=by
 have e:dy VQ.data=#[(C,.str j Vt)]:=by rw[d];rfl
 have b:=mG (Vt:=Vt) (kU g f).1 i;have :e8 c.params O VQ=cV c.params j (.str j Vt) (bp c.params O):=by
  unfold e8;refine e.symm▸?_;exact b.zo
 exact⟨this,this▸b⟩
def te{q:aa}{f:Obj->Obj}:(q.heap.push O).update q.heap.objs.size f=q.heap.push (f O):=by
 obtain⟨⟨a,l⟩,_,_,_,_⟩:=q;show MA ((a.push _).modify a.size _) l=MA (a.push _) l;have :(a.push O).modify a.size f=a.push (f O):=by
  apply K';intro i;simp only[IS,KW,KW];by_cases b:a.size=i;·subst b;simp
  ·simp[b,J' b]
 rw[this]
def zp{D:Fin->aa->Prop}(ne:h≠Q)(M:q.heap.get? h=some O)(k:q.heap.get? Q=some VQ)(f:bk Vj c O G)(g:bk Vj c VQ [j])(d:Met G.length)(L:G≠[])(WO:G.length<=3\/32<=G.length)(U:j∉G)(WK:D (.done (.ret (.ref q.heap.objs.size))) {q with heap:=q.heap.push (e8 c.params O VQ)}):aA (au Vj c) o (Builtin.«frozenset.__or__» ⟨[.ref h,.ref Q],[]⟩) D y q:=by
 have H:=kU f d;have T:G.length<64:=by rcases d with⟨b,_⟩|⟨_,_,b⟩<;>first|exact dt b|exact sF b
 unfold Builtin.«frozenset.__or__»;refine al (cx (a:=(hk h,hk Q)) rfl (al (al (iH (f.type M) (iH (g.type k) (al (cx (a:=h) rfl (al ?_))))))));show aA _ _ (do
   let v<-copyOf h if hk Q !=.ref h then Mh [v] (OW "frozenset.__or__" (<-Lq v) (.ref Q))
   return v) _ _ _;refine al (ta M f d L ?_);refine eP (by simp;exact λ b=>ne b.symm) ?_;refine al (cx (a:=q.heap.objs.size) rfl (al (aK ?_)));unfold OW;have m:(q.heap.push (bp c.params O)).get? Q=some VQ:=ao _ k;refine al (iH (q:={q with heap:=q.heap.push (bp c.params O)}) ⟨VQ,m,g.1⟩ (eP rfl (al (cx (a:=Q) rfl ?_))));unfold merge;refine aj λ C=>eb (mJ g) λ Y WT W2 i N=>C (al (LY (s:={q with heap:=q.heap.push (bp c.params O)}) m i N ?_));refine zn (q:={q with heap:=q.heap.push (bp c.params O)}) (IA (az k)) (aF _ rfl) m H.1 g U L T (λ WY ep t b=>?_) (λ W1 WV WL WM=>?_) (λ W3 V WS b=>?_)
 · refine aj λ C=>?_;obtain⟨_,WZ,V,WS,WP,WR,WQ,_⟩:=H;refine a4 (Su (b.symm.trans WP)) λ n p u=>?_;obtain rfl:=n;obtain rfl:=p;obtain rfl:=u;obtain⟨_,_,_,W0,Y,WT,z,_,_,WU,B⟩:=(kU f d).1;refine C ?_;refine a4 (Su (b.symm.trans z)) λ n p u=>?_;obtain rfl:=n;obtain rfl:=p;obtain rfl:=u;unfold Kc at B;rw[kn,beq_iff_eq]at B;unfold Q3 Jy;rw[WQ,if_neg];simp only[MQ,KV];rw[B.1,WU,WR];refine a4 (mI c.params d) λ WN _ _=>?_;rcases WN with⟨_,e,J⟩|⟨_,_,_,_,_,e,WW,J⟩
   · rw[e];show¬(G.length+1)*5>=7*3;exact IQ.mpr (bz (KN 5 (H8 (WO.elim id λ j=>absurd (an j J) (by decide)))) (by decide))
   ·refine e.symm▸?_;exact IQ.mpr (bz (KN 5 T) (by decide))
 · unfold unchanged;refine al (LY WL i N (bT (by simp) ?_));exact ah WM
 · simp only[i]at b;cases b;refine ah (ah ?_);have e:=td f d U i;simp only[te,<-e.1];exact WK
noncomputable def pc(P:a3)(WL a:Obj):Obj:=match((dy a.data)[0]?:Option (Int×ab))with
 |some (_,.str x _)=>(match(dy (bp P WL).data).toList.findIdx? (λ e=>PT x e.2)with
  |some i=>⟨.type "frozenset",none,.set (JA (dy (bp P WL).data) i) (kR (bp P WL).data+1) ((eA (bp P WL).data).drop i),#[]⟩|none=>bp P WL)|_=>bp P WL
noncomputable def eQ(P:a3)(WL WM:Obj):Obj:=pb (pc P WL WM)
def hL(WK:dQ)(WL:ar)(o:Obj)(c:List Str):Prop:=∃a b t,o=⟨.type "frozenset",none,.set a b t,#[]⟩/\OI (strKind WK WL) a.toList/\(∀k,(∃e∈a.toList,(strKind WK WL).is k e.2=true)->k∈c)/\a.size<4096/\t.fits a.size=true
def pd(a:Array Vb)(i:Nat):(JA a i).toList=a.toList.eraseIdx i:=by
 unfold JA;simp only[Array.toList_append,QY,QY,List.eraseIdx_eq_take_drop_succ];simp only[List.extract_eq_take_drop,Lx,KR];congr 1;exact lu (by simp)
def tf(a:Array Vb)(i:Nat)(h:i<a.size):(JA a i).size=a.size-1:=by rw[<-aX,pd,PO (by simpa using h),aX]
def zq{WP:Fin->aa->Prop}(ne:h≠Q)(U:q.heap.get? h=some O)(p:q.heap.get? Q=some VQ)(H:bk Vj c O G)(J:bk Vj c VQ [j])(T:Met G.length)(M:32<=G.length)(W8:j∈G)(W0:hL Vj c (eQ c.params O VQ) G->WP (.done (.ret (.ref q.heap.objs.size))) {q with heap:=q.heap.push (eQ c.params O VQ)}):aA (au Vj c) o (Builtin.«frozenset.__sub__» ⟨[.ref h,.ref Q],[]⟩) WP y q:=by
 refine aj λ Xd=>?_;obtain⟨WZ,d,D,b,g,WW,WQ,_,_,_⟩:=kU H T;obtain⟨_,_,_,Xh,Xf,Xn,z,WN,WV,WO,f⟩:=WZ;rw[g]at z;cases z;refine eb (mJ J) λ Xk Xl WU t v=>?_;obtain⟨_,_,_,Xg,Xe,Xm,W1,Xi,Xj,W7,W3⟩:=id H;refine Xd ?_;have WL:G.length<64:=by rcases T with⟨C,_⟩|⟨_,_,C⟩<;>first|exact dt C|exact sF C
 have co:bp c.params O=⟨.type "frozenset",none,.set d D b,#[]⟩:=by
  show(⟨.type "frozenset",none,(bp c.params O).data,#[]⟩:Obj)=_;rw[g]
 unfold Builtin.«frozenset.__sub__»;refine af (cx (a:=(hk h,hk Q)) rfl (af (af (iH (H.type U) (iH (J.type p) (af (cx (a:=h) rfl (af ?_))))))));unfold difference;refine af (iH (J.type p) (bT (by simp) ?_));refine af (cx (a:=Q) rfl (bT (by simp) ?_));refine eP rfl ?_;unfold LS;refine af (af (JJ p t v (ah (af (af (JJ U W1 W3 (ah ?_)))))));refine eP (by rw[W7];exact aJ (by decide:1<32/4) (Nat.div_le_div_right M)) ?_;refine af (Ju (af (ta U H T (by rintro rfl;simp at M) (af (cx (a:=q.heap.objs.size) rfl ?_)))));have L:(q.heap.push (bp c.params O)).get? Q=some VQ:=ao _ p;have B:(q.heap.push (bp c.params O)).get? q.heap.objs.size=some (bp c.params O):=aF _ rfl;refine af (aK ?_);unfold differenceUpdate;refine bT (by simp;exact λ C=>(IA (az p)) C.symm) ?_;refine af (iH (q:={q with heap:=q.heap.push (bp c.params O)}) ⟨VQ,L,J.cls⟩ (eP rfl (af (cx (a:=Q) rfl ?_))));unfold LS;refine af (af (JJ (s:={q with heap:=q.heap.push (bp c.params O)}) L t v (ah (af (af (JJ (s:={q with heap:=q.heap.push (bp c.params O)}) B g f (ah ?_)))))));refine bT (by show¬1/8>d.size;simp) ?_;refine af (LY (s:={q with heap:=q.heap.push (bp c.params O)}) L t v (af (aK (af (tb (q:={q with heap:=q.heap.push (bp c.params O)}) L t v (af (tc ?_)))))));dsimp only;refine af (aK ?_);unfold setDiscardHashed setFind setFindIn;have V:d.size<K7:=by rw[WO];unfold K7;exact md WL (aE true)
 refine af (af (gE (s:={q with heap:=q.heap.push (bp c.params O)}) B g f ?_));dsimp only;rw[T6 rfl V WN];simp only[↓reduceIte];refine af (Ju (af (PP (s:={q with heap:=q.heap.push (bp c.params O)}) (iE (Vj:=Vj) (c:=c) j WU) B g f WN (ak ((WV j).mp W8) λ WY W2 W5=>?_))));cases Y:K6 (λ e=>(strKind Vj c).is j e.2) d.toList with
 |none=>
  have :=JV.mp Y WY W2;rw[W5]at this;cases this|some i=>
  refine ak (List.findIdx?_eq_some_iff_getElem.mp Y) λ WK _ _=>?_;simp only[aX]at WK;simp only[Ik];refine ah (af (gE (s:={q with heap:=q.heap.push (bp c.params O)}) B g f ?_));have WS:pc c.params O VQ=⟨.type "frozenset",none,.set (JA d i) (D+1) (b.drop i),#[]⟩:=by
   unfold pc;have W9:dy VQ.data=#[((strKind Vj c).hash j,.str j WU)]:=by rw[t];rfl
   have W':dy (bp c.params O).data=d:=by rw[g];rfl
   have Xa:kR (bp c.params O).data=D:=by rw[g];rfl
   have Xb:eA (bp c.params O).data=b:=by rw[g];rfl
   rw[W9,W',Xa,Xb];have :K6 (λ e=>PT j e.2) d.toList=some i:=Y;show(match K6 (λ e=>PT j e.2) d.toList with|some i=>_|none=>_)=_;rw[this]
  have n:eQ c.params O VQ=⟨.type "frozenset",none,.set (JA d i) (D+1) (b.drop i),#[]⟩:=by unfold eQ;rw[WS];rfl
  have WM:=tf d i WK;refine af (J3 (s:={q with heap:=q.heap.push (bp c.params O)}) B g ?_ (by rw[WM];exact M4 (c5 ji V)));have Xc:(q.heap.push (bp c.params O)).update q.heap.objs.size (JN (JA d i) (b.drop i))=q.heap.push (eQ c.params O VQ):=by rw[te,co,n];rfl
  rw[Xc];refine af (SE (ah ?_));have N:(b.drop i).fits (JA d i).size=true/\(b.drop i).dummies.size=1/\(b.drop i).mask=127:=by
   have Xo:=f;unfold Kc at f;simp only[kn,beq_iff_eq,decide_eq_true_eq]at f;have WT:i<b.place.size:=by rw[f.1];exact WK
   have m:b.mask=127:=by
    rw[WW];refine a4 (mI c.params T) λ W6 _ _=>?_;rcases W6 with⟨_,e,n⟩|⟨_,_,_,_,_,e,WS,n⟩;·exact yo n M (aE true)
    ·exact e
   unfold SetTable.drop;rw[hq WT];dsimp only;have WR:(Kl b.dummies (uX b.dummies b.place[i]) b.place[i]).size=1:=by rw[WQ];unfold Kl;simp
   refine b3 ?_ WR m;unfold Kc Jy;rw[tf _ _ WT,WM,WR,f.1];simp only[beq_self_eq_true,Qe,decide_eq_true_eq];have :=f.2;unfold Jy at this;rw[WQ,f.1]at this;simp only[MQ,KV]at this;exact by rw[m,WO,Lh (an (by decide) M)];exact an (bn WL) (by decide)
  unfold unchanged;refine af (af (LY (s:={q with heap:=q.heap.push (eQ c.params O VQ)}) (ao _ p) t v (bT (by simp) ?_)));refine ah (ah ⟨rfl,?_⟩);unfold setTidy;refine ah (af (gE (s:={q with heap:=q.heap.push (eQ c.params O VQ)}) (aF _ rfl) (by rw[n]) N.1 ?_));refine bT (by unfold SetTable.tooManyDummies;rw[N.2.1,N.2.2];decide) ?_;refine ah (ah (ah ?_));refine W0 ⟨_,_,_,n,λ e u=>?_,λ k⟨e,u,W4⟩=>?_,by rw[WM];unfold K7 at V;exact bz (Nf _ _) (by rw[WO];exact LC WL (by decide)),N.1⟩;·rw[pd]at u;exact WN e (Qb u)
  ·rw[pd]at u;exact(WV k).mpr ⟨e,Qb u,W4⟩
noncomputable def kV(it:ab):Sem Fin:=(KI it).bind λ v=>match v with
 |some x=>.pure (.done (.ret x))|none=>.pure (.done .brk)
noncomputable abbrev hM:=fl×List (Option Obj×Obj)×List Str×Obj
noncomputable def fF(d:Nv->Sem Fin)(e:dQ)(w:ar)(a:ae)(it:ab)(g:Ctx)(WM:Nat->Pos):Nat->Nat->List Str->Obj->fl->List (Option Obj×Obj)->Option (fl×List (Option Obj×Obj)×List Str×Obj)
 |0,_,_,_,_,_=>none|n+1,WL,c,o,s,seen=>match kQ d e w (λ _ _ _=>none) 2000 g (WM WL) s [] (kV it)with
  |some (.ret (.ok .brk),b,[])=>some (b,(b.tree.get a,o)::seen,c,o)|some (.ret (.ok (.ret (.str x f))),b,[])=>match IF a b.n&&!c.contains x with
   |true=>fF d e w a it g WM n (WL+1) (x::c) (cV w.params x (.str x f) o) ⟨b.tree.set a (cV w.params x (.str x f)),b.n,b.life,b.gens,b.drawn,b.toks+1,b.os⟩ ((b.tree.get a,o)::seen)|ap=>none
  |_=>none
noncomputable def kW(w:ar)(a:ae)(c:List Str)(o:Obj)(d:List (Option Obj×Obj))(f:List Str->Obj->fl->List (Option Obj×Obj)->Option hM):Option e7->Option hM
 |some (.ret (.ok .brk),b,[])=>some (b,(b.tree.get a,o)::d,c,o)|some (.ret (.ok (.ret (.str x e))),b,[])=>match IF a b.n&&!c.contains x with
  |true=>f (x::c) (cV w.params x (.str x e) o) ⟨b.tree.set a (cV w.params x (.str x e)),b.n,b.life,b.gens,b.drawn,b.toks+1,b.os⟩ ((b.tree.get a,o)::d)|ap=>none
 |_=>none
def jp(n j:Nat)(b:List Str)(o:Obj)(s:fl)(d:List (Option Obj×Obj)):fF Wz Vj c h U Wl WA (n+1) j b o s d=kW c h b o d (fF Wz Vj c h U Wl WA n (j+1)) (kQ Wz Vj c (λ _ _ _=>none) 2000 Wl (WA j) s [] (kV U)):=rfl
def tg{b:List (Option Obj×Obj)}{f:List Str->Obj->fl->List (Option Obj×Obj)->Option hM}(d:h<V6.n)(e:j∉G):kW c h G O b f (some (.ret (.ok (.ret (.str j Vt))),V6,[]))=f (j::G) (cV c.params j (.str j Vt) O) ⟨V6.tree.set h (cV c.params j (.str j Vt)),V6.n,V6.life,V6.gens,V6.drawn,V6.toks+1,V6.os⟩ ((V6.tree.get h,O)::b):=by
 have g:(IF h V6.n&&!G.contains j)=true:=by
  rw[show IF h V6.n=true from Ny d];rcases q:G.contains j with _|_;·rfl
  ·exact absurd (QS.mp q) e
 show(match IF h V6.n&&!G.contains j with|true=>_|ap=>_)=_;rw[g]
def zr(x:Option e7):(∃b,x=some (.ret (.ok .brk),b,[]))\/(∃y c b,x=some (.ret (.ok (.ret (.str y c))),b,[]))\/∀w a d o seen f,kW w a d o seen f x=none:=by
 rcases x with _|x;·exact .inr (.inr λ _ _ _ _ _ _=>rfl)
 · obtain⟨e,b,l⟩:=x;cases e with
   |ret v=>cases v with
     |error=>exact .inr (.inr λ _ _ _ _ _ _=>rfl)|ok v=>cases l with
       |cons=>exact .inr (.inr λ _ _ _ _ _ _=>by cases v with
         |ret v=>cases v<;>rfl|_=>rfl)|nil=>cases v with
         |brk=>exact .inl ⟨_,rfl⟩|ret v=>cases v with
           |str y c=>exact .inr (.inl ⟨_,_,_,rfl⟩)|_=>exact .inr (.inr λ _ _ _ _ _ _=>rfl)
         |_=>exact .inr (.inr λ _ _ _ _ _ _=>rfl)
   |_=>exact .inr (.inr λ _ _ _ _ _ _=>rfl)
def pe{j:List (Option Obj×Obj)}{f:List Str->Obj->fl->List (Option Obj×Obj)->Option hM}{x:Option e7}{r:hM}(i:kW c h G O j f x=some r):∃(g:Option ab)(b:fl),x=some (.ret (.ok (g.elim .brk .ret)),b,[])/\(g=none/\r=(b,(b.tree.get h,O)::j,G,O)\/∃y d,g=some (.str y d)/\h<b.n/\y∉G/\f (y::G) (cV c.params y (.str y d) O) ⟨b.tree.set h (cV c.params y (.str y d)),b.n,b.life,b.gens,b.drawn,b.toks+1,b.os⟩ ((b.tree.get h,O)::j)=some r):=by
 refine ez (zr x) (λ m=>?_) (λ n=>?_) λ q=>?_
 · refine ai m ?_;rintro b rfl;obtain rfl:=ax i;exact dw none b rfl (.inl ⟨rfl,rfl⟩)
 · refine iC n ?_;rintro y d b rfl;rcases l:IF h b.n&&!G.contains y with _|_
   · have :kW c h G O j f (some (.ret (.ok (.ret (.str y d))),b,[]))=none:=by
       show(match IF h b.n&&!G.contains y with|true=>_|ap=>_)=_;rw[l]
     exact c7 (i.symm.trans this)
   · refine am (x4.mp l) λ k e=>?_;have e:y∉G:=λ q=>by rw[QS.mpr q]at e;cases e
     exact dw _ b rfl (.inr ⟨y,d,rfl,bW k,e,(tg (bW k) e).symm.trans i⟩)
 ·cases i.symm.trans (q ..)
def zs{q d:Nat->Pos}(n:Nat):∀(j:Nat),(∀i,j<=i->q i=d i)->fF Wz Vj c h U Wl q n j=fF Wz Vj c h U Wl d n j:=by induction n with
 |zero=>exact λ _ _=>rfl|succ n f=>
  intro j b;funext g o s seen;rw[jp,jp,b j (aB j),f (j+1) λ i e=>b i (Sw e)]
def zt(n:Nat):∀{j:Nat}{d:List Str}{o:Obj}{s:fl}{seen:List (Option Obj×Obj)}{r:hM},fF Wz Vj c h U Wl WA n j d o s seen=some r->∃new,r.2.1=new++seen:=by induction n with
 |zero=>exact λ b=>aQ b|succ n f=>
   intro j d o s seen r b;rw[jp]at b;obtain⟨_,g,_,⟨_,rfl⟩|⟨y,i,_,_,_,b⟩⟩:=pe b;·exact⟨[(_,o)],rfl⟩
   · refine ai (f b) λ new e=>?_;exact⟨new++[(g.tree.get h,o)],by rw[e,jB];rfl⟩
def zu:KE Kj "set.update.loop"=some Builtin.«set.update.loop»:=Jv (by lia)
def zv:KE Kj "frozenset.__or__"=some Builtin.«frozenset.__or__»:=Jv (by lia)
def zw:KE Kj "frozenset.__sub__"=some Builtin.«frozenset.__sub__»:=Jv (by lia)
def zx{a:String->Option Builtin}{b:Builtin}(h:KE a VF=some b):Lc a (.builtin VF Wv)=b Wv:=by
 show(match KE a VF with|some b=>b Wv|none=>_)=_;rw[h]
noncomputable def th(a:Ctx):aq:=⟨a.handled,Tl a.below+a.code.weight,none,none,a.units⟩
def zy(WL:Ctx):WL.In (th WL):=⟨rfl,aB _,λ _ WK=>(by cases WK),λ _ WK=>(by cases WK),aB _⟩
def bk.cons(g:bk Vj c O (G++[j])):bk Vj c O (j::G):=by
 obtain⟨a,d,n,e,b,t,f,h,l,m,i⟩:=g;exact⟨a,d,n,e,b,t,f,h,λ k=>by rw[<-l k];simp[or_comm],by rw[m];simp,i⟩
def zz{g:Option ab}{s d:fl}(i:kQ (Lc Kj) Vj c (λ _ _ _=>none) 2000 Wl v s [] (kV U)=some (.ret (.ok (g.elim .brk .ret)),d,[])):NQ (au Vj c) Wl (KI U) (λ f _ b=>f=g/\b=d.abs) (λ _ _ _=>False) v s.abs:=by
 have W:=(Sem.wp_iff_runs (au Vj c) Wl (kV U) (λ r b=>r=.ok (g.elim .brk .ret)/\b=d.abs) v s.abs).mpr ⟨_,_,(sP Vj c _ _ _ _ _ _ _ _ i).2 (λ _ h=>absurd h uR),rfl,rfl⟩;unfold kV at W;rw[Rs]at W;refine Rr _ _ _ (λ f j b a=>?_) (λ e j b a=>by cases a.1) _ _ W;rcases f with _|x;·cases g with
  |none=>exact⟨rfl,a.2⟩|some y=>cases a.1
 ·cases g with
  |none=>cases a.1|some y=>
   have e:=a.1;cases e;exact⟨rfl,a.2⟩
def zA(N:Wl.code=.builtin "set.update.loop" ⟨[.ref h,U],[]⟩)(n:Nat):∀(j:Nat){u:List Str}{o:Obj}{s:fl}{seen:List (Option Obj×Obj)}{p:Pos}{r:hM},bk Vj c o u->u.length+n<K7->(∀q:Nat->Pos,q j=p->fF (Lc Kj) Vj c h U Wl q n j u o s seen=some r)->(∀e∈r.2.1,e.1=some e.2)->NQ (au Vj c) Wl ((au Vj c).den Wl.code) (Sem.finPost (au Vj c) Wl (λ x d=>x=.ok (.ret .none)/\d=r.1.abs)) (λ e _ d=>(Except.error e:JH)=.ok (.ret .none)/\d=r.1.abs) p s.abs:=by induction n with
 |zero=>exact λ j _ _ _ _ p _ _ _ l _=>by cases l (λ _=>p) rfl|succ n WS=>
   intro j u o s seen p r g L l M;have m:=l (λ _=>p) rfl;have WK:(au Vj c).den Wl.code=Builtin.«set.update.loop» ⟨[.ref h,U],[]⟩:=by
     show Lc Kj Wl.code=_;rw[N];exact zx zu
   rw[WK];unfold Builtin.«set.update.loop»;show NQ _ _ ((KI U).bind _) _ _ _ _;rw[Rs];rw[jp]at m;refine aj λ WV=>aW (pe m) λ v d J T=>WV (Rr _ _ _ (λ W3 O WU f=>(am f λ f WQ=>?_)) (λ e O WU f=>f.elim) _ _ (zz J));subst f WQ;rcases T with⟨f,WP⟩|⟨x,k,f,H,z,m⟩;·subst f WP;exact⟨rfl,rfl⟩
   · subst f;show NQ _ _ ((Mh [.str x k] (RY h (.str x k))).bind _) _ _ _ _;rw[Rs];refine ai (zt _ m) λ new WN=>?_;have G:d.tree.get h=some o:=M (d.tree.get h,o) (WN▸iq _ (.head _));have V:alive o=some o:=by
       obtain⟨_,_,_,WX,ep,t,Y,_⟩:=g;obtain⟨WZ,W0,W1,W2⟩:=o;subst Y;rfl
     have WO:d.abs.heap.get? h=some o:=db (Ny H) G V;let S:=d.abs;refine Rr _ _ _ (λ b WT B y=>?_) (λ e WT B y=>y.elim) _ _ (aK (A:=th Wl) (E:=λ _ _=>False) (y8 (V2:=λ _ B=>B={S with heap:=S.heap.update h (cV c.params x (.str x k)),toks:=S.toks+1}) g WO z (bz (bX (Iu 1 n) _) L) rfl) Wl O (zy Wl));subst y;refine⟨Lb _ (by decide+kernel),?_⟩;rw[M9];have WL:Wl.goto (.builtin "set.update.loop" ⟨[.ref h,U],[]⟩)=Wl:=by rw[<-N];rfl
     rw[WL];have WR:({S with heap:=S.heap.update h (cV c.params x (.str x k)),toks:=S.toks+1}:aa)=(⟨d.tree.set h (cV c.params x (.str x k)),d.n,d.life,d.gens,d.drawn,d.toks+1,d.os⟩:fl).abs:=by
       unfold S Nb;dsimp only;rw[absHeap_set G]
     rw[WR];refine WS (j+1) (seen:=(d.tree.get h,o)::seen) (mG (Vt:=k) g z).cons (by rw[y3,OY];exact L) (λ q WY=>?_) M;have C:=l (λ i=>if i=j then p else q i) (if_pos rfl);rw[jp,if_pos rfl]at C;have D:=C;rw[J]at D;rw[<-zs n (j+1) (q:=λ i=>if i=j then p else q i) λ i WM=>if_neg (IA WM)];exact(tg H z).symm.trans D
def zB(n:Nat):∀{j:Nat}{d:List Str}{o:Obj}{s:fl}{seen:List (Option Obj×Obj)}{r:hM},fF Wz Vj c h U Wl WA n j d o s seen=some r->bk Vj c o d->bk Vj c r.2.2.2 r.2.2.1/\(r.1.tree.get h,r.2.2.2)∈r.2.1:=by induction n with
 |zero=>exact λ b=>aQ b|succ n f=>
  intro j d o s seen r b g;rw[jp]at b;obtain⟨_,k,_,⟨_,rfl⟩|⟨y,i,_,_,e,b⟩⟩:=pe b;·exact⟨g,.head _⟩
  ·exact f b (mG (Vt:=i) g e).cons
def ti(a:dQ)(w:ar):bk a w (g5 w.params) []:=⟨rfl,rfl,rfl,#[],0,dj w.params,rfl,λ e WK=>(nomatch WK),λ k=>by simp,rfl,rfl⟩
noncomputable abbrev P0:=Tt
structure g6 where
 par:Ji:=b2
 body:List Il:=[]scope:aw:=b2
 name:Str:=aR
 pos:Pos:=b2
 es:List b7:=[]
noncomputable def cE(t:Il):g6:=if h:t.ctorIdx=0 then S8 t h λ n a b _ _ _ s _ _ p=>⟨a,b,s,n,p,[]⟩else if h:t.ctorIdx=2 then T9 t h λ n e _ b _ _ s _ _ _ p=>⟨b2,b,s,n,p,e⟩else if h:t.ctorIdx=3 then U5 t h λ v p=>{pos:=p,es:=v.toList}else if h:t.ctorIdx=5 then U6 t h λ e v p=>{pos:=p,es:=v::e}else if h:t.ctorIdx=9 then Stmt.For.elim t h λ e _ b _ _=>{body:=b,es:=[e]}else if h:t.ctorIdx=12 then Stmt.If.elim t h λ e _ _ _=>{es:=[e]}else if h:t.ctorIdx=11 then Stmt.While.elim t h λ _ b _ _=>{body:=b}else if h:t.ctorIdx=17 then Stmt.Try.elim t h λ b _ _ _ _=>{body:=b}else if h:t.ctorIdx=24 then Stmt.Expr.elim t h λ e p=>{pos:=p,es:=[e]}else{}
noncomputable def jr(e:b7):Pos:=if h:e.ctorIdx=23 then Expr.Name.elim e h λ _ p=>p else b2
noncomputable def tj(e:b7):Pos×Pos:=if h:e.ctorIdx=20 then TR e h λ v _ p=>(jr v,p)else b2
noncomputable def zC(e:b7):Str×Nat×Pos:=if h:e.ctorIdx=19 then Uc e h λ c k p=>(match c with|.str y=>y|_=>aR,k,p)else b2
noncomputable def g6.e(s:g6)(i:Nat):b7:=s.es.getD i b2
noncomputable def zD:List Nat->Option Il
 |[i]=>P0.main.body[i]?|[i,j]=>(P0.main.body[i]?).bind λ WK=>(cE WK).body[j]?|_=>none
noncomputable def pf(p:List Nat):g6:=((zD p).map cE).getD {}
noncomputable def zE(p:List Nat):Ji:=(pf p).par
noncomputable def bB(p:List Nat):List Il:=(pf p).body
noncomputable def a0(p:List Nat):aw:=(pf p).scope
noncomputable def mK(i:Nat):Str:=(docOf (bB [i])).getD aR
noncomputable def iI(p:List Nat)(name j:Str)(g:ae)(d:List (Str×ae))(f h doc i:ab)(a:Option ae)(c e:ab)(b:ae):It:={name,qualname:=j,params:=zE p,body:=.stmts (bB p),scope:=a0 p,globals:=g,closure:=d,defaults:=f,kwdefaults:=h,doc,pyModule:=i,annotations:=a,code:=c,closureTuple:=e,builtins:=b}
noncomputable def gf(o:Obj):Obj:=match o with
 |⟨c,d,.func f,s⟩=>⟨c,d,.func {f with doc:=.none},s⟩|o=>o
noncomputable abbrev sN(x:String)(t:Tok):ab:=.str (ac x) t
noncomputable def dE(P:a3)(x:String)(t:Tok)(v:ab):OJ:=⟨mL P (ac x),sN x t,v⟩
noncomputable def tE:Obj:=⟨.type "tuple",none,.seq #[] 0,#[]⟩
noncomputable def fE:Obj:=⟨.none,none,.fields #[],#[]⟩
noncomputable abbrev m0:ab:=sN "__main__" 164
noncomputable abbrev m1:ab:=sN "cpy313.tomllib._parser" 194
noncomputable abbrev m2:ab:=sN "cpy313.functools" 495
noncomputable abbrev m3:ab:=sN "cpy313.unittest.util" 521
noncomputable abbrev m4:ab:=sN "law_in0064_01" 766
noncomputable def nT(t:Tok)(l:List String):Obj:=⟨.type "tuple",none,.seq (l.zipIdx.map λ q=>sN q.1 (t+q.2)).toArray 0,#[]⟩
noncomputable def pN:String:="/claim/cut.py"
abbrev Fd:Type:=List Nat->String->String->List (Str×ae)->ab->ab->Option ae->ab->Nat->Nat->Nat->Nat->Nat->Nat->Nat->Bool->Obj
noncomputable def cO:Fd:=λ p n q f h m e g b t l a d c k w=>⟨.type "code",none,.fields #[sN n t,sN q (t+1),sN pN (t+2),.int l 0,.int a 0,.int 0 0,.int d 0,.int c 0,.ref b,.bool true,.int 181 0,.ref (b+1),.none,if w then .ref (b+2)else .none,if w then .ref (b+3)else .none,.ref (if w then b+4 else b+2),.int (t+3+k:Nat) 0,.int l 0,sN pN (t+4+k)],#[]⟩
noncomputable def fO:Fd:=λ p n q c e m a d b t l f h g k w=>⟨.type "function",none,.func (iI p (ac n) (ac q) 3 c e .none .none m a (.ref (if w then b+5 else b+3)) d 0),#[]⟩
noncomputable def fK:Fd:=λ p n q d f m c e b t l a h g k w=>⟨.none,none,.func (iI p (ac n) (ac q) 0 [] .none .none .none .none none .none .none 0),#[]⟩
noncomputable def pg(f:Fd):Obj:=f [0] "_wall" "_wall" [] .none m0 none .none 15 187 1 1 0 3 1 true
noncomputable def ph(f:Fd):Obj:=f [11] "skip_chars" "skip_chars" [] .none m1 none .none 70 427 15 3 0 3 3 true
noncomputable def pi(f:Fd):Obj:=f [12] "skip_until" "skip_until" [] .none m1 none .none 77 436 22 3 2 3 6 true
noncomputable def pj(f:Fd):Obj:=f [13] "skip_comment" "skip_comment" [] .none m1 none .none 84 448 34 2 0 3 3 true
noncomputable def pk(f:Fd):Obj:=f [14] "skip_comments_and_array_ws" "skip_comments_and_array_ws" [] .none m1 none .none 91 457 42 2 0 3 3 true
noncomputable def pl(f:Fd):Obj:=f [15] "parse_hex_char" "parse_hex_char" [] .none m1 none .none 98 466 49 3 0 3 5 true
noncomputable def pn(f:Fd):Obj:=f [16] "suffixed_err" "suffixed_err" [] .none m1 none .none 105 477 58 3 0 3 4 true
noncomputable def po(f:Fd):Obj:=f [17] "is_unicode_scalar_value" "is_unicode_scalar_value" [] .none m1 none .none 112 488 72 1 0 3 1 true
noncomputable def pp(f:Fd):Obj:=f [21] "reduce" "reduce" [] (.ref 127) m2 none .none 128 508 102 3 0 3 6 true
noncomputable def pq(f:Fd):Obj:=f [23,0] "__init__" "_tuplegetter.__init__" [] .none m3 none .none 142 535 129 3 0 3 3 true
noncomputable def pr(f:Fd):Obj:=f [23,1] "__get__" "_tuplegetter.__get__" [] (.ref 149) m3 none .none 150 544 133 3 0 3 3 true
noncomputable def pt(f:Fd):Obj:=f [23,2] "__set__" "_tuplegetter.__set__" [] .none m3 none .none 157 553 140 3 0 3 3 true
noncomputable def pv(f:Fd):Obj:=f [23,3] "__delete__" "_tuplegetter.__delete__" [] .none m3 none .none 164 562 143 2 0 3 2 true
noncomputable def pw(f:Fd):Obj:=f [24] "sorted_list_difference" "sorted_list_difference" [] .none m3 none .none 178 580 145 2 0 3 8 true
noncomputable def px(f:Fd):Obj:=f [25] "unorderable_list_difference" "unorderable_list_difference" [] .none m3 none .none 185 595 184 2 0 3 4 true
noncomputable def py(f:Fd):Obj:=f [26] "three_way_cmp" "three_way_cmp" [] .none m3 none .none 192 606 198 2 0 3 2 true
noncomputable def pz(f:Fd):Obj:=f [27,4] "__new__" "Mismatch.__new__" [] .none m3 none .none 210 636 207 4 0 3 4 true
noncomputable def pA(f:Fd):Obj:=f [27,5] "_make" "Mismatch._make" [] .none m3 (some 226) .none 217 647 211 2 0 3 3 true
noncomputable def pB(f:Fd):Obj:=f [27,8] "__repr__" "Mismatch.__repr__" [] .none m3 none .none 235 681 230 1 0 3 1 true
noncomputable def pC(f:Fd):Obj:=f [27,9] "_asdict" "Mismatch._asdict" [] .none m3 none .none 242 689 234 1 0 3 1 true
noncomputable def pD(f:Fd):Obj:=f [27,10] "__getnewargs__" "Mismatch.__getnewargs__" [] .none m3 none .none 249 696 237 1 0 3 1 true
noncomputable def pE(f:Fd):Obj:=f [29] "_count_diff_all_purpose" "_count_diff_all_purpose" [] .none m3 none .none 273 744 245 2 0 3 15 true
noncomputable def pF(f:Fd):Obj:=f [31] "_law_text" "_law_text" [] .none m4 none .none 280 768 278 1 0 3 0 ap
noncomputable def pG(f:Fd):Obj:=f [32] "_law_step" "_law_step" [] .none m4 none .none 285 774 286 2 0 3 6 true
noncomputable def pH(f:Fd):Obj:=f [33] "_law_fit" "_law_fit" [] .none m4 none .none 292 786 293 1 0 3 0 ap
noncomputable def pI(f:Fd):Obj:=f [34] "_law_words" "_law_words" [] .none m4 none .none 297 792 295 2 0 3 4 true
noncomputable def pJ(f:Fd):Obj:=f [35] "_law_less" "_law_less" [] .none m4 none .none 304 802 299 2 0 3 0 ap
noncomputable def pK(f:Fd):Obj:=f [36] "law" "law" [] .none m4 none .none 309 808 302 1 0 3 0 ap
noncomputable def hP(P:a3):Obj:=⟨.none,none,(.dict #[] 0),#[]⟩
noncomputable def js(P:a3):Obj:=⟨(.type "dict"),none,(.dict #[dE P "__name__" 165 (sN "law_in0064_01" 766),dE P "__doc__" 166 .none,dE P "__package__" 167 .none,dE P "__loader__" 168 (.builtin "__main__.__loader__#opaque"),dE P "__spec__" 169 .none,dE P "__annotations__" 170 (.ref 6),dE P "__builtins__" 171 (.ref 4),dE P "__file__" 173 (sN "/claim/cut.py" 172),dE P "__cached__" 174 .none,dE P "_wall" 193 (.ref 21),dE P "ASCII_CTRL" 339 (.ref 38),dE P "ILLEGAL_BASIC_STR_CHARS" 343 (.ref 43),dE P "ILLEGAL_COMMENT_CHARS" 344 (.ref 43),dE P "TOML_WS" 350 (.ref 44),dE P "TOML_WS_AND_NEWLINE" 354 (.ref 52),dE P "digits" 356 (sN "0123456789" 355),dE P "hexdigits" 361 (sN "0123456789abcdefABCDEF" 360),dE P "HEXDIGIT_CHARS" 406 (.ref 53),dE P "TOMLDecodeError" 426 (.ref 66),dE P "skip_chars" 435 (.ref 76),dE P "skip_until" 447 (.ref 83),dE P "skip_comment" 456 (.ref 90),dE P "skip_comments_and_array_ws" 465 (.ref 97),dE P "parse_hex_char" 476 (.ref 104),dE P "suffixed_err" 487 (.ref 111),dE P "is_unicode_scalar_value" 494 (.ref 118),dE P "cmp_to_key" 506 (.ref 125),dE P "_initial_missing" 507 (.ref 126),dE P "reduce" 520 (.ref 134),dE P "_tuplegetter" 579 (.ref 173),dE P "sorted_list_difference" 594 (.ref 184),dE P "unorderable_list_difference" 605 (.ref 191),dE P "three_way_cmp" 614 (.ref 198),dE P "Mismatch" 742 (.ref 269),dE P "_Mismatch" 743 (.ref 269),dE P "_count_diff_all_purpose" 765 (.ref 279),dE P "_law_text" 773 (.ref 284),dE P "_law_step" 785 (.ref 291),dE P "_law_fit" 791 (.ref 296),dE P "_law_words" 801 (.ref 303),dE P "_law_less" 807 (.ref 308),dE P "law" 813 (.ref 313)] 42),#[]⟩
noncomputable def mM(P:a3):Obj:=⟨(.type "dict"),none,(.dict #[dE P "__module__" 414 (sN "cpy313.tomllib._parser" 194),dE P "__firstlineno__" 418 (.int 13 417),dE P "__doc__" 420 (.str (mK 10) 419),dE P "__static_attributes__" 422 (.ref 64),dE P "__weakref__" 424 (.ref 67)] 2),#[]⟩
noncomputable def mN(P:a3):Obj:=pK fO
noncomputable def mO(P:a3):Obj:=⟨(.type "type"),none,(.cls {name:=(ac "Mismatch"),bases:=[(.type "tuple")],mro:=[(.ref 269),(.type "tuple"),(.type "object")],ns:=268,qualname:=(ac "Mismatch"),hasDict:=ap,slotNames:=[],subclasses:=[],abstract:=ap,collection:=none,hasDel:=ap}),#[(some (.ref 199)),none,(some (sN "Mismatch" 615)),(some (sN "Mismatch" 623)),(some .none),(some (.bool ap))]⟩
noncomputable def mP(P:a3):Obj:=⟨(.type "code"),none,(.fields #[(sN "cmp_to_key" 497),(sN "cmp_to_key" 498),(sN "/claim/cut.py" 499),.int 75 0,.int 1 0,.int 0 0,.int 0 0,.int 3 0,(.ref 119),(.bool true),.int 181 0,(.ref 120),.none,(.ref 121),(.ref 122),(.ref 123),.int 503 0,.int 75 0,(sN "/claim/cut.py" 504)]),#[]⟩
noncomputable def pL(P:a3):Obj:=⟨(.type "staticmethod"),none,(.fields #[(.ref 216)]),#[]⟩
noncomputable def pM(P:a3):Obj:=⟨(.type "dict"),none,(.dict #[dE P "__module__" 622 (sN "cpy313.unittest.util" 521),dE P "__firstlineno__" 626 (.int 201 625),dE P "__doc__" 628 (.str (mK 27) 627),dE P "__slots__" 630 (.ref 207),dE P "_fields" 634 (.ref 208),dE P "_field_defaults" 635 (.ref 209),dE P "__new__" 646 (.ref 270),dE P "_make" 668 (.ref 225),dE P "_replace" 679 (.ref 234),dE P "__replace__" 680 (.ref 234),dE P "__repr__" 688 (.ref 241),dE P "_asdict" 695 (.ref 248),dE P "__getnewargs__" 703 (.ref 255),dE P "__match_args__" 707 (.ref 256),dE P "actual" 717 (.ref 258),dE P "expected" 727 (.ref 261),dE P "value" 737 (.ref 264),dE P "__static_attributes__" 738 (.ref 266)] 2),#[]⟩
noncomputable def tm(P:a3):Obj:=pK cO
noncomputable def tn(P:a3):Obj:=⟨(.type "tuple"),none,(.seq #[(.ref 126)] 0),#[]⟩
noncomputable def tp(P:a3):Obj:=⟨(.type "object"),none,.plain,#[]⟩
noncomputable def tq(P:a3):Obj:=pn cO
noncomputable def d8(P:a3):List (Nat×Obj):=[(2,hP P),(3,js P),(11,tE),(12,⟨.none,none,(.fields #[.int 1 0,.int 0 0,(.ref 20),.int 5 0,.int 23 0,(.ref 26),.int 13 0,.int 0 0,(.ref 62),.int 15 0,.int 0 0,(.ref 75),.int 22 0,.int 0 0,(.ref 82),.int 34 0,.int 0 0,(.ref 89),.int 42 0,.int 0 0,(.ref 96),.int 49 0,.int 0 0,(.ref 103),.int 58 0,.int 0 0,(.ref 110),.int 72 0,.int 0 0,(.ref 117),.int 75 0,.int 0 0,(.ref 124),.int 102 0,.int 0 0,(.ref 133),.int 127 0,.int 0 0,(.ref 140),.int 145 0,.int 0 0,(.ref 183),.int 184 0,.int 0 0,(.ref 190),.int 198 0,.int 0 0,(.ref 197),.int 201 0,.int 0 0,(.ref 205),.int 245 0,.int 0 0,(.ref 278),.int 278 0,.int 0 0,(.ref 283),.int 286 0,.int 0 0,(.ref 290),.int 293 0,.int 0 0,(.ref 295),.int 295 0,.int 0 0,(.ref 302),.int 299 0,.int 0 0,(.ref 307),.int 302 0,.int 0 0,(.ref 312)]),#[]⟩),(13,⟨(.type "code"),none,(.fields #[(sN "<module>" 182),(sN "<module>" 183),(sN "/claim/cut.py" 184),.int 1 0,.int 0 0,.int 0 0,.int 0 0,.int 0 0,(.ref 11),(.bool ap),.int 181 0,(.ref 12),.none,.none,.none,.none,.int 185 0,.int 1 0,(sN "/claim/cut.py" 186)]),#[]⟩),(14,⟨(.type "frame"),none,.plain,#[(some (.ref 13)),(some (.ref 3)),(some (.ref 3)),none,(some (sN "__main__" 164)),none,(some (.ref 0))]⟩),(15,tE),(16,fE),(17,nT 190 ["k"]),(18,tE),(19,pg fK),(20,pg cO),(21,pg fO),(57,⟨(.type "tuple"),none,(.seq #[(.type "ValueError")] 0),#[]⟩),(58,⟨(.type "builtin_function_or_method"),none,(.fields #[(.builtin "type.__prepare__"),(.type "type")]),#[]⟩),(59,⟨(.type "dict"),none,(.dict #[dE P "__module__" 414 (sN "cpy313.tomllib._parser" 194),dE P "__qualname__" 416 (sN "TOMLDecodeError" 415),dE P "__firstlineno__" 418 (.int 13 417),dE P "__doc__" 420 (.str (mK 10) 419),dE P "__static_attributes__" 422 (.ref 64)] 5),#[]⟩),(60,tE),(61,fE),(62,⟨(.type "code"),none,(.fields #[(sN "TOMLDecodeError" 409),(sN "TOMLDecodeError" 410),(sN "/claim/cut.py" 411),.int 13 0,.int 0 0,.int 0 0,.int 0 0,.int 0 0,(.ref 60),(.bool ap),.int 181 0,(.ref 61),.none,.none,.none,.none,.int 412 0,.int 13 0,(sN "/claim/cut.py" 413)]),#[]⟩),(63,⟨(.type "frame"),none,.plain,#[(some (.ref 62)),(some (.ref 3)),(some (.ref 59)),none,(some (sN "cpy313.tomllib._parser" 194)),none,(some (.ref 0))]⟩),(64,tE),(65,mM P),(66,⟨(.type "type"),none,(.cls {name:=(ac "TOMLDecodeError"),bases:=[(.type "ValueError")],mro:=[(.ref 66),(.type "ValueError"),(.type "Exception"),(.type "BaseException"),(.type "object")],ns:=65,qualname:=(ac "TOMLDecodeError"),hasDict:=true,slotNames:=[],subclasses:=[],abstract:=ap,collection:=none,hasDel:=ap}),#[(some (.ref 57)),none,(some (sN "TOMLDecodeError" 407)),(some (sN "TOMLDecodeError" 415)),(some (.builtin "ValueError.__new__")),(some (.bool true))]⟩),(67,⟨(.type "getset_descriptor"),none,(.fields #[(sN "__weakref__" 423),(.ref 66),(.builtin "ExceptionGroup.__weakref__"),.none]),#[]⟩),(68,⟨(.type "super"),none,(.fields #[(.ref 66),(.ref 66),(.ref 66)]),#[]⟩),(69,⟨(.type "builtin_function_or_method"),none,(.fields #[(.builtin "object.__init_subclass__"),(.ref 66)]),#[]⟩),(70,tE),(71,fE),(72,nT 430 ["src","pos","chars"]),(73,tE),(74,ph fK),(75,ph cO),(76,ph fO),(77,tE),(78,fE),(79,nT 439 ["src","pos","expect","error_on","error_on_eof","new_pos"]),(80,tE),(81,pi fK),(82,pi cO),(83,pi fO),(84,tE),(85,fE),(86,nT 451 ["src","pos","char"]),(87,tE),(88,pj fK),(89,pj cO),(90,pj fO),(91,tE),(92,fE),(93,nT 460 ["src","pos","pos_before_skip"]),(94,tE),(95,pk fK),(96,pk cO),(97,pk fO),(98,tE),(99,fE),(100,nT 469 ["src","pos","hex_len","hex_str","hex_int"]),(101,tE),(102,pl fK),(103,pl cO),(104,pl fO),(105,tE),(106,fE),(107,nT 480 ["src","pos","msg","coord_repr"]),(108,tE),(109,pn fK),(110,tq P),(111,pn fO),(112,tE),(113,fE),(114,nT 491 ["codepoint"]),(115,tE),(116,po fK),(117,po cO),(118,po fO),(119,tE),(120,fE),(121,⟨(.type "tuple"),none,(.seq #[(sN "mycmp" 500),(sN "K" 501)] 0),#[]⟩),(122,⟨(.type "tuple"),none,(.seq #[(sN "mycmp" 502)] 0),#[]⟩),(123,⟨.none,none,(.func (iI [19] (ac "cmp_to_key") (ac "cmp_to_key") 0 [] .none .none .none .none none .none .none 0)),#[]⟩),(124,mP P),(125,⟨(.type "function"),none,(.func (iI [19] (ac "cmp_to_key") (ac "cmp_to_key") 3 [] .none .none .none (sN "cpy313.functools" 495) none (.ref 124) .none 0)),#[]⟩),(126,tp P),(127,tn P),(128,tE),(129,fE),(130,nT 511 ["function","sequence","initial","it","value","element"]),(131,tE),(132,pp fK),(133,pp cO),(134,pp fO),(135,tE),(136,⟨(.type "builtin_function_or_method"),none,(.fields #[(.builtin "type.__prepare__"),(.type "type")]),#[]⟩),(137,⟨(.type "dict"),none,(.dict #[dE P "__module__" 530 (sN "cpy313.unittest.util" 521),dE P "__qualname__" 532 (sN "_tuplegetter" 531),dE P "__firstlineno__" 534 (.int 127 533),dE P "__init__" 543 (.ref 148),dE P "__get__" 552 (.ref 156),dE P "__set__" 561 (.ref 163),dE P "__delete__" 569 (.ref 170),dE P "__static_attributes__" 572 (.ref 171)] 8),#[]⟩),(138,tE),(139,⟨.none,none,(.fields #[.int 129 0,.int 4 0,(.ref 147),.int 133 0,.int 4 0,(.ref 155),.int 140 0,.int 4 0,(.ref 162),.int 143 0,.int 4 0,(.ref 169)]),#[]⟩),(140,⟨(.type "code"),none,(.fields #[(sN "_tuplegetter" 525),(sN "_tuplegetter" 526),(sN "/claim/cut.py" 527),.int 127 0,.int 0 0,.int 0 0,.int 0 0,.int 0 0,(.ref 138),(.bool ap),.int 181 0,(.ref 139),.none,.none,.none,.none,.int 528 0,.int 127 0,(sN "/claim/cut.py" 529)]),#[]⟩),(141,⟨(.type "frame"),none,.plain,#[(some (.ref 140)),(some (.ref 3)),(some (.ref 137)),none,(some (sN "cpy313.unittest.util" 521)),none,(some (.ref 0))]⟩),(142,tE),(143,fE),(144,nT 538 ["self","index","doc"]),(145,tE),(146,pq fK),(147,pq cO),(148,pq fO),(149,⟨(.type "tuple"),none,(.seq #[.none] 0),#[]⟩),(150,tE),(151,fE),(152,nT 547 ["self","obj","objtype"]),(153,tE),(154,pr fK),(155,pr cO),(156,pr fO),(157,tE),(158,fE),(159,nT 556 ["self","obj","value"]),(160,tE),(161,pt fK),(162,pt cO),(163,pt fO),(164,tE),(165,fE),(166,nT 565 ["self","obj"]),(167,tE),(168,pv fK),(169,pv cO),(170,pv fO),(171,⟨(.type "tuple"),none,(.seq #[(sN "__doc__" 570),(sN "index" 571)] 0),#[]⟩),(172,⟨(.type "dict"),none,(.dict #[dE P "__module__" 530 (sN "cpy313.unittest.util" 521),dE P "__firstlineno__" 534 (.int 127 533),dE P "__init__" 543 (.ref 148),dE P "__get__" 552 (.ref 156),dE P "__set__" 561 (.ref 163),dE P "__delete__" 569 (.ref 170),dE P "__static_attributes__" 572 (.ref 171),dE P "__dict__" 574 (.ref 174),dE P "__weakref__" 576 (.ref 175),dE P "__doc__" 577 .none] 4),#[]⟩),(173,⟨(.type "type"),none,(.cls {name:=(ac "_tuplegetter"),bases:=[(.type "object")],mro:=[(.ref 173),(.type "object")],ns:=172,qualname:=(ac "_tuplegetter"),hasDict:=true,slotNames:=[],subclasses:=[],abstract:=ap,collection:=none,hasDel:=ap}),#[none,none,(some (sN "_tuplegetter" 523)),(some (sN "_tuplegetter" 531)),(some (.builtin "object.__new__")),(some (.bool true))]⟩),(174,⟨(.type "getset_descriptor"),none,(.fields #[(sN "__dict__" 573),(.ref 173),(.builtin "function.__dict__"),(.builtin "function.__dict__#set")]),#[]⟩),(175,⟨(.type "getset_descriptor"),none,(.fields #[(sN "__weakref__" 575),(.ref 173),(.builtin "ExceptionGroup.__weakref__"),.none]),#[]⟩),(176,⟨(.type "super"),none,(.fields #[(.ref 173),(.ref 173),(.ref 173)]),#[]⟩),(177,⟨(.type "builtin_function_or_method"),none,(.fields #[(.builtin "object.__init_subclass__"),(.ref 173)]),#[]⟩),(178,tE),(179,fE),(180,nT 583 ["expected","actual","i","j","missing","unexpected","e","a"]),(181,tE),(182,pw fK),(183,pw cO),(184,pw fO),(185,tE),(186,fE),(187,nT 598 ["expected","actual","missing","item"]),(188,tE),(189,px fK),(190,px cO),(191,px fO),(192,tE),(193,fE),(194,nT 609 ["x","y"]),(195,tE),(196,py fK),(197,py cO),(198,py fO),(199,⟨(.type "tuple"),none,(.seq #[(.type "tuple")] 0),#[]⟩),(200,⟨(.type "builtin_function_or_method"),none,(.fields #[(.builtin "type.__prepare__"),(.type "type")]),#[]⟩),(201,⟨(.type "dict"),none,(.dict #[dE P "__module__" 622 (sN "cpy313.unittest.util" 521),dE P "__qualname__" 624 (sN "Mismatch" 623),dE P "__firstlineno__" 626 (.int 201 625),dE P "__doc__" 628 (.str (mK 27) 627),dE P "__slots__" 630 (.ref 207),dE P "_fields" 634 (.ref 208),dE P "_field_defaults" 635 (.ref 209),dE P "__new__" 646 (.ref 216),dE P "_make" 668 (.ref 225),dE P "_replace" 679 (.ref 234),dE P "__replace__" 680 (.ref 234),dE P "__repr__" 688 (.ref 241),dE P "_asdict" 695 (.ref 248),dE P "__getnewargs__" 703 (.ref 255),dE P "__match_args__" 707 (.ref 256),dE P "actual" 717 (.ref 258),dE P "expected" 727 (.ref 261),dE P "value" 737 (.ref 264),dE P "__static_attributes__" 738 (.ref 266),dE P "__classcell__" 739 (.ref 202)] 20),#[]⟩),(202,⟨(.type "cell"),none,(.cell (some (.ref 269))),#[]⟩),(203,tE),(204,⟨.none,none,(.fields #[.int 207 0,.int 4 0,(.ref 215),.int 212 0,.int 4 0,(.ref 222),.int 219 0,.int 4 0,(.ref 233),.int 230 0,.int 4 0,(.ref 240),.int 234 0,.int 4 0,(.ref 247),.int 237 0,.int 4 0,(.ref 254)]),#[]⟩),(205,⟨(.type "code"),none,(.fields #[(sN "Mismatch" 617),(sN "Mismatch" 618),(sN "/claim/cut.py" 619),.int 201 0,.int 0 0,.int 0 0,.int 0 0,.int 0 0,(.ref 203),(.bool ap),.int 181 0,(.ref 204),.none,.none,.none,.none,.int 620 0,.int 201 0,(sN "/claim/cut.py" 621)]),#[]⟩),(206,⟨(.type "frame"),none,.plain,#[(some (.ref 205)),(some (.ref 3)),(some (.ref 201)),none,(some (sN "cpy313.unittest.util" 521)),none,(some (.ref 0))]⟩),(207,tE),(208,⟨(.type "tuple"),none,(.seq #[(sN "actual" 631),(sN "expected" 632),(sN "value" 633)] 0),#[]⟩),(209,⟨(.type "dict"),none,(.dict #[] 0),#[]⟩),(210,tE),(211,fE),(212,nT 639 ["_cls","actual","expected","value"]),(213,tE),(214,pz fK),(215,pz cO),(216,pz fO),(217,tE),(218,fE),(219,nT 650 ["cls","iterable","result"]),(220,tE),(221,pA fK),(222,pA cO),(223,pA fO),(225,⟨(.type "classmethod"),(some 224),(.fields #[(.ref 223),(.bool ap)]),#[]⟩),(226,⟨(.type "dict"),none,(.dict #[] 0),#[]⟩),(227,⟨(.type "tuple"),none,(.seq #[(.ref 202)] 0),#[]⟩),(228,⟨(.type "tuple"),none,(.seq #[(sN "__class__" 672)] 0),#[]⟩),(229,fE),(230,⟨(.type "tuple"),none,(.seq #[(sN "self" 673),(sN "kwds" 674),(sN "result" 675)] 0),#[]⟩),(231,tE),(232,⟨.none,none,(.func (iI [27,6] (ac "_replace") (ac "Mismatch._replace") 0 [] .none .none .none .none none .none .none 0)),#[]⟩),(233,⟨(.type "code"),none,(.fields #[(sN "_replace" 669),(sN "Mismatch._replace" 670),(sN "/claim/cut.py" 671),.int 219 0,.int 1 0,.int 1 0,.int 0 0,.int 11 0,(.ref 228),(.bool true),.int 181 0,(.ref 229),.none,(.ref 230),(.ref 231),(.ref 232),.int 676 0,.int 219 0,(sN "/claim/cut.py" 677)]),#[]⟩),(234,⟨(.type "function"),none,(.func (iI [27,6] (ac "_replace") (ac "Mismatch._replace") 3 [((ac "__class__"),202)] .none .none .none (sN "cpy313.unittest.util" 521) none (.ref 233) (.ref 227) 0)),#[]⟩),(235,tE),(236,fE),(237,nT 684 ["self"]),(238,tE),(239,pB fK),(240,pB cO),(241,pB fO),(242,tE),(243,fE),(244,nT 692 ["self"]),(245,tE),(246,pC fK),(247,pC cO),(248,pC fO),(249,tE),(250,fE),(251,nT 699 ["self"]),(252,tE),(253,pD fK),(254,pD cO),(255,pD fO),(256,⟨(.type "tuple"),none,(.seq #[(sN "actual" 704),(sN "expected" 705),(sN "value" 706)] 0),#[]⟩),(257,⟨(.type "dict"),none,(.dict #[dE P "index" 714 (.int 0 708),dE P "__doc__" 716 (sN "Alias for field number 0" 709)] 2),#[]⟩),(258,⟨(.ref 173),(some 257),.plain,#[]⟩),(259,⟨(.type "frame"),none,(.dict #[dE P "self" 710 (.ref 258),dE P "index" 711 (.int 0 708),dE P "doc" 712 (sN "Alias for field number 0" 709)] 3),#[]⟩),(260,⟨(.type "dict"),none,(.dict #[dE P "index" 724 (.int 1 718),dE P "__doc__" 726 (sN "Alias for field number 1" 719)] 2),#[]⟩),(261,⟨(.ref 173),(some 260),.plain,#[]⟩),(262,⟨(.type "frame"),none,(.dict #[dE P "self" 720 (.ref 261),dE P "index" 721 (.int 1 718),dE P "doc" 722 (sN "Alias for field number 1" 719)] 3),#[]⟩),(263,⟨(.type "dict"),none,(.dict #[dE P "index" 734 (.int 2 728),dE P "__doc__" 736 (sN "Alias for field number 2" 729)] 2),#[]⟩),(264,⟨(.ref 173),(some 263),.plain,#[]⟩),(265,⟨(.type "frame"),none,(.dict #[dE P "self" 730 (.ref 264),dE P "index" 731 (.int 2 728),dE P "doc" 732 (sN "Alias for field number 2" 729)] 3),#[]⟩),(266,tE),(267,⟨(.type "list"),none,(.seq #[] 0),#[]⟩),(268,pM P),(269,mO P),(270,pL P),(271,⟨(.type "super"),none,(.fields #[(.ref 269),(.ref 269),(.ref 269)]),#[]⟩),(272,⟨(.type "builtin_function_or_method"),none,(.fields #[(.builtin "object.__init_subclass__"),(.ref 269)]),#[]⟩),(273,tE),(274,fE),(275,nT 747 ["actual","expected","s","t","m","n","NULL","result","i","elem","cnt_s","cnt_t","j","other_elem","diff"]),(276,tE),(277,pE fK),(278,pE cO),(279,pE fO),(280,tE),(281,fE),(282,pF fK),(283,pF cO),(284,pF fO),(285,tE),(286,fE),(287,nT 777 ["src","state","start","end","sign","error"]),(288,tE),(289,pG fK),(290,pG cO),(291,pG fO),(292,tE),(293,fE),(294,pH fK),(295,pH cO),(296,pH fO),(297,tE),(298,fE),(299,nT 795 ["src","end","ahead","where"]),(300,tE),(301,pI fK),(302,pI cO),(303,pI fO),(304,tE),(305,fE),(306,pJ fK),(307,pJ cO),(308,pJ fO),(309,tE),(310,fE),(311,pK fK),(312,tm P),(313,mN P)]
def tr:Rp "frozenset" "__or__" "frozenset.__or__":=.of (owner:="frozenset") (n:="__or__") (by rw[I4,FF];lia) (by decide+kernel) (by decide+kernel) (by decide+kernel) (by first|exact .inl (by decide+kernel)|exact .inr (by decide+kernel)) (by rw[kF];lia)
def ts:Rp "frozenset" "__sub__" "frozenset.__sub__":=.of (owner:="frozenset") (n:="__sub__") (by rw[I4,FF];lia) (by decide+kernel) (by decide+kernel) (by decide+kernel) (by first|exact .inl (by decide+kernel)|exact .inr (by decide+kernel)) (by rw[kF];lia)
def zG(a b:ab):L8 "frozenset.__or__" ⟨[a,b],[]⟩:=by unfold L8;rw[Mg (id:="frozenset.__or__") (n:=['_','_','r','o','_','_']) (o:=['t','e','s','n','e','z','o','r','f']) (by lia) Kr];lia
def zH(a b:ab):L8 "frozenset.__sub__" ⟨[a,b],[]⟩:=by unfold L8;rw[Mg (id:="frozenset.__sub__") (n:=['_','_','b','u','s','_','_']) (o:=['t','e','s','n','e','z','o','r','f']) (by lia) Kr];lia
noncomputable def pO(a:Ctx):aq:=⟨a.handled,Tl a.below,none,none,unitsOf a.below⟩
def tt(WL:Ctx):WL.Below (pO WL):=⟨rfl,aB _,λ _ WK=>(by cases WK),λ _ WK=>(by cases WK),aB _⟩
def tu(y:Wt.Γ.code=.call (.builtin "frozenset.__or__") ⟨[.ref h,.ref Q],[]⟩)(B:IF h Wt.before.n=true)(E:IF Q Wt.before.n=true)(q:Wt.before.tree.get h=some O)(s:Wt.before.tree.get Q=some VQ)(a:bk Vj c O G)(i:bk Vj c VQ [j])(ne:h≠Q)(D:Met G.length)(p:G≠[])(H:G.length<=3\/32<=G.length)(J:j∉G)(v:Wt.r=.ok (.ret (.ref Wt.before.n)))(u:Wt.after=⟨Wt.before.tree.ins Wt.before.n (e8 c.params O VQ),Wt.before.n+1,Wt.before.life,Wt.before.gens,Wt.before.drawn,Wt.before.toks,Wt.before.os⟩)(A:((Wt.before.tree.ins Wt.before.n (e8 c.params O VQ)).get Wt.before.n).isSome=true):Wt.Valid Vj c:=by
 have d:∀{o:Obj}{G:List Str},bk Vj c o G->alive o=some o:=λ{o G}g=>by
  obtain⟨_,_,_,T,N,t,z,_⟩:=g;obtain⟨U,V,Y,WK⟩:=o;subst z;rfl
 have f:=db B q (d a);have M:Wt.before.abs.heap.objs.size=Wt.before.n:=PC _ _ _;have C:JM (au Vj c) (pO Wt.Γ) (.call (.builtin "frozenset.__or__") ⟨[.ref h,.ref Q],[]⟩) (λ L m=>L=Wt.r/\m=Wt.after.abs) Wt.before.abs:=by
  refine Ig tr.plain zv (tr.check _ _ _ _ _ _ _ _ (a.type f) (zG _ _) (zp ne f (db E s (d i)) a i D p H J ⟨by rw[v,M],?_⟩));simp only[u];unfold Nb;dsimp only;rw[SN A]
 refine bS (C Wt.Γ Wt.p y (tt _)) λ WL m k e n=>?_;simp only[e,n]at k;exact k
def zI(z:Wt.Γ.code=.call (.builtin "frozenset.__sub__") ⟨[.ref h,.ref Q],[]⟩)(D:IF h Wt.before.n=true)(H:IF Q Wt.before.n=true)(q:Wt.before.tree.get h=some O)(s:Wt.before.tree.get Q=some VQ)(a:bk Vj c O G)(k:bk Vj c VQ [j])(ne:h≠Q)(E:Met G.length)(y:32<=G.length)(J:j∈G)(v:Wt.r=.ok (.ret (.ref Wt.before.n)))(u:Wt.after=⟨Wt.before.tree.ins Wt.before.n (eQ c.params O VQ),Wt.before.n+1,Wt.before.life,Wt.before.gens,Wt.before.drawn,Wt.before.toks,Wt.before.os⟩)(B:((Wt.before.tree.ins Wt.before.n (eQ c.params O VQ)).get Wt.before.n).isSome=true):Wt.Valid Vj c/\hL Vj c (eQ c.params O VQ) G:=by
 have f:∀{o:Obj}{G:List Str},bk Vj c o G->alive o=some o:=λ{o G}g=>by
  obtain⟨_,_,_,V,U,t,A,_⟩:=g;obtain⟨Y,WK,WL,WM⟩:=o;subst A;rfl
 have i:=db D q (f a);have N:Wt.before.abs.heap.objs.size=Wt.before.n:=PC _ _ _;have C:JM (au Vj c) (pO Wt.Γ) (.call (.builtin "frozenset.__sub__") ⟨[.ref h,.ref Q],[]⟩) (λ M n=>(M=Wt.r/\n=Wt.after.abs)/\hL Vj c (eQ c.params O VQ) G) Wt.before.abs:=by
  refine Ig ts.plain zw (ts.check _ _ _ _ _ _ _ _ (a.type i) (zH _ _) (zq ne i (db H s (f k)) a k E y J λ d=>⟨⟨by rw[v,N],?_⟩,d⟩));simp only[u];unfold Nb;dsimp only;rw[SN B]
 refine aj λ T=>?_;refine bS (C Wt.Γ Wt.p z (tt _)) λ WN n m L d=>?_;refine am L λ e p=>?_;refine T ?_;simp only[e,p]at m;exact⟨m,d⟩
def zJ{g:List (Option Obj×Obj)}(k:Wt.Γ.code=.builtin "set.update.loop" ⟨[.ref h,U],[]⟩)(j:∀q:Nat->Pos,q 0=Wt.p->fF (Lc Kj) Vj c h U Wt.Γ q 60 0 [] (g5 c.params) Wt.before []=some (Wt.after,g,G,O))(m:∀e∈g,e.1=some e.2)(l:Wt.r=.ok (.ret .none)):Wt.Valid Vj c:=by
 refine bS ((M9 (au Vj c) Wt.Γ (λ r f=>r=.ok (.ret .none)/\f=Wt.after.abs) Wt.p Wt.before.abs).mpr (zA k 60 0 (p:=Wt.p) (ti Vj c) (by decide) j m)) λ n f d e i=>?_;simp only[e,i,<-l]at d;exact d
section
set_option genInjectivity false
noncomputable def cm:Nv->Sem Fin:=Ux Uw
def jt:cm=Lc Kj:=by
 unfold cm;rw[<-Uz,<-Uy,<-table_eq_tree]
noncomputable def ju(c:Nv->Sem Fin)(w:ar)(q:Nat->Pos)(b:Ctx)(s:fl):Option (fl×List (Option Obj×Obj)×List Str×Obj):=match b.code with
 |.builtin _ ⟨[.ref a,d],[]⟩=>fF c P0 w a d b q 60 0 [] (g5 w.params) s []|_=>none
noncomputable def gA(d:Nv->Sem Fin)(w:ar)(c:Ctx)(p:Pos)(s:fl):Option (JH×fl):=match c.code with
 |.builtin id _=>match id=="set.update.loop"with
  |true=>match ju d w (λ _=>p) c s with
   |some r=>some (.ok (.ret .none),r.1)|none=>none
  |ap=>none
 |.call (.builtin id) ⟨[.ref l,.ref r],[]⟩=>match s.tree.get l,s.tree.get r with
  |some a,some b=>match id=="frozenset.__or__"with
   |true=>some (.ok (.ret (.ref s.n)),⟨s.tree.ins s.n (e8 w.params a b),s.n+1,s.life,s.gens,s.drawn,s.toks,s.os⟩)|ap=>match id=="frozenset.__sub__"with
    |true=>some (.ok (.ret (.ref s.n)),⟨s.tree.ins s.n (eQ w.params a b),s.n+1,s.life,s.gens,s.drawn,s.toks,s.os⟩)|ap=>none
  |_,_=>none
 |_=>none
noncomputable def pP(P:a3):BT:=.node (MM P) (.node (QL P) (.node (boot_o_3 P) (.node (SK P) .nil .nil) .nil) (.node (SM P) (.node (SI P) .nil .nil) .nil)) (.node (boot_o_2 P) (.node (PB P) (.node (SJ P) .nil .nil) .nil) (.node (boot_o_6 P) (.node (RJ P) .nil .nil) .nil))
def zK(w:ar):R2 (pP w.params) 11 {}=Nr w.params:=by lia
noncomputable def pQ(P:a3)(a:J5):fl:=⟨pP P,11,{},#[],boot_drawn,boot_toks,a⟩
noncomputable def jv(WL:Nv->Sem Fin)(WK:ar)(a:J5):Option (End×fl×List Ob):=kQ WL P0 WK (gA WL WK) 8000 ⟨.builtin "claim.caller" {},none,none,[],none⟩ b2 (pQ WK.params a) [] (topStub P0).cur
noncomputable def lp(w:ar)(q:Nat->Pos)(b:Ob):=ju cm w (λ j=>match j with|0=>b.p|j+1=>q j) b.Γ b.before
noncomputable def ca(w:ar)(b:Ob):=ju cm w (λ _=>b.p) b.Γ b.before
noncomputable def cps(a:List Str):List (List Nat):=a.map λ x=>x.cps.toList
structure dV where
 loops:List (Option (fl×List (Option Obj×Obj)×List Str×Obj))seen:List (Option (List (Option Obj)))keys:List (Option (List (List Nat)))codes:List Nv
 mQ:List (Option Obj)size:Nat
 toks:Nat
 gens:Nat
 life:Life
 drawn:P9
 os:J5
 objs:List (Option Obj)kX:Bool
 blt:Option Str×List (Str×ab)bounds:List (Nat×Bool)
noncomputable def pR:Array KG->Nat
 |⟨[.finished]⟩=>1|_=>0
noncomputable def pS(a h:a7)(s:aa):Bool:=staticsOk [] a h&&namesBound P0 h&&gensDone s&&laidKept a h&&h.accountedOkI []&&h.isNs FG&&h.isNs IT&&h.bmainOk
noncomputable def mR(WK:ar)(q:Nat->Pos):Option (End×fl×List Ob)->Option dV
 |some (.ret (.ok (.ret .none)),S,[j,i,h,g,f,e,d,c,a])=>some {
  loops:=[lp WK q a,lp WK q c,lp WK q e,lp WK q g,lp WK q h,lp WK q j]
  seen:=[a,c,e,g,h,j].map λ WL=>(ca WK WL).map λ r=>r.2.1.map (·.1)
  keys:=[a,c,e,g,h,j].map λ WL=>(ca WK WL).map λ r=>cps r.2.2.1
  codes:=[a,c,d,e,f,g,h,i,j].map λ WL=>WL.Γ.code
  mQ:=[d.before.tree.get 29,d.before.tree.get 34,f.before.tree.get 38,f.before.tree.get 39,i.before.tree.get 44,i.before.tree.get 48,S.tree.get 43,S.tree.get 52,S.tree.get 53]++[0,1,4,5,7,8,9,10].map S.tree.get
  size:=S.n
  toks:=S.toks
  gens:=pR S.gens
  life:=S.life
  drawn:=S.drawn
  os:=S.os
  objs:=(d8 WK.params).map λ p=>(S.tree.get p.1).map gf
  kX:=pS (Nr WK.params) S.abs.heap S.abs
  blt:=S.abs.heap.bltView
  bounds:=[d,f,i].map λ WL=>(WL.before.n,(WL.after.tree.get WL.before.n).isSome)}|_=>none
noncomputable def eR(r:Option (fl×List (Option Obj×Obj)×List Str×Obj)):Obj:=match r with
 |some r=>r.2.2.2|none=>⟨.none,none,.plain,#[]⟩
noncomputable def mS(WK:ar)(a:J5):Option (End×fl×List Ob)->Option dV
 |some (.ret (.ok (.ret .none)),S,[WQ,f,WP,WO,d,WN,c,WM,WL])=>some {
  loops:=[ca WK WL,ca WK WM,ca WK WN,ca WK WO,ca WK WP,ca WK WQ]
  seen:=[WL,WM,WN,WO,WP,WQ].map λ WR=>(ca WK WR).map λ r=>r.2.1.map (λ e=>some e.2)
  keys:=[some ((a1 32).reverse.map λ i=>[i]),some [[127]],some [[9]],some [[9],[32]],some [[10]],some ([70,69,68,67,66,65,102,101,100,99,98,97,57,56,55,54,53,52,51,50,49,48].map λ i=>[i])]
  codes:=[.builtin "set.update.loop" ⟨[.ref 29,.ref 28],[]⟩,.builtin "set.update.loop" ⟨[.ref 34,.ref 35],[]⟩,.call (.builtin "frozenset.__or__") ⟨[.ref 29,.ref 34],[]⟩,.builtin "set.update.loop" ⟨[.ref 39,.ref 40],[]⟩,.call (.builtin "frozenset.__sub__") ⟨[.ref 38,.ref 39],[]⟩,.builtin "set.update.loop" ⟨[.ref 44,.ref 45],[]⟩,.builtin "set.update.loop" ⟨[.ref 48,.ref 49],[]⟩,.call (.builtin "frozenset.__or__") ⟨[.ref 44,.ref 48],[]⟩,.builtin "set.update.loop" ⟨[.ref 53,.ref 54],[]⟩]
  mQ:=[some (eR (ca WK WL)),some (eR (ca WK WM)),some (e8 WK.params (eR (ca WK WL)) (eR (ca WK WM))),some (eR (ca WK WN)),some (eR (ca WK WO)),some (eR (ca WK WP)),some (eQ WK.params (e8 WK.params (eR (ca WK WL)) (eR (ca WK WM))) (eR (ca WK WN))),some (e8 WK.params (eR (ca WK WO)) (eR (ca WK WP))),some (eR (ca WK WQ))]++[MM WK.params,QL WK.params,PB WK.params,SM WK.params,SK WK.params,SJ WK.params,SI WK.params,RJ WK.params].map some
  size:=314
  toks:=814
  gens:=1
  life:={}
  drawn:={}
  os:=a
  objs:=(d8 WK.params).map λ p=>some p.2
  kX:=true
  blt:=Rn
  bounds:=[(38,true),(43,true),(52,true)]}|_=>some ⟨[],[],[],[],[],0,0,0,{},{},{},[],ap,(none,[]),[]⟩
noncomputable abbrev hQ(WK:ar):Prop:=(λ os q=>mR WK q (jv cm WK os))=λ os q=>mS WK os (jv cm WK os)
def zL(w:ar):hQ ((w.withFollow "special-get-raises" ap).withFollow "comprehension-iter-twice" ap):=by lia
def zM(w:ar):hQ ((w.withFollow "special-get-raises" ap).withFollow "comprehension-iter-twice" true):=by lia
def zN(w:ar):hQ ((w.withFollow "special-get-raises" true).withFollow "comprehension-iter-twice" ap):=by lia
def zO(w:ar):hQ ((w.withFollow "special-get-raises" true).withFollow "comprehension-iter-twice" true):=by lia
def zP(w:ar):hQ w:=byRow2 "comprehension-iter-twice" (P:=hQ) (λ w=>byRow2 "special-get-raises" (P:=λ w=>hQ (w.withFollow "comprehension-iter-twice" ap)) zL zN w) (λ w=>byRow2 "special-get-raises" (P:=λ w=>hQ (w.withFollow "comprehension-iter-twice" true)) zM zO w) w
end
def g7(a:Step):Prop:=∀f s,a≠.halt (.done f) s
def fG{t:U4}:g7 (.go q t):=λ _ _ h=>by cases h
def mT[Decidable Vh]{a b:Step}(d:g7 a)(e:g7 b):g7 (if Vh then a else b):=by
 split;·exact d
 ·exact e
def zQ{t:U4}(h:MR t=ap):g7 (step Wz Vj c q t):=by
 obtain⟨i,d,drawn,toks,os⟩:=q;obtain⟨j,code,y,UO⟩:=t;cases j with
 |pure x=>cases x with
  |done o=>cases UO with
   |nil=>cases h|cons f r=>cases f<;>exact fG
  |again b=>exact fG
 |raise e=>cases UO with
  |nil=>exact mT (λ _ _ h=>by cases h) (λ _ _ h=>by cases h)|cons f r=>cases f<;>exact fG
 |finish e=>exact mT (λ _ _ h=>by cases h) (λ _ _ h=>by cases h)|load a m k=>
  show g7 (match i.get? a with|some _=>_|none=>_);cases i.get? a;·exact λ _ _ h=>by cases h
  ·exact fG|update a m g k=>exact mT fG (λ _ _ h=>by cases h)|choose a n k=>exact mT (λ _ _ h=>by cases h) fG|genState g k=>
  show g7 (match d[g]? with|none=>_|some _=>_);cases d[g]?;·exact λ _ _ h=>by cases h
  ·exact fG|resume g r l k=>
  show g7 (match d[g]? with|none=>_|some (.fresh b)=>_|some (.suspended u _ b p frames _)=>_|some .running=>_|some .finished=>_);cases d[g]? with
  |none=>exact λ _ _ h=>by cases h|some st=>cases st with
   |fresh b=>cases r with
    |send v=>cases v<;>exact fG|throw=>exact fG
   |_=>exact fG
 |«yield»v g l k=>
  show g7 (match splitAtGen UO with|some (frames,(g,k,b,p),z)=>_|none=>_);cases splitAtGen UO with
  |none=>exact λ _ _ h=>by cases h|some=>exact fG
 |unsupported|register|fork|await=>exact λ _ _ h=>by cases h|_=>exact fG
theorem tv{d:Nv->Sem Fin}{e:dQ}{w:ar}:∀(n:Nat)(s:aa)(t:U4)(f:PF)(g:aa),N3 d e w n s t=.halted (.done f) g->∃m i,N3 d e w m s t=.running g i/\MR i=true
 |0,_,_,_,_,h=>by cases h|n+1,s,t,f,g,h=>by
   unfold N3 at h;cases c:step d e w s t with
   |go j k=>
     rw[c]at h;refine aj λ l=>aW (tv n j k f g h) λ m i a b=>l ?_;exact dw (m+1) i (by unfold N3;rw[c];exact a) b|halt o j=>
     simp only[c]at h;cases h;refine dw (0) t ?_ ?_;·rw[step_halt_same d e w s _ t (.done f) c];rfl
     · rcases q:MR t with _|_;·exact(zQ q f _ c).elim
       ·rfl
def zR{t:U4}(v:q.asleep)(h:(au Vj c).runN a q t=.halted (.done WB) H):∃m g d,schedN (Lc Kj) Vj c m (.single q t)=.running (.single d g)/\MR g=true/\d.forget=H.forget/\d.heap.life=q.heap.life:=by
 refine aj λ x=>ci (runNI_real _ _ _ h rfl) λ d j p o=>?_;have u:∀k i,N3 (Lc Kj) Vj c k q t≠.halted (.unsupported "lifetime:generator-with-cleanup-left-suspended") i:=by
  intro k i r;have e:=runN_mono (Lc Kj) Vj c a k q t _ d j;have b:=runN_mono (Lc Kj) Vj c k a q t _ i r;rw[IC,b]at e;injection e with l _;cases l
 exact aW (tv a q t WB d j) λ m g e b=>x (kP m g d ((schedN_eq_runN (Lc Kj) Vj c q t v ⟨o,u⟩ m).trans (congrArg Run.lift e)) b p (runN_life_running e))
def mU{L:List (List Nat)}(h:cps G=L):G.length=L.length:=by refine h▸?_;simp[cps]
def mV:j∈G↔j.cps.toList∈cps G:=by
 unfold cps;constructor;·exact λ h=>hp.mpr ⟨j,h,rfl⟩
 · intro h;refine ak (hp.mp h) λ y c e=>?_;obtain⟨⟨a⟩⟩:=j;obtain⟨⟨b⟩⟩:=y;obtain rfl:=e;exact c
def pT(h:cps G=[Wc]):G=[⟨⟨Wc⟩⟩]:=by match G,h with
 |[⟨⟨l⟩⟩],h=>unfold cps at h;simp only[uW,Kg,OC,and_true]at h;rw[h]|[],h=>cases h|_::_::_,h=>cases h
def jw{L:List (List Nat)}(g:Wt.Γ.code=.builtin "set.update.loop" ⟨[.ref h,U],[]⟩)(u:∀q,lp c q Wt=ca c Wt)(l:((ca c Wt).map λ r=>r.2.1.map (·.1))=(ca c Wt).map λ r=>r.2.1.map (λ e=>some e.2))(i:((ca c Wt).map λ r=>cps r.2.2.1)=some L)(d:Wt.g3 (gA cm c)):Wt.Valid P0 c/\∃f,cps f=L/\bk P0 c (eR (ca c Wt)) f:=by
 have n:ca c Wt=fF (Lc Kj) P0 c h U Wt.Γ (λ _=>Wt.p) 60 0 [] (g5 c.params) Wt.before []:=by unfold ca ju;rw[g,jt]
 have eq:∀q,lp c q Wt=fF (Lc Kj) P0 c h U Wt.Γ (λ j=>match j with|0=>Wt.p|j+1=>q j) 60 0 [] (g5 c.params) Wt.before []:=λ q=>by unfold lp ju;(try rw[g,jt]);try rfl
 unfold Ob.g3 gA at d;rw[g]at d;dsimp only at d;rw[show("set.update.loop"=="set.update.loop")=true from rfl]at d;dsimp only at d;have p:ju cm c (λ _=>Wt.p) Wt.Γ Wt.before=ca c Wt:=rfl;rw[p]at d;rcases k:ca c Wt with _|r;·rw[k]at d;exact aQ d
 · rw[k]at d l i;simp only[Kb,LO]at d;simp only[ID,Kb]at l i;obtain⟨S,seen,f,o⟩:=r;obtain⟨s,m⟩:=d;dsimp only at m l i;refine⟨zJ (g:=seen) (G:=f) (O:=o) g (λ q v=>?_) (λ e t=>?_) s.symm,f,i,(zB _ (n.symm.trans k) (ti P0 c)).1⟩
   · have :=(eq (λ j=>q (j+1))).symm.trans ((u _).trans k);rw[<-m];rw[show q=(λ j=>match j with|0=>Wt.p|j+1=>q (j+1))from funext λ j=>by cases j with|zero=>exact v|succ j=>rfl];exact this
   · have :=OQ.mp l e t;exact this
structure kY(WK:ar)(os:J5)(S:fl):Prop where
 runs:T' (au P0 WK) ⟨.builtin "claim.caller" {},none,none,[],none⟩ b2 (topStub P0).cur [] (pQ WK.params os).abs (.ret (.ok (.ret .none))) S.abs
 size:S.n=314
 toks:S.toks=814
 gens:pR S.gens=1
 life:S.life={}drawn:S.drawn={}zS:S.os=os
 objs:((d8 WK.params).map λ p=>(S.tree.get p.1).map gf)=(d8 WK.params).map λ p=>some p.2
 kX:pS (Nr WK.params) S.abs.heap S.abs=true
 blt:S.abs.heap.bltView=Rn
 jx:∃o a,S.tree.get 43=some o/\hL P0 WK o a/\cps a=((a1 32).reverse.map λ i=>[i])++[[127]]jy:∃o a,S.tree.get 52=some o/\bk P0 WK o a/\cps a=[[9],[32],[10]]jz:∃o a,S.tree.get 53=some o/\bk P0 WK o a/\cps a=[70,69,68,67,66,65,102,101,100,99,98,97,57,56,55,54,53,52,51,50,49,48].map λ i=>[i]old:([0,1,4,5,7,8,9,10].map S.tree.get)=[MM WK.params,QL WK.params,PB WK.params,SM WK.params,SK WK.params,SJ WK.params,SI WK.params,RJ WK.params].map some
def bt{l d:List Vb}(h:l=d)(k:Nat){a b:Vb}(c:l[k]?=some a)(e:d[k]?=some b):a=b:=by
 simp only[h,e]at c;exact(ax c).symm
def tw(a:bk P0 c O G)(b:bk P0 c VQ [j])(e:Met G.length)(f:j∉G):bk P0 c (e8 c.params O VQ) (G++[j]):=by exact aj λ g=>eb (mJ b) λ h t i d _=>g ((td a e f d).2)
def tx(f:Wt.Γ.code=.call (.builtin "frozenset.__or__") ⟨[.ref h,.ref Q],[]⟩)(d:Wt.before.tree.get h=some O)(e:Wt.before.tree.get Q=some VQ)(a:Wt.g3 (gA cm c)):Wt.r=.ok (.ret (.ref Wt.before.n))/\Wt.after=⟨Wt.before.tree.ins Wt.before.n (e8 c.params O VQ),Wt.before.n+1,Wt.before.life,Wt.before.gens,Wt.before.drawn,Wt.before.toks,Wt.before.os⟩:=by
 unfold Ob.g3 gA at a;rw[f]at a;dsimp only at a;rw[d,e]at a;rw[show("frozenset.__or__"=="frozenset.__or__")=true from rfl]at a;simp only[Kb,LO]at a;exact⟨a.1.symm,a.2.symm⟩
def zT(f:Wt.Γ.code=.call (.builtin "frozenset.__sub__") ⟨[.ref h,.ref Q],[]⟩)(d:Wt.before.tree.get h=some O)(e:Wt.before.tree.get Q=some VQ)(a:Wt.g3 (gA cm c)):Wt.r=.ok (.ret (.ref Wt.before.n))/\Wt.after=⟨Wt.before.tree.ins Wt.before.n (eQ c.params O VQ),Wt.before.n+1,Wt.before.life,Wt.before.gens,Wt.before.drawn,Wt.before.toks,Wt.before.os⟩:=by
 unfold Ob.g3 gA at a;rw[f]at a;dsimp only at a;rw[d,e]at a;rw[show("frozenset.__sub__"=="frozenset.__or__")=ap from rfl]at a;rw[show("frozenset.__sub__"=="frozenset.__sub__")=true from rfl]at a;simp only[Kb,LO]at a;exact⟨a.1.symm,a.2.symm⟩
def zU{u j t s g r f p n:Ob}(F:∀o∈[u,j,t,s,g,r,f,p,n],o.g3 (gA cm c))(H:∀q,mR c q (some (.ret (.ok (.ret .none)),V6,[u,j,t,s,g,r,f,p,n]))=mS c VV (some (.ret (.ok (.ret .none)),V6,[u,j,t,s,g,r,f,p,n]))):(∀o∈[u,j,t,s,g,r,f,p,n],o.Valid P0 c)/\(∃o e,V6.tree.get 43=some o/\hL P0 c o e/\cps e=((a1 32).reverse.map λ i=>[i])++[[127]])/\(∃o e,V6.tree.get 52=some o/\bk P0 c o e/\cps e=[[9],[32],[10]])/\∃o e,V6.tree.get 53=some o/\bk P0 c o e/\cps e=[70,69,68,67,66,65,102,101,100,99,98,97,57,56,55,54,53,52,51,50,49,48].map λ i=>[i]:=by
 refine(λ L Ls Lk a d x=>?_) (λ q=>congrArg dV.loops (ax (H q))) (congrArg dV.seen (ax (H λ _=>b2))) (congrArg dV.keys (ax (H λ _=>b2))) (congrArg dV.codes (ax (H λ _=>b2))) (congrArg dV.mQ (ax (H λ _=>b2))) (congrArg dV.bounds (ax (H λ _=>b2)));clear H;have o:∀{k:Nat}{b:Ob},[u,j,t,s,g,r,f,p,n][k]?=some b->b.g3 (gA cm c):=λ h=>F _ (ct h);clear F;refine(λ N O Q T U V Y WK WL f g j W2 W3 W4 W5 W6 W7 W8 W9 W'=>(aj λ Xm=>?_)) (bt a 2 rfl rfl) (bt a 4 rfl rfl) (bt a 7 rfl rfl) (bt d 0 rfl rfl) (bt d 1 rfl rfl) (bt d 2 rfl rfl) (bt d 3 rfl rfl) (bt d 4 rfl rfl) (bt d 5 rfl rfl) (bt x 0 rfl rfl) (bt x 1 rfl rfl) (bt x 2 rfl rfl) (bt d 6 rfl rfl) (bt d 7 rfl rfl) (bt d 8 rfl rfl) (jw (bt a 0 rfl rfl) (λ q=>bt (L q) 0 rfl rfl) (bt Ls 0 rfl rfl) (bt Lk 0 rfl rfl) (o (k:=8) rfl)) (jw (bt a 1 rfl rfl) (λ q=>bt (L q) 1 rfl rfl) (bt Ls 1 rfl rfl) (bt Lk 1 rfl rfl) (o (k:=7) rfl)) (jw (bt a 3 rfl rfl) (λ q=>bt (L q) 2 rfl rfl) (bt Ls 2 rfl rfl) (bt Lk 2 rfl rfl) (o (k:=5) rfl)) (jw (bt a 5 rfl rfl) (λ q=>bt (L q) 3 rfl rfl) (bt Ls 3 rfl rfl) (bt Lk 3 rfl rfl) (o (k:=3) rfl)) (jw (bt a 6 rfl rfl) (λ q=>bt (L q) 4 rfl rfl) (bt Ls 4 rfl rfl) (bt Lk 4 rfl rfl) (o (k:=2) rfl)) (jw (bt a 8 rfl rfl) (λ q=>bt (L q) 5 rfl rfl) (bt Ls 5 rfl rfl) (bt Lk 5 rfl rfl) (o (k:=0) rfl));obtain⟨Xd,m,y,B⟩:=W5;obtain⟨Xe,Xn,WY,C⟩:=W6;obtain⟨Xg,Xo,WZ,WV⟩:=W7;obtain⟨Xi,v,A,D⟩:=W8;obtain⟨Xj,Xp,W0,E⟩:=W9;obtain⟨Xl,Xq,W1,WX⟩:=W';clear L Ls Lk a d x;obtain rfl:=pT WY;obtain rfl:=pT WZ;obtain rfl:=pT W0;have l:m.length=32:=(mU y).trans (by simp);have z:v.length=2:=mU A;have m1:Met m.length:=.inr (by rw[l];decide);have WP:Met v.length:=.inl (by rw[z];decide);have WT:(⟨⟨[127]⟩⟩:Str)∉m:=by rw[mV,y];decide
 have WU:(⟨⟨[10]⟩⟩:Str)∉v:=by rw[mV,A];decide
 refine am (JU f) λ WQ WM=>am (JU g) λ WR WN=>am (JU j) λ WS WO=>am (tx N T U (o (k:=6) rfl)) λ Xa G=>am (tx Q WK WL (o (k:=1) rfl)) λ Xc M=>am (zT O V Y (o (k:=4) rfl)) λ Xb J=>?_;have Xf:=tu N (by rw[WQ];rfl) (by rw[WQ];rfl) T U B C (by decide) m1 (λ h=>by rw[h]at l;cases l) (.inr (j7 l)) WT Xa G (by rw[G]at WM;exact WM);have Xk:=tu Q (by rw[WS];rfl) (by rw[WS];rfl) WK WL D E (by decide) WP (λ h=>by rw[h]at z;cases z) (.inl (j4 (j6 z) bE)) WU Xc M (by rw[M]at WO;exact WO);refine am (zI O (by rw[WR];rfl) (by rw[WR];rfl) V Y (tw B C m1 WT) WV (by decide) (.inr (by simp[l])) (by simp[l]) (by rw[mV];unfold cps;rw[fs];refine Im _ ?_;show _∈cps m;rw[y];decide) Xb J (by rw[J]at WN;exact WN)) λ Xh WW=>?_;refine Xm (iD (IG.mpr ⟨Xl,(IG.mpr ⟨Xk,(IG.mpr ⟨Xj,(IG.mpr ⟨Xi,(IG.mpr ⟨Xh,(IG.mpr ⟨Xg,(IG.mpr ⟨Xf,(IG.mpr ⟨Xe,(IG.mpr ⟨Xd,(λ _ h=>by cases h)⟩)⟩)⟩)⟩)⟩)⟩)⟩)⟩)⟩) ⟨_,_,W2,WW,?_⟩ ⟨_,_,W3,tw D E WP WU,?_⟩ ⟨_,_,W4,WX,W1⟩);·unfold cps;rw[fs];show cps m++_=_;rw[y];rfl
 ·unfold cps;rw[fs];show cps v++_=_;rw[A];rfl
inductive ty:Option e7->Prop|mk(S WS WR WQ WP WO WN WM WL WK):ty (some (.ret (.ok (.ret .none)),S,[WS,WR,WQ,WP,WO,WN,WM,WL,WK]))
def zV(r:Option e7)(h:mR c WA r=mS c VV r):ty r:=by
 obtain _|⟨e,S,l⟩:=r;·exact aQ h
 cases e with
 |susp=>exact aQ h|ret r=>
  rcases r with _|f;·exact aQ h
  ·cases f with
   |ret v=>cases v with
    |none=>
     iterate 9
      obtain _|⟨_,l⟩:=l;·exact aQ h
     cases l;·exact⟨_,_,_,_,_,_,_,_,_,_⟩
     ·exact aQ h|_=>exact aQ h
   |_=>exact aQ h
def zW(WK:ar)(os:J5):∃S,kY WK os S:=by
 have H:∀q,mR WK q (jv cm WK os)=mS WK os (jv cm WK os):=λ q=>congrFun (congrFun (zP WK) os) q;generalize b:jv cm WK os=r at H;refine aj λ i=>?_;obtain⟨S,t,s,p,o,n,m,l,k,j⟩:=zV _ (H λ _=>b2);unfold jv at b;refine am (sP P0 WK (gA cm WK) _ _ _ _ _ _ _ (by rw[<-jt];exact b)) λ h R=>?_;refine ak h λ new e g=>?_;simp only[IW]at e;refine iB (zU (e▸g) H) λ V c d f=>i ?_;have a:=ax (H λ _=>b2);exact⟨S,R V,congrArg dV.size a,congrArg dV.toks a,congrArg dV.gens a,congrArg dV.life a,congrArg dV.drawn a,congrArg dV.os a,congrArg dV.objs a,congrArg dV.kX a,congrArg dV.blt a,c,d,f,congrArg (Sz 9) (congrArg dV.mQ a)⟩
noncomputable def c8(a:ae):Bool:=QP a 106||QP a 120||QP a 310
noncomputable def hR:Str:=ac "suffixed_err.<locals>.coord_repr"
noncomputable def eS:Str:=ac "law.<locals>.<lambda>"
noncomputable def iJ:Il:=(bB [19]).getD 1 b2
noncomputable def kZ:List Il:=(cE iJ).body
noncomputable def gB:List (Pos×Str):=kZ.filterMap λ st=>d7 (st.ctorIdx==0) (some ((cE st).pos,ac "cmp_to_key.<locals>.K."++(cE st).name))
def e9(h:a7)(P:ae)(q:Str):Prop:=∃WK,h.get? P=some (Jw WK)/\OG WK.toList/\∀b a,MF b WK.toList=some a->h.CodeRec a q
noncomputable def hS:Pos:=(cE iJ).pos
noncomputable def pU(P a:ae)(t:Nat->Tok):Obj:=⟨.type "code",none,.fields #[.str (ac "K") (t 0),.str (ac "cmp_to_key.<locals>.K") (t 1),.str (ac "/claim/cut.py") (t 2),.int 78 0,.int 0 0,.int 0 0,.int 0 0,.int 0 0,.ref a,.bool true,.int 181 0,.ref P,.none,.none,.none,.none,.int (t 3) 0,.int 78 0,.str (ac "/claim/cut.py") (t 4)],#[]⟩
noncomputable def tz(x:Nat->ae):Array ab:=(gB.zipIdx.flatMap λ d=>[JG d.1.1.line,JG d.1.1.col,.ref (x d.2)]).toArray
inductive mW(h:a7)(a:ae):Prop|mk(WK fr:ae)(t:Nat->Tok)(WM:Nat->ae)(b:314<=WK)(c:314<=a)(e:h.get? a=some (pU WK fr t))(f:h.get? WK=some (Jw (tz WM)))(g:∀(WL:Nat)d,gB[WL]?=some d->h.CodeRec (.ref (WM WL)) d.2)
noncomputable def k0(a:ae):Array ab:=#[JG hS.line,JG hS.col,.ref a]
def jA(h:a7):Prop:=h.get? 120=some (Jw #[])\/∃cK,h.get? 120=some (Jw (k0 cK))/\mW h cK
structure aC(w:ar)(h:a7):Prop where
 objs:∀p∈d8 w.params,c8 p.1=ap->∃o,h.get? p.1=some o/\gf o=p.2
 jx:∃o a,h.get? 43=some o/\hL P0 w o a/\cps a=((a1 32).reverse.map λ i=>[i])++[[127]]jy:∃o a,h.get? 52=some o/\bk P0 w o a/\cps a=[[9],[32],[10]]jz:∃o a,h.get? 53=some o/\bk P0 w o a/\cps a=[70,69,68,67,66,65,102,101,100,99,98,97,57,56,55,54,53,52,51,50,49,48].map λ i=>[i]o0:h.get? 0=some (MM w.params)o1:h.get? 1=some (QL w.params)o4:h.get? 4=some (PB w.params)g8:e9 h 106 hR
 g9:e9 h 310 eS
 g':jA h
def zX(h:(alive (gf O)).isSome=true):alive O=some O:=by
 obtain⟨c,d,a,b⟩:=O;cases a<;>first|rfl|cases h
def zY(P:a3):(d8 P).all (λ p=>(alive p.2).isSome&&IF p.1 314)=true:=by lia
def bk.alive(g:bk P0 c O G):alive O=some O:=by
 obtain⟨_,_,_,d,b,t,a,_⟩:=g;obtain⟨e,f,h,i⟩:=O;subst a;rfl
def hL.alive(g:hL P0 c O G):alive O=some O:=by
 refine eb g λ d b t a _=>?_;obtain rfl:=a;rfl
def kY.left(H:kY c VV V6):aC c V6.abs.heap:=by
 have f:∀{a:Nat},IF a 314=true->IF a V6.n=true:=λ h=>by rw[H.size];exact h
 have s:=H.old;simp only[uW,Kg,OC,and_true]at s;refine aj λ g=>sH s λ v x y C D E G B=>g ?_;have r:∀p∈d8 c.params,∃o,V6.abs.heap.get? p.1=some o/\gf o=p.2:=λ p l=>by
  have e:=OQ.mp H.objs p l;refine ak (bh.mp e) λ o z e=>?_;have m:=H7.mp (zY c.params) p l;refine am (x4.mp m) λ m lt=>?_;exact bj o (db (f lt) z (zX (by refine e.symm▸?_;exact m))) e
 have tab:∀P,(P,Jw #[])∈d8 c.params->V6.abs.heap.get? P=some (Jw #[]):=λ P n=>by
  refine ak (r _ n) λ o a b=>?_;have :o=Jw #[]:=by
   obtain⟨j,d,u,J⟩:=o;cases u<;>first|exact b|cases b
  refine this▸?_;exact a
 have t:∀P q,(P,Jw #[])∈d8 c.params->e9 V6.abs.heap P q:=λ P q n=>⟨#[],tab P n,trivial,λ _ _ e=>aQ e⟩;have A:((310:Nat),Jw #[])∈d8 c.params:=ct (i:=265) (by lia);refine⟨λ p l _=>r p l,?_,?_,?_,db (f rfl) v rfl,db (f rfl) x rfl,db (f rfl) y rfl,t _ _ (ct (i:=62) (by lia)),t _ _ A,.inl (tab 120 (ct (i:=76) (by lia)))⟩;·exact aj λ g=>bS H.jx λ o k a b j=>g ⟨o,k,db (f rfl) a b.alive,b,j⟩
 ·exact aj λ g=>bS H.jy λ o k a b j=>g ⟨o,k,db (f rfl) a b.alive,b,j⟩
 ·exact aj λ g=>bS H.jz λ o k a b j=>g ⟨o,k,db (f rfl) a b.alive,b,j⟩
def zZ:opening P0=plainProg P0.main.scope.names:=rfl
def z0(s:aa):fenceModules? P0 s=some s:=rfl
def tA:importedModules P0.main.body=[]:=rfl
def tB(P:a3):(Nr P).isNs FG=true/\(Nr P).nsMap FG "__annotations__"=some (.ref 6):=by refine⟨by lia,by lia⟩
def z1(P:a3)(a:(Nr P).get? h=some O)(g:h≠2)(i:h≠3)(j:h≠6):(h,O)∈[(0,MM P),(1,QL P),(4,PB P),(5,SM P),(7,SK P),(8,SJ P),(9,SI P),(10,RJ P)]:=by
 have f:∀L:List (ae×Obj),h∈L.map (·.1)->(∀q∈L,(Nr P).get? q.1=some q.2)->(h,O)∈L:=λ L d all=>by
  refine ak (hp.mp d) λ q c e=>?_;have :=ax (a.symm.trans (e▸all q c));rw[<-e,this];exact c
 exact f _ (((by decide:∀h:Nat,h<11->(h=2\/h=3\/h=6)\/h∈[0,1,4,5,7,8,9,10]) h (az a)).elim (λ q=>by rcases q with q|q|q;exact(g q).elim;exact(i q).elim;exact(j q).elim) id) (aV rfl (aV rfl (aV rfl (aV rfl (aV rfl (aV rfl (aV rfl (aV rfl dT))))))))
abbrev KO(h a:a7):Prop:=∀b o,h.get? b=some o->a.get? b=some o
abbrev KX(N:ae->Prop)(h a:a7):Prop:=∀b o,¬N b->h.get? b=some o->a.get? b=some o
def aC.eC(L:aC c s)(i:Nat)(b:(d8 c.params)[i]?=some (h,O))(f:c8 h=ap)(d:∀x,gf x=O->x=O):s.get? h=some O:=by
 refine ak (L.objs (h,O) (ct b) f) λ x e q=>?_;rw[<-d x q];exact e
def tC(h:gf O=⟨U,Wb,.cls WC,Wm⟩):O=⟨U,Wb,.cls WC,Wm⟩:=by
 obtain⟨b,e,a,f⟩:=O;cases a<;>first|exact h|cases h
def iK{b:Array OJ}(h:gf O=⟨U,Wb,.dict b a,Wm⟩):O=⟨U,Wb,.dict b a,Wm⟩:=by
 obtain⟨f,g,e,i⟩:=O;cases e<;>first|exact h|cases h
def k1(h:gf O=⟨U,Wb,.fields Vz,Wm⟩):O=⟨U,Wb,.fields Vz,Wm⟩:=by
 obtain⟨b,e,a,f⟩:=O;cases a<;>first|exact h|cases h
noncomputable def cn(P:a3):Frag:=[(269,mO P),(268,pM P),(270,pL P),(2,hP P)]
def aC.cn(L:aC c s):(Mine.cn c.params).In s:=by
 have a:s.get? 269=some (mO c.params):=L.eC 224 (by lia) rfl λ _ e=>tC e;have b:s.get? 268=some (pM c.params):=L.eC 223 (by lia) rfl λ _ e=>iK e;have d:s.get? 270=some (pL c.params):=L.eC 225 (by lia) rfl λ _ e=>k1 e;have f:s.get? 2=some (hP c.params):=L.eC 0 (by lia) rfl λ _ e=>iK e;refine Frag.in_of (as:=[269,268,270,2]) rfl ?_;unfold Mine.cn;simp only[uW,Kg];simp only[a,b,d,f]
def jC(P:a3):mroIn (cn P) 269 (.type "tuple")=some true/\mroIn (cn P) 269 (.type "object")=some true/\mroIn (cn P) 269 (.ref 269)=some true/\instIn (cn P) (.ref 269) (.type "type")=some true:=⟨by lia,by lia,by lia,by lia⟩
def pW(P:a3):Pb (cn P) (.ref 269) (ac "__iter__")=some (some (.builtin "tuple.__iter__")):=by lia
def hT(h:a7)(T:ae)(a:Array ab):Prop:=∃o n,h.get? T=some o/\o.data=.seq a n
def z2(f:q.heap.IsTupleIter h Q a)(m:hT q.heap Q Vz)(n:Vz[a]?=some U)(g:∀e,e.IsTupleIter h Q (a+1)->Jq h q.heap e->WD (some U) {q with heap:=e}):aA (au P0 c) o (KI (.ref h)) WD y q:=by
 refine aj λ p=>ci (id f) λ u d j b=>aW m λ v r l k=>p ?_;unfold KI;refine af (Mf (JB (name:=ac "__next__") f.typeIs JT (IN JT f.typeIs P8 ?_ (PW _))));show aA _ _ (field (.ref h) 0>>=_) _ _ q;refine af (Jk d b (x:=.ref Q) rfl (bT (show¬((hk Q==I7)=true)from Jn) (af (Jk d b (x:=.int a 0) rfl (af (QE l k ?_))))));simp only[b4,n];refine af (Ki d b (aB _) (ah ⟨U,rfl,ah (g _ ?_ (gR ..))⟩));exact dU _ (cQ _ d (Nt (Lf b _))) ((Sq ..).trans j) (by rw[Lf b];rfl)
def z3(j:o.handled=none)(e:q.heap.IsTupleIter h Q Vs)(p:hT q.heap Q Vz)(r:Vz[Vs]?=none)(k:∀g,I3 h q.heap g->WD none {q with heap:=g}):aA (au P0 c) o (KI (.ref h)) WD y q:=by
 refine aj λ u=>ci (id e) λ B f v d=>aW p λ C z n l=>u ?_;unfold KI;refine af (Mf (JB (name:=ac "__next__") e.typeIs JT (IN JT e.typeIs P8 ?_ (PW _))));show aA _ _ (field (.ref h) 0>>=_) _ _ q;refine af (Jk f d (x:=.ref Q) rfl (bT (show¬((hk Q==I7)=true)from Jn) (af (Jk f d (x:=.int Vs 0) rfl (af (QE n l ?_))))));simp only[b4,r];refine af (Ju (af (Ki f d (by simp) ?_)));refine af ?_;simp only[UV,US];refine af (Ie ?_ (by size_fits));refine af (m:=L0 _ _) (cx (a:=I7) (by first|rfl|(simp only[L0];rfl)) ?_);refine Ie ?_ (by size_fits);unfold UR;refine af (Rg ?_);first|rw[show o.in1.handled=none from j]|rw[j]
 refine af (ah (Oi ?_));refine af (JP (T:="StopIteration") (b:=true) ⟨_,aF _ rfl,rfl⟩ UY ?_);exact ah (k _ (((gR ..).extBut.push _).push _))
def hT.ext(x:hT s h Vz)(a:I3 Q s Vk)(n:h≠Q):hT Vk h Vz:=let⟨o,m,e,d⟩:=x;⟨o,m,a h o n e,d⟩
theorem tD{w:ar}{A:aq}{E:ab->aa->Prop}{b t:ae}{a:Array ab}(h:t≠b):∀(n i:Nat)(s:aa)(Q:List ab->aa->Prop),s.heap.IsTupleIter b t i->hT s.heap t a->i+n<=a.size->(∀c,c.IsTupleIter b t (i+n)->Jq b s.heap c->Q ((a.toList.drop i).take n) {s with heap:=c})->aA (au P0 w) A (draw (.ref b) n) Q E s
 |0,i,s,Q,e,_,_,d=>ah (by simpa using d s.heap e (Nj ..))|n+1,i,s,Q,e,k,f,d=>by
  have g:i<a.size:=by exact jg f
  refine al (z2 e k (U:=a[i]) (by simp[g]) λ r m j=>?_);refine al (aK (tD h n (i+1) _ _ m (k.ext j.extBut h) (hD f) λ q o p=>ah ?_));have l:a.toList.drop i=a[i]::a.toList.drop (i+1):=by simp[ht,g]
  have :=d q (by simp only[show i+(n+1)=i+1+n by exact me];exact o) (j.trans p);simp only[l,K0]at this;exact this
def z4{b:Sem ab}(X:(cn Vv).In q.heap)(g:q.heap.get? h=some O)(d:O.cls=.ref 269)(f:aA (au P0 c) o (I1 (.builtin "tuple.__iter__") [.ref h]) (λ v=>WD (some v)) y q):aA (au P0 c) o (P6 (.ref h) "__iter__" b) WD y q:=by
 have i:Jx (au P0 c) q.heap (Na (.ref h)) (.ref 269):=d▸(Lo g).andThen .now;have j:Jx (au P0 c) q.heap (PQ (.ref h) "__iter__") (some (.builtin "tuple.__iter__")):=i.andThen (K8 X (pW Vv));unfold P6 bindSpecialIfBound?;refine aK (af (af (j _ _ _ _ (λ _ _ e=>e) ?_)));simp only[(S'.bind (.ref h))];refine af (IP (wpAny_ite ?_));have fin:aA (au P0 c) o (if(NW "tuple.__iter__"==I7)=true then(b>>=λ v=>jq (some v))else(I1 (.builtin "tuple.__iter__") [.ref h]>>=λ v=>jq (some v))) WD y q:=by
  simp only[builtin_beq_none,cT,if_false];exact af (aG f (λ v k a=>ah a) λ _ _ a=>a)
 split;·exact af (ah (ah fin))
 ·exact QD (af (ah (ah fin)))
def z5(X:(cn Vv).In q.heap)(b:q.heap.get? h=some O)(a:O.cls=.ref 269)(f:Vf (.ref q.heap.objs.size) {q with heap:=q.heap.push {cls:=.type "tuple_iterator",data:=.fields #[.ref h,.int 0 0]}}):aA (au P0 c) o (Ly (.ref h)) Vf y q:=by
 have d:Jx (au P0 c) q.heap (Na (.ref h)) (.ref 269):=a▸(Lo b).andThen .now;unfold Ly;refine al ((d.andThen (K8 X (pW Vv))) _ _ _ _ (λ _ _ e=>e) (al (z4 X b a (Je (Ig S'.plain F.entry_tuple_iter (@Tn (au P0 c) _ _ q "tuple.__iter__" "tuple" "__iter__" (.ref h) [] [] _ (by decide+kernel) (by decide+kernel) (d.andThen (Op X (jC Vv).1)) (F.args_tuple_iter_1 _) ?_))))));show aA _ _ (do ret (<-T4 "tuple_iterator" [.ref h,JG 0])) _ _ q;exact al (Ie (ah (al (NV (T:="tuple_iterator") ⟨_,aF _ rfl,rfl⟩ JT.lookup (ah f)))))
def z6{Q:List ab->aa->Prop}(t:o.handled=none)(X:(cn Vv).In q.heap)(d:q.heap.get? h=some O)(i:O.cls=.ref 269)(j:O.data=.seq Vz a)(p:∀f,I3 q.heap.objs.size q.heap f->Q Vz.toList {q with heap:=f}):aA (au P0 c) o (P5 (.ref h) Vz.size none) Q y q:=by
 have x:Jx (au P0 c) q.heap (Na (.ref h)) (.ref 269):=i▸(Lo d).andThen .now;have z:Jx (au P0 c) q.heap (PQ (.ref h) "__iter__") (some (.builtin "tuple.__iter__")):=x.andThen (K8 X (pW Vv));have k:h≠q.heap.objs.size:=br (az d);have B:hT q.heap h Vz:=⟨O,a,d,j⟩;have l:hT (q.heap.push {cls:=.type "tuple_iterator",data:=.fields #[.ref h,.int 0 0]}) h Vz:=⟨O,a,ao _ d,j⟩;unfold P5;refine al ?_;unfold T3;refine al (z _ _ _ _ (λ _ _ e=>e) (ah ?_));simp only[cT,if_false];refine al (aK (z5 X d i (al (aK (tD k Vz.size 0 _ _ ⟨_,aF _ rfl,rfl,rfl⟩ l (iu sh) λ C u m=>?_)))));rw[show Va Vz.size (Sz 0 Vz.toList)=Vz.toList by rw[Lx];exact lu (aB _)];refine bT (by simp) ?_;refine al (aK (z3 t u (l.ext m.extBut k) (by simp) λ v r=>?_));simp only[Q9,cT,if_false];exact ah (p v λ b O g e=>r b O g (m.extBut b O g (ao _ e)))
def pX(N:ae->Prop)(h:a7)(T:ae)(a:Array ab):Prop:=h.IsTuple T a\/∃o n,¬N T/\h.get? T=some o/\o.cls=.ref 269/\o.data=.seq a n
def tF(f:o.handled=none)(L:aC c q.heap)(b:pX w q.heap h Vz)(g:(K3 Vr E).length=Vz.size)(i:(K3 Vr E).findIdx? (·.1)=none)(d:∀e,I3 q.heap.objs.size q.heap e->aA (au P0 c) o (Ro ((K3 Vr E).map (·.2)) Vz.toList) VO y {q with heap:=e}):aA (au P0 c) o (assign (.Tuple Vr a v) E (.ref h)) VO y q:=by
 refine aH b (λ b=>?_) λ m=>?_;·exact Th f b g i d
 · refine di m λ p n _ l j k=>?_;simp only[T7];refine af (Iq ?_);unfold unpack;rw[g,i];exact af (aK (z6 f L.cn l j k d))
def mX:∀{l:List Vb},l.length=a+1->∃b r,l=b::r/\r.length=a|_::_,h=>⟨_,_,rfl,MH h⟩
def k2{l:List Vb}(h:l.length=1):∃a,l=[a]:=by
 refine aj λ c=>?_;refine aW (mX h) λ a r b q=>?_;obtain rfl:=b;exact c ⟨a,by rw[Ql.mp q]⟩
def d9{l:List Vb}(h:l.length=2):∃a b,l=[a,b]:=by
 refine aj λ d=>?_;refine aW (mX h) λ a r c q=>?_;obtain rfl:=c;refine ai (k2 q) ?_;rintro b rfl;exact d ⟨a,b,rfl⟩
def jD{l:List Vb}(h:l.length=3):∃a b c,l=[a,b,c]:=by
 refine aj λ e=>?_;refine aW (mX h) λ a r d q=>?_;obtain rfl:=d;refine cP (d9 q) ?_;rintro b c rfl;exact e ⟨a,b,c,rfl⟩
def z7{l:List Vb}(h:l.length=4):∃a b c d,l=[a,b,c,d]:=by
 refine aj λ f=>?_;refine aW (mX h) λ a r e q=>?_;obtain rfl:=e;refine iC (jD q) ?_;rintro b c d rfl;exact f ⟨a,b,c,d,rfl⟩
inductive PV|d(x:bP)|raw(v:ab)|inst(cls:ab)(l:List bP)|bare(a:ae)|exc(m:Str)|k3(m:Str)|fn(g:Str)(f:Ji)(e:List Il)(h:aw)|kept(u:ab)(L:List (ae×Obj))|gg(a b c:Int)|insts(cls:ab)(l:List (List bP))
variable{i VN:List (Str×PV)}{V VS Ww:PV}{Vi:List PV}
structure pY(a:It)(q:Str)(b:Ji)(body:List Il)(c:aw):Prop where
 params:a.params=b
 body:a.body=.stmts body
 scope:a.scope=c
 mY:a.closure=[]glob:a.globals=FG
 blt:a.builtins=IT
 qual:a.qualname=q
 dflt:a.defaults=.none
 kw:a.kwdefaults=.none
noncomputable abbrev k4(t:ae):Obj:={cls:=.ref 66,data:=.fields #[.ref t,.none,.none,.none,.bool ap,.none]}
noncomputable abbrev ha(m:Str)(a:Tok):Obj:={cls:=.type "tuple",data:=.seq #[.str m a]}
def k5(o:Obj):Prop:=o.dict=none/\o.slots=#[]
open Classical in noncomputable def cb(X:ae->Prop)(h:a7):a7:=⟨h.objs.mapIdx λ i o=>if X i\/¬k5 o then⟨.none,none,.freed,#[]⟩else o,h.life⟩
open Classical in def dW:(cb w s).get? h=some O↔¬w h/\k5 O/\s.get? h=some O:=by
 have a:(cb w s).objs[h]?=(s.objs[h]?).map λ O=>if w h\/¬k5 O then⟨.none,none,.freed,#[]⟩else O:=QB ..;refine⟨λ g=>?_,λ q=>?_⟩
 · refine am (JK.mp g) λ g f=>ak (bh.mp (a.symm.trans g)) λ x e g=>?_;by_cases q:w h\/¬k5 x;·exact absurd f (by rw[<-g,if_pos q];exact λ q=>by cases q)
   · rw[if_neg q]at g;subst g;exact b3 (λ z=>q (.inl z)) (II λ z=>q (.inr z)) (JK.mpr ⟨e,f⟩)
 · refine a4 q λ c d i=>am (JK.mp i) λ g f=>JK.mpr ⟨?_,f⟩;rw[a,g];exact congrArg some (if_neg λ q=>q.elim c λ q=>q d)
def dH(e:(cb w s).get? h=some O):¬w h:=(dW.mp e).1
def e'(e:(cb w s).get? h=some O):k5 O:=(dW.mp e).2.1
def dm(e:(cb w s).get? h=some O):s.get? h=some O:=(dW.mp e).2.2
def gh(k:KX w s Vk):KO (cb w s) (cb w Vk):=λ b o e=>dW.mpr ⟨dH e,e' e,k b o (dH e) (dm e)⟩
def hU:KO (cb w s) s:=λ b o e=>dm e
inductive jE(X:ae->Prop)(WK:a7)(v c:ab)(l:List bP):Prop|mk(a:ae)(o:Obj)(n:Nat)(b:List ab)(d:List ae)(e:v=.ref a)(j:¬X a)(i:WK.get? a=some o)(f:o.cls=c)(g:o.data=.seq b.toArray n)(k:ga (cb X WK) b l d)
inductive z8(X:ae->Prop)(h:a7)(v:ab)(m:Str):Prop|mk(e t:ae)(WK:Tok)(q:v=.ref e)(c:¬X e)(d:¬X t)(ne:e≠t)(a:h.get? e=some (k4 t))(b:h.get? t=some (ha m WK))
inductive z9(X:ae->Prop)(h:a7)(v:ab)(m:Str):Prop|mk(e t:ae)(WK:Tok)(a:Obj)(b:Array ab)(q:v=.ref e)(j:¬X e)(k:¬X t)(c:h.get? e=some a)(d:a.cls=.ref 66)(f:a.data=.fields b)(g:b[0]?=some (.ref t))(i:h.get? t=some (ha m WK))
inductive z'(X:ae->Prop)(h:a7)(v:ab)(q:Str)(i:Ji)(g:List Il)(j:aw):Prop|mk(a:ae)(o:Obj)(b:It)(c:ae)(d:Obj)(f:Array ab)(t:Tok)(e:v=.ref a)(u:¬X a)(k:h.get? a=some o)(l:o.data=.func b)(m:pY b q i g j)(n:b.code=.ref c)(w:¬X c)(p:h.get? c=some d)(r:d.data=.fields f)(s:f[1]?=some (.str q t))
def RV(X:ae->Prop)(WL:a7)(v:ab):PV->Prop
 |.d x=>∃g,QM (cb X WL) v x g|.raw u=>v=u|.inst c l=>jE X WL v c l|.bare b=>v=.ref b/\¬X b/\WL.get? b=some {cls:=.type "object",dict:=none,data:=.plain}|.exc m=>z8 X WL v m|.k3 m=>z9 X WL v m|.fn q k j n=>z' X WL v q k j n|.kept u L=>v=u/\∀p∈L,¬X p.1/\WL.get? p.1=some p.2|.gg a b c=>∃r t u z,v=.ref r/\¬X r/\R6 WL r a b c t u z|.insts c l=>∃(a:ae)(e:List ab),v=.ref a/\¬X a/\WL.PlainList a e.toArray/\e.length=l.length/\∀(i:Nat)(u:ab)(f:List bP),e[i]?=some u->l[i]?=some f->jE X WL u c f
def jE.shift(k:∀b o,¬w b->s.get? b=some o->¬VE b/\Vk.get? b=some o)(r:jE w s U V7 Vm):jE VE Vk U V7 Vm:=by
 obtain⟨a,o,n,t,d,e,j,i,f,g,q⟩:=r;exact am (k _ _ j i) λ m p=>⟨a,o,n,t,d,e,m,p,f,g,vr (λ b o e=>dW.mpr ⟨(k b o (dH e) (dm e)).1,e' e,(k b o (dH e) (dm e)).2⟩) q⟩
theorem RV.shift(k:∀b o,¬w b->s.get? b=some o->¬VE b/\Vk.get? b=some o):∀{p:PV},RV w s U p->RV VE Vk U p:=by
 intro p r;cases p with
 |d _=>refine ai r λ J r=>?_;exact⟨J,Ka (λ b o e=>dW.mpr ⟨(k b o (dH e) (dm e)).1,e' e,(k b o (dH e) (dm e)).2⟩) r⟩|raw _=>exact r|inst _ _=>exact jE.shift k r|bare _=>exact⟨r.1,k _ _ r.2.1 r.2.2⟩|exc m=>obtain⟨e,t,D,q,g,j,ne,f,y⟩:=r;exact⟨e,t,D,q,(k _ _ g f).1,(k _ _ j y).1,ne,(k _ _ g f).2,(k _ _ j y).2⟩|k3 m=>obtain⟨e,t,D,WL,E,q,g,j,f,y,B,C,A⟩:=r;exact⟨e,t,D,WL,E,q,(k _ _ g f).1,(k _ _ j A).1,(k _ _ g f).2,y,B,C,(k _ _ j A).2⟩|fn _ _ _ _=>obtain⟨a,o,Q,c,WK,E,t,e,g,f,y,B,C,j,A,T,V⟩:=r;exact⟨a,o,Q,c,WK,E,t,e,(k _ _ g f).1,(k _ _ g f).2,y,B,C,(k _ _ j A).1,(k _ _ j A).2,T,V⟩|kept u L=>exact⟨r.1,λ p G=>k _ _ (r.2 p G).1 (r.2 p G).2⟩|gg a b c=>refine o5 r λ x t u z e g f=>?_;exact⟨x,t,u,z,e,k _ _ g f⟩|insts c l=>
  refine aj λ WO=>?_;refine mD r λ a WN e g WM Y H=>?_;refine ai WM λ n f=>?_;exact WO ⟨a,WN,e,(k _ _ g f).1,⟨n,(k _ _ g f).2⟩,Y,λ i u M N O=>(H i u M N O).shift k⟩
def RV.b0(k:KX w s Vk)(r:RV w s U V):RV w Vk U V:=r.shift λ b o n e=>⟨n,k b o n e⟩
def RV.keeps(k:KO s Vk)(r:RV w s U V):RV w Vk U V:=r.b0 λ b o _ e=>k b o e
def Ex(X:ae->Prop)(h:a7):Prop:=∀b,X b->∃o,h.get? b=some o
def Ex.keeps(x:Ex w s)(k:KO s Vk):Ex w Vk:=λ b a=>let⟨o,e⟩:=x b a;⟨o,k _ _ e⟩
def Ex.fresh(x:Ex w s)(b:s.objs.size<=h):¬w h:=λ q=>by refine ai (x h q) λ o e=>?_;exact absurd (az e) (b'.mpr b)
def Kp(s a:aa):Prop:=PySem.Keeps s a
def Kp.refl(s:aa):Kp s s:=⟨s.heap,s.toks,rfl,λ _ _ e=>e⟩
def Kp.trans:Kp q H->Kp H VH->Kp q VH:=λ h c=>by
 refine aW h λ _ _ a k=>?_;obtain rfl:=a;refine aW c λ _ _ a d=>?_;obtain rfl:=a;exact dw _ _ rfl (λ b o x=>d b o (k b o x))
def Kp.keep:Kp q H->(KO q.heap H.heap):=λ h=>by
 refine aW h λ _ _ a k=>?_;obtain rfl:=a;exact k
def Kp.mk'(k:KO q.heap s):Kp q {q with heap:=s,toks:=a}:=⟨_,_,rfl,k⟩
def Kp.toks:Kp q {q with toks:=a}:=⟨q.heap,a,rfl,λ _ _ e=>e⟩
def Kp.push:Kp q {q with heap:=q.heap.push O}:=⟨_,q.toks,rfl,λ _ _ e=>ao _ e⟩
def bC(b:ae):Prop:=c8 b=true
def bw(o:Obj):Prop:=∃a,o.data=.fields a/\(o.cls=.none\/o.cls=.type "code"\/∃q t,a[1]?=some (.str q t))
noncomputable def tG:List Nat:=[2,3,11,12,13,14,15,16,17,18,19,20,21,57,58,59,60,61,62,63,64,65,66,67,68,69,70,71,72,73,74,75,76,77,78,79,80,81,82,83,84,85,86,87,88,89,90,91,92,93,94,95,96,97,98,99,100,101,102,103,104,105,106,107,108,109,110,111,112,113,114,115,116,117,118,119,120,121,122,123,124,125,126,127,128,129,130,131,132,133,134,135,136,137,138,139,140,141,142,143,144,145,146,147,148,149,150,151,152,153,154,155,156,157,158,159,160,161,162,163,164,165,166,167,168,169,170,171,172,173,174,175,176,177,178,179,180,181,182,183,184,185,186,187,188,189,190,191,192,193,194,195,196,197,198,199,200,201,202,203,204,205,206,207,208,209,210,211,212,213,214,215,216,217,218,219,220,221,222,223,225,226,227,228,229,230,231,232,233,234,235,236,237,238,239,240,241,242,243,244,245,246,247,248,249,250,251,252,253,254,255,256,257,258,259,260,261,262,263,264,265,266,267,268,269,270,271,272,273,274,275,276,277,278,279,280,281,282,283,284,285,286,287,288,289,290,291,292,293,294,295,296,297,298,299,300,301,302,303,304,305,306,307,308,309,310,311,312,313]
noncomputable def tH:List Nat:=tG.filter (λ a=>!c8 a)++[0,1,4,43,52,53]
def fb(b:ae):Prop:=b∈tH
def tI(P:a3):(d8 P).map (·.1)=tG:=by lia
def fb.of{p:Nat×Obj}(h:p∈d8 Vv)(a:c8 p.1=ap):fb p.1:=by
 refine Im _ (hu.mpr ⟨?_,by rw[a];rfl⟩);rw[<-tI Vv];exact K1 h
def Aa:tH.all (λ a=>IF a 314)=true:=by lia
def fb.lt(a:fb h):h<314:=bW (H7.mp Aa h a)
def fb.app(h:a∈[0,1,4,43,52,53]):fb a:=iq _ h
def aC.move(k:∀b o,fb b\/bw o->s.get? b=some o->Vk.get? b=some o)(L:aC c s):aC c Vk:=by
 have n:∀{v:ab}{q:Str},s.CodeRec v q->Vk.CodeRec v q:=λ j=>by refine du j λ f o r t a b d e=>?_;exact g2 f o r t a (k _ _ (.inr ⟨r,d,.inr (.inr ⟨_,t,e⟩)⟩) b) d e
 have kq:∀{P:ae}{q:Str},e9 s P q->e9 Vk P q:=λ j=>by refine ci j λ C a b f=>?_;exact dU C (k _ _ (.inr ⟨_,rfl,.inl rfl⟩) a) b (λ B z e=>n (f B z e))
 refine⟨λ p l m=>?_,?_,?_,?_,k _ _ (.inl (.app (by decide))) L.o0,k _ _ (.inl (.app (by decide))) L.o1,k _ _ (.inl (.app (by decide))) L.o4,kq L.g8,kq L.g9,?_⟩;·exact ak (L.objs p l m) λ o a b=>⟨o,k _ _ (.inl (.of l m)) a,b⟩
 ·let⟨o,g,a,b,f⟩:=L.jx;exact⟨o,g,k _ _ (.inl (.app (by decide))) a,b,f⟩
 ·let⟨o,g,a,b,f⟩:=L.jy;exact⟨o,g,k _ _ (.inl (.app (by decide))) a,b,f⟩
 ·let⟨o,g,a,b,f⟩:=L.jz;exact⟨o,g,k _ _ (.inl (.app (by decide))) a,b,f⟩
 · rcases L.g' with a|⟨y,a,u,A,t,x,D,E,G,H,J⟩;·exact .inl (k _ _ (.inr ⟨_,rfl,.inl rfl⟩) a)
   ·exact .inr ⟨y,k _ _ (.inr ⟨_,rfl,.inl rfl⟩) a,u,A,t,x,D,E,k _ _ (.inr ⟨_,rfl,.inr (.inl rfl)⟩) G,k _ _ (.inr ⟨_,rfl,.inl rfl⟩) H,λ i d e=>n (J i d e)⟩
def aC.pZ(L:aC c s)(d:fb h):∃o,s.get? h=some o:=by
 rcases k9.mp d with d|d
 · refine am (hu.mp d) λ d f=>?_;rw[<-tI c.params]at d;refine ak (hp.mp d) ?_;rintro p e rfl;refine ak (L.objs p e (by simpa using f)) λ o a _=>?_;exact⟨o,a⟩
 · simp only[aP,uR,or_false]at d;rcases d with rfl|rfl|rfl|rfl|rfl|rfl;·exact⟨_,L.o0⟩
   ·exact⟨_,L.o1⟩
   ·exact⟨_,L.o4⟩
   ·refine aW L.jx λ o _ a _=>?_;exact⟨o,a⟩
   ·refine aW L.jy λ o _ a _=>?_;exact⟨o,a⟩
   ·refine aW L.jz λ o _ a _=>?_;exact⟨o,a⟩
def aC.keeps(k:KO s Vk)(L:aC c s):aC c Vk:=L.move λ b o _=>k b o
inductive mZ(X:ae->Prop)(d:Env)(h:a7)(x:Str)(p:PV):Prop|mk(m:Str->Option ab)(v:ab)(a:h.Ns d.locals m)(b:m x=some v)(c:RV X h v p)
inductive m5(X:ae->Prop)(d:Env)(h:a7)(x:Str)(p:PV):Prop|mk(c:ae)(WK:ab)(a:d.cells.lookup x=some c)(b:h.IsCell c (some WK))(r:RV X h WK p)
def cc(X:ae->Prop)(a:Env)(h:a7)(x:Str)(p:PV):Prop:=match a.kindOf x with
 |some .local=>mZ X a h x p|some .cell|some .free=>m5 X a h x p|_=>True
def cc.imp(H:cc w E s j V)(f:mZ w E s j V->mZ VE E Vk j VS)(g:m5 w E s j V->m5 VE E Vk j VS):cc VE E Vk j VS:=by
 unfold cc at H⊢;rcases k:E.kindOf j with _|a;·trivial
 · rw[k]at H;cases a with
   |«local»=>exact f H|cell=>exact g H|free=>exact g H|_=>trivial
def cc.keeps(k:KO s Vk)(H:cc w E s j V):cc w E Vk j V:=H.imp (λ q=>by obtain⟨m,v,a,b,c⟩:=q;exact⟨m,v,a.keeps k,b,c.keeps k⟩) λ q=>by obtain⟨m,v,a,b,c⟩:=q;exact⟨m,v,a,b.keeps k,c.keeps k⟩
structure bq(X:ae->Prop)(w:ar)(b:aw)(a:Env)(h:a7)(c:List (Str×PV)):Prop where
 left:aC w h
 scope:a.scope=b
 glob:a.globals=FG
 blt:a.builtins=IT
 kind:b.kind=.function
 ex:Ex X h
 vars:∀x p,c.lookup x=some p->cc X a h x p
 cells:∀x,(a.kindOf x=some .cell\/a.kindOf x=some .free)->(a.cells.lookup x).isSome=true
def bq.keeps(k:KO s Vk)(R:bq w c g E s i):bq w c g E Vk i:=⟨R.left.keeps k,R.scope,R.glob,R.blt,R.kind,R.ex.keeps k,λ x p e=>(R.vars x p e).keeps k,R.cells⟩
abbrev Lv:=Nat×Bool
variable{u:Lv}
structure Rm(k:Lv)(A:aq):Prop where
 depth:A.depth+10*k.1+20<QG
 units:A.units+60*k.1+200<O3
 calm:k.2=true->A.handled=none
def Rm.gC(h:Rm u o):o.units+200<O3:=by have :=h.units;exact sx this rfl
def Rm.deeper(b:Env)(h:Rm (a+1,M) o):Rm (a,M) (o.deeper b):=⟨by have :=h.depth;show o.depth+1+_+_<_;exact oS this,by have :=h.units;show o.units+3+_+_<_;exact mx this rfl,h.calm⟩
def Ev(k:Lv)(b:aw)(c:List (Str×PV))(e:b7)(p:PV):Prop:=∀(X:ae->Prop)(WL:ar)(A:aq),Rm k A->∀(WK:Env)(s:aa)(E:ab->aa->Prop),bq X WL b WK s.heap c->aA (au P0 WL) A (He e WK) (λ v a=>RV X a.heap v p/\Kp s a) E s
def Tr(k:Lv)(d:aw)(f:List (Str×PV))(e:b7)(b:Bool):Prop:=∀(X:ae->Prop)(WM:ar)(A:aq),Rm k A->∀(WK:Env)(s:aa)(E:ab->aa->Prop),bq X WM d WK s.heap f->aA (au P0 WM) A (isTrue e WK (He e WK)) (λ c a=>c=b/\Kp s a) E s
noncomputable abbrev I(n:Int):PV:=.d (.int n)
noncomputable abbrev S(x:Str):PV:=.d (.str x)
noncomputable abbrev Bo(b:Bool):PV:=.d (.bool b)
noncomputable abbrev Li(l:List bP):PV:=.d (.list l)
noncomputable abbrev Tu(l:List bP):PV:=.d (.tuple l)
noncomputable abbrev Ls(l:List Int):PV:=.d (.list (l.map .int))
noncomputable abbrev Lt(l:List Str):PV:=.d (.list (l.map .str))
def Ev.use(h:Ev u g i z V)(d:Rm u o)(R:bq w c g E q.heap i)(j:Kp H q)(f:∀v a,RV w a.heap v V->Kp q a->Kp H a->bq w c g E a.heap i->Vf v a):aA (au P0 c) o (He z E) Vf y q:=aG (h w c o d E q y R) (λ v a l=>by refine am l λ r b=>?_;exact f v a r b (j.trans b) (R.keeps b.keep)) λ _ _ x=>x
def Tr.use(h:Tr u g i z M)(f:Rm u o)(R:bq w c g E q.heap i)(l:Kp H q)(j:∀a,Kp q a->Kp H a->bq w c g E a.heap i->V2 M a):aA (au P0 c) o (isTrue z E (He z E)) V2 y q:=aG (h w c o f E q y R) (λ v a m=>by refine am m λ r d=>?_;exact r▸j a d (l.trans d) (R.keeps d.keep)) λ _ _ x=>x
def tJ(R:bq w c g E q.heap i)(l:i.lookup j=some V)(f:g.names.lookup j=some .local\/g.names.lookup j=some .cell\/g.names.lookup j=some .free)(k:(j==("__classdict__":Str))=ap):aA (au P0 c) o (UX E j) (λ v n=>n=q/\RV w q.heap v V) y q:=by
 have d:=R.vars j V l;have e:E.kindOf j=g.names.lookup j:=by unfold KJ;rw[R.scope]
 have eD:E.scope.kind=.function:=by rw[R.scope];exact R.kind
 unfold cc at d;rcases f with f|f|f<;>simp only[f]at e<;>simp only[e]at d
 · refine aj λ t=>?_;obtain⟨m,v,a,b,h⟩:=d;exact t (Ol eD e a b ⟨rfl,h⟩)
 · obtain⟨h,v,a,b,r⟩:=d;exact wpAny_loadName_cell eD e a b ⟨rfl,r⟩
 · obtain⟨h,v,a,b,r⟩:=d;exact wpAny_loadName_free eD e a b ⟨rfl,r⟩ k
def Ev.name(d:i.lookup j=some V)(c:g.names.lookup j=some .local\/g.names.lookup j=some .cell\/g.names.lookup j=some .free)(b:(j==("__debug__":Str))=ap)(a:(j==("__classdict__":Str))=ap):Ev u g i (.Name j v) V:=λ X w A _ h s E R=>L5 (aG (tJ R d c a) (λ m l f=>by obtain⟨e,r⟩:=f;subst e;exact⟨r,Kp.refl _⟩) λ _ _ j=>j) b
def aC.main(L:aC c s):s.get? 3=some (js c.params):=L.eC 1 (by lia) rfl λ x q=>iK q
noncomputable def p0(o:Obj):Bool:=match o.data with|.dict a _=>a.all (λ e=>match e.key with|.str _ _=>true|_=>ap)|_=>ap
noncomputable def iL(o:Obj)(x:Str):Option ab:=match o.data with|.dict a _=>nsFind a x|_=>none
def k6(e:s.get? h=some O)(n:p0 O=true):s.Ns h (iL O):=by
 have x:s.isNs h=true:=by unfold Heap.isNs;refine e.symm▸?_;exact n
 have :=Heap.Ns.of_isNs x;have b:s.nsMap h=iL O:=by funext y;unfold Heap.nsMap;refine e.symm▸?_;rfl
 rwa[b]at this
def Ab(P:a3):p0 (js P)=true:=by lia
def Ac(P:a3):p0 (MM P)=true:=by lia
noncomputable abbrev a5(P:a3):Str->Option ab:=iL (js P)
noncomputable abbrev cR(P:a3):Str->Option ab:=iL (MM P)
def aC.mg(L:aC c s):s.Ns FG (a5 c.params):=k6 L.main (Ab _)
def aC.mb(L:aC c s):s.Ns IT (cR c.params):=k6 L.o0 (Ac _)
def tK(R:bq w c g E q.heap i)(a:g.names.lookup j=some .globalImplicit)(b:a5 c.params j=some U):aA (au P0 c) o (UX E j) (λ u d=>d=q/\u=U) y q:=by
 rw[loadName_read (by refine(R.scope).symm▸?_;exact R.kind) (by unfold KJ;refine(R.scope).symm▸?_;exact a)];exact loadGlobal_global (by refine(R.glob).symm▸?_;exact R.left.mg) b ⟨rfl,rfl⟩
def p'(R:bq w c g E q.heap i)(a:g.names.lookup j=some .globalImplicit)(b:a5 c.params j=none)(d:cR c.params j=some U):aA (au P0 c) o (UX E j) (λ u e=>e=q/\u=U) y q:=by
 rw[loadName_read (by refine(R.scope).symm▸?_;exact R.kind) (by unfold KJ;refine(R.scope).symm▸?_;exact a)];exact loadGlobal_builtin (by rw[R.glob];exact R.left.mg) b (by rw[R.blt];exact R.left.mb) d ⟨rfl,rfl⟩
def Ev.glob(b:g.names.lookup j=some .globalImplicit)(c:∀P,a5 P j=some U)(a:(j==("__debug__":Str))=ap):Ev u g i (.Name j v) (.raw U):=λ X w A _ f s E R=>L5 (aG (tK R b (c _)) (λ U h d=>by obtain⟨e,r⟩:=d;subst e;exact⟨r,Kp.refl _⟩) λ _ _ j=>j) a
def Ev.blt(b:g.names.lookup j=some .globalImplicit)(c:∀P,a5 P j=none)(d:∀P,cR P j=some U)(a:(j==("__debug__":Str))=ap):Ev u g i (.Name j v) (.raw U):=λ X w A _ h s E R=>L5 (aG (p' R b (c _) (d _)) (λ U l f=>by obtain⟨e,r⟩:=f;subst e;exact⟨r,Kp.refl _⟩) λ _ _ j=>j) a
def Ev.int:Ev u g i (.Constant (.int C) a v) (I C):=λ X w A _ b s E _=>wpAny_Constant_int ⟨⟨_,.int C _⟩,Kp.toks⟩
def Ev.str:Ev u g i (.Constant (.str j) a v) (S j):=λ X w A _ b s E _=>Ti ⟨⟨_,.str j _⟩,Kp.toks⟩
def Ev.bool:Ev u g i (.Constant (.bool M) a v) (Bo M):=λ X w A _ c s E _=>S4 ⟨⟨_,.bool M⟩,Kp.refl _⟩
def jF{x:Sem Vb}{P:Vb->aa->Prop}(h:∀Q:Vb->aa->Prop,(∀v a,P v a->Q v a)->aA VK o x Q y q):aA VK o x P y q:=h P λ _ _ b=>b
def bb(WM:Operator)(p q r:PV):Prop:=∀(X:ae->Prop)(WN:ar)(A:aq),A.units+200<O3->∀(s:aa)(WL WK:ab)(E:ab->aa->Prop),Ex X s.heap->RV X s.heap WL p->RV X s.heap WK q->aA (au P0 WN) A (binaryOp WM WL WK) (λ b a=>RV X a.heap b r/\Kp s a) E s
def aD(WM:SS)(p q:PV)(b:Bool):Prop:=∀(X:ae->Prop)(WN:ar)(A:aq),A.units+200<O3->∀(s:aa)(WL WK:ab)(E:ab->aa->Prop),Ex X s.heap->RV X s.heap WL p->RV X s.heap WK q->aA (au P0 WN) A (T5 WM WL WK) (λ a c=>a=.bool b/\Kp s c) E s
def Ev.bJ{d:Operator}(l:bb d V VS Ww)(h:Ev u g i z V)(j:Ev u g i Vl VS):Ev u g i (.BinOp z d Vl v) Ww:=λ X w A c H s E R=>wpAny_BinOp (h.use c R (Kp.refl s) λ G J y _ n e=>j.use c e n λ D C B m o f=>aG (l X w A c.gC C G D E f.ex (y.keeps m.keep) B) (λ _ _ t=>by refine am t λ z Vl=>?_;exact⟨z,o.trans Vl⟩) λ _ _ x=>x)
def Ev.cmp(l:aD Wx V VS M)(f:Ev u g i z V)(h:Ev u g i Vl VS)(j:autoParam (Lm Wx Vl=ap) gX):Ev u g i (.Compare z [Wx] [Vl] v) (Bo M):=λ X w A c H s E R=>wpAny_Compare1 (f.use c R (Kp.refl s) λ G J y _ n d=>h.use c d n λ D C B m o e=>aG (l X w A c.gC C G D E e.ex (y.keeps m.keep) B) (λ _ _ t=>by refine am t λ z Vl=>?_;exact⟨z▸⟨_,.bool M⟩,o.trans Vl⟩) λ _ _ x=>x) j
def Tr.cmp(l:aD Wx V VS M)(f:Ev u g i z V)(h:Ev u g i Vl VS)(j:autoParam (Lm Wx Vl=ap) gX):Tr u g i (.Compare z [Wx] [Vl] v) M:=λ X w A c H s E R=>JX (f.use c R (Kp.refl s) λ G J y _ n d=>h.use c d n λ D C B m o e=>aG (l X w A c.gC C G D E e.ex (y.keeps m.keep) B) (λ _ _ t=>by refine am t λ z Vl=>?_;exact z▸zF ⟨rfl,o.trans Vl⟩) λ _ _ x=>x) j
def Tr.not(d:Tr u g i z M):Tr u g i (.UnaryOp .Not z v) (!M):=λ X w A c f s E R=>wpAny_isTrue_Not (d.use c R (Kp.refl s) λ h _ e _=>⟨rfl,e⟩)
def Ev.ite(l:Tr u g i z M)(h:M=true->Ev u g i Vl V)(j:M=ap->Ev u g i Wd VS):Ev u g i (.IfExp z Vl Wd v) (if M then V else VS):=λ X w A d m s E R=>wpAny_IfExp (l.use d R (Kp.refl s) λ n _ f e=>by cases M with
  |true=>exact(h rfl).use d e f λ _ _ r _ u _=>⟨r,u⟩|false=>exact(j rfl).use d e f λ _ _ r _ u _=>⟨r,u⟩)
def Tr.k7(l:Tr u g i z M)(m:M=ap->Tr u g i Vl We):Tr u g i (.BoolOp .Or [z,Vl] v) (M||We):=λ X w A e o s E R=>by
 refine wpAny_isTrue_BoolOp (Sk (l.use e R (Kp.refl s) λ p _ f j=>?_));rcases M with _|_
 · refine Sk ((m rfl).use e j f λ q _ h n=>?_);cases We with
   |true=>exact⟨rfl,h⟩|false=>exact wpAny_allTrue_Or_nil ⟨rfl,h⟩
 ·exact⟨rfl,f⟩
def tL(h:a7)(v:ab)(c:List ae):bP->Prop
 |.none=>v=.none/\c=[]|.bool b=>v=.bool b/\c=[]|.int n=>∃t,v=.int n t/\c=[]|.str x=>∃t,v=.str x t/\c=[]|.list l=>∃a o d n e,v=.ref a/\h.get? a=some o/\o.cls=.type "list"/\o.data=.seq d n/\ga h d.toList l e|.tuple l=>∃a o d n,v=.ref a/\h.get? a=some o/\o.cls=.type "tuple"/\o.data=.seq d n/\ga h d.toList l c|_=>True
def hb(r:QM s U VG Y):tL s U Y VG:=Reads.casesOn (motive_1:=λ U VG Y _=>tL s U Y VG) r ⟨rfl,rfl⟩ (λ _=>⟨rfl,rfl⟩) (λ _ t=>⟨t,rfl,rfl⟩) (λ _ t=>⟨t,rfl,rfl⟩) (λ a b c VG=>⟨_,_,_,_,_,rfl,a,b,c,VG⟩) (λ a b c VG=>⟨_,_,_,_,rfl,a,b,c,VG⟩) (λ _ _ _ _ _=>trivial)
def tM(h:a7)(f:List ab)(c:List ae):List bP->Prop
 |[]=>f=[]/\c=[]|d::l=>∃v e a b,f=v::e/\c=a++b/\QM h v d a/\ga h e l b
def tN(r:ga s Vc Vm Y):tM s Vc Y Vm:=ReadsAll.casesOn (motive_2:=λ Vc Vm Y _=>tM s Vc Y Vm) r ⟨rfl,rfl⟩ (λ a b=>⟨_,_,_,_,rfl,rfl,a,b⟩)
def gi(z:ga s Vc [] Y):Vc=[]/\Y=[]:=tN z
def eT(z:ga s Vc (VG::Vm) Y):∃v c a b,Vc=v::c/\Y=a++b/\QM s v VG a/\ga s c Vm b:=tN z
def RV.int(r:RV w s U (I C)):∃t,U=.int C t:=by refine ai r λ a r=>?_;exact(hb r).imp λ _ q=>q.1
def RV.str(r:RV w s U (S j)):∃t,U=.str j t:=by refine ai r λ a r=>?_;exact(hb r).imp λ _ q=>q.1
def RV.bool(r:RV w s U (Bo M)):U=.bool M:=by refine ai r λ a r=>?_;exact(hb r).1
def RV.list(r:RV w s U (Li Vm)):∃a b f,U=.ref a/\¬w a/\s.PlainList a b.toArray/\ga (cb w s) b Vm f:=by
 refine ai r λ f r=>aj λ m=>?_;refine o7 (hb r) λ a o b n f j e c d k=>?_;obtain rfl:=j;refine am (e' e) λ g i=>?_;obtain⟨p,q,t,u⟩:=o;dsimp only at g i c d;subst g i c d;exact m (kP a b.toList _ rfl (dH e) ⟨n,dm e⟩ k)
def RV.tuple(r:RV w s U (Tu Vm)):∃a b f,U=.ref a/\¬w a/\s.IsTuple a b.toArray/\ga (cb w s) b Vm f:=by
 refine ai r λ f r=>?_;refine o6 (hb r) λ a o b n g e c d i=>?_;obtain rfl:=g;exact kP a b.toList _ rfl (dH e) ⟨o,dm e,c,n,by rw[d]⟩ i
def RV.mkInt:RV w s (.int C Vt) (I C):=⟨_,.int C Vt⟩
def RV.mkStr:RV w s (.str j Vt) (S j):=⟨_,.str j Vt⟩
def RV.k8:RV w s (.bool M) (Bo M):=⟨_,.bool M⟩
def Ae(h:a7)(a:ae)(b:Array ab):Prop:=∃n,h.get? a=some {cls:=.type "tuple",data:=.seq b n}
def RV.gD(c:¬w h)(e:s.PlainList h Vc.toArray)(d:ga (cb w s) Vc Vm Y):RV w s (.ref h) (Li Vm):=by exact ai e λ n b=>⟨_,.list (dW.mpr ⟨c,⟨rfl,rfl⟩,b⟩) rfl rfl (d)⟩
def RV.mkTuple(c:¬w h)(e:Ae s h Vc.toArray)(d:ga (cb w s) Vc Vm Y):RV w s (.ref h) (Tu Vm):=by exact ai e λ n b=>⟨_,.tuple (dW.mpr ⟨c,⟨rfl,rfl⟩,b⟩) rfl rfl (d)⟩
def m6(r:ga (cb w s) Vc Vm Y):ga (cb w (s.push O)) Vc Vm Y:=vr (gh λ _ _ _ e=>ao _ e) r
def m7{h:a7}{c f:List ab}{l m:List bP}{e g:List ae}(x:ga h c l e)(r:ga h f m g):∃i,ga h (c++f) (l++m) i:=by induction l generalizing c e with
 |nil=>refine am (gi x) ?_;rintro rfl k;obtain rfl:=k;exact⟨_,r⟩|cons d l j=>
  refine du (eT x) λ _ _ _ _ n o a b=>?_;obtain rfl:=n;obtain rfl:=o;exact ai (j b) λ _ q=>⟨_,.cons a q⟩
def cy{h:a7}{c:List ab}{l:List bP}{e:List ae}(x:ga h c l e):c.length=l.length:=by induction l generalizing c e with
 |nil=>rw[(gi x).1];rfl|cons d l f=>
  refine du (eT x) λ _ _ _ _ g i a b=>?_;obtain rfl:=g;obtain rfl:=i;exact congrArg (·+1) (f b)
def hc{h:a7}{c:List ab}{l:List bP}{f:List ae}(x:ga h c l f){i:Nat}{d:bP}(e:l[i]?=some d):∃v g,c[i]?=some v/\QM h v d g:=by induction l generalizing c f i with
 |nil=>exact aQ e|cons d l j=>
  refine du (eT x) λ _ _ _ _ k m a b=>?_;obtain rfl:=k;obtain rfl:=m;rcases i with _|i;·obtain rfl:=ax e;exact dw _ _ rfl a
  ·exact j b e
def Af{h:a7}{c:List ab}{l:List bP}{d:List ae}(x:ga h c l d)(i:Nat):∃e,ga h (c.drop i) (l.drop i) e:=by induction i generalizing c l d with
 |zero=>exact⟨_,x⟩|succ i f=>
   rcases l with _|⟨_,_⟩;·refine am (gi x) ?_;rintro rfl g;obtain rfl:=g;exact⟨_,.nil⟩
   · refine du (eT x) λ _ _ _ _ j k a b=>?_;obtain rfl:=j;obtain rfl:=k;exact f b
def Ag{h:a7}{c:List ab}{l:List bP}{d:List ae}(x:ga h c l d)(i:Nat):∃e,ga h (c.take i) (l.take i) e:=by induction i generalizing c l d with
 |zero=>exact⟨_,.nil⟩|succ i f=>
   rcases l with _|⟨_,_⟩;·refine am (gi x) ?_;rintro rfl g;obtain rfl:=g;exact⟨_,.nil⟩
   · refine du (eT x) λ _ _ _ _ j k a b=>?_;obtain rfl:=j;obtain rfl:=k;exact ai (f b) λ _ q=>⟨_,.cons a q⟩
def bb.fc:bb .Add (I C) (I Vq) (I (C+Vq)):=λ X w A _ s v u E c b a=>by
 obtain⟨t,rfl⟩:=b.int;obtain⟨d,rfl⟩:=a.int;exact add_int ⟨.mkInt,Kp.toks⟩
def bb.sub:bb .Sub (I C) (I Vq) (I (C-Vq)):=λ X w A _ s v u E c b a=>by
 obtain⟨t,rfl⟩:=b.int;obtain⟨d,rfl⟩:=a.int;exact sub_int ⟨.mkInt,Kp.toks⟩
def bb.fdiv(h:0<Vq)(a:Vq<1000000000):bb .FloorDiv (I C) (I Vq) (I (C/Vq)):=λ X w A _ s v u E e d c=>by
 obtain⟨t,rfl⟩:=d.int;obtain⟨f,rfl⟩:=c.int;rw[show C/Vq=C.fdiv Vq from(Int.fdiv_eq_ediv_of_nonneg C (gw h)).symm];exact floordiv_int (r6 h) ⟨.mkInt,Kp.toks⟩ (.inl (PX (Int.natAbs_lt_natAbs_of_nonneg_of_lt (b:=1073741824) (Mo h) (LI a (by decide)))))
def bb.iM(h:0<Vq):bb .Mod (I C) (I Vq) (I (C%Vq)):=λ X w A _ s v u E c b a=>by
 obtain⟨t,rfl⟩:=b.int;obtain⟨d,rfl⟩:=a.int;rw[show C%Vq=C.fmod Vq from(Int.fmod_eq_emod_of_nonneg C (gw h)).symm];exact mod_int (r6 h) ⟨.mkInt,Kp.toks⟩
def bb.Ah(b:0<=Vq)(c:Vq<=1000000)(a:C.natAbs<2^64):bb .Pow (I C) (I Vq) (I (C^Vq.toNat)):=λ X w A _ s v u E f e d=>by
 obtain⟨t,rfl⟩:=e.int;obtain⟨g,rfl⟩:=d.int;exact pow_int_small b c a ⟨.mkInt,Kp.toks⟩
def bb.iO(h:j.length+Vd.length<=a9):bb .Add (S j) (S Vd) (S (j++Vd)):=λ X w A _ s v u E c b a=>by
 obtain⟨t,rfl⟩:=b.str;obtain⟨d,rfl⟩:=a.str;exact UF (λ _ _=>⟨.mkStr,Kp.toks⟩) h
def bb.m8{l m:List bP}(h:l.length+m.length<=a9):bb .Add (Li l) (Li m) (Li (l++m)):=λ X w A _ s v u E z H G=>by
 refine aj λ M=>?_;refine bI H.list λ a d N c V D q=>?_;obtain rfl:=c;refine bI G.list λ b f O c Y C t=>?_;obtain rfl:=c;obtain⟨⟨cls,x,U,J⟩,o,g,n,j⟩:=id D.isList;obtain⟨⟨Q,y,data2,L⟩,p,i,B,k⟩:=id C.isList;simp only at g j i k;subst g j i k;refine M ?_;have e:d.toArray++f.toArray=(d++f).toArray:=by simp
 refine concat_meets ⟨_,o,rfl⟩ ⟨_,p,rfl⟩ noFill_list_add seq_list_add PySem.F.slot_list_add PySem.F.entry_list_add (PySem.F.args_list_add_2 _ _) (list_addW a b d.toArray f.toArray n B x y J L (by simp;simp only[cy q,cy t];exact h)) ⟨o,p,?_⟩;rw[e];exact ai (m7 q t) λ T r=>⟨.gD (z.fresh (aB _)) ⟨_,aF _ rfl⟩ (m6 r),Kp.push⟩
def aD.lt:aD .Lt (I C) (I Vq) (bF (C<Vq)):=λ X w A _ s v u E c b a=>by obtain⟨t,rfl⟩:=b.int;obtain⟨d,rfl⟩:=a.int;exact lt_int ⟨rfl,Kp.refl _⟩
def aD.gt:aD .Gt (I C) (I Vq) (bF (Vq<C)):=λ X w A _ s v u E c b a=>by obtain⟨t,rfl⟩:=b.int;obtain⟨d,rfl⟩:=a.int;exact gt_int ⟨rfl,Kp.refl _⟩
def aD.le:aD .LtE (I C) (I Vq) (bF (C<=Vq)):=λ X w A _ s v u E c b a=>by obtain⟨t,rfl⟩:=b.int;obtain⟨d,rfl⟩:=a.int;exact le_int ⟨rfl,Kp.refl _⟩
def aD.jG:aD .Lt (S j) (S Vd) (bF (j.cps.toList<Vd.cps.toList)):=λ X w A _ s v u E c b a=>by obtain⟨t,rfl⟩:=b.str;obtain⟨d,rfl⟩:=a.str;exact lt_str ⟨rfl,Kp.refl _⟩
def aD.k':aD .Gt (S j) (S Vd) (bF (Vd.cps.toList<j.cps.toList)):=λ X w A _ s v u E c b a=>by obtain⟨t,rfl⟩:=b.str;obtain⟨d,rfl⟩:=a.str;exact R5 ⟨rfl,Kp.refl _⟩
def cz(d:bP):Prop:=d.canLay0=true/\d.depth<=9
def aD.eq(a:cz VG)(c:cz VZ):aD .Eq (.d VG) (.d VZ) (KD VG VZ):=λ X w A b s v u E i⟨g,f⟩⟨h,e⟩=>SeqAt.compareEq_reads (Ka hU f) (Ka hU e) a.1 c.1 (oT b a.2 rfl) ⟨rfl,Kp.refl _⟩
def aD.ne(a:cz VG)(c:cz VZ):aD .NotEq (.d VG) (.d VZ) (!KD VG VZ):=λ X w A b s v u E i⟨g,f⟩⟨h,e⟩=>SeqAt.compareNe_reads (Ka hU f) (Ka hU e) a.1 c.1 (oT b a.2 rfl) ⟨rfl,Kp.refl _⟩
inductive aU X(h:a7):List ab->List PV->Prop|nil:aU X h [] []|cons{WL vs p WK}:RV X h WL p->aU X h vs WK->aU X h (WL::vs) (p::WK)
def aU.cut(z:aU w s Vc (V::Vi)):∃v c,Vc=v::c/\RV w s v V/\aU w s c Vi:=by
 obtain _|⟨a,b⟩:=z;exact kN _ _ rfl a b
def aU.none(z:aU w s Vc []):Vc=[]:=by
 cases z;rfl
def aU.one(z:aU w s Vc [V]):∃v,Vc=[v]/\RV w s v V:=by
 refine bS z.cut λ v d c a b=>?_;obtain rfl:=c;exact bj v (congrArg _ b.none) a
def aU.two(z:aU w s Vc [V,VS]):∃v d,Vc=[v,d]/\RV w s v V/\RV w s d VS:=by
 refine bS z.cut λ v g f a c=>?_;obtain rfl:=f;refine ak c.one λ d e b=>?_;obtain rfl:=e;exact kN v d rfl a b
def aU.three(z:aU w s Vc [V,VS,Ww]):∃v e x,Vc=[v,e,x]/\RV w s v V/\RV w s e VS/\RV w s x Ww:=by
 refine bS z.cut λ v g f a d=>?_;obtain rfl:=f;refine bS d.two λ e x f b c=>?_;obtain rfl:=f;exact kP v e x rfl a b c
def aU.four{p q r u:PV}(z:aU w s Vc [p,q,r,u]):∃v f x y,Vc=[v,f,x,y]/\RV w s v p/\RV w s f q/\RV w s x r/\RV w s y u:=by
 refine bS z.cut λ v j g a e=>?_;obtain rfl:=g;refine bI e.three λ f x y i b c d=>?_;obtain rfl:=i;exact⟨v,f,x,y,rfl,a,b,c,d⟩
theorem aU.keeps(k:KO s Vk)(r:aU w s Vc Vi):aU w Vk Vc Vi:=by induction r with
 |nil=>exact .nil|cons a _ b=>exact .cons (a.keeps k) b
def aU.reads{X:ae->Prop}{h:a7}{e:List ab}{c:List bP}(r:aU X h e (c.map .d)):∃f,ga (cb X h) e c f:=by induction c generalizing e with
 |nil=>rw[aU.none r];exact⟨_,.nil⟩|cons d c g=>
  refine bS (aU.cut r) λ _ _ i j b=>?_;obtain rfl:=i;refine ai j λ _ a=>?_;exact ai (g b) λ _ q=>⟨_,.cons a q⟩
def aU.len(r:aU w s Vc Vi):Vc.length=Vi.length:=by induction r with
 |nil=>rfl|cons _ _ a=>exact congrArg (·+1) a
inductive a6(k:Lv)(a:aw)(b:List (Str×PV)):List b7->List PV->Prop|nil:a6 k a b [] []|cons{e WK p WL}:Ev k a b e p->a6 k a b WK WL->(f:autoParam (∀d c,bD (e::d) c=(ap,He e c)::bD d c) bc)->a6 k a b (e::WK) (p::WL)
def a6.cut(j:a6 u g i (z::Vr) Vi):∃p d,Vi=p::d/\Ev u g i z p/\a6 u g i Vr d/\∀f c,bD (z::f) c=(ap,He z c)::bD f c:=by
 obtain _|⟨a,b,h⟩:=j;exact kO _ _ rfl a b h
def a6.plain(r:a6 u g i Vr Vi):(L7 v (bD Vr E)).any (·.1)=ap:=by induction r with
 |nil=>rfl|cons _ _ a b=>rw[a];exact b
theorem a6.use{k:Lv}{d:aw}{g:List (Str×PV)}{X:ae->Prop}{w:ar}{A:aq}(p:Rm k A){c:Env}{E:ab->aa->Prop}{z:Pos}{i:List b7}{m:List PV}(r:a6 k d g i m){s e:aa}{Q:List ab->aa->Prop}(R:bq X w d c s.heap g)(j:Kp e s)(h:∀f b,aU X b.heap f m->Kp s b->Kp e b->bq X w d c b.heap g->Q f b):aA (au P0 w) A (Qr (L7 z (bD i c))) Q E s:=by induction r generalizing s e Q with
 |nil=>exact Lu (h [] s .nil (Kp.refl _) j R)|cons a _ q t=>exact IM (a.use p R j λ v D B x u n=>(t n x λ f G C l y o=>h _ _ (.cons (B.keeps l.keep) C) y (u.trans l) o)) (q _ _)
def Ev.list(h:a6 u g i Vr (Vm.map .d))(e:autoParam (Vm.length<=a9) ew):Ev u g i (.List Vr v) (Li Vm):=λ X w A c j s E R=>wpAny_List (h.use c R (Kp.refl s) λ m l r _ u b=>by
  refine ai r.reads λ f a=>?_;refine b3 (by rw[cy a];exact e) (.gD (b.ex.fresh (aB _)) ⟨_,aF _ rfl⟩ (m6 a)) (u.trans Kp.push))
def Ev.tuple(h:a6 u g i Vr (Vm.map .d))(f:autoParam (Vm.length<=a9) ew):Ev u g i (.Tuple Vr a v) (Tu Vm):=λ X w A e l s E R=>wpAny_Tuple (h.use e R (Kp.refl s) λ n m r _ u c=>by
  refine ai r.reads λ j b=>?_;refine b3 (by rw[cy b];exact f) (.mkTuple (c.ex.fresh (aB _)) ⟨_,aF _ rfl⟩ (m6 b)) (u.trans Kp.push))
def Ev.dI(n:Ev u g i z (Li Vm))(p:Ev u g i Vl (I C))(m:0<=C)(r:C<2^63)(q:Vm[C.toNat]?=some VG)(y:autoParam (∀o c,Mj Vl ap (.ref o) (.int C c)=Pw [.ref o,.int C c] (NN (.ref o) (.int C c))) ir):Ev u g i (.Subscript z Vl v) (.d VG):=λ X w A e V s E R=>Ma (n.use e R (Kp.refl s) λ WM WK O _ G h=>p.use e h G λ c WL Q D H _=>by
  refine aj λ T=>?_;refine bI ((O.keeps D.keep).list) λ o vs U L Y J M=>?_;obtain rfl:=L;have f:=J.isList;refine ai Q.int ?_;rintro t rfl;exact aW (hc M q) λ x j B N=>T (Nw f.typeIs JD.lookup (Tf f m r (by simpa using B) ⟨⟨j,N⟩,H⟩) (y _ _)))
def Ev.Ai(q:Ev u g i z (Li Vm))(r:Ev u g i Vl (I C))(n:C<0)(p:-(Vm.length:Int)<=C)(B:-(2^63)<=C)(y:Vm[(C+Vm.length).toNat]?=some VG)(D:autoParam (∀o c,Mj Vl ap (.ref o) (.int C c)=Pw [.ref o,.int C c] (NN (.ref o) (.int C c))) ir):Ev u g i (.Subscript z Vl v) (.d VG):=λ X w A e Y s E R=>Ma (q.use e R (Kp.refl s) λ WN WL Q _ J j=>r.use e j J λ c WM T H L _=>by
  refine aj λ U=>?_;refine bI ((Q.keeps H.keep).list) λ o vs V N WK M h=>?_;obtain rfl:=N;have f:=M.isList;refine ai T.int ?_;rintro t rfl;refine aW (hc h y) λ x m G O=>U ?_;have :=cy h;exact Nw f.typeIs JD.lookup (wpAny_getItem_list_neg f n (by simpa[this]using p) B (by simpa[this]using G) ⟨⟨m,O⟩,L⟩) (D _ _))
def Ev.m9(m:Ev u g i z (S j))(n:Ev u g i Vl (I C))(e:0<=C)(o:C<2^63)(h:j.cps[C.toNat]?=some a)(p:autoParam (∀t d,Mj Vl ap (.str j t) (.int C d)=Pw [.str j t,.int C d] (NN (.str j t) (.int C d))) ir):Ev u g i (.Subscript z Vl v) (S ⟨#[a]⟩):=λ X w A f D s E R=>Ma (m.use f R (Kp.refl s) λ M H y _ q l=>n.use f l q λ d J B G r _=>by
  obtain⟨t,rfl⟩:=y.str;obtain⟨L,rfl⟩:=B.int;refine Nw (JF _ _ _) SR.lookup (getItem_str (by simp;exact⟨J0 (by decide) e,Kn o (by decide)⟩) (c:=a) ?_ ⟨.mkStr,r.trans Kp.toks⟩) (p _ _);have :seqIndex? C j.length=some C.toNat:=seqIndex_at e ((O0 e).mp ((eB.mp h).1));refine this.symm▸?_;exact h)
inductive gF(k:Lv)(a:aw)(b:List (Str×PV)):Option b7->Option Int->Prop|none:gF k a b none none|some{e WK}:Ev k a b e (I WK)->gF k a b (some e) (some WK)
theorem gF.use(j:Rm u o){e:Option b7}(h:gF u g i e WE)(R:bq w c g E q.heap i)(d:Kp H q)(b:∀v a,R7 v WE->Kp q a->Kp H a->bq w c g E a.heap i->Vf v a):aA (au P0 c) o (valueOrNone (evalOpt e E)) Vf y q:=by cases h with
 |none=>exact ah (b _ _ .none (Kp.refl _) d R)|some h=>
  refine h.use j R d λ v a r l m f=>b v a ?_ l m f;refine ai r.int ?_;rintro t rfl;exact .int _ _
noncomputable def eE(l:List Vb)(i j:Option Int):List Vb:=(l.drop (i.elim 0 (Le l.length))).take (j.elim l.length (Le l.length)-i.elim 0 (Le l.length))
def qa(h:Rm u o){n l:Option b7}{m j:Option Int}(B:gF u g i n m)(z:gF u g i l j)(R:bq w c g E q.heap i)(G:Kp H q)(x:∀a d f b,R7 d m->R7 f j->b.heap.IsSliceOf a d f .none->Kp q b->Kp H b->bq w c g E b.heap i->Vf (.ref a) b):aA (au P0 c) o (He (.Slice n l none v) E) Vf y q:=by
 simp only[arm_eval_Slice];refine al (B.use h R G λ d O M C J r=>(al (aK (z.use h r J λ f T N D L t=>(al (aK (ah (Ie (x _ d f _ M N (TN ..) ((C.trans D).trans Kp.push) (L.trans Kp.push) (t.keeps λ _ _ e=>ao _ e))))))))))
def Aj(r:ga s Vc Vm Y)(i j:Option Int):∃a,ga s (eE Vc i j) (eE Vm i j) a:=by
 unfold eE;rw[cy r];exact ai (Af r (i.elim 0 (Le Vm.length))) λ a q=>Ag q _
def Ev.slice{m f:Option b7}{c j:Option Int}(B:Ev u g i z (Li Vm))(d:gF u g i m c)(C:gF u g i f j)(G:Vm.length<=a9):Ev u g i (.Subscript z (.Slice m f none v) J) (Li (eE Vm c j)):=λ X w A e WL s E R=>Ma (B.use e R (Kp.refl s) λ WP WN U _ L t=>qa e d C t L λ b WQ WR WO O Q D H M x=>by
  refine aj λ V=>?_;refine bI ((U.keeps H.keep).list) λ o r Y T WM N n=>?_;obtain rfl:=T;refine V ?_;have d:=N.isList;refine Nw (ops:=[.ref b,.ref o]) d.typeIs JD.lookup (Rh d D O Q .none (λ h=>by cases h) ?_ (by simpa[(cy n)]using G)) rfl;refine ai (Aj n c j) λ bs q=>?_;have y:slicePick r.toArray c j none=(eE r c j).toArray:=by rw[Us];rfl
  exact y.symm▸(⟨.gD (x.ex.fresh (aB _)) ⟨_,aF _ rfl⟩ (m6 q),M.trans Kp.push⟩))
def Fn(k:Lv)(f:ab)(b:List PV)(r:PV):Prop:=∀(X:ae->Prop)(WL:ar)(A:aq),Rm k A->∀(s:aa)(vs:List ab)(E:ab->aa->Prop),aC WL s.heap->Ex X s.heap->aU X s.heap vs b->aA (au P0 WL) A (I1 f vs) (λ v a=>RV X a.heap v r/\Kp s a) E s
def Ev.cA(t:Fn u (.builtin VF) Vi V)(y:Ev u g i (.Name j v) (.raw (.builtin VF)))(m:a6 u g i (z::Vr) Vi):Ev u g i (.Call (.Name j v) (z::Vr) [] J) V:=λ X w A d q s E R=>by
 refine dr (y.use d R (Kp.refl s) λ f M H _ B p=>?_);obtain rfl:f=.builtin VF:=H;have n:=m.plain (E:=q) (v:=J);refine di m.cut λ _ _ D a b o=>?_;obtain rfl:=D;have U:=a6.use d (z:=J) (E:=E) (.cons a b o) (s:=M) (Q:=λ h c=>aA (au P0 w) A (I1 (.builtin VF) h) (λ f c=>RV X c.heap f V/\Kp s c) E c) p B λ h N L _ C l=>aG (t X w A d N h E l.left l.ex L) (λ _ _ G=>by refine am G λ a b=>?_;exact⟨a,C.trans b⟩) λ _ _ j=>j;rw[o]at U n⊢;exact Ip n (b1 U)
def Ev.gG(t:Fn u (.type VF) Vi V)(y:Ev u g i (.Name j v) (.raw (.type VF)))(m:a6 u g i (z::Vr) Vi):Ev u g i (.Call (.Name j v) (z::Vr) [] J) V:=λ X w A d q s E R=>by
 refine dr (y.use d R (Kp.refl s) λ f M H _ B p=>?_);obtain rfl:f=.type VF:=H;have n:=m.plain (E:=q) (v:=J);refine di m.cut λ _ _ D a b o=>?_;obtain rfl:=D;have U:=a6.use d (z:=J) (E:=E) (.cons a b o) (s:=M) (Q:=λ h c=>aA (au P0 w) A (I1 (.type VF) h) (λ f c=>RV X c.heap f V/\Kp s c) E c) p B λ h N L _ C l=>aG (t X w A d N h E l.left l.ex L) (λ _ _ G=>by refine am G λ a b=>?_;exact⟨a,C.trans b⟩) λ _ _ j=>j;rw[o]at U n⊢;exact IY n (b1 U)
def fI(w:ar)(a:ae):Prop:=∀h,aC w h->∃o b,h.get? a=some o/\o.data=.func b
def Ev.ed(H:∀w,fI w h)(C:Fn u (.ref h) Vi V)(G:Ev u g i (.Name j v) (.raw (.ref h)))(p:a6 u g i (z::Vr) Vi):Ev u g i (.Call (.Name j v) (z::Vr) [] J) V:=λ X w A d y s E R=>by
 refine dr (G.use d R (Kp.refl s) λ f WN WL _ O m=>?_);obtain rfl:f=.ref h:=WL;have M:=p.plain (E:=y) (v:=J);refine aW (H w _ m.left) λ o B L D=>?_;refine di p.cut λ _ _ Y t b q=>?_;obtain rfl:=Y;have U:=a6.use d (z:=J) (E:=E) (.cons t b q) (s:=WN) (Q:=λ l c=>(c.heap.get? h=some o/\o.data=.func B)/\aA (au P0 w) A (I1 (.ref h) l) (λ f c=>RV X c.heap f V/\Kp s c) E c) m O λ l WO WM N T n=>⟨⟨N.keep _ _ L,D⟩,aG (C X w A d WO l E n.left n.ex WM) (λ _ _ WK=>by refine am WK λ h b=>?_;exact⟨h,T.trans b⟩) λ _ _ j=>j⟩;rw[q]at U M⊢;exact rS (b1 U)
noncomputable def gH(a:aw)(n:Str)(k:Jr):Jr:=if(k==.free&&a.kind==.function&&a.names.lookup n==some .cell)then .cell else k
noncomputable def bQ(b a:aw):aw:={b with names:=b.names.map λ(n,k)=>if(k==.free&&a.kind==.function&&a.names.lookup n==some .cell)then(n,.cell)else(n,k)}
def m'(h:E.scope=VI):Qs g E=bQ g VI:=by subst h;rfl
theorem na(sc:aw)(WL:Str):∀a:List (Str×Jr),(a.map λ(n,k)=>if(k==cM&&sc.kind==.function&&sc.names.lookup n==some .cell)then(n,Lz)else(n,k)).lookup WL=(a.lookup WL).map (gH sc WL)
 |[]=>rfl|(n,k)::r=>by
  rw[uW];show Pk WL ((if(k==cM&&sc.kind==.function&&sc.names.lookup n==some .cell)=true then(n,Lz)else(n,k))::_)=_;have e:(if(k==cM&&sc.kind==.function&&sc.names.lookup n==some .cell)=true then(n,Lz)else(n,k))=(n,gH sc n k):=by unfold gH;split<;>rfl
  rw[e,aN,aN];rcases b:WL==n with _|_;·exact na sc WL r
  ·obtain rfl:=pV b;rfl
theorem eF{c:Type}{x:Str}{a:c}:∀{l:List (Str×c)},l.lookup x=some a->(x,a)∈l
 |[],h=>aQ h|(n,b)::r,h=>by
  rw[aN]at h;split at h;·rename_i e;obtain rfl:=pV e;obtain rfl:=ax h;exact .head _
  ·exact .tail _ (eF h)
theorem nb{c:Type}{x:Str}:∀{l:List (Str×c)}{a:c},(x,a)∈l->∃b,l.lookup x=some b
 |(n,b)::r,a,h=>by
   rw[aN];split;·exact⟨_,rfl⟩
   · rename_i e;rcases aP.mp h with h|h;·refine am (JU h) λ d f=>?_;obtain rfl:=d;obtain rfl:=f;simp at e
     ·exact nb h
theorem qb{p:Env}(f:Str×Jr->List (Str×ae)->Sem (ForInStep (List (Str×ae))))(u:∀n k o c,p.cells.lookup n=some c->k=cM->f (n,k) o=jq (.yield ((n,c)::o)))(v:∀n k o,k≠cM->f (n,k) o=jq (.yield o)):∀(w:List (Str×Jr))(j:List (Str×ae)),(∀n,(n,cM)∈w->(p.cells.lookup n).isSome=true)->(∀n c,(n,c)∈j->p.cells.lookup n=some c)->∃l,QX w j f=(jq l:Sem _)/\(∀n c,(n,c)∈l->p.cells.lookup n=some c)/\(∀n,(n,cM)∈w->∃c,(n,c)∈l)/\(∀y∈j,y∈l)
 |[],j,_,q=>⟨j,rfl,q,λ _ h=>(by cases h),λ _ h=>h⟩|(n,k)::r,j,t,q=>by
   rw[Ku];by_cases s:k=cM
   · refine ai (KZ.mp (t n (s▸.head _))) λ c e=>?_;obtain⟨l,a,b,d,g⟩:=qb f u v r ((n,c)::j) (λ m i=>t m (.tail _ i)) (λ m z i=>by
       refine aH (aP.mp i) (λ i=>?_) λ i=>?_;·obtain⟨rfl,rfl⟩:=JU i;exact e
       ·exact q m z i);refine⟨l,by rw[u n k j c e s];exact a,b,λ m i=>?_,λ y A=>g y (.tail _ A)⟩;rcases aP.mp i with i|i;·refine am (JU i) ?_;rintro rfl x;obtain rfl:=x;exact⟨c,g _ (.head _)⟩
     ·exact d m i
   · refine mC (qb f u v r j (λ m i=>t m (.tail _ i)) q) λ l a b d g=>?_;refine⟨l,by rw[v n k j s];exact a,b,λ m i=>?_,g⟩;rcases aP.mp i with i|i;·refine am (JU i) ?_;rintro rfl x;obtain rfl:=x;exact(s rfl).elim
     ·exact d m i
def nc(l:∀n,(n,cM)∈g.names->(E.cells.lookup n).isSome=true):∃i,NO g E=jq i/\(∀n c,i.lookup n=some c->E.cells.lookup n=some c)/\∀n,(n,cM)∈g.names->∃c,i.lookup n=some c:=by
 refine aj λ p=>?_;obtain⟨i,a,b,d,_⟩:=qb (p:=E) (λ x f=>if(x.2==cM)=true then(do let c<-R0 E x.1;jq (I6 ((x.1,c)::f)))else jq (I6 f)) (λ n k f c e j=>by subst j;unfold R0;simp only[beq_self_eq_true,if_true,e];rfl) (λ n k f j=>by rw[if_neg];simpa using j) g.names [] l (λ _ _ h=>(by cases h));refine p ?_;refine dU i ?_ (λ n c e=>b n c (eF e)) (λ n o=>by refine ai (d n o) λ c m=>?_;exact nb m);have e:NO g E=(QX g.names ([]:List (Str×ae)) (λ x f=>if(x.2==cM)=true then(do let c<-R0 E x.1;jq (I6 ((x.1,c)::f)))else jq (I6 f))>>=λ r=>jq r):=rfl;rw[e,a];rfl
noncomputable def cj(a:aw)(b:List (Str×PV)):List (Str×PV):=b.filter λ q=>a.names.lookup q.1 !=some .local
theorem la{g:Type}(f:Str->Bool)(x:Str):∀l:List (Str×g),(l.filter λ q=>f q.1).lookup x=if f x then l.lookup x else none
 |[]=>by simp|(n,a)::r=>by
   have c:=la f x r;by_cases d:(x==n)=true
   · obtain rfl:=pV d;rcases b:f x with _|_;·simp[H6,b,c]
     ·simp[H6,b,aN]
   · have e:(x==n)=ap:=by simpa using d
     rcases b:f n with _|_;·simp only[H6,b,cT,if_false,aN,e];exact c
     ·simp only[H6,b,if_true,aN,e];exact c
theorem hd{b:Type}(x:Str):∀l m:List (Str×b),(l++m).lookup x=(l.lookup x).or (m.lookup x)
 |[],m=>by simp|(n,a)::r,m=>by
  rw[O8,aN,aN];split;·simp
  ·exact hd x r m
structure dJ(a b:aw):Prop where
 kind:a.kind=.function
 qc:∀y∈a.names,y.2≠Lz
 names:∀y∈a.names,y.2=NameKind.local->a.names.lookup y.1=some .local
 free:∀n,(n,cM)∈a.names->b.names.lookup n=some .cell\/b.names.lookup n=some .free
def bq.comp(R:bq w c g E s i)(P:dJ VI g)(u:KO s Vk)(O:∀n f,V3.lookup n=some f->E.cells.lookup n=some f)(D:∀n,(n,cM)∈VI.names->∃f,V3.lookup n=some f)(T:Vk.Ns h Ve)(M:∀b,VE b->w b\/s.get? b=none)(L:Ex VE Vk)(N:∀x p,VN.lookup x=some p->∃v,Ve x=some v/\RV VE Vk v p)(Q:∀x p,VN.lookup x=some p->VI.names.lookup x=some .local):bq VE c (bQ VI g) (Iz VI V3 h E) Vk (VN++cj VI i):=by
 have G:∀x,(Iz VI V3 h E).kindOf x=(VI.names.lookup x).map (gH g x):=λ x=>by
   show(Qs VI E).names.lookup x=_;rw[m' R.scope];exact na g x VI.names
 refine⟨R.left.keeps u,m' R.scope,R.glob,R.blt,P.kind,L,λ x p e=>?_,λ x d=>?_⟩
 · unfold cc;rw[G];rcases j:VI.names.lookup x with _|k;·trivial
   · have l:=eF j;rw[hd]at e;cases k with
     |«local»=>
       have z:VN.lookup x=some p:=by
         unfold cj at e;rw[la (λ n=>VI.names.lookup n !=some .local),j]at e;simpa using e
       exact aj λ B=>ak (N x p z) λ v a b=>B ⟨Ve,v,T,a,b⟩|cell=>exact(P.qc _ l rfl).elim|free=>
       have z:i.lookup x=some p:=by
         have :VN.lookup x=none:=by cases q:VN.lookup x with
           |none=>rfl|some Y=>have :=Q x Y q;cases aO j this
         unfold cj at e;rw[this,la (λ n=>VI.names.lookup n !=some .local),j]at e;exact e
       have V:=R.vars x p z;unfold cc KJ at V;rw[R.scope]at V;refine aj λ B=>ai (D x l) λ f t=>?_;have J:m5 w E s x p:=by rcases P.free x l with q|q<;>rw[q]at V<;>exact V
       obtain⟨y,v,a,b,r⟩:=J;have :y=f:=by have :=O x f t;rw[a]at this;exact ax this
       subst this;refine B ?_;have H:RV VE Vk v p:=r.shift λ b o U e=>⟨λ q=>(M b q).elim U (λ q=>by rw[e]at q;exact c7 q),u _ _ e⟩;show match(some (gH g x cM))with|some .local=>_|some .cell|some .free=>_|_=>True;unfold gH;by_cases q:(cM==cM&&g.kind==.function&&g.names.lookup x==some .cell)=true;·rw[if_pos q];exact⟨y,v,t,b.keeps u,H⟩
       ·rw[if_neg q];exact⟨y,v,t,b.keeps u,H⟩|_=>
       rw[ID,gH];rw[if_neg (λ A=>by cases A)];trivial
 · rw[G]at d;cases j:VI.names.lookup x with
   |none=>rw[j]at d;rcases d with d|d<;>exact aQ d|some k=>
     have l:=eF j;cases k with
     |free=>refine ai (D x l) λ f t=>?_;show(V3.lookup x).isSome=true;rw[t];rfl|cell=>exact(P.qc _ l rfl).elim|_=>
       rw[j]at d;simp only[ID,gH]at d;rw[if_neg (λ A=>by cases A)]at d;rcases d with d|d<;>cases d
def iP(N:ae->Prop)(WL:a7)(v:ab)(p:PV)(e:b7):Prop:=if e.ctorIdx=23 then RV N WL v p else∃T b a c,v=.ref T/\(p=Tu a\/p=.inst (.ref 269) a)/\pX N WL T b.toArray/\ga (cb N WL) b a c
inductive BindsTo:b7->PV->List (Str×PV)->Prop|name{WL WK p}:BindsTo (.Name WL WK) p [(WL,p)]|tup{k WK p}(b:List (Str×Pos))(a:List bP):(p=Tu a\/p=.inst (.ref 269) a)->b.length=a.length->BindsTo (.Tuple (b.map λ n=>.Name n.1 n.2) k WK) p ((b.map (·.1)).zip (a.map .d)).reverse
def BindsTo.lb(_:(Vd==j)=ap):BindsTo (.Tuple [.Name j v,.Name Vd J] a Vg) (Tu [VG,VZ]) [(Vd,.d VZ),(j,.d VG)]:=.tup [(j,v),(Vd,J)] [VG,VZ] (.inl rfl) rfl
def BindsTo.Ak{e b c:bP}(h:V=Tu [e,b,c]\/V=.inst (.ref 269) [e,b,c])(_:(Vd==j)=ap)(_:(Wn==j)=ap)(_:(Wn==Vd)=ap):BindsTo (.Tuple [.Name j v,.Name Vd J,.Name Wn Vg] a VA) V [(Wn,.d c),(Vd,.d b),(j,.d e)]:=.tup [(j,v),(Vd,J),(Wn,Vg)] [e,b,c] h rfl
def tO{a b:List bP}(h:V=Tu a\/V=.inst U a)(g:V=Tu b\/V=.inst U b):b=a:=by rcases h with rfl|rfl<;>rcases g with g|g<;>cases g<;>rfl
def Al{p q:Vb}{a:List (Str×Vb)}(e:Pk j ((Vd,p)::a)=some q):j=Vd/\p=q\/j≠Vd/\a.lookup j=some q:=by
 simp only[aN]at e;by_cases h:j=Vd;·rw[beq_iff_eq.mpr h]at e;exact .inl ⟨h,ax e⟩
 ·rw[beq_eq_false_iff_ne.mpr h]at e;exact .inr ⟨h,e⟩
def Am{p:Vb}{a:List (Str×Vb)}(e:Pk j ((Vd,p)::a)=none):j≠Vd/\a.lookup j=none:=by
 simp only[aN]at e;by_cases h:j=Vd;·rw[beq_iff_eq.mpr h]at e;exact c7 e
 ·rw[beq_eq_false_iff_ne.mpr h]at e;exact⟨h,e⟩
structure jH(N:ae->Prop)(C:ae)(m:Str->Option ab)(d:List (Str×PV))(s:aa)(a:a7)(c:Str->Option ab):Prop where
 ns:a.Ns C c
 bound:∀x q,d.lookup x=some q->∃u,c x=some u/\RV N a u q
 rest:∀y,d.lookup y=none->c y=m y
 keep:∀b o,b≠C->s.heap.get? b=some o->a.get? b=some o
def tP(G:E.scope.kind=.function)(J:E.kindOf j=some .local)(h:jH w E.locals Ve i q H.heap Vn)(C:w E.locals)(r:RV w H.heap U V)(D:∀f WK M,jH w E.locals Ve ((j,V)::i) q f M->(∀b d,b≠E.locals->H.heap.get? b=some d->f.get? b=some d)->VO () {H with heap:=f,toks:=WK}):aA (au P0 c) o (OD E j U) VO y H:=by
 refine N2 J h.ns (λ f L l=>D f _ _ ⟨L,λ t n e=>?_,λ t e=>?_,λ b d k e=>l.extBut b d k (h.keep b d k e)⟩ λ b d k e=>l.extBut b d k e) (by refine G.symm▸?_;rfl)
 · have z:KX w H.heap f:=λ b d O e=>l.extBut b d (λ n=>O (n▸C)) e;refine aH (Al e) (λ T=>?_) λ Y=>?_;·exact am T λ g B=>bj U (if_pos g) (B▸r.b0 z)
   ·exact am Y λ g e=>aj λ WL=>ak (h.bound t n e) λ u a b=>WL (bj u ((if_neg g).trans a) (b.b0 z))
 ·exact am (Am e) λ g e=>(if_neg g).trans (h.rest t e)
theorem qd{b:Env}:∀{a:List (Str×Pos)},(K3 (a.map λ n=>.Name n.1 n.2) b).length=a.length
 |[]=>rfl|n::a=>congrArg (·+1) (qd (a:=a))
theorem qe{c:Env}:∀{b:List (Str×Pos)},(K3 (b.map λ n=>.Name n.1 n.2) c).findIdx? (·.1)=none
 |[]=>rfl|n::b=>by
   have :=qe (c:=c) (b:=b);rw[JV]at this⊢;intro q a;refine aH (aP.mp a) ?_ λ a=>?_
   · rintro rfl;rfl
   ·exact this q a
def tQ{n:Str×Pos}{a:List (Str×Pos)}:(((n::a).map (·.1)).zip ((VG::Vm).map PV.d)).reverse++i=((a.map (·.1)).zip (Vm.map PV.d)).reverse++(n.1,PV.d VG)::i:=by simp only[uW,uW,Oe,MB,jB];rfl
def An(J:E.scope.kind=.function)(C:w E.locals){f:List (Str×Pos)}:∀{s:aa}{m:Str->Option ab}{h:List (Str×PV)}{l:List ab}{a:List bP}{u:List ae}{Q:Unit->aa->Prop},ga (cb w s.heap) l a u->f.length=a.length->(∀n∈f,E.kindOf n.1=some .local)->jH w E.locals Ve h q s.heap m->(∀i B D,jH w E.locals Ve (((f.map (·.1)).zip (a.map .d)).reverse++h) q i D->Q () {s with heap:=i,toks:=B})->aA (au P0 c) o (Ro ((K3 (f.map λ n=>.Name n.1 n.2) E).map (·.2)) l) Q y s:=by induction f with
 |nil=>
   intro s m h l a u Q g j x t v;cases a with
   |cons=>cases j|nil=>obtain⟨rfl,_⟩:=gi g;exact J6 (v _ _ _ t)
 |cons n f M=>
   intro s m h l a u Q g j x t v;rcases a with _|⟨d,a⟩;·cases j
   · obtain⟨_,_,_,_,rfl,_,r,g⟩:=eT g;refine Ij (assign_Name (tP (V:=.d d) J (x _ (.head _)) t C ⟨_,r⟩ λ i B D G k=>M (s:={s with heap:=i,toks:=B}) (vr (gh λ b U T e=>k b U (λ z=>T (z▸C)) e) g) (MH j) (λ n z=>x n (.tail _ z)) G λ L V O H=>v L V O ?_));rw[tQ];exact H
def Ao{a:List (Str×Pos)}(c:a.length=Vm.length)(h:∀x q,((a.map (·.1)).zip (Vm.map PV.d)).reverse.lookup x=some q->E.kindOf x=some .local):∀n∈a,E.kindOf n.1=some .local:=λ n f=>by
 have d:n.1∈(((a.map (·.1)).zip (Vm.map PV.d)).reverse).map (·.1):=by
  rw[Sy,LW (by rw[be,be,c];exact aB _)];exact MT.mpr (K1 f)
 refine ak (hp.mp d) λ q b e=>?_;have b:(q.1,q.2)∈((a.map (·.1)).zip (Vm.map PV.d)).reverse:=b;rw[e]at b;exact ai (nb b) λ r g=>h _ r g
def Ap(C:E.scope.kind=.function)(B:BindsTo z V i)(D:∀x l,i.lookup x=some l->E.kindOf x=some .local)(WK:q.heap.Ns E.locals Ve)(t:w E.locals)(L:aC c q.heap)(G:iP w q.heap U V z)(Y:(∀x WN,z≠.Name x WN)->o.handled=none)(u:∀a g d,jH w E.locals Ve i q a d->VO () {q with heap:=a,toks:=g}):aA (au P0 c) o (assign z E U) VO y q:=by
 have r:∀(n:aa),(KO q.heap n.heap)->jH w E.locals Ve [] q n.heap Ve:=λ n k=>⟨WK.keeps k,λ _ _ e=>(by cases e),λ _ _=>rfl,λ b f _ e=>k b f e⟩;cases B with
 |name=>refine LZ (tP C (D _ _ (by rw[aN,beq_self_eq_true])) (r q λ _ _ e=>e) t G λ a g d M _=>u a g d M)|tup xs ds WL h=>
  refine aj λ WP=>?_;refine du G λ T WT WS as WO e WM J=>?_;obtain rfl:=WO;obtain rfl:=tO WL e;refine WP (tF (Y λ _ _ l=>by cases l) L WM ?_ ?_ λ j O=>?_);·simp only[I8,cy J,<-h,qd]
  ·exact qe
  have H:KO q.heap j:=λ b f e=>O b f (br (az e)) e;refine An (s:={q with heap:=j}) C t (vr (gh λ b f _ e=>H b f e) J) h (Ao h D) (r {q with heap:=j} H) λ a g d S=>u a g d ?_;rw[IW]at S;exact S
structure dc(N:ae->Prop)(WN:ar)(A:aq)(it:ab)(WM:b7)(g:List PV)(d c:ae->Prop)(St:Nat->a7->Prop)(f:Nat->ab->a7->Prop):Prop where
 sub:∀b,c b->d b
 frame:∀i h a,St i h->(∀b o,d b->h.get? b=some o->a.get? b=some o)->St i a
 next:∀i p(s:aa)(Q:Option ab->aa->Prop)(E:ab->aa->Prop),g[i]?=some p->St i s.heap->(∀WK a e,iP N a WK p WM->f i WK a->(KX c s.heap a)->Q (some WK) {s with heap:=a,toks:=e})->aA (au P0 WN) A (KI it) Q E s
 go:∀i WK p(s:aa)(Q:Unit->aa->Prop)(E:ab->aa->Prop),f i WK s.heap->iP N s.heap WK p WM->(∀a,St (i+1) a->iP N a WK p WM->(KX c s.heap a)->Q () {s with heap:=a})->aA (au P0 WN) A (Jl WM it WK) Q E s
 done:∀(s:aa)(Q:Option ab->aa->Prop)(E:ab->aa->Prop),St g.length s.heap->(∀a e,(KX c s.heap a)->Q none {s with heap:=a,toks:=e})->aA (au P0 WN) A (KI it) Q E s
 self:∀i(s:aa)(Q:ab->aa->Prop)(E:ab->aa->Prop),St i s.heap->Q it s->aA (au P0 WN) A (Ly it) Q E s
 calm:(∀x j,WM≠.Name x j)->A.handled=none
 hV:∀i h,St i h->∀b o,c b->h.get? b=some o->¬bw o
 there:∀i h,St i h->∀b,d b->∃o,h.get? b=some o
def bg(k:Lv)(i:aw)(l:List (Str×PV))(WM j:b7)(h:List PV):Prop:=∀(X:ae->Prop)(WK:ar)(A:aq),Rm k A->∀(WL:Env)(s:aa)(E:ab->aa->Prop)(Q:ab->aa->Prop),bq X WK i WL s.heap l->(∀e a c d f St g N,Kp s a->Kp a c->(∀b,N b↔X b\/a.heap.get? b=none)->dc N WK A e j h d f St g->St 0 c.heap->(∀b,d b->b<c.heap.objs.size)->(∀b,f b->a.heap.objs.size<=b)->(∀b,d b->¬X b)->Q e c)->aA (au P0 WK) A (He WM WL) (λ WN a=>aA (au P0 WK) A (Ly WN) Q E a) E s
def Kp.re(k:Kp q H)(b:KO q.heap s):Kp q {H with heap:=s,toks:=a}:=by
 refine aW k λ _ _ e _=>?_;subst e;exact dw _ _ rfl b
def RV.mono(i:∀b,w b->VE b)(r:RV VE s U V):RV w s U V:=r.shift λ b o n e=>⟨λ q=>n (i b q),e⟩
def nd(i:∀b,w b->VE b)(r:ga (cb VE s) Vc Vm Y):ga (cb w s) Vc Vm Y:=vr (λ b o e=>dW.mpr ⟨λ q=>dH e (i b q),e' e,dm e⟩) r
def cW(b:s.objs.size<=h):s.get? h=none:=by
 rcases e:s.get? h with _|c;·rfl
 ·exact absurd (az e) (b'.mpr b)
def Aq{ba p:b7}{l:List Mi}{y:Sem Unit}(I:Nat->aa->Prop)(L:QJ (.ListComp ba l g v) a U V7 E=(do
     NJ J match<-KI U with
     |none=>jq (.done .next)|some j=>
       Jl p U j
       assign p E j let mut f:=true
       for k in Vr do if f then f<-isTrue k E (He k E)
       if f then y
       again (.compLoop (.ListComp ba l g v) a U V7 E)))(Q:∀n q,I n q->aA (au Vj c) o (KI U) (λ r t=>match r with
     |none=>Wf (.ok .next) t|some j=>aA (au Vj c) o (Jl p U j) (λ _ C=>aA (au Vj c) o (assign p E j) (λ _ D=>aA (au Vj c) o (QX Vr true λ k r=>if r=true then do let f<-isTrue k E (He k E);jq (I6 f)else jq (I6 r)) (λ f u=>if f=true then aA (au Vj c) o y (λ _ G=>∃m,m<n/\I m G) (Px (au Vj c) o E λ e i=>Wf (.error e) i) u else∃m,m<n/\I m u) (Px (au Vj c) o E λ e i=>Wf (.error e) i) D) (Px (au Vj c) o E λ e i=>Wf (.error e) i) C) (Px (au Vj c) o E λ e i=>Wf (.error e) i) t) (Px (au Vj c) o E λ e i=>Wf (.error e) i) q)(n:Nat)(h:I n q):JM (au Vj c) o (.compLoop (.ListComp ba l g v) a U V7 E) Wf q:=by
 refine codeAny_loop rfl I (λ n q H=>?_) n h;show aA _ o ((QJ (.ListComp ba l g v) a U V7 E).onRaise (λ x=>do Nq x E;theTreesLotGoes x)) _ _ q;refine wpAny_noted (L.symm▸(al (Iq (al (aG (Q n q H) (λ r t z=>?_) λ _ _ b=>b)))));rcases r with _|j;·exact ah z
 · refine al (aG z (λ _ C M=>(al (aG M (λ _ D N=>al (aG N (λ f u B=>?_) λ _ _ b=>b)) λ _ _ b=>b))) λ _ _ b=>b);cases f with
   |false=>exact ah ⟨rfl,B⟩|true=>exact al (aG B (λ _ G O=>ah ⟨rfl,O⟩) λ _ _ b=>b)
inductive eG(k:Lv)(a:aw)(d:List (Str×PV)):List b7->Bool->Prop|nil:eG k a d [] true|one{WL WK}:Tr k a d WL WK->eG k a d [WL] WK
theorem eG.use(h:eG u g i Vr M)(j:Rm u o)(R:bq w c g E q.heap i)(e:∀a,Kp q a->bq w c g E a.heap i->V2 M a):aA (au P0 c) o (QX Vr true λ d r=>if r=true then do let l<-isTrue d E (He d E);jq (I6 l)else jq (I6 r)) V2 y q:=by cases h with
 |nil=>exact wpAny_tests_nil (e q (Kp.refl _) R)|one h=>exact wpAny_tests_one (h.use j R (Kp.refl _) λ a u _ f=>e a u f)
def he(XX:ae->Prop)(WM:ar)(A:aq)(j:aw)(s:aa)(C D:ae)(h:Env)(n B:List (Str×PV))(i:Sem Unit)(f:List bP):Prop:=∀(a:a7)(k:Nat)(c:Array ab)(m:Str->Option ab),bq XX WM j h a n->(KO s.heap a)->a.PlainList D c->c.size+f.length<=a9->a.Ns C m->∀(Q:Unit->aa->Prop)(E:ab->aa->Prop),(∀e g WK l d,WK.PlainList D (c++e.toArray)->ga (cb XX WK) e f g->WK.Ns C d->(∀y p,B.lookup y=some p->d y=m y)->(∀b o,b≠D->b≠C->a.get? b=some o->WK.get? b=some o)->Q () {s with heap:=WK,toks:=l})->aA (au P0 WM) A i Q E {s with heap:=a,toks:=k}
inductive Ar{d:Type}(s:aa)(j:a7)(XX p:ae->Prop)(C D:ae)(B:List (Str×PV))(k:Str->Option ab)(r:Array ab)(a:List d)(c:d->Bool)(g:d->List bP)(St:Nat->a7->Prop)(n:Nat)(l:aa):Prop|mk(i:Nat)(h':a7)(m:Nat)(e:Str->Option ab)(f:List ab)(E:l={s with heap:=h',toks:=m})(G:St i h')(v:h'.PlainList D (r++f.toArray))(A:h'.Ns C e)(x:i<=a.length)(w:n=a.length+1-i)(H:∃h,ga (cb XX h') f (((a.take i).filter c).flatMap g) h)(z:∀b o,¬p b->b≠D->b≠C->j.get? b=some o->h'.get? b=some o)(u:∀y q,B.lookup y=some q->e y=k y)(t:Ex XX h')
def tR{ba W6:b7}{Xb:List Mi}{Xm:Sem Unit}(r:List Vb)(it:Vb->PV)(Y:Vb->List (Str×PV))(t:Vb->Bool)(O:Vb->List bP)(Xp:dJ VI g)(X4:∀x∈r,BindsTo W6 (it x) (Y x))(Xt:∀x∈r,∀y l,(Y x).lookup y=some l->VI.names.lookup y=some .local)(XZ:∀y l,VN.lookup y=some l->VI.names.lookup y=some .local)(XY:∀x∈r,∀y l,VN.lookup y=some l->(Y x).lookup y=none)(X9:∀x∈r,eG u (bQ VI g) ((Y x++VN)++cj VI i) Vr (t x))(XW:Rm u o)(R:bq w c g E q.heap i)(X5:∀n t,V3.lookup n=some t->E.cells.lookup n=some t)(X6:∀n,(n,cM)∈VI.names->∃t,V3.lookup n=some t)(Yk:QJ (.ListComp ba Xb VI v) a U (.ref Q) (Iz VI V3 h E)=(do
     NJ J match<-KI U with
     |none=>jq (.done .next)|some W7=>
       Jl W6 U W7
       assign W6 (Iz VI V3 h E) W7 let mut ok:=true
       for t in Vr do if ok then ok<-isTrue t (Iz VI V3 h E) (He t (Iz VI V3 h E))
       if ok then Xm
       again (.compLoop (.ListComp ba Xb VI v) a U (.ref Q) (Iz VI V3 h E))))(X7:∀x∈r,t x=true->he VE c o (bQ VI g) q h Q (Iz VI V3 h E) ((Y x++VN)++cj VI i) VN Xm (O x)){Xn L N:ae->Prop}{St:Nat->a7->Prop}{XM:Nat->ab->a7->Prop}(Fd:dc N c o U W6 (r.map it) Xn L St XM)(X3:∀f,VE f->w f\/q.heap.get? f=none)(Xr:∀f,VE f->N f)(Xq:VE Q)(W0:VE h)(Xc:∀f,L f->VE f)(X2:Q≠h)(Yr:q.heap.get? Q=none)(Yq:q.heap.get? h=none)(WV:∀f,Xn f->f≠Q/\f≠h)(Xe:∀f j,q.heap.get? f=some j->¬L f)(Yn:KO q.heap s)(Yg:St 0 s)(Yd:s.PlainList Q Vz)(Yf:s.Ns h Ve)(X0:∀y l,VN.lookup y=some l->∃WR,Ve y=some WR/\RV VE s WR l)(XS:Ex VE s)(Yi:Vz.size+((r.filter t).flatMap O).length<=a9)(XU:∀G as h' WQ W5,h'.PlainList Q (Vz++G.toArray)->ga (cb VE h') G ((r.filter t).flatMap O) as->h'.Ns h W5->(∀y l,VN.lookup y=some l->W5 y=Ve y)->(∀f j,¬L f->f≠Q->f≠h->s.get? f=some j->h'.get? f=some j)->Wf (.ok .next) {q with heap:=h',toks:=WQ}):JM (au P0 c) o (.compLoop (.ListComp ba Xb VI v) a U (.ref Q) (Iz VI V3 h E)) Wf {q with heap:=s,toks:=b}:=by
 have XK:¬L Q:=λ l=>(WV Q (Fd.sub Q l)).1 rfl;have XJ:¬L h:=λ l=>(WV h (Fd.sub h l)).2 rfl;have Xf:∀f j,q.heap.get? f=some j->f≠Q/\f≠h:=λ f j e=>⟨λ l=>(by rw[l,Yr]at e;cases e),λ l=>(by rw[l,Yq]at e;cases e)⟩;refine Aq (λ n XE=>Ar q s VE L h Q VN Ve Vz r t O St n XE) Yk ?_ (r.length+1) ⟨0,s,_,Ve,[],rfl,Yg,Yd,Yf,dk _,rfl,⟨[],.nil⟩,λ f j _ _ _ e=>e,λ _ _ _=>rfl,XS⟩;intro n XE l;obtain⟨z,H,WQ,W5,G,W',Xx,Xs,Xv,X8,WT,⟨as,Xh⟩,W2,Xo,XR⟩:=l;subst W' WT;by_cases WK:z<r.length
 · have Xd:r[z]?=some r[z]:=ay WK;have WL:r[z]∈r:=IK WK;generalize r[z]=x at Xd WL;refine Fd.next z (it x) _ _ _ (by simp only[a',Xd];rfl) Xx λ W7 XA XG Ya Ye WO=>?_;refine Fd.go z W7 (it x) _ _ _ Ye Ya λ Yl Yh Yb Yc=>?_;have Xj:KX L H Yl:=λ f j m e=>Yc f j m (WO f j m e);have XF:KO q.heap H:=λ f j e=>W2 f j (Xe f j e) (Xf f j e).1 (Xf f j e).2 (Yn f j e);refine Ap (E:=Iz VI V3 h E) (w:=N) Xp.kind (X4 x WL) (λ y l e=>?_) (Xv.at' λ j e=>Xj _ j XJ e) (Xr h W0) (R.left.keeps λ f j e=>Xj f j (Xe f j e) (XF f j e)) Yb Fd.calm λ WN Yy XC V=>?_
   · show(Qs VI E).names.lookup y=_;rw[m' R.scope];show Pk y (VI.names.map _)=_;simp only[na,Xt x WL y l e];simp only[ID,gH];rw[if_neg (λ XV=>by cases XV)]
   have WZ:∀f j,¬L f->f≠h->H.get? f=some j->WN.get? f=some j:=λ f j m T e=>V.keep f j T (Xj f j m e);have Xy:St (z+1) WN:=Fd.frame _ _ _ Yh λ f j l e=>V.keep f j (WV f l).2 e;have all:KO q.heap WN:=λ f j e=>WZ f j (Xe f j e) (Xf f j e).2 (XF f j e);have Xk:WN.PlainList Q (Vz++G.toArray):=Xs.at λ j e=>WZ Q j XK X2 e;have Xa:Ex VE WN:=λ f l=>by
     by_cases WX:L f;·exact Fd.there _ _ Xy f (Fd.sub f WX)
     · by_cases WY:f=h;·obtain rfl:=WY.symm;refine eb V.ns λ j _ _ e _=>?_;exact⟨j,e⟩
       ·refine ai (XR f l) λ j e=>?_;exact⟨j,WZ f j WX WY e⟩
   have XI:KX VE H WN:=λ f j m e=>WZ f j (λ l=>m (Xc f l)) (λ l=>m (l▸W0)) e;have W8:∀y l,VN.lookup y=some l->XC y=Ve y:=λ y l e=>(V.rest y (XY x WL y l e)).trans (Xo y l e);have XN:bq VE c (bQ VI g) (Iz VI V3 h E) WN ((Y x++VN)++cj VI i):=by
     refine R.comp Xp all X5 X6 V.ns X3 Xa (λ y p e=>?_) λ y p e=>?_
     · rw[hd]at e;rcases WM:(Y x).lookup y with _|XD
       · rw[WM]at e;have Xl:VN.lookup y=some p:=by simpa using e
         exact ak (X0 y p Xl) λ WR W9 f=>⟨WR,(W8 y p Xl).trans W9,f.b0 (λ f j m e=>XI f j m (W2 f j (λ l=>m (Xc f l)) (λ l=>m (l▸Xq)) (λ l=>m (l▸W0)) e))⟩
       ·rw[WM]at e;cases e;refine ak (V.bound y p WM) λ WR W9 f=>?_;exact⟨WR,W9,f.mono Xr⟩
     · rw[hd]at e;refine ey (x:=(Y x).lookup y) (λ WM=>?_) λ XD WM=>?_;·rw[WM]at e;exact XZ y p (by simpa using e)
       ·exact Xt x WL y XD WM
   refine(X9 x WL).use XW XN λ Yx Yo XO=>aW Yo λ WW XH XT M=>?_;subst XT;have Xz:St (z+1) WW:=Fd.frame _ _ _ Xy λ f j _ e=>M f j e;have Xi:ga (cb VE WW) G (((r.take z).filter t).flatMap O) as:=vr (gh λ f j m e=>M f j (XI f j m e)) Xh;have XB:∀f j,¬L f->f≠Q->f≠h->s.get? f=some j->WW.get? f=some j:=λ f j m WP T e=>M f j (WZ f j m T (W2 f j m WP T e));have WQ:(r.take (z+1)).filter t=(r.take z).filter t++(if t x then[x]else[]):=take_succ_filter t r z x Xd;cases W1:t x with
   |false=>
     simp only[cT,if_false];refine⟨r.length+1-(z+1),jb WK,z+1,WW,XH,_,G,rfl,Xz,Xk.at λ j e=>M _ j e,V.ns.keeps M,WK,rfl,⟨as,?_⟩,XB,W8,Xa.keeps M⟩;rw[WQ,W1];simpa using Xi|true=>
     simp only[if_true];have Yj:(Vz++G.toArray).size+(O x).length<=a9:=by
       have W':=cy Xi;have WT:((r.filter t).flatMap O).length=(((r.take (z+1)).filter t).flatMap O).length+(((r.drop (z+1)).filter t).flatMap O).length:=by rw[<-eH,<-Rw,<-IZ,LU]
       simp only[WQ,W1]at WT;simp only[if_true,Rw,eH,Sg,List.flatMap_nil,IW]at WT;have XQ:G.toArray.size=G.length:=I8 ..;rw[Array.size_append,XQ];exact an (by rw[W',WT,K9];exact bX (dx _ _) _) Yi
     refine X7 x WL W1 WW XH _ XC XO (λ f j e=>M f j (all f j e)) (Xk.at λ j e=>M _ j e) Yj (V.ns.keeps M) _ _ λ Yv Yw Ym Yu Yp Xu Yt Xw X1 W3=>?_;refine ai (m7 (vr (gh (λ f j m e=>W3 f j (λ l=>m (l▸Xq)) (λ l=>m (l▸W0)) e)) Xi) Yt) λ XP Ys=>⟨r.length+1-(z+1),jb WK,z+1,Ym,Yu,Yp,G++Yv,rfl,Fd.frame _ _ _ Xz λ f j l e=>W3 f j (WV f l).1 (WV f l).2 e,by simpa using Xu,Xw,WK,rfl,⟨XP,?_⟩,λ f j m WP T e=>W3 f j WP T (XB f j m WP T e),λ y l e=>(X1 y l e).trans (W8 y l e),λ f l=>?_⟩
     · rw[WQ,W1];simpa using Ys
     · by_cases WX:f=Q;·obtain rfl:=WX.symm;refine ai Xu λ _ e=>?_;exact⟨_,e⟩
       · by_cases WY:f=h;·obtain rfl:=WY.symm;refine eb Xw λ j _ _ e _=>?_;exact⟨j,e⟩
         ·refine ai (Xa f l) λ j e=>?_;exact⟨j,W3 f j WX WY (M f j e)⟩
 · have X':z=r.length:=gu X8 WK;subst X';refine Fd.done _ _ _ (by rw[be];exact Xx) λ XA XG WO=>?_;rw[IJ]at Xh;exact XU G as XA XG W5 (Xs.at λ j e=>WO _ j XK e) (vr (gh λ f j m e=>WO f j (λ l=>m (Xc f l)) e) Xh) (Xv.at' λ j e=>WO _ j XJ e) Xo λ f j m WP T e=>WO f j m (W2 f j m WP T e)
def tS{ba l L:b7}{V:List Mi}{W2:ae->Env->Sem Unit}(m:List Vb)(it:Vb->PV)(z:Vb->List (Str×PV))(j:Vb->Bool)(T:Vb->List bP)(WR:dJ VI g)(Xm:∀x∈m,BindsTo l (it x) (z x))(Xv:∀x∈m,∀W0 a,(z x).lookup W0=some a->VI.names.lookup W0=some .local)(Xs:∀x∈m,eG u (bQ VI g) (z x++cj VI i) Vr (j x))(Xy:((m.filter j).flatMap T).length<=a9)(Xj:Rm u o)(R:bq w c g E q.heap i)(WZ:Option (ab->Sem Unit))(Xo:∀n j,V3.lookup n=some j->E.cells.lookup n=some j)(Xp:∀n,(n,cM)∈VI.names->∃j,V3.lookup n=some j)(Xz:∀U D f,QJ (.ListComp ba (⟨l,L,Vr,0⟩::V) VI v) 0 U (.ref D) f=(do
     NJ L.pos match<-KI U with
     |none=>jq (.done .next)|some Xd=>
       Jl l U Xd
       assign l f Xd let mut ok:=true
       for j in Vr do if ok then ok<-isTrue j f (He j f)
       if ok then W2 D f
       again (.compLoop (.ListComp ba (⟨l,L,Vr,0⟩::V) VI v) 0 U (.ref D) f)))(Xq:∀O C D,(∀b,O b->w b\/q.heap.get? b=none)->O D->O C->D≠C->q.heap.get? D=none->q.heap.get? C=none->∀x∈m,j x=true->he O c o (bQ VI g) q C D (Iz VI V3 C E) (z x++cj VI i) [] (W2 D (Iz VI V3 C E)) (T x)){W3 p N:ae->Prop}{St:Nat->a7->Prop}{Xe:Nat->ab->a7->Prop}(W8:Kp q H)(W9:Kp H VH)(Xk:∀b,N b↔w b\/H.heap.get? b=none)(Fd:dc N c o U l (m.map it) W3 p St Xe)(Xx:St 0 VH.heap)(Xr:∀b,W3 b->b<VH.heap.objs.size)(W7:∀b,p b->H.heap.objs.size<=b)(Xh:∀D C WN WW,(∀b d,q.heap.get? b=some d->b<C)->q.heap.get? C=none->q.heap.get? D=none->D≠C->WN.heap.Ns C WW->RV (λ b=>w b\/b=C) WN.heap (.ref D) (Li ((m.filter j).flatMap T))->Kp q WN->Py (au P0 c) o y WZ Vf (.ref D) C (.ok .next) WN):aA (au P0 c) o (newList []) (λ W1 XF=>aA (au P0 c) o (UU VI E.globals V3 [] E.qual none I7 (some E)) (λ f XG=>JM (au P0 c) o (.compStart (.ListComp ba (⟨l,L,Vr,0⟩::V) VI v) 0 U W1 {scope:=Qs VI E,locals:=f.locals,globals:=f.globals,cells:=f.cells,qual:=f.qual,func:=f.func,code:=f.code,frame:=f.frame,builtins:=f.builtins}) (Py (au P0 c) o y WZ Vf W1 f.locals) XG) y XF) y VH:=by
 have WV:Kp q VH:=W8.trans W9;refine Ie (Ok WR.qc (by intro W0 XB;simp at XB) (λ J WK WL=>?_) WR.kind);dsimp only at WK WL⊢;generalize WQ:VH.heap.push {cls:=.type "list",dict:=none,data:=.seq ([]:List ab).toArray}=r at WK WL⊢;have Y:r.objs.size=VH.heap.objs.size+1:=by rw[<-WQ,IE]
 have W4:∀d,VH.heap.get? VH.heap.objs.size≠some d:=λ d e=>Iw _ (az e);have WP:∀d,VH.heap.get? r.objs.size≠some d:=λ d e=>absurd (az e) (by rw[Y];exact b'.mpr (I5 _));have G:VH.heap.objs.size≠r.objs.size:=by simp only[Y];exact br (H9 _)
 have XC:∀b d,VH.heap.get? b=some d->b<VH.heap.objs.size:=λ b d e=>az e;have WO:KO q.heap VH.heap:=WV.keep;have Xl:r.get? VH.heap.objs.size=some {cls:=.type "list",dict:=none,data:=.seq ([]:List ab).toArray}:=WQ▸aF _ rfl;have XD:KO VH.heap r:=λ b d e=>WQ▸ao _ e;generalize VH.heap.objs.size=D at*;generalize r.objs.size=C at*;have WM:KO VH.heap J:=λ b d e=>WL.extBut b d (λ a=>WP d (a▸e)) (ao _ (XD b d e));have Xa:∀{b},(∀d,VH.heap.get? b≠some d)->q.heap.get? b=none:=λ{b}h=>by
   rcases e:q.heap.get? b with _|d;·rfl
   ·exact absurd (WV.keep b d e) (h d)
 have t:=Xa W4;have M:=Xa WP;have WX:∀b d,q.heap.get? b=some d->¬p b:=λ b d e a=>absurd (az (W8.keep b d e)) (b'.mpr (W7 b a));have XA:∀b,p b->H.heap.get? b=none:=λ b a=>cW (W7 b a);have Xb:∀{b},(∀d,VH.heap.get? b≠some d)->H.heap.get? b=none:=λ{b}h=>by
   rcases e:H.heap.get? b with _|d;·rfl
   ·exact absurd (W9.keep b d e) (h d)
 have W5:∀b,(w b\/p b\/b=D\/b=C)->w b\/q.heap.get? b=none:=λ b a=>by
   rcases a with a|a|a|a;·exact .inl a
   · refine .inr ?_;cases e:q.heap.get? b with
     |none=>rfl|some d=>exact absurd a (WX b d e)
   ·exact .inr (a▸t)
   ·exact .inr (a▸M)
 have WS:St 0 J:=Fd.frame _ _ _ Xx λ b d _ e=>WM b d e;have W6:J.PlainList D #[]:=⟨_,WL.extBut _ _ G (ao _ Xl)⟩;refine aW WV λ XK XN Xg XM=>?_;have Xf:Ex (λ b=>w b\/p b\/b=D\/b=C) J:=λ b a=>by
   rcases a with a|a|a|a;·refine ai (R.ex b a) λ d e=>?_;exact⟨d,WM b d (WO b d e)⟩
   ·exact Fd.there _ _ WS b (Fd.sub b a)
   ·obtain rfl:=a.symm;refine ai W6 λ _ e=>?_;exact⟨_,e⟩
   ·obtain rfl:=a.symm;refine eb WK λ d _ _ e _=>?_;exact⟨d,e⟩
 have W':∀Xc,JM (au P0 c) o (.compLoop (.ListComp ba (⟨l,L,Vr,0⟩::V) VI v) 0 U (.ref D) (Iz VI V3 C E)) (Py (au P0 c) o y WZ Vf (.ref D) C) {q with heap:=J,toks:=Xc}:=λ Xc=>by
   refine tR (VN:=[]) (VE:=λ b=>w b\/p b\/b=D\/b=C) m it z j T WR Xm Xv (λ _ _ e=>nomatch e) (λ _ _ _ _ e=>nomatch e) (λ x WT=>by rw[IW];exact Xs x WT) Xj R Xo Xp (Xz U D _) (λ x WT Xn=>by rw[IW];exact Xq _ C D W5 (.inr (.inr (.inl rfl))) (.inr (.inr (.inr rfl))) G t M x WT Xn) Fd W5 (λ b a=>(Xk b).mpr ?_) (.inr (.inr (.inl rfl))) (.inr (.inr (.inr rfl))) (λ b a=>.inr (.inl a)) G t M (λ b a=>(λ h=>⟨br h,by simp only[Y];exact br (gb h)⟩) (Xr b a)) WX (λ b d e=>WM b d (WO b d e)) WS W6 WK (λ _ _ e=>nomatch e) Xf (by simpa using Xy) λ vs as h' XH WW Xu XE Xw _ Xt=>?_
   · rcases a with a|a|a|a;·exact .inl a
     ·exact .inr (XA b a)
     ·exact .inr (a▸Xb W4)
     ·exact .inr (a▸Xb WP)
   · refine Xh D C _ WW (λ b d e=>(λ h=>by simp only[Y];exact gb h) (XC b d (WO b d e))) M t G Xw ?_ ⟨h',XH,rfl,λ b d e=>Xt b d (WX b d e) (λ a=>by rw[a,t]at e;exact aQ e) (λ a=>by rw[a,M]at e;exact aQ e) (WM b d (WO b d e))⟩;refine .gD (λ a=>a.elim (λ a=>by refine ai (R.ex D a) λ d e=>?_;exact bN t e) G) (Vc:=vs) (by simpa using Xu) (nd (λ b a=>?_) XE);exact a.elim .inl λ a=>.inr (.inr (.inr a))
 subst Xg;exact Mz (codeAny_compStart_list (W' _) (Fd.self 0 _ _ _ WS (W' _))) λ _ _ x=>x
def he.ba{k:Lv}{ba:b7}{a:ae->Prop}{w:ar}{A:aq}{j:aw}{s:aa}{C D:ae}{g:Env}{l B:List (Str×PV)}{z:bP}(r:Rm k A)(h:Ev k j l ba (.d z))(t:a D)(Y:a C)(u:D≠C):he a w A j s C D g l B (do let _<-I1 (.builtin "list.append") [.ref D,<-He ba g]) [z]:=λ WK WO ys m n WM x i G Q E v=>by
 refine al (h.use r n (Kp.refl _) λ T WN O J _ U=>(aW J λ WL WP p f=>?_));subst p;refine al (RB (hsz:=by simp at i;exact gv i) (x.at λ o e=>f _ o e) λ H y c=>ah ?_);exact ai O λ V N=>v [T] _ H _ m (y) (.cons (Ka (gh λ b o L e=>c.extBut b o (λ q=>L (q▸t)) e) N) .nil) ((G.keeps f).sameBut c (J' u)) (λ _ _ _=>rfl) λ b o M _ e=>c.extBut b o M (f b o e)
theorem qf{b c:Type}{f:b->c}:∀{l:List b},l.flatMap (λ y=>[f y])=l.map f
 |[]=>rfl|a::l=>by rw[Sg,qf];rfl
def tT{ba p WX:b7}(h:List Vb)(m:Vb->PV)(j:Vb->List (Str×PV))(e:Vb->Bool)(f:Vb->bP)(V:dJ VI g)(WL:∀x∈h,BindsTo p (m x) (j x))(WS:∀x∈h,∀J W2,(j x).lookup J=some W2->VI.names.lookup J=some .local)(WR:∀x∈h,eG u (bQ VI g) (j x++cj VI i) Vr (e x))(WP:∀x∈h,e x=true->Ev u (bQ VI g) (j x++cj VI i) ba (.d (f x)))(WU:h.length<=a9)(B:Rm u o)(R:bq w c g E q.heap i)(r:Option (ab->Sem Unit))(WN:∀n e,V3.lookup n=some e->E.cells.lookup n=some e)(WO:∀n,(n,cM)∈VI.names->∃e,V3.lookup n=some e){z G N:ae->Prop}{St:Nat->a7->Prop}{L:Nat->ab->a7->Prop}(WY:Kp q H)(WZ:Kp H VH)(T:∀b,N b↔w b\/H.heap.get? b=none)(Fd:dc N c o U p (h.map m) z G St L)(WT:St 0 VH.heap)(WQ:∀b,z b->b<VH.heap.objs.size)(WV:∀b,G b->H.heap.objs.size<=b)(M:∀D C l W0,(∀b W1,q.heap.get? b=some W1->b<C)->q.heap.get? C=none->q.heap.get? D=none->D≠C->l.heap.Ns C W0->RV (λ b=>w b\/b=C) l.heap (.ref D) (Li ((h.filter e).map f))->Kp q l->Py (au P0 c) o y r Vf (.ref D) C (.ok .next) l):aA (au P0 c) o (newList []) (λ t W3=>aA (au P0 c) o (UU VI E.globals V3 [] E.qual none I7 (some E)) (λ a W4=>JM (au P0 c) o (.compStart (.ListComp ba [⟨p,WX,Vr,0⟩] VI v) 0 U t {scope:=Qs VI E,locals:=a.locals,globals:=a.globals,cells:=a.cells,qual:=a.qual,func:=a.func,code:=a.code,frame:=a.frame,builtins:=a.builtins}) (Py (au P0 c) o y r Vf t a.locals) W4) y W3) y VH:=tS (W2:=λ D a=>do let _<-I1 (.builtin "list.append") [.ref D,<-He ba a]) h m j e (λ x=>[f x]) V WL WS WR (by rw[qf,be];exact an (Ei _ _) WU) B R r WN WO (λ _ _ _=>rfl) (λ XX C D W6 WK Y O W8 W7 x WW WM=>he.ba B (WP x WW WM) WK Y O) WY WZ T Fd WT WQ WV (by refine qf.symm▸?_;exact M)
def tU{ba t l:b7}(a:List Vb)(r:Vb->PV)(e:Vb->List (Str×PV))(h:Vb->Bool)(f:Vb->bP)(j:dJ VI g)(WV:bg u g i l t (a.map r))(L:∀x∈a,BindsTo t (r x) (e x))(WK:∀x∈a,∀B WU,(e x).lookup B=some WU->VI.names.lookup B=some .local)(Y:∀x∈a,eG u (bQ VI g) (e x++cj VI i) Vr (h x))(U:∀x∈a,h x=true->Ev u (bQ VI g) (e x++cj VI i) ba (.d (f x)))(WO:a.length<=a9)(WM:∀E x,Ad l E x=jq x)(z:Rm u o)(R:bq w c g E q.heap i)(p:Option (ab->Sem Unit))(G:∀D C m WS,(∀b WT,q.heap.get? b=some WT->b<C)->q.heap.get? C=none->q.heap.get? D=none->D≠C->m.heap.Ns C WS->RV (λ b=>w b\/b=C) m.heap (.ref D) (Li ((a.filter h).map f))->Kp q m->Py (au P0 c) o y p Vf (.ref D) C (.ok .next) m):aA (au P0 c) o (comprehension (.ListComp ba [⟨t,l,Vr,0⟩] VI v) VI E J (newList []) ap (He l E) p) Vf y q:=by
 refine aj λ WW=>?_;refine ci (nc (E:=E) (g:=VI) λ n WL=>R.cells n (by unfold KJ;refine(R.scope).symm▸?_;exact j.free n WL)) λ cl T M O=>?_;exact WW (M' (use:=p) rfl (WM E) T j.kind j.names (WV w c o z E q y _ R λ W0 W1 W2 WZ W3 St WX N WQ WR H Fd WN V WP _=>tT a r e h f j L WK Y U WO z R p M O WQ WR H Fd WN V WP G))
def Ev.comp{ba m l:b7}(a:List Vb)(j:Vb->PV)(h:Vb->List (Str×PV))(c:Vb->Bool)(f:Vb->bP)(z:dJ VI g)(U:bg u g i l m (a.map j))(B:∀x∈a,BindsTo m (j x) (h x))(J:∀x∈a,∀y q,(h x).lookup y=some q->VI.names.lookup y=some .local)(H:∀x∈a,eG u (bQ VI g) (h x++cj VI i) Vr (c x))(G:∀x∈a,c x=true->Ev u (bQ VI g) (h x++cj VI i) ba (.d (f x)))(N:a.length<=a9)(M:autoParam (∀n x,Ad l n x=jq x) bc):Ev u g i (.ListComp ba [⟨m,l,Vr,0⟩] VI v) (Li ((a.filter c).map f)):=λ X w A r n s E R=>by
 simp only[Rl];refine tU a j h c f z U B J H G N M r R none λ D C WL O _ t Y WK L T kp=>⟨O,L,λ V p=>⟨?_,?_⟩⟩;·exact(T.b0 λ b o Q e=>p.extBut b o (λ q=>Q (.inr q)) e).mono λ b q=>.inl q
 ·exact kp.re λ b o e=>p.extBut b o (λ q=>by obtain rfl:=q.symm;exact bN t e) (kp.keep b o e)
def dc.qg{I:ae}{P:Nat->ab->Prop}{St:Nat->a7->Prop}(W:U2 P0 c o I Y V4 a P St)(y:a=Vi.length)(B:∀b,¬w b->∃d,s.get? b=some d)(C:∀i p r,Vi[i]?=some p->P i r->RV w s r p)(G:∀b∈V4,s.get? b=none)(J:∀i h,St i h->∀b∈Y,∃d,h.get? b=some d)(H:∀i h,St i h->∀b∈V4,∀d,h.get? b=some d->¬bw d):dc w c o (.ref I) (.Name j v) Vi (λ b=>¬w b\/b∈Y) (·∈V4) (λ i h=>St i h/\(KX w s h)) (λ i _ h=>St (i+1) h/\(KX w s h))where
 sub b f:=.inr (W.sub b f);frame i h t st k:=⟨W.frame i h t st.1 λ b f d e=>k b d (.inr f) e,λ b d l e=>k b d (.inl l) (st.2 b d l e)⟩;next i p m Q E z st g:=by
  refine W.item i m Q E (by simp only[y];exact(a8.mp z).1) st.1 λ r t u D M k=>?_;have keep:KX w s t:=λ b d l e=>k b d (λ q=>bN (G b q) e) (st.2 b d l e);exact g r t u ((C i p r z D).b0 keep) ⟨M,keep⟩ k
 go i r p m Q E st L g:=by
  have e:Jl (.Name j v) (.ref I) r=jq ():=rfl;exact e.symm▸(ah (g m.heap st L λ _ _ _ e=>e))
 done m Q E st g:=W.done m Q E (y▸st.1) λ t u k=>g t u k;self i m Q E st g:=W.self i m Q E st.1 g;calm h:=(h j v rfl).elim;hV i h st b d f e:=H i h st.1 b f d e;there i h st b f:=f.elim (λ l=>let⟨d,e⟩:=B b l;⟨d,st.2 b d l e⟩) λ f=>J i h st.1 b f
def dc.tV{I:ae}{H:Nat->Array ab->Prop}{St:Nat->a7->Prop}{G:Nat->ae->a7->Prop}(W:WalksU P0 c o I Y V4 a H St G)(L:a=Vi.length)(WN:∀d,¬w d->∃f,s.get? d=some f)(WO:∀i p m,Vi[i]?=some p->H i m->∃u x,p=Tu u/\ga (cb w s) m.toList u x)(J:∀d∈V4,s.get? d=none)(WT:∀i h,St i h->∀d∈Y,∃f,h.get? d=some f)(WS:∀i h,St i h->∀d∈V4,∀f,h.get? d=some f->¬bw f)(WU:∀d∈V4,w d)(WR:o.handled=none):dc w c o (.ref I) (.Tuple Vr b v) Vi (λ d=>¬w d\/d∈Y) (·∈V4) (λ i h=>St i h/\(KX w s h)) (λ i O h=>∃T,O=.ref T/\G i T h/\(KX w s h))where
 sub d l:=.inr (W.sub d l);frame i h k st g:=⟨W.frame i h k st.1 λ d l f e=>g d f (.inr l) e,λ d f j e=>g d f (.inl j) (st.2 d f j e)⟩;next i p t Q E M st r:=by
  refine W.item i t Q E (by refine L.symm▸?_;exact(a8.mp M).1) st.1 λ T m k C WP WQ y g=>?_;have keep:KX w s k:=λ d f j e=>g d f (λ q=>bN (J d q) e) (st.2 d f j e);exact aj λ D=>aW (WO i p m M WP) λ u x e WZ=>D (r _ k C ⟨T,m.toList,u,x,rfl,.inl e,.inl (WQ),vr (gh keep) WZ⟩ ⟨T,rfl,y,keep⟩ g)
 go i O p t Q E st it r:=by
  refine ci st λ T WY y keep=>?_;obtain rfl:=WY;refine W.go Vr b v i T t Q E y λ k W0 g=>?_;refine r k ⟨W0,(λ d f j e=>g d f (λ q=>bN (J d q) e) (keep d f j e))⟩ (aj λ D=>(du it λ W1 m u x U V WK WL=>?_)) g;cases U;refine D ?_;have WM:pX w k T m.toArray:=by
   refine aH WK (λ WW=>?_) λ WX=>?_;·exact ak WW λ f z B=>.inl ⟨f,g _ f (W.apart i _ _ y) z,B⟩
   ·exact bS WX λ f a nT z B=>.inr ⟨f,a,nT,g _ f (W.apart i _ _ y) z,B⟩
  exact g2 T m u x rfl V WM (vr (gh λ d f j e=>g d f (λ q=>j (WU d q)) e) WL)
 done t Q E st r:=W.done t Q E (L▸st.1) λ k C g=>r k C g;self i t Q E st r:=W.self i t Q E st.1 r;calm _:=WR;hV i h st d f l e:=WS i h st.1 d l f e;there i h st d l:=l.elim (λ j=>let⟨f,e⟩:=WN d j;⟨f,st.2 d f j e⟩) λ l=>WT i h st.1 d l
def RV.lc(a:∀b,VE b↔w b\/s.get? b=none)(r:RV w s U V):RV VE s U V:=r.shift λ b o c e=>⟨λ q=>((a b).mp q).elim c (λ q=>by rw[e]at q;exact c7 q),e⟩
def hW(a:∀b,VE b↔w b\/s.get? b=none):∀b,¬VE b->∃o,s.get? b=some o:=λ b c=>by
 rcases e:s.get? b with _|o;·exact(c ((a b).mpr (.inr e))).elim
 ·exact⟨o,rfl⟩
def jI(d:∀b,VE b↔w b\/s.get? b=none)(c:Ex w s)(f:∀b∈Y,s.get? b=none\/¬w b):∀b,(¬VE b\/b∈Y)->¬w b:=λ b q x=>by
 refine aH q (λ q=>?_) λ q=>?_;·exact q ((d b).mpr (.inl x))
 · refine aH (f b q) (λ e=>?_) λ e=>?_;·refine ai (c b x) λ o a=>?_;exact bN e a
   ·exact e x
def bw.hX(d:O.cls=.type VF)(e:VF≠"code")(g:O.data=.fields Vz)(f:∀q t,Vz[1]?≠some (.str q t)):¬bw O:=λ⟨i,a,q⟩=>by
 rw[g]at a;cases a;refine ez q (λ q=>?_) (λ q=>?_) λ h=>?_;·rw[d]at q;cases q
 ·rw[d]at q;exact e (by injection q)
 ·exact cP h λ q t b=>f q t b
def bw.As(c:O.data=.seq Vz a):¬bw O:=λ⟨d,b,_⟩=>by rw[c]at b;cases b
def jJ(x:s.IsListIter h Q a):∀o,s.get? h=some o->¬bw o:=λ o e=>by
 refine ci x λ f b c d=>?_;cases aO e b;exact bw.hX c (by decide) d λ q t=>λ s=>by cases s
def tW(V:o.handled=none)(WL:Kp q H)(M:Ex w H.heap)(WM:¬w h)(WN:H.heap.PlainList h Vc.toArray)(D:ga (cb w H.heap) Vc Vm Y)(T:∀C H m n G St J N,Kp q H->Kp H m->(∀b,N b↔w b\/H.heap.get? b=none)->dc N c o C (.Name j v) (Vm.map .d) n G St J->St 0 m.heap->(∀b,n b->b<m.heap.objs.size)->(∀b,G b->H.heap.objs.size<=b)->(∀b,n b->¬w b)->Vf C m):aA (au P0 c) VW (Ly (.ref h)) Vf y H:=by
 have r:=WN.isList;refine M1 r (ak (id r) λ WR WK WQ=>?_);have t:h<H.heap.objs.size:=az WK;have k:∀b,(w b\/H.heap.get? b=none)↔w b\/H.heap.get? b=none:=λ _=>N1;refine T (.ref H.heap.objs.size) H _ _ _ _ _ (λ b=>w b\/H.heap.get? b=none) WL Kp.push k (dc.qg (s:=H.heap) (Pz (V) H.heap.objs.size h (br t) Vc.toArray) (by simp[cy D]) (hW k) (λ i p WO u z=>?_) (λ b f=>?_) (λ i O st b f=>?_) λ i O st b f g e=>jJ ((show b=H.heap.objs.size by exact aI.mp (f))▸st.1) g e) ⟨⟨⟨_,aF _ rfl,rfl,rfl⟩,r.push _⟩,λ b g _ e=>ao _ e⟩ (λ b f=>?_) (λ b f=>?_) (jI k M λ b f=>?_)
 · obtain⟨d,U,rfl⟩:∃d,Vm[i]?=some d/\p=.d d:=by
     rw[a']at u;exact ak (bh.mp u) λ d a b=>⟨d,a,b.symm⟩
   refine aW (hc D U) λ WP L a b=>?_;have :WP=WO:=by simp[a]at z;exact z
   subst this;exact RV.lc k ⟨L,b⟩
 · obtain rfl:b=H.heap.objs.size:=aI.mp (f);exact cW (aB _)
 · refine aH (aP.mp f) ?_ λ f=>?_
   · rintro rfl;exact ak st.1 λ g e _=>⟨g,e⟩
   · obtain rfl:b=h:=aI.mp (f);exact ak st.2 λ g e _=>⟨g,e⟩
 · show b<(H.heap.push _).objs.size;simp only[IE];rcases f with f|f
   · refine ey (x:=H.heap.get? b) (λ e=>?_) λ g e=>?_;·exact(f (.inr e)).elim
     ·exact gb (az e)
   · rcases aP.mp f with rfl|f;·exact H9 _
     · obtain rfl:b=h:=aI.mp (f);exact gb t
 · obtain rfl:b=H.heap.objs.size:=aI.mp (f);exact aB _
 · rcases aP.mp f with rfl|f;·exact .inl (cW (aB _))
   · obtain rfl:b=h:=aI.mp (f);exact .inr WM
def bg.list(h:u.2=true)(f:Ev u g i z (Li Vm)):bg u g i z (.Name j v) (Vm.map .d):=λ X w A b C s E Q R e=>f.use b R (Kp.refl s) λ G D r _ m c=>by
  refine aj λ t=>?_;refine bI r.list λ B H y p n o q=>?_;obtain rfl:=p;exact t (tW (b.calm h) m c.ex n o q e)
noncomputable def dK(a c:Int)(n:Nat):List Int:=(a1 n).map λ(i:Nat)=>a+(i:Int)*c
def nf(WK:o.handled=none){t u M:Tok}(WQ:Kp q H)(V:Ex w H.heap)(WM:R6 H.heap h C Vq Wa t u M)(WN:Jo C Vq Wa=true)(WL:Ic C Vq Wa=a)(Y:∀J H g l O St T N,Kp q H->Kp H g->(∀Vq,N Vq↔w Vq\/H.heap.get? Vq=none)->dc N c o J (.Name j v) ((dK C Wa a).map λ i=>I i) l O St T->St 0 g.heap->(∀Vq,l Vq->Vq<g.heap.objs.size)->(∀Vq,O Vq->H.heap.objs.size<=Vq)->(∀Vq,l Vq->¬w Vq)->Vf J g):aA (au P0 c) VW (Ly (.ref h)) Vf y H:=by
 refine wpAny_pyIter_range WM WN ?_;refine Y (.ref H.heap.objs.size) H _ _ _ _ _ (λ Vq=>w Vq\/H.heap.get? Vq=none) WQ Kp.push (λ _=>N1) (dc.qg (s:=H.heap) (Walks.range WK H.heap.objs.size C Wa a) (by simp[dK]) (hW λ _=>N1) (λ i p M G WO=>?_) (λ Vq f=>?_) (λ i m st Vq f=>?_) λ i m st Vq f L e=>by
     obtain rfl:Vq=H.heap.objs.size:=aI.mp (f);cases aO e st;exact bw.hX rfl (by decide) rfl λ WR t=>λ m=>by cases m) ⟨?_,λ Vq L _ e=>ao _ e⟩ (λ Vq f=>?_) (λ Vq f=>?_) (jI (λ _=>N1) V λ Vq f=>?_)
 · refine ai WO ?_;rintro t rfl;obtain⟨D,z,rfl⟩:∃D,(dK C Wa a)[i]?=some D/\p=I D:=by
     rw[a']at G;exact ak (bh.mp G) λ d C Vq=>⟨d,C,Vq.symm⟩
   unfold dK at z;rw[a']at z;refine ak (bh.mp z) λ WP k U=>?_;have :WP=i:=by
     rw[Rv]at k;·exact(ax k).symm
     ·have :=(a8.mp k).1;simpa using this
   obtain rfl:=this.symm;subst U;exact .mkInt
 · obtain rfl:Vq=H.heap.objs.size:=aI.mp (f);exact cW (aB _)
 · obtain rfl:Vq=H.heap.objs.size:=aI.mp (f);exact⟨_,st⟩
 · show IsRangeIter _ _ (C+((0:Nat):Int)*Wa) ((a:Int)-((0:Nat):Int)) Wa;simp only[show C+((0:Nat):Int)*Wa=C by simp,show((a:Int)-((0:Nat):Int))=Ic C Vq Wa by rw[WL];rfl];exact aF _ rfl
 · show Vq<(H.heap.push _).objs.size;simp only[IE];rcases f with f|f
   · refine ey (x:=H.heap.get? Vq) (λ e=>?_) λ L e=>?_;·exact(f (.inr e)).elim
     ·exact gb (az e)
   · obtain rfl:Vq=H.heap.objs.size:=aI.mp (f);exact H9 _
 · obtain rfl:Vq=H.heap.objs.size:=aI.mp (f);exact aB _
 · obtain rfl:Vq=H.heap.objs.size:=aI.mp (f);exact .inl (cW (aB _))
def bg.tX(G:u.2=true)(L:Ev u g i (.Name Vd v) (.raw (.type "range")))(H:Ev u g i z (I C))(h:0<=C)(B:C<2^62)(l:autoParam (∀p c,bD (z::p) c=(ap,He z c)::bD p c) bc):bg u g i (.Call (.Name Vd v) [z] [] J) (.Name j Vg) ((dK 0 1 C.toNat).map λ M=>I M):=λ X w A d c s E Q R D=>by
 refine dr (L.use d R (Kp.refl s) λ Y f O _ N r=>?_);obtain rfl:Y=.type "range":=O;have U:=a6.use d (z:=J) (E:=E) (.cons H .nil l) (s:=f) (Q:=λ q V=>aA (au P0 w) A (I1 (.type "range") q) (λ j f=>aA (au P0 w) A (Ly j) Q E f) E V) r N λ q WK T _ m y=>by
  refine ak T.one ?_;rintro _ rfl a;refine ai a.int ?_;rintro t rfl;refine call_range_1 ?_;exact nf (d.calm G) (m.re λ b o z=>ao _ (m.keep b o z)) (y.ex.keeps λ b o z=>ao _ z) (OH ..) (RD (by decide) (by decide) (J0 (by decide) h) B) (by rw[Rk];exact oY h) D
 rw[l]at U⊢;exact IY rfl (b1 U)
def bg.tY(H:u.2=true)(V:Ev u g i (.Name Vd v) (.raw (.type "range")))(N:Ev u g i z (I C))(O:Ev u g i Vl (I Vq))(T:Ev u g i Wd (I Wa))(L:Wa≠0)(WK:Jo C Vq Wa=true)(Y:Ic C Vq Wa=a)(M:Wa.natAbs<1000)(q:autoParam (∀f d,bD (z::f) d=(ap,He z d)::bD f d) bc)(WL:autoParam (∀f d,bD (Vl::f) d=(ap,He Vl d)::bD f d) bc)(WM:autoParam (∀f d,bD (Wd::f) d=(ap,He Wd d)::bD f d) bc):bg u g i (.Call (.Name Vd v) [z,Vl,Wd] [] J) (.Name j Vg) ((dK C Wa a).map λ WN=>I WN):=λ X w A h d s E Q R G=>by
 refine dr (V.use h R (Kp.refl s) λ WW l WS _ WO B=>?_);obtain rfl:WW=.type "range":=WS;have m:a6 u g i [z,Vl,Wd] [I C,I Vq,I Wa]:=.cons N (.cons O (.cons T .nil WM) WL) q;have p:=m.plain (E:=d) (v:=J);have U:=a6.use h (z:=J) (E:=E) m (s:=l) (Q:=λ y WU=>aA (au P0 w) A (I1 (.type "range") y) (λ j l=>aA (au P0 w) A (Ly j) Q E l) E WU) B WO λ y WV WT _ r D=>by
  refine bI WT.three ?_;rintro WZ W0 W1 rfl WP WQ WR;refine ai WP.int ?_;rintro t rfl;refine ai WQ.int ?_;rintro WX rfl;refine ai WR.int ?_;rintro WY rfl;exact call_range_3 L (nf (h.calm H) (r.re (a:=WV.toks) λ Vq o e=>ao _ (r.keep Vq o e)) (D.ex.keeps λ Vq o e=>ao _ e) (OH ..) WK Y G) (.inl (PX (md M (aE true))))
 rw[q]at U p⊢;exact IY p (b1 U)
def lf(B:Ev u g i (.Name j v) (.raw (.type VF)))(m:a6 u g i (z::Vr) Vi)(l:Rm u o)(R:bq w c g E q.heap i)(h:∀f d,aU w d.heap f Vi->Kp q d->bq w c g E d.heap i->aA (au P0 c) o (I1 (.type VF) f) Vf y d):aA (au P0 c) o (He (.Call (.Name j v) (z::Vr) [] J) E) Vf y q:=by
 refine dr (B.use l R (Kp.refl q) λ O M H _ C r=>?_);obtain rfl:O=.type VF:=H;have n:=m.plain (E:=E) (v:=J);refine di m.cut λ _ _ G a b p=>?_;obtain rfl:=G;have U:=a6.use l (z:=J) (E:=y) (.cons a b p) (s:=M) (Q:=λ f d=>aA (au P0 c) o (I1 (.type VF) f) Vf y d) r C λ f N L _ D t=>h f N L D t;rw[p]at U n⊢;exact IY n (b1 U)
noncomputable def lg(l:List bP):List bP:=l.zipIdx.map λ q=>.tuple [.int q.2,q.1]
def bg.ng(O:u.2=true)(WZ:Ev u g i (.Name j v) (.raw (.type "enumerate")))(WX:Ev u g i z (Li Vm))(W1:autoParam (∀WM B,bD (z::WM) B=(ap,He z B)::bD WM B) bc):bg u g i (.Call (.Name j v) [z] [] J) (.Tuple Vr a Vg) ((lg Vm).map .d):=λ X w A C B s E Q R WW=>by
 refine lf WZ (.cons WX .nil W1) C R λ vs c W' W3 WO=>aj λ f=>?_;refine ak W'.one ?_;rintro Xh rfl W9;refine bI W9.list ?_;rintro M vs as rfl W4 W7 WL;refine f ?_;have H:=W7.isList;refine S6 H λ N G T Xe r=>TD G (aj λ f=>ak (id H) λ Xf V Xd=>(f ?_));have U:M<c.heap.objs.size:=az V;have n:∀b,(X b\/c.heap.get? b=none)↔X b\/c.heap.get? b=none:=λ _=>N1;have fresh:∀b∈[c.heap.objs.size+1,c.heap.objs.size],c.heap.get? b=none:=aV (cW (I5 _)) (aV (cW (aB _)) dT);refine WW (.ref (c.heap.objs.size+1)) c _ _ _ _ _ (λ b=>X b\/c.heap.get? b=none) W3 ⟨N,c.toks,rfl,r⟩ n (dc.tV (s:=c.heap) (RH (C.calm O) (c.heap.objs.size+1) c.heap.objs.size M (Nat.succ_ne_self _) (br (gb U)) (br U) vs.toArray).toU (by simp[lg,cy WL]) (hW n) (λ L p Xg Y W2=>?_) fresh (λ L h st=>?_) (λ L h st=>?_) (λ b m=>.inr (fresh b m)) (C.calm O)) ⟨⟨⟨_,G⟩,T,H.at λ o e=>r _ o e⟩,λ b o _ e=>r b o e⟩ (λ b m=>?_) (aV (I5 _) (aV (aB _) dT)) (jI n WO.ex (aV (.inl (cW (I5 _))) (aV (.inl (cW (aB _))) (aV (.inr W4) dT))))
 · refine aj λ f=>?_;refine aW W2 ?_;rintro t y WK rfl;rw[a']at Y;refine ak (bh.mp Y) ?_;rintro d D rfl;unfold lg at D;rw[a',Rb]at D;refine ak (bh.mp D) ?_;rintro q W0 rfl;refine ak (bh.mp W0) ?_;rintro d WY rfl;refine aW (hc WL WY) λ Xa bs WP WQ=>?_;have :Xa=y:=by simp[WP]at WK;exact WK
   obtain rfl:=this.symm;refine ai (RV.lc n (V:=.d d) ⟨bs,WQ⟩) λ Xc WR=>f ?_;refine dw [.int L,d] _ (by simp) (.cons (.int _ _) (.cons WR .nil))
 · refine aj λ f=>?_;obtain⟨⟨W6,e⟩,⟨o,WU,_⟩,W5,WV,_⟩:=st;exact f (aV ⟨_,e⟩ (aV ⟨o,WU⟩ (aV ⟨W5,WV⟩ dT)))
 · refine aj λ f=>?_;refine a4 st λ W8 j _=>?_;refine ai W8 λ W6 WT=>?_;refine f ?_;exact aV (λ o e=>by
     obtain rfl:=aO e WT;exact bw.hX rfl (by decide) rfl λ q t=>λ h=>by cases h) (aV (λ o e=>jJ j o e) dT)
 · rcases m with m|m;·refine ai (hW n b m) λ o e=>?_;exact az (r _ _ e)
   ·exact aV (p:=(·<N.objs.size)) (az G) (aV (by refine ak T λ o e _=>?_;exact az e) (aV (az (r _ _ V)) dT)) b m
noncomputable def iQ(l m:List bP):List bP:=(l.zip m).map λ q=>.tuple [q.1,q.2]
def bg.zip{l WY:List bP}(WR:u.2=true)(Xh:Ev u g i (.Name j v) (.raw (.type "zip")))(Xd:Ev u g i z (Li l))(Xe:Ev u g i Vl (Li WY))(Xn:autoParam (∀M m,bD (z::M) m=(ap,He z m)::bD M m) bc)(Xp:autoParam (∀M m,bD (Vl::M) m=(ap,He Vl m)::bD M m) bc):bg u g i (.Call (.Name j v) [z,Vl] [] J) (.Tuple Vr a Vg) ((iQ l WY).map .d):=λ X w A N m s E Q R Xa=>by
 refine lf Xh (.cons Xd (.cons Xe .nil Xp) Xn) N R λ vs c XC Xr W2=>aj λ C=>?_;refine bS XC.two λ XS XT B XA XB=>?_;obtain rfl:=B;refine bI XA.list λ WM vs as L Xs Xu WZ=>?_;obtain rfl:=L;have T:=Xu.isList;refine bI XB.list λ WN XG XM L Xt Xv W0=>?_;obtain rfl:=L;have U:=Xv.isList;refine ak (id T) λ XP Xk XN=>ak (id U) λ XQ Xl XO=>C ?_;have WS:WM<c.heap.objs.size:=az Xk;have WT:WN<c.heap.objs.size:=az Xl;refine call_zip_2 T U λ h' WW Xb Xc Xi Xj Xo H=>wpAny_pyIter_zip WW ?_;generalize G:c.heap.objs.size=n at*;have D:∀b,(X b\/c.heap.get? b=none)↔X b\/c.heap.get? b=none:=λ _=>N1;have new:∀f,c.heap.get? (n+f)=none:=λ f=>cW (G▸dx _ _);have fresh:∀b∈[n+4,n+3,n,n+1],c.heap.get? b=none:=aV (new 4) (aV (new 3) (aV (new 0) (aV (new 1) dT)));refine Xa (.ref (n+4)) c _ _ _ _ _ (λ b=>X b\/c.heap.get? b=none) Xr ⟨h',c.toks,rfl,H⟩ D (dc.tV (s:=c.heap) (WalksT.zip2 (N.calm WR) (n+4) (n+2) (n+3) n (n+1) WM WN (by rw[<-G]at*;exact zipApart_new WS WT) vs.toArray XG.toArray).toU (by simp[iQ,cy WZ,cy W0]) (hW D) (λ f p XR WU Xq=>?_) fresh (λ f h st=>?_) (λ f h st=>?_) (λ b r=>.inr (fresh b r)) (N.calm WR)) ⟨⟨WW,Xb,⟨_,_,Xc⟩,Xi,Xj,T.at λ o e=>H _ o e,U.at λ o e=>H _ o e⟩,λ b o _ e=>H b o e⟩ (λ b r=>?_) (aV (G▸dx _ 4) (aV (G▸dx _ 3) (aV (G▸aB _) (aV (G▸I5 _) dT)))) (jI D W2.ex (aV (.inl (new 4)) (aV (.inl (new 2)) (aV (.inl (new 3)) (aV (.inl (new 0)) (aV (.inl (new 1)) (aV (.inr Xs) (aV (.inr Xt) dT))))))))
 · refine aj λ C=>?_;refine bS Xq ?_;rintro y XJ WV WX rfl;rw[a']at WU;refine ak (bh.mp WU) ?_;rintro d O rfl;unfold iQ at O;rw[a']at O;refine ak (bh.mp O) λ Xw Xm B=>?_;obtain⟨WO,WP⟩:=Xw;obtain rfl:=B;refine am (P1.mp Xm) λ Xf Xg=>?_;refine aW (hc WZ Xf) λ XH bs W3 W5=>aW (hc W0 Xg) λ XI W7 W4 W8=>?_;have :XH=y:=by simp[W3]at WV;exact WV
   obtain rfl:=this.symm;have :XI=XJ:=by simp[W4]at WX;exact WX
   obtain rfl:=this.symm;exact ai (RV.lc D (V:=.d WO) ⟨bs,W5⟩) λ _ W9=>ai (RV.lc D (V:=.d WP) ⟨W7,W8⟩) λ _ W'=>C (dw [WO,WP] _ rfl (.cons W9 (.cons W' .nil)))
 · refine aj λ C=>?_;obtain⟨V,XD,B,L,Xx,Xy,Xz⟩:=st;refine cP B λ _ _ Y=>?_;refine ak L λ _ WK _=>?_;refine ak Xx λ _ WL _=>?_;refine ak Xy λ _ XE _=>?_;refine ak Xz λ _ XF _=>?_;exact C (aV ⟨_,V⟩ (aV ⟨_,XD⟩ (aV ⟨_,Y⟩ (aV ⟨_,WK⟩ (aV ⟨_,WL⟩ (aV ⟨_,XE⟩ (aV ⟨_,XF⟩ dT)))))))
 · refine aj λ C=>?_;refine mB st λ V _ B WK WL _=>?_;refine cP B λ _ _ Y=>?_;refine C ?_;exact aV (λ o e=>by
     obtain rfl:=aO e V;exact bw.hX rfl (by decide) rfl λ q t=>λ h=>by cases h) (aV (λ o e=>by
     obtain rfl:=aO e Y;exact bw.As rfl) (aV (λ o e=>jJ WK o e) (aV (λ o e=>jJ WL o e) dT)))
 · show b<h'.objs.size;rcases r with r|r;·refine ai (hW D b r) λ o e=>?_;exact az (H _ _ e)
   · simp only[Xo];have lt:∀f,f<5->n+f<n+5:=λ f h=>N' h n;exact aV (p:=(·<n+5)) (lt 4 (by decide)) (aV (lt 2 (by decide)) (aV (lt 3 (by decide)) (aV (lt 0 (by decide)) (aV (lt 1 (by decide)) (aV (aJ WS (dx _ _)) (aV (aJ WT (dx _ _)) dT)))))) b r
def nh{h:a7}{l:List Int}{b:List ab}{c:List ae}(x:ga h b (l.map .int) c):M8 b l:=by induction l generalizing b c with
 |nil=>rw[(gi x).1];exact .nil|cons a l d=>
  refine du (eT x) λ _ _ _ _ e _ r f=>?_;obtain rfl:=e;refine ak (hb r) ?_;rintro _ rfl _;exact .cons _ _ (d f)
def qh(h:a7)(x:M8 Vc B):ga h Vc (B.map .int) []:=by induction x with
 |nil=>exact .nil|cons n t _ a=>exact .cons (.int n t) a
def hY{h:a7}{l:List Str}{b:List ab}{c:List ae}(x:ga h b (l.map .str) c):Ke b l:=by induction l generalizing b c with
 |nil=>rw[(gi x).1];exact .nil|cons a l d=>
  refine du (eT x) λ _ _ _ _ e _ r f=>?_;obtain rfl:=e;refine ak (hb r) ?_;rintro _ rfl _;exact .cons _ _ (d f)
def Au(h:a7)(x:Ke Vc G):ga h Vc (G.map .str) []:=by induction x with
 |nil=>exact .nil|cons n t _ a=>exact .cons (.str n t) a
def Fn.lh(h:Vm.length<2^63):Fn u (.builtin "len") [Li Vm] (I Vm.length):=λ X w A n s b E L m r=>by
 refine aj λ i=>?_;refine ak r.one λ p d q=>?_;obtain rfl:=d;refine bI q.list λ a b j f o c g=>?_;obtain rfl:=f;refine i ?_;have e:=cy g;refine call_len_list c.isList (by simp;exact iw (kH e h)) ⟨?_,Kp.toks⟩;simp only[show(b.toArray.size:Int)=Vm.length by simp[e]];exact .mkInt
def Fn.hZ(h:j.length<2^63):Fn u (.builtin "len") [S j] (I j.length):=λ X w A d s e E L c r=>by
 refine aj λ b=>?_;refine ak r.one λ f a q=>?_;obtain rfl:=a;refine ai q.str ?_;rintro t rfl;exact b (len_str (yp (hI h (aE true))) ⟨.mkInt,Kp.toks⟩)
def Fn.ni:Fn u (.builtin "ord") [S ⟨#[a]⟩] (I a):=λ X w A f s g E L e r=>by
 refine aj λ d=>?_;refine ak r.one λ h b q=>?_;obtain rfl:=b;refine ai q.str ?_;rintro t rfl;exact d (PySem.P.ord_of_char ⟨.mkInt,Kp.toks⟩)
def Fn.nj(a:0<=C)(b:C<=1114111):Fn u (.builtin "chr") [I C] (S ⟨#[C.toNat]⟩):=λ X w A f s g E L e r=>by
 refine aj λ d=>?_;refine ak r.one λ h c q=>?_;obtain rfl:=c;refine ai q.int ?_;rintro t rfl;refine d ?_;exact PySem.P.chr_of_int (by simp;exact⟨a,b⟩) ⟨.mkStr,Kp.toks⟩
def Fn.tZ(h:C.natAbs.log2<1920):Fn u (.type "str") [I C] (S (Ps C)):=λ X w A e s f E L d r=>by
 refine aj λ c=>?_;refine ak r.one λ g b q=>?_;obtain rfl:=b;refine ai q.int ?_;rintro t rfl;exact c (PySem.P.str_of_int h ⟨.mkStr,Kp.toks⟩)
def Fn.Av(n:B.length<64)(t:∀m:List Int,m.Perm B->m.Pairwise (·<=·)->m=VL):Fn u (.builtin "sorted") [Ls B] (Ls VL):=λ X w A D s d E L j r=>by
 refine aj λ z=>?_;refine ak r.one ?_;rintro J rfl q;refine bI q.list λ a d C y G x c=>?_;obtain rfl:=y;refine z ?_;have e:=cy c;refine sorted_ints x.isList (nh c) (by simpa[e]using n) λ v H f g h=>?_;obtain rfl:=t _ g h;exact ai (sortedAll_at s.heap d v) λ i p=>⟨.gD (j.fresh (I5 _)) ⟨i,p⟩ (qh _ f),⟨_,_,rfl,λ b o e=>sortedAll_old e⟩⟩
def Fn.t0(n:G.length<64)(t:∀m:List Str,m.Perm G->M7 m=true->m=VJ):Fn u (.builtin "sorted") [Lt G] (Lt VJ):=λ X w A C s d E L j r=>by
 refine aj λ z=>?_;refine ak r.one ?_;rintro J rfl q;refine bI q.list λ a d B y D x c=>?_;obtain rfl:=y;refine z ?_;have e:=cy c;refine sorted_strs x.isList (hY c) (by simpa[e]using n) λ v H f g h=>?_;obtain rfl:=t _ g h;exact ai (sortedAll_at s.heap d v) λ i p=>⟨.gD (j.fresh (I5 _)) ⟨i,p⟩ (Au _ f),⟨_,_,rfl,λ b o e=>sortedAll_old e⟩⟩
def fJ(T:String)(q:PV):Prop:=∀(X:ae->Prop)(w:ar)(s:aa)(v:ab),aC w s.heap->RV X s.heap v q->s.TypeIs v T/\∀a,v=.ref a->∃b,s.heap.get? a=some b/\b.dict=none
def fJ.list:fJ "list" (Li Vm):=λ X w s v _ r=>by
 refine aj λ g=>?_;refine bI r.list λ a k h d i f j=>?_;obtain rfl:=d;refine ai f λ n e=>?_;refine g ?_;exact⟨⟨_,e,rfl⟩,λ b c=>by cases c;exact⟨_,e,rfl⟩⟩
def fJ.str:fJ "str" (S j):=λ X w s v _ r=>by
 refine ai r.str ?_;rintro t rfl;exact⟨JF _ _ _,λ b a=>(by cases a)⟩
def Ev.li{T d:String}(WP:PlainAttrs T)(WT:Rp T j d)(WX:Na (.builtin d)=jq (.type "method_descriptor"))(M:fJ T V)(L:Fn u (.builtin d) (V::Vi) VS)(WK:Ev u g i z V)(y:a6 u g i (Vl::Vr) Vi)(O:(Vl::Vr).length<29)(N:autoParam (∀c,J9 z j c (He z c)=He z c) cN)(Y:autoParam ((v.endLine==J.line)=true) bc):Ev u g i (.Call (.Attribute z j v) (Vl::Vr) [] J) VS:=λ X w A m c s E R=>by
 have h:=y.plain (E:=c) (v:=J);refine JC (N c) ?_ Y (WK.use m R (Kp.refl s) λ f D C _ WN p=>?_)
 · have G:(L7 J (bD (Vl::Vr) c)).all (λ x=>!x.1)=true:=by
     rw[MD]at h;rw[H7];intro x WL;have :=h x WL;simpa using this
   refine G.symm▸?_;have H:bF ((Vl::Vr).length+([]:List Keyword).length+(if([]:List Keyword).isEmpty then 0 else 1)<30)=true:=by
     simp only[decide_eq_true_eq];simp only[L4,MV,if_true];exact md O (aE true)
   refine H.symm▸?_;rfl
 · refine am (M X w D f p.left C) λ WV WW=>o9 T d WP WT WX WV WW ?_;refine di y.cut λ _ _ WQ a b B=>?_;obtain rfl:=WQ;have U:=a6.use m (z:=J) (E:=E) (.cons a b B) (s:=D) (Q:=λ n l=>aA (au P0 w) A (I1 (.builtin d) ([f]++n)) (λ f l=>RV X l.heap f VS/\Kp s l) E l) p WN λ n WU WS WM WO t=>aG (L X w A m WU (f::n) E t.left t.ex (.cons (C.keeps WM.keep) WS)) (λ _ _ WR=>by refine am WR λ a b=>?_;exact dv a (WO.trans b)) λ _ _ x=>x;rw[B]at U h⊢;exact Ip h (b1 U)
def Ev.jK(n:Rp "list" j VF)(p:Na (.builtin VF)=jq (.type "method_descriptor"))(b:Fn u (.builtin VF) (Li Vm::Vi) V)(m:Ev u g i z (Li Vm))(c:a6 u g i (Vl::Vr) Vi)(f:autoParam ((Vl::Vr).length<29) ew)(d:autoParam (∀a,J9 z j a (He z a)=He z a) cN)(h:autoParam ((v.endLine==J.line)=true) bc):Ev u g i (.Call (.Attribute z j v) (Vl::Vr) [] J) V:=Ev.li Jt n p fJ.list b m c f d h
def Ev.lj(m:Rp "str" j VF)(n:Na (.builtin VF)=jq (.type "method_descriptor"))(b:Fn u (.builtin VF) (S Vd::Vi) V)(l:Ev u g i z (S Vd))(c:a6 u g i (Vl::Vr) Vi)(f:autoParam ((Vl::Vr).length<29) ew)(d:autoParam (∀a,J9 z j a (He z a)=He z a) cN)(h:autoParam ((v.endLine==J.line)=true) bc):Ev u g i (.Call (.Attribute z j v) (Vl::Vr) [] J) V:=Ev.li PySem.F.plainAttrs_str m n fJ.str b l c f d h
def cz.int:cz (.int C):=⟨rfl,dk _⟩
def cz.str(h:cs j=true):cz (.str j):=⟨h,dk _⟩
def Aw(g:o.units+20<O3)(c:cz VG)(h:cz VZ)(b:RV w q.heap U (.d VG))(a:RV w q.heap V7 (.d VZ)):SeqAt.EqAt o q U V7 (KD VG VZ):=by exact aj λ i=>ai b λ e b=>ai a λ f a=>i (SeqAt.eqAt_reads VG VZ o q U V7 e f (Ka hU b) (Ka hU a) c.1 h.1 (oT g c.2 rfl))
def Ax(x:ga s Vc Vm Y)(v:ab)(f:v∈Vc):∃d∈Vm,∃a,QM s v d a:=by
 refine aj λ g=>ai (Nl.mp f) λ i e=>?_;have b:i<Vm.length:=cy x▸(a8.mp e).1;refine aW (hc x (ay b)) λ u a c r=>?_;cases aO e c;exact g ⟨_,IK b,a,r⟩
def Fn.jL{k:Lv}:Fn k (.builtin "list.count") [Ls B,I C] (I (B.count C)):=λ X w A f s b E L J r=>by
 refine aj λ D=>?_;refine bS r.two λ N O i q p=>?_;obtain rfl:=i;refine bI q.list λ a b G j M o e=>?_;obtain rfl:=j;refine ai o λ n c=>?_;refine ai p.int ?_;rintro t rfl;refine D ?_;refine Kx JI ⟨_,c,rfl⟩ PySem.F.entry_list_count (PySem.F.args_list_count_2 _ _) (SeqAt.list_countAt a b.toArray n none #[] (.int C t) (isInt C)) ⟨c,λ y h=>?_,?_⟩
 · obtain⟨d,g,H,v⟩:=Ax e y (by simpa using h);refine ak (hp.mp g) ?_;rintro m _ rfl;refine ak (hb v) ?_;rintro z rfl _;have :isInt C (.int m z)=KD (.int m) (.int C):=by rfl
   simp only[this];exact Aw (w:=X) (o:=A.in1) (yP (a:=A.units) (x:=21) f.gC rfl) cz.int cz.int .mkInt .mkInt
 · simp only[show b.toArray.toList=b from rfl,countP_isInt C (nh e)];exact⟨.mkInt,Kp.toks⟩
def Fn.join(b:j.length<=16)(c:(G.map (·.length)).sum+G.length<=1048576):Fn u (.builtin "str.join") [S j,Lt G] (S (Txt.join j G)):=λ X w A p s i E L o r=>by
 refine aj λ m=>?_;refine bS r.two λ y z e q g=>?_;obtain rfl:=e;refine ai q.str ?_;rintro t rfl;refine bI g.list λ a i n f v d h=>?_;obtain rfl:=f;exact m (join_listW d.isList (by simpa using hY h) b c λ _ _=>⟨.mkStr,Kp.toks⟩)
def aD.Ay(a:cz VG)(c:cz (.list Vm)):aD .NotIn (.d VG) (Li Vm) (!Vm.any λ y=>KD y VG):=λ X w A b s v u E i⟨g,f⟩⟨h,e⟩=>SeqAt.notIn_list_reads (Ka hU e) (Ka hU f) c.1 a.1 (yQ b a.2) ⟨rfl,Kp.refl _⟩
def bb.qi:bb .Sub (Bo M) (Bo We) (I ((if M then 1 else 0)-(if We then 1 else 0))):=λ X w A _ s v u E c b a=>by
 obtain rfl:=b.bool;obtain rfl:=a.bool;refine sub_bool ⟨?_,Kp.toks⟩;cases M<;>cases We<;>exact .mkInt
noncomputable def t1:Jr->Bool|.free=>true|_=>ap
noncomputable def Az:Jr->Bool|.cell=>true|_=>ap
noncomputable def qj:Option Jr->Bool|some .local=>true|_=>ap
noncomputable def AA:Option Jr->Bool|some .cell=>true|some .free=>true|_=>ap
noncomputable def t2:Option Jr->Bool|some .local=>true|some .cell=>true|some .free=>true|_=>ap
noncomputable def AB:ScopeKind->Bool|.function=>true|_=>ap
noncomputable def hf(b:List Str)(a c:aw):Bool:=AB a.kind&&a.names.all (λ y=>!Az y.2)&&a.names.all (λ y=>match y.2 with|.local=>qj (a.names.lookup y.1)|.free=>AA (c.names.lookup y.1)|_=>true)&&b.all λ n=>qj (a.names.lookup n)
def t3{o:Option Jr}(h:qj o=true):o=some .local:=by
 rcases o with _|k;·cases h
 ·cases k<;>first|rfl|cases h
def dJ.of(h:hf G g VI=true):dJ g VI/\∀n∈G,g.names.lookup n=some .local:=by
 unfold hf at h;simp only[kn,H7]at h;refine aj λ l=>?_;refine am h λ c j=>?_;refine am c λ c d=>?_;refine am c λ f i=>?_;refine l ⟨⟨?_,λ y b e=>?_,λ y b e=>?_,λ n a=>?_⟩,λ n a=>t3 (j n a)⟩;·revert f;cases g.kind<;>first|(intro _;rfl)|(intro h;cases h)
 ·have :=i y b;rw[e]at this;cases this
 ·have :=d y b;rw[e]at this;exact t3 this
 · have :=d (n,.free) a;dsimp only at this;revert this;rcases VI.names.lookup n with _|k;·intro h;cases h
   ·cases k<;>first|(intro h;cases h;done)|(intro _;exact .inl rfl)|(intro _;exact .inr rfl)
def jM(h:i.lookup j=some V):j∈i.map (·.1):=hp.mpr ⟨_,eF h,rfl⟩
def Ev.fe{ba l j:b7}(n:List Str)(a:List Vb)(h:Vb->PV)(b:Vb->List (Str×PV))(c:Vb->Bool)(f:Vb->bP)(m:hf n VI g=true)(A:bg u g i j l (a.map h))(t:∀x,(b x).map (·.1)=n)(p:∀x∈a,BindsTo l (h x) (b x))(s:∀x∈a,eG u (bQ VI g) (b x++cj VI i) Vr (c x))(r:∀x∈a,c x=true->Ev u (bQ VI g) (b x++cj VI i) ba (.d (f x)))(z:a.length<=a9)(w:autoParam (∀o x,Ad j o x=jq x) bc):Ev u g i (.ListComp ba [⟨l,j,Vr,0⟩] VI v) (Li ((a.filter c).map f)):=Ev.comp a h b c f (dJ.of m).1 A p (λ x _ y q e=>(dJ.of m).2 y (t x▸jM e)) s r z w
def AC{o:Option Jr}(h:t2 o=true):o=some .local\/o=some .cell\/o=some .free:=by
 rcases o with _|k;·cases h
 ·cases k<;>first|exact .inl rfl|exact .inr (.inl rfl)|exact .inr (.inr rfl)|cases h
noncomputable def dX(a:aw)(x:Str):Bool:=t2 (a.names.lookup x)&&!(x==("__debug__":Str))&&!(x==("__classdict__":Str))
def Ev.nm(a:autoParam (i.lookup j=some V) bc)(h:autoParam (dX g j=true) bc):Ev u g i (.Name j v) V:=by
 unfold dX at h;simp only[kn,IR]at h;exact Ev.name a (AC h.1.1) h.1.2 h.2
noncomputable def t4:Option Jr->Bool|some .globalImplicit=>true|_=>ap
def nk{o:Option Jr}(h:t4 o=true):o=some .globalImplicit:=by
 rcases o with _|k;·cases h
 ·cases k<;>first|rfl|cases h
noncomputable def cG(a:aw)(x:Str):Bool:=t4 (a.names.lookup x)&&!(x==("__debug__":Str))
def Ev.gl(a:∀P,a5 P j=some U)(h:autoParam (cG g j=true) bc):Ev u g i (.Name j v) (.raw U):=by
 unfold cG at h;simp only[kn,IR]at h;exact Ev.glob (nk h.1) a h.2
def Ev.bl(a:∀P,a5 P j=none/\cR P j=some U)(h:autoParam (cG g j=true) bc):Ev u g i (.Name j v) (.raw U):=by
 unfold cG at h;simp only[kn,IR]at h;exact Ev.blt (nk h.1) (λ P=>(a P).1) (λ P=>(a P).2) h.2
def h0(P:a3):a5 P (ac "range")=none/\cR P (ac "range")=some (.type "range"):=⟨by lia,by lia⟩
def dY(P:a3):a5 P (ac "len")=none/\cR P (ac "len")=some (.builtin "len"):=⟨by lia,by lia⟩
def t5(P:a3):a5 P (ac "zip")=none/\cR P (ac "zip")=some (.type "zip"):=⟨by lia,by lia⟩
def nl(P:a3):a5 P (ac "enumerate")=none/\cR P (ac "enumerate")=some (.type "enumerate"):=⟨by lia,by lia⟩
def AD(P:a3):a5 P (ac "ord")=none/\cR P (ac "ord")=some (.builtin "ord"):=⟨by lia,by lia⟩
def nn(P:a3):a5 P (ac "chr")=none/\cR P (ac "chr")=some (.builtin "chr"):=⟨by lia,by lia⟩
def qk(P:a3):a5 P (ac "str")=none/\cR P (ac "str")=some (.type "str"):=⟨by lia,by lia⟩
def ql(P:a3):a5 P (ac "int")=none/\cR P (ac "int")=some (.type "int"):=⟨by lia,by lia⟩
def lk(P:a3):a5 P (ac "sorted")=none/\cR P (ac "sorted")=some (.builtin "sorted"):=⟨by lia,by lia⟩
def t6(P:a3):a5 P (ac "list")=none/\cR P (ac "list")=some (.type "list"):=⟨by lia,by lia⟩
def AE(P:a3):a5 P (ac "set")=none/\cR P (ac "set")=some (.type "set"):=⟨by lia,by lia⟩
noncomputable def AF(p:List Nat):b7:=(cE ((bB p).getD 0 b2)).e 0
def jN(h:∀d∈Vm,d.canLay0=true/\d.depth<=8):cz (.list Vm):=by
 constructor
 · show Lj Vm=true;induction Vm with
   |nil=>rfl|cons a r c=>show(a.canLay0&&Lj r)=true;simp only[(h a (.head _)).1,c λ d b=>h d (.tail _ b)];rfl
 · show JS Vm+1<=9;have :JS Vm<=8:=by induction Vm with
     |nil=>exact dk _|cons a r c=>exact Nat.max_le.mpr ⟨(h a (.head _)).2,c λ d b=>h d (.tail _ b)⟩
   exact iA this (aE true)
def bg.iR(c:u.2=true)(b:Ev u g i z (Ls B)):bg u g i z (.Name j v) (B.map λ d=>I d):=by
 have :=bg.list (j:=j) (v:=v) c b;rwa[ec]at this
def bg.strs(c:u.2=true)(b:Ev u g i z (Lt G)):bg u g i z (.Name j v) (G.map λ d=>S d):=by
 have :=bg.list (j:=j) (v:=v) c b;rwa[ec]at this
noncomputable def b6(l:List Int):List Int:=(l.filter λ x=>bF (x%65536<55296)||bF (57343<x%65536)).map (·%65536)
def AG(h:B.length<=100):Ev (a,true) (a0 [33]) [(ac "numbers",Ls B)] (AF [33]) (Ls (b6 B)):=by
 have e:(Ls (b6 B))=Li ((B.filter λ x=>bF (x%65536<55296)||bF (57343<x%65536)).map λ x=>.int (x%65536)):=by unfold b6 Ls;rw[ec];rfl
 simp only[e];refine Ev.fe [ac "x"] B (λ x=>I x) (λ x=>[(ac "x",I x)]) _ _ (by rfl) (bg.iR rfl Ev.nm) (λ _=>rfl) (λ x _=>.name) (λ x b=>?_) (λ x b _=>?_) (an h (by decide));·exact .one (.k7 (Tr.cmp aD.lt (Ev.bJ (bb.iM (by decide)) Ev.nm .int) .int) λ _=>Tr.cmp aD.gt (Ev.bJ (bb.iM (by decide)) Ev.nm .int) .int)
 ·exact Ev.bJ (bb.iM (by decide)) Ev.nm .int
section
set_option genInjectivity false
theorem qm:∀(b:List (Str×Jr))(n:Nat)(a:List (Str×ae))(x:Str),(x,Lz)∈b\/(∃c,(x,c)∈a)->∃c,(x,c)∈RG n b a
 |[],n,a,x,h=>by
   refine aH h (λ h=>?_) λ h=>?_;·cases h
   ·exact h|(m,d)::r,n,a,x,h=>by
   unfold RG;by_cases WK:d=Lz
   · subst WK;rw[if_pos (by rfl)];refine qm r (n+1) _ x ?_;rcases h with h|⟨c,h⟩
     · rcases aP.mp h with h|h;·cases h;exact .inr ⟨n,.head _⟩
       ·exact .inl h
     ·exact .inr ⟨c,.tail _ h⟩
   · rw[if_neg (by simpa using WK)];refine qm r n a x ?_;rcases h with h|h
     · rcases aP.mp h with h|h;·refine am (JU h) ?_;rintro rfl e;obtain rfl:=e;exact(WK rfl).elim
       ·exact .inl h
     ·exact .inr h
theorem t7(a:Str->Option Jr)(x:Str):∀(b:List (Str×ab))(m:Str->Option ab),x∉b.map (·.1)->bindL a b m x=m x
 |[],_,_=>rfl|(n,v)::r,m,h=>by
  unfold bindL;have c:x≠n:=λ e=>h (e▸.head _);rw[t7 a x r _ λ q=>h (.tail _ q)];split;·simp[c]
  ·rfl
theorem t8(a:Str->Option Jr)(x:Str):∀(b:List (Str×ab))(m:Str->Option ab),x∉b.map (·.1)->bindC a b m x=m x
 |[],_,_=>rfl|(n,v)::r,m,h=>by
  unfold bindC;have c:x≠n:=λ e=>h (e▸.head _);rw[t8 a x r _ λ q=>h (.tail _ q)];split;·rfl
  ·simp[c]
theorem t9(c:Str->Option Jr)(x:Str)(v:ab)(d:c x=some .local):∀(b:List (Str×ab))(m:Str->Option ab),(b.map (·.1)).Nodup->b.lookup x=some v->bindL c b m x=some v
 |[],_,_,h=>aQ h|(n,u)::r,m,g,h=>by
   refine am (Jd.mp (show(n::r.map (·.1)).Nodup from g)) λ e f=>?_;unfold bindL;rw[aN]at h;refine gy (M:=x==n) (λ a=>?_) λ a=>?_;·rw[a]at h;exact t9 c x v d r _ f h
   · obtain rfl:=pV a;rw[a]at h;obtain rfl:=ax h;rw[t7 c x r _ e,if_pos d];simp
theorem t'(c:Str->Option Jr)(x:Str)(v:ab)(d:c x≠some .local):∀(b:List (Str×ab))(m:Str->Option ab),(b.map (·.1)).Nodup->b.lookup x=some v->bindC c b m x=some v
 |[],_,_,h=>aQ h|(n,u)::r,m,g,h=>by
   refine am (Jd.mp (show(n::r.map (·.1)).Nodup from g)) λ e f=>?_;unfold bindC;rw[aN]at h;refine gy (M:=x==n) (λ a=>?_) λ a=>?_;·rw[a]at h;exact t' c x v d r _ f h
   · obtain rfl:=pV a;rw[a]at h;obtain rfl:=ax h;rw[t8 c x r _ e,if_neg d];simp
def FA(A:aq)(b:ae):Prop:=∃l,A.frames=some l/\∃e∈l,e.frame=some b
inductive ua(h:a7)(e:Env):Prop|mk(a:e.scope.kind≠.module)(L:ae)(o:Obj)(b:e.frame=some L)(c:314<=L)(d:h.get? L=some o)(g:∀f,o.data≠.fields f)
def cH(A:aq)(h:a7):Prop:=∃l,A.frames=some l/\∀e∈l,ua h e
structure dd(t:Bool)(A:aq)(h a:a7):Prop where
 keep:∀b o,(t=true->¬bC b/\¬FA A b)->h.get? b=some o->a.get? b=some o
 fr:∀b o,FA A b->(∀d,o.data≠.fields d)->h.get? b=some o->∃c,a.get? b=some {o with slots:=c}
def Kq(t:Bool)(A:aq)(s b:aa):Prop:=∃a c,b={s with heap:=a,toks:=c}/\dd t A s.heap a
def dd.of_keeps(k:KO s Vk):dd M o s Vk:=⟨λ b a _ e=>k b a e,λ b a _ _ e=>⟨a.slots,k b a e⟩⟩
def dd.trans{h i j:a7}(a:dd M o h i)(b:dd M o i j):dd M o h j:=⟨λ c g n e=>b.keep c g n (a.keep c g n e),λ c g f d e=>by exact ai (a.fr c g f d e) λ m k=>ai (b.fr c {g with slots:=m} f d k) λ p l=>⟨p,l⟩⟩
def dd.strict(a:dd ap o s Vk):KO s Vk:=λ b c e=>a.keep b c (λ q=>by cases q) e
def dd.loose(a:dd M o s Vk):dd true o s Vk:=⟨λ b c n e=>a.keep b c (λ _=>n rfl) e,a.fr⟩
def Kq.trans:Kq M o q H->Kq M o H VH->Kq M o q VH:=λ h b=>by
 refine aW h λ _ _ a k=>?_;obtain rfl:=a;refine aW b λ _ _ a c=>?_;obtain rfl:=a;exact dw _ _ rfl (k.trans c)
def Kp.kq:Kp q H->Kq M o q H|⟨_,_,e,k⟩=>⟨_,_,e,.of_keeps k⟩
def Kq.kp:Kq ap o q H->Kp q H|⟨_,_,e,k⟩=>⟨_,_,e,k.strict⟩
theorem Kq.loose:Kq M o q H->Kq true o q H|⟨_,_,e,k⟩=>⟨_,_,e,k.loose⟩
def Kq.ext:Kq M o q H->dd M o q.heap H.heap|⟨_,_,e,k⟩=>by subst e;exact k
def dd.frames(e:VW.frames=o.frames)(a:dd M o s Vk):dd M VW s Vk:=by
 have :FA VW=FA o:=by funext b;unfold FA;rw[e]
 exact⟨λ b c n=>a.keep b c (by rw[this]at n;exact n),λ b c f=>a.fr b c (by rw[this]at f;exact f)⟩
theorem Kq.frames(e:VW.frames=o.frames):Kq M o q H->Kq M VW q H|⟨_,_,a,k⟩=>⟨_,_,a,k.frames e⟩
def cH.fa(F:cH o s)(j:FA o h):314<=h/\∃f,s.get? h=some f/\∀n,f.data≠.fields n:=by
 refine aj λ p=>ak F λ l e k=>?_;obtain⟨r,i,x,m,q⟩:=j;cases aO e i;obtain⟨_,L,f,a,g,c,d⟩:=k x m;cases aO q a;exact p ⟨g,f,c,d⟩
def cH.move(F:cH o s)(k:∀b i,FA o b->(∀m,i.data≠.fields m)->s.get? b=some i->∃j,Vk.get? b=some j/\∀m,j.data≠.fields m):cH o Vk:=by
 refine ak F λ l e f=>⟨l,e,λ x n=>?_⟩;obtain⟨a,L,i,b,c,d,g⟩:=f x n;exact ak (k L i ⟨l,e,x,n,b⟩ g d) λ j p q=>⟨a,L,j,b,c,p,q⟩
def cH.ext(F:cH o s)(x:dd M o s Vk):cH o Vk:=F.move λ b c f d e=>let⟨g,a⟩:=x.fr b c f d e;⟨_,a,d⟩
def ff(A:aq)(b:ae):Prop:=¬bC b/\¬FA A b
def bC.lt(a:bC h):h<314:=by
 unfold bC c8 at a;simp only[JW]at a;rcases a with(a|a)|a<;>(rw[(Ky a)];decide)
def Ow(X:ae->Prop)(a:Env)(b:ae):Prop:=X b\/b=a.locals\/∃n,a.cells.lookup n=some b
def gI(a:Env)(b:ae):Prop:=b=a.locals\/∃n,a.cells.lookup n=some b
def aL(X:ae->Prop)(a:Env)(O:List ae)(b:ae):Prop:=Ow X a b\/b∈O
structure Cx where
 t:Bool:=ap
 cd:ab:=.none
 qual:Str:=aR
inductive OL|p(l:List bP)|m(l:List PV)
def RO(X:ae->Prop)(WL:a7)(a:List ab):OL->Prop
 |.p l=>∃b,ga (cb X WL) a l b|.m l=>aU X WL a l
theorem aU.shift(k:∀b o,¬w b->s.get? b=some o->¬VE b/\Vk.get? b=some o):∀{d:List ab}{c:List PV},aU w s d c->aU VE Vk d c:=λ r=>by induction r with
 |nil=>exact .nil|cons a _ e=>exact .cons (a.shift k) e
theorem RO.shift(k:∀b o,¬w b->s.get? b=some o->¬VE b/\Vk.get? b=some o):∀{l:OL},RO w s Vc l->RO VE Vk Vc l
 |.p _,⟨d,r⟩=>⟨d,vr (λ b o e=>let⟨a,c⟩:=k b o (dH e) (dm e);dW.mpr ⟨a,e' e,c⟩) r⟩|.m _,r=>aU.shift k r
def RO.b0{l:OL}(k:KX w s Vk)(r:RO w s Vc l):RO w Vk Vc l:=r.shift λ b o n e=>⟨n,k b o n e⟩
structure AH(X:ae->Prop)(A:aq)(a:Env)(c h:a7):Prop where
 tab:∀b,bC b->X b
 fa:∀b,FA A b->Ow X a b/\b<=a.locals
 dA:cH A h
 top:∃l,A.frames=some (a::l)old:∀b,X b->¬bC b->b<c.objs.size->∃o,c.get? b=some o/\¬bw o
inductive ub(X:ae->Prop)(WL:Env)(WK:List ae)(h:a7)(m:Str->Option ab)(y:Str)(l:OL):Prop|mk(a:ae)(b:List ab)(c:WL.kindOf y=some .local)(d:m y=some (.ref a))(e:a∈WK)(f:h.PlainList a b.toArray)(g:RO (aL X WL WK) h b l)
structure FB(x:Cx)(X:ae->Prop)(w:ar)(A:aq)(g:aw)(WK:Env)(d:aa)(i:List (Str×PV))(e:List (Str×OL))(m WN:Str->Option ab)(WL:List ae)(s:aa):Prop where
 rel:Kq x.t A d s
 ns:s.heap.Ns WK.locals m
 fresh:d.heap.objs.size<=WK.locals
 hg:314<=d.heap.objs.size
 cell:∀n c,WK.cells.lookup n=some c->s.heap.IsCell c (WN n)cells:WK.cells.Pairwise λ a b=>a.2≠b.2
 above:∀n c,(n,c)∈WK.cells->WK.locals<c
 er:bq (aL X WK WL) w g WK s.heap i
 new:∀b∈WL,d.heap.objs.size<=b/\¬Ow X WK b
 own:∀y l,e.lookup y=some l->ub X WK WL s.heap m y l
 gJ:∀b∈WL,∃h,s.heap.PlainList b h
 nodup:(e.map (·.1)).Nodup
 apart:∀y z l f a,e.lookup y=some l->e.lookup z=some f->m y=some (.ref a)->m z=some (.ref a)->y=z
 code:WK.code=x.cd
 frame:WK.frame=some WK.locals
 qual:x.t=true->WK.qual=x.qual
 bi:x.t=true->AH X A WK d.heap s.heap
 xc:x.t=true->∀b o,X b->d.heap.objs.size<=b->s.heap.get? b=some o->¬bw o
def Ns.slots(g:s.Ns h Ve)(k:∀o,s.get? h=some o->(∀d,o.data≠.fields d)->∃c,Vk.get? h=some {o with slots:=c}):Vk.Ns h Ve:=by
 refine aj λ l=>o2 g λ o f e i b r=>?_;obtain⟨c,j⟩:=k o i λ d q=>by rw[b]at q;cases q
 exact l (sJ _ f e j b r)
def FB.locals{x:Cx}{a:List (Str×OL)}(F:FB x w c o g E q i a Ve Vn Y H):314<=E.locals:=an F.hg F.fresh
def FB.qn{x:Cx}{M:List (Str×OL)}(F:FB x w c o g E q i M Ve Vn Y H)(WM:Kq x.t o q VH)(Q:x.t=true->cH o VH.heap)(WN:x.t=true->∀b f,w b->q.heap.objs.size<=b->VH.heap.get? b=some f->¬bw f)(J:VH.heap.Ns E.locals Ve)(z:∀n j,E.cells.lookup n=some j->∀f,H.heap.get? j=some f->VH.heap.get? j=some f)(L:∀b∈Y,∀f,H.heap.get? b=some f->VH.heap.get? b=some f)(k:KX (aL w E Y) H.heap VH.heap)(WL:aC c VH.heap)(N:Ex (aL w E Y) VH.heap):FB x w c o g E q i M Ve Vn Y VH where
 rel:=WM;ns:=J;fresh:=F.fresh;hg:=F.hg;cell n j h:=let⟨f,a,b⟩:=F.cell n j h;⟨f,z n j h f a,b⟩;cells:=F.cells;above:=F.above;er:=by
   have R:=F.er;refine⟨WL,R.scope,R.glob,R.blt,R.kind,N,λ y p e=>((R.vars y p e).imp (λ t=>?_) λ t=>?_),R.cells⟩
   · obtain⟨G,v,a,b,j⟩:=t;have :G=Ve:=a.eq_nsMap.trans F.ns.eq_nsMap.symm;subst this;exact⟨G,v,J,b,j.b0 k⟩
   ·obtain⟨j,v,a,⟨f,b,d⟩,r⟩:=t;exact⟨j,v,a,⟨f,z y j a f b,d⟩,r.b0 k⟩
 new:=F.new;own y l h:=by
   obtain⟨a,u,T,U,B,V,WK⟩:=F.own y l h;exact⟨a,u,T,U,B,V.at λ f e=>L a B f e,WK.b0 k⟩
 gJ b C:=let⟨u,e⟩:=F.gJ b C;⟨u,e.at λ f e=>L b C f e⟩;nodup:=F.nodup;apart:=F.apart;code:=F.code;frame:=F.frame;qual:=F.qual;bi D:=let⟨a,b,j,d,e⟩:=F.bi D;⟨a,b,Q D,d,e⟩;xc:=WN
def FB.kp{x:Cx}{j:List (Str×OL)}(F:FB x w c o g E q i j Ve Vn Y H)(k:Kp H VH):FB x w c o g E q i j Ve Vn Y VH:=F.qn (F.rel.trans k.kq) (λ d=>(F.bi d).dA.ext (k.kq (M:=true)).ext) (λ d b a h l e=>by
  refine ai (F.er.ex b (.inl (.inl h))) λ n f=>?_;have :=k.keep b n f;cases aO e this;exact F.xc d b a h l f) (F.ns.keeps k.keep) (λ _ _ _ a e=>k.keep _ a e) (λ _ _ a e=>k.keep _ a e) (λ b a _ e=>k.keep b a e) (F.er.left.keeps k.keep) (F.er.ex.keeps k.keep)
def aC.tabs{c:ar}(L:aC c s)(d:bC h):∃o,s.get? h=some o:=by
 unfold bC c8 at d;simp only[JW]at d;rcases d with(d|d)|d<;>(have e:h=_:=Ky d;subst e);·refine ak L.g8 λ f a _=>?_;exact⟨_,a⟩
 ·rcases L.g' with a|⟨_,a,_⟩<;>exact⟨_,a⟩
 ·refine ak L.g9 λ f a _=>?_;exact⟨_,a⟩
def FB.eU{x:Cx}{f:List (Str×OL)}(e:x.t=true)(F:FB x w c o g E q i f Ve Vn Y H)(d:¬Ow w E h):ff o h:=⟨λ a=>d (.inl ((F.bi e).tab h a)),λ a=>d ((F.bi e).fa h a).1⟩
def FB.no{x:Cx}{f:List (Str×OL)}(e:x.t=true)(F:FB x w c o g E q i f Ve Vn Y H)(d:E.cells.lookup j=some h):ff o h:=by
 have b:=F.above j h (mem_of_lookup d);exact⟨λ a=>absurd (bC.lt a) (b'.mpr (an F.locals (bn b))),λ a=>absurd b (b'.mpr ((F.bi e).fa h a).2)⟩
def FB.AI{x:Cx}{b:List (Str×OL)}(a:x.t=true)(F:FB x w c o g E q i b Ve Vn Y H):FA o E.locals:=by
 obtain⟨_,_,_,⟨l,e⟩,_⟩:=F.bi a;exact⟨_,e,E,.head _,F.frame⟩
def dd.there(E:dd M o s Vk)(L:aC c Vk)(T:M=true->cH o s)(e:s.get? h=some O):∃O,Vk.get? h=some O:=by
 by_cases g:M=true/\bC h;·exact L.tabs g.2
 · by_cases a:M=true/\FA o h
   · refine aj λ l=>?_;obtain⟨_,k,i,d⟩:=(T a.1).fa a.2;exact ai (E.fr h k a.2 d i) λ m j=>l ⟨_,j⟩
   ·exact⟨O,E.keep h O (λ f=>⟨λ q=>g ⟨f,q⟩,λ q=>a ⟨f,q⟩⟩) e⟩
def FB.kt{x:Cx}{v:List (Str×OL)}(f:x.t=true)(F:FB x w c o g E q i v Ve Vn Y H)(k:Kq true o H VH)(L:aC c VH.heap):FB x w c o g E q i v Ve Vn Y VH:=by
 have j:=k.ext;refine F.qn (F.rel.trans (f▸k)) (λ _=>(F.bi f).dA.ext j) (λ _ b a p u e=>?_) (Ns.slots F.ns λ a e d=>j.fr _ a (F.AI f) d e) (λ n y h a e=>j.keep y a (λ _=>F.no f h) e) (λ b p a e=>j.keep b a (λ _=>F.eU f (F.new b p).2) e) (λ b a C e=>j.keep b a (λ _=>F.eU f λ l=>C (.inl l)) e) L λ b l=>?_
 · refine ai (F.er.ex b (.inl (.inl p))) λ D t=>?_;by_cases r:FA o b
   · obtain⟨_,G,z,d⟩:=(F.bi f).dA.fa r;refine ai (j.fr b G r d z) λ N B=>?_;cases aO e B;exact λ J=>by refine ak J λ M l _=>?_;exact d M l
   · have :=j.keep b D (λ _=>⟨(λ l=>absurd (bC.lt l) (b'.mpr (an F.hg u))),r⟩) t;cases aO e this;exact F.xc f b a p u t
 exact ai (F.er.ex b l) λ a e=>j.there L (λ _=>(F.bi f).dA) e
def FB.hO{x:Cx}{a:List (Str×OL)}(F:FB x w c o g E q i a Ve Vn Y H):∀b∈Y,¬Ow w E b/\(x.t=true->ff o b):=λ b h=>⟨(F.new b h).2,λ t=>F.eU t (F.new b h).2⟩
end
variable{A:Cx}{D V0:List (Str×OL)}{VX:OL}
noncomputable def iS:List (Str×OL)->List (Str×PV)
 |[]=>[]|(x,.p l)::r=>(x,Li l)::iS r|(_,.m _)::r=>iS r
noncomputable def seen(a:List (Str×PV))(b:List (Str×OL)):List (Str×PV):=iS b++a
noncomputable def bu(x:Str)(a:List (Str×OL)):List (Str×OL):=a.filter λ q=>q.1 !=x
def h1(h:(bu j D).lookup Vd=some VX):Vd≠j/\D.lookup Vd=some VX:=by
 unfold bu at h;rw[la (λ n=>n !=j)]at h;by_cases q:Vd=j;·subst q;simp at h
 ·exact⟨q,by simpa[q]using h⟩
def ee(a:List (Str×OL)):Prop:=(a.map (·.1)).Nodup
theorem nq{x:Str}:∀{c:List (Str×OL)}{p:PV},ee c->(iS c).lookup x=some p->∃l,c.lookup x=some (.p l)/\p=Li l
 |[],_,_,h=>aQ h|(n,.p l)::r,p,b,h=>by
   unfold iS at h;simp only[aN]at h;simp only[aN];cases a:x==n with
   |true=>rw[a]at h;obtain rfl:=ax h;exact bj l rfl rfl|false=>rw[a]at h;exact nq (Jd.mp b).2 h
 |(n,.m l)::r,p,b,h=>by
   unfold iS at h;simp only[aN];refine am (Jd.mp b) λ f d=>?_;rcases a:x==n with _|_;·exact nq d h
   · refine ak (nq d h) λ g e _=>?_;have :=eF e;rw[pV a]at this;exact(f (hp.mpr ⟨_,this,rfl⟩)).elim
def ee.drop(h:ee D):ee (bu j D):=by
 unfold ee bu at*;exact List.Nodup.sublist (UH _ (List.filter_sublist)) h
def ee.put(h:ee D):ee ((j,VX)::bu j D):=by
 refine Jd.mpr ⟨λ q=>(ak (hp.mp q) λ y a e=>?_),ee.drop h⟩;have :=(hu.mp a).2;rw[e]at this;simp at this
def Kq.hh(j:q.heap.objs.size<=h)(k:Kq M o q H)(g:∀b c,b≠h->H.heap.get? b=some c->s.get? b=some c):Kq M o q {H with heap:=s,toks:=a}:=by
 refine aW k λ m p e E=>?_;subst e;have ne:∀b c,q.heap.get? b=some c->b≠h:=λ b c e=>br (aJ (az e) j);exact⟨s,a,rfl,λ b c n e=>g b c (ne b c e) (E.keep b c n e),λ b c f d e=>(ai (E.fr b c f d e) λ l i=>⟨l,g b _ (ne b c e) i⟩)⟩
def aC.hh(L:aC c s)(d:314<=h)(g:∀o,s.get? h=some o->¬bw o)(i:∀b o,b≠h->s.get? b=some o->Vk.get? b=some o):aC c Vk:=L.move λ b o q e=>i b o (λ f=>by
  obtain rfl:=f.symm;refine aH q (λ q=>?_) λ q=>?_;·exact absurd q.lt (b'.mpr d)
  ·exact g o e q) e
def FB.reads(F:FB A w c o g E q i D Ve Vn Y H):bq (Ow w E) c g E H.heap (seen i D):=by
 have R:=F.er;refine⟨R.left,R.scope,R.glob,R.blt,R.kind,λ b d=>R.ex b (.inl d),λ A p e=>?_,R.cells⟩;unfold seen at e;rw[hd]at e;refine ey (x:=(iS D).lookup A) (λ h=>?_) λ B h=>?_
 · rw[h]at e;exact(R.vars A p (by simpa using e)).imp (λ d=>by obtain⟨j,v,a,b,f⟩:=d;exact⟨j,v,a,b,f.mono λ b d=>.inl d⟩) λ d=>by obtain⟨j,v,a,b,f⟩:=d;exact⟨j,v,a,b,f.mono λ b d=>.inl d⟩
 · rw[h]at e;obtain rfl:=ax e;refine ak (nq F.nodup h) ?_;rintro l y rfl;obtain⟨a,C,k,n,r,t,z,u⟩:=F.own A _ y;unfold cc;exact k.symm▸⟨Ve,_,F.ns,n,.gD (F.new a r).2 t (nd (λ b d=>.inl d) u)⟩
def Ns.c9(n:s.Ns h Ve):∃o,s.get? h=some o/\∀b,o.data≠.fields b:=by
 refine aj λ e=>o2 n λ o g f d c _=>e ?_;exact bj o d (λ b q=>by rw[c]at q;cases q)
def FB.eD(F:FB A w c o g E q i D Ve Vn Y H):E.scope.kind=.function:=by refine(F.er.scope).symm▸?_;exact F.er.kind
def FB.cB(F:FB A w c o g E q i D Ve Vn Y H)(y:Str):E.kindOf y=g.names.lookup y:=by unfold KJ;rw[F.er.scope]
def FB.putL{C:Str->Option ab}(F:FB A w c o g E q i D Ve Vn Y H)(J:s.Ns E.locals C)(T:Jq E.locals H.heap s)(hO:∀b,b∈Y->b∈V4)(M:∀b∈V4,(q.heap.objs.size<=b/\¬Ow w E b)/\∃u,H.heap.PlainList b u)(WO:∀y p,VN.lookup y=some p->cc (aL w E V4) E s y p)(WN:∀y l,V0.lookup y=some l->ub w E V4 s C y l)(WM:ee V0)(U:∀y z l l' Q,V0.lookup y=some l->V0.lookup z=some l'->C y=some (.ref Q)->C z=some (.ref Q)->y=z):FB A w c o g E q VN V0 C Vn V4 {H with heap:=s,toks:=a}:=by
 have t:∀b j,b≠E.locals->H.heap.get? b=some j->s.get? b=some j:=λ b j WL e=>T.extBut b j WL e;have R:=F.er;refine⟨F.rel.hh F.fresh t,J,F.fresh,F.hg,λ n G h=>(F.cell n G h).sameBut T ((λ n G h=>IA (F.above n G (mem_of_lookup h))) n G h),F.cells,F.above,⟨R.left.hh F.locals (λ j e=>?_) t,R.scope,R.glob,R.blt,R.kind,λ b k=>?_,WO,R.cells⟩,λ b r=>(M b r).1,WN,λ b r=>?_,WM,U,F.code,F.frame,F.qual,λ L=>?_,λ L b j r V e=>?_⟩
 · refine ak (Ns.c9 F.ns) λ N v d=>?_;cases aO e v;exact λ⟨u,k,_⟩=>d u k
 · by_cases r:b=E.locals;·subst r;refine ak (Ns.c9 J) λ j e _=>?_;exact⟨j,e⟩
   · rcases k with k|k;·refine ai (F.er.ex b (.inl k)) λ j e=>?_;exact⟨j,t b j r e⟩
     ·obtain⟨_,_,_,e⟩:=M b k;exact⟨_,t b _ r e⟩
 · obtain⟨⟨_,n⟩,u,e⟩:=M b r;exact⟨u,e.at λ j e=>t b j (λ k=>n (.inr (.inl k))) e⟩
 · refine{F.bi L with dA:=(F.bi L).dA.move λ y j f k e=>?_};by_cases B:y=E.locals;·subst B;exact Ns.c9 J
   ·exact⟨j,t y j B e,k⟩
 · by_cases B:b=E.locals
   · subst B;refine ak (Ns.c9 J) λ N v d=>?_;cases aO e v;exact λ⟨u,k,_⟩=>d u k
   · refine aj λ WP=>ai (F.er.ex b (.inl (.inl r))) λ N v=>?_;have :=t b N B v;cases aO e this;exact WP (F.xc L b j r V v)
def cc.uc(g:cc w E s j V)(x:s.Ns E.locals Ve)(t:Vk.Ns E.locals (λ u=>if u=Vd then some U else Ve u))(d:Jq E.locals s Vk)(l:w E.locals)(i:∀n c,E.cells.lookup n=some c->c≠E.locals)(A:j≠Vd):cc w E Vk j V:=by
 have f:KX w s Vk:=λ b o C e=>d.extBut b o (λ q=>C (q▸l)) e;refine g.imp (λ q=>?_) λ q=>?_
 · obtain⟨B,u,a,b,c⟩:=q;have k:B=Ve:=a.eq_nsMap.trans x.eq_nsMap.symm;subst k;exact⟨_,u,t,(if_neg A).trans b,c.b0 f⟩
 · obtain⟨c,u,a,b,r⟩:=q;exact⟨c,u,a,b.sameBut d (i j c a),r.b0 f⟩
def FB.store(F:FB A w c o g E q i D Ve Vn Y H)(WX:g.names.lookup j=some .local\/g.names.lookup j=some .cell)(W8:RV (aL w E Y) H.heap U V)(W6:∀W4 W2 W',FB A w c o g E q ((j,V)::i) (bu j D) W2 W' Y W4->KX (gI E) H.heap W4.heap->VO () W4):aA (au P0 c) o (OD E j U) VO y H:=by
 have eD:=F.eD;have cB:=F.cB j;have WZ:=F.ns;rcases WX with WX|WX<;>simp only[WX]at cB
 · refine N2 cB WZ (λ h' WO G=>W6 _ (λ B=>if B=j then some U else Ve B) Vn (F.putL WO G (λ _ k=>k) (λ b T=>⟨F.new b T,F.gJ b T⟩) (λ B k e=>?_) (λ B l h=>?_) (ee.drop F.nodup) λ B u l l' a M N WL WN=>?_) λ b t WM e=>G.extBut b t (λ k=>WM (.inl k)) e) (by refine eD.symm▸?_;rfl);all_goals have WQ:KX (aL w E Y) H.heap h':=λ b t WM e=>G.extBut b t (λ k=>WM (.inl (.inr (.inl k)))) e
   · simp only[aN]at e;by_cases C:B=j
     · obtain rfl:=C.symm;rw[beq_self_eq_true]at e;obtain rfl:=ax e;unfold cc;exact cB.symm▸⟨_,U,WO,by simp,W8.b0 WQ⟩
     · rw[beq_eq_false_iff_ne.mpr C]at e;exact(F.er.vars B k e).uc WZ WO G (.inl (.inr (.inl rfl))) (λ n L h=>IA (F.above n L (mem_of_lookup h))) C
   · refine aj λ WK=>am (h1 h) λ C h=>?_;obtain⟨a,vs,M,N,WL,WN,WY⟩:=F.own B l h;exact WK ⟨a,vs,M,by simp[C,N],WL,WN.at λ t e=>G.extBut _ t (λ k=>(F.new a WL).2 (.inr (.inl k))) e,WY.b0 WQ⟩
   · refine am (h1 M) λ C M=>am (h1 N) λ W7 N=>?_;simp only[C,W7,if_false]at WL WN;exact F.apart B u l l' a M N WL WN
 · refine ai (KZ.mp (F.er.cells j (.inl cB))) λ L J=>wpAny_storeName_cell eD cB J (F.cell j L J) λ h' WW G=>W6 _ Ve (λ B=>if B=j then some U else Vn B) ?_ λ b t WM e=>G.extBut b t (λ k=>WM (.inr ⟨j,k▸J⟩)) e;have WV:=F.above j L (mem_of_lookup J);have WQ:KX (aL w E Y) H.heap h':=λ b t WM e=>G.extBut b t (λ k=>WM (.inl (.inr (.inr ⟨j,k▸J⟩)))) e;have WP:∀b t,b≠L->H.heap.get? b=some t->h'.get? b=some t:=λ b t WM e=>G.extBut b t WM e;have WO:=WZ.sameBut G (br WV);have W5:∀n d,n≠j->E.cells.lookup n=some d->d≠L:=λ n d WO h k=>WO (name_of_addr F.cells (mem_of_lookup h) (k▸mem_of_lookup J));have W9:∀t,H.heap.get? L=some t->¬bw t:=λ t e⟨vs,k,_⟩=>by
     refine ak (F.cell j L J) λ W3 WS d=>?_;cases aO e WS;rw[k]at d;cases d
   have R:=F.er;refine⟨F.rel.hh (an F.fresh (bn WV)) WP,WO,F.fresh,F.hg,λ n d h=>?_,F.cells,F.above,⟨R.left.hh (an F.locals (bn WV)) W9 WP,R.scope,R.glob,R.blt,R.kind,λ b k=>?_,λ B k e=>?_,R.cells⟩,F.new,λ B l h=>?_,λ b T=>(let⟨vs,e⟩:=F.gJ b T;⟨vs,e.at λ t e=>WP b t (λ k=>(F.new b T).2 (.inr (.inr ⟨j,k▸J⟩))) e⟩),(ee.drop F.nodup),λ B u l l' a M N WL WN=>?_,F.code,F.frame,F.qual,λ WT=>?_,λ WT b t T Xa e=>?_⟩
   · by_cases W0:n=j
     · obtain rfl:=W0.symm;cases aO J h;simpa using WW
     · rw[if_neg W0];exact(F.cell n d h).sameBut G (W5 n d W0 h)
   · by_cases T:b=L;·obtain rfl:=T.symm;refine ak WW λ t e _=>?_;exact⟨t,e⟩
     ·refine ai (F.er.ex b k) λ t e=>?_;exact⟨t,WP b t T e⟩
   · simp only[aN]at e;by_cases C:B=j
     · obtain rfl:=C.symm;rw[beq_self_eq_true]at e;obtain rfl:=ax e;unfold cc;exact cB.symm▸⟨L,U,J,WW,W8.b0 WQ⟩
     · rw[beq_eq_false_iff_ne.mpr C]at e;refine(F.er.vars B k e).imp (λ k=>?_) λ k=>?_
       · refine aj λ WK=>?_;obtain⟨W2,u,a,b,r⟩:=k;exact WK ⟨W2,u,a.sameBut G (br WV),b,r.b0 WQ⟩
       · refine aj λ WK=>?_;obtain⟨d,u,a,b,r⟩:=k;exact WK ⟨d,u,a,b.sameBut G (W5 B d C a),r.b0 WQ⟩
   · refine aj λ WK=>am (h1 h) λ C h=>?_;obtain⟨a,vs,M,N,WL,WN,WY⟩:=F.own B l h;exact WK ⟨a,vs,M,N,WL,WN.at λ t e=>WP _ t (λ k=>(F.new a WL).2 (.inr (.inr ⟨j,k▸J⟩))) e,WY.b0 WQ⟩
   ·exact am (h1 M) λ C M=>am (h1 N) λ W7 N=>F.apart B u l l' a M N WL WN
   ·exact{F.bi WT with dA:=(F.bi WT).dA.move λ B t f k e=>⟨t,WP B t (λ C=>by obtain rfl:=C.symm;exact(F.no WT J).2 f) e,k⟩}
   · by_cases C:b=L
     · refine aj λ WK=>?_;obtain rfl:=C.symm;refine ak WW λ W3 WS d=>?_;cases aO e WS;refine WK ?_;exact λ⟨vs,k,_⟩=>by rw[d]at k;cases k
     · refine aj λ WK=>ai (R.ex b (.inl (.inl T))) λ W3 WS=>?_;have :=WP b W3 C WS;cases aO e this;exact WK (F.xc WT b t T Xa WS)
def FB.ud(F:FB A w c o g E q i D Ve Vn Y H)(WU:g.names.lookup j=some .local)(WT:q.heap.objs.size<=h)(T:¬aL w E Y h)(WO:H.heap.PlainList h Vc.toArray)(W0:RO (aL w E (h::Y)) H.heap Vc VX)(WV:∀d p,i.lookup d=some p->cc (aL w E (h::Y)) E H.heap d p)(WW:∀d l,D.lookup d=some l->∃b Vc,Ve d=some (.ref b)/\b∈Y/\H.heap.PlainList b Vc.toArray/\RO (aL w E (h::Y)) H.heap Vc l)(WS:∀V WX,FB A w c o g E q (i.filter λ f=>f.1 !=j) ((j,VX)::bu j D) WX Vn (h::Y) V->KX (gI E) H.heap V.heap->VO () V):aA (au P0 c) o (OD E j (.ref h)) VO y H:=by
 have cB:=F.cB j;have WL:=F.ns;simp only[WU]at cB;have WZ:h∉Y:=λ f=>T (.inr f);have WY:h≠E.locals:=λ f=>T (.inl (.inr (.inl f)));refine N2 cB WL (λ h' WK G=>WS _ (λ d=>if d=j then some (.ref h)else Ve d) (F.putL WK G (λ _ f=>.tail _ f) (λ b M=>?_) (λ d f e=>?_) (λ d l r=>?_) (ee.put F.nodup) λ d u l N b L C t B=>?_) λ b v U e=>G.extBut b v (λ f=>U (.inl f)) e) (by refine F.eD.symm▸?_;rfl);all_goals have WN:∀b v,¬aL w E (h::Y) b->H.heap.get? b=some v->h'.get? b=some v:=λ b v U e=>G.extBut b v (λ f=>U (.inl (.inr (.inl f)))) e
 · rcases aP.mp M with rfl|M;·exact⟨⟨WT,λ f=>T (.inl f)⟩,_,WO⟩
   ·exact⟨F.new b M,F.gJ b M⟩
 · rw[la (λ n=>n !=j)]at e;by_cases k:d=j;·subst k;simp at e
   ·exact(WV d f (by simpa[k]using e)).uc WL WK G (.inl (.inr (.inl rfl))) (λ n WP r=>IA (F.above n WP (mem_of_lookup r))) k
 · simp only[aN]at r;by_cases k:d=j
   · obtain rfl:=k.symm;rw[beq_self_eq_true]at r;obtain rfl:=ax r;exact⟨h,Vc,cB,by simp,.head _,WO.at λ v e=>G.extBut _ v WY e,W0.b0 WN⟩
   · rw[beq_eq_false_iff_ne.mpr k]at r;refine aj λ W1=>am (h1 r) λ _ r=>di (WW d l r) λ b Vc C t B WR=>?_;obtain⟨_,_,L,_⟩:=F.own d l r;exact W1 ⟨b,Vc,L,by simp[k,C],.tail _ t,B.at λ v e=>G.extBut _ v (λ f=>(F.new b t).2 (.inr (.inl f))) e,WR.b0 WN⟩
 · have go:∀d(l:OL),((j,VX)::bu j D).lookup d=some l->d≠j->D.lookup d=some l:=λ d l r k=>by
     simp only[aN,beq_eq_false_iff_ne.mpr k]at r;exact(h1 r).2
   have WM:∀d l,D.lookup d=some l->Ve d≠some (.ref h):=λ d l r e=>by
     obtain⟨b,_,_,C,t,_⟩:=F.own d l r;cases aO e C;exact WZ t
   by_cases k:d=j<;>by_cases J:u=j;·simp only[k,J]
   · simp only[k,if_true]at t;cases t;simp only[J,if_false]at B;exact(WM u N (go u N C J) B).elim
   · simp only[J,if_true]at B;cases B;simp only[k,if_false]at t;exact(WM d l (go d l L k) t).elim
   · simp only[k,J,if_false]at t B;exact F.apart d u l N b (go d l L k) (go u N C J) t B
section
set_option genInjectivity false
inductive Go|next(a:List (Str×PV))(b:List (Str×OL))|cont(a:List (Str×PV))(b:List (Str×OL))|brk(a:List (Str×PV))(b:List (Str×OL))|ret(p:PV)
def h2(x:Cx)(A:aq)(a:Env)(O:List ae)(b:ae):Prop:=gI a b\/b∈O\/(x.t=true/\(bC b\/FA A b))
structure aZ(WN:Cx)(WL:aq)(X:ae->Prop)(WM:Env)(WK:List ae)(s:aa)(a:List ae)(c:aa):Prop where
 keep:KX (h2 WN WL WM WK) s.heap c.heap
 own:∀b∈a,b∈WK\/s.heap.get? b=none
 sub:∀b∈WK,b∈a
 eV:∀b∈a,¬Ow X WM b/\(WN.t=true->ff WL b)
def aZ.trans{O j l:List ae}(a:aZ A o w E O q j H)(b:aZ A o w E j H l VH):aZ A o w E O q l VH:=by
 have n:∀b g,¬h2 A o E O b->q.heap.get? b=some g->¬h2 A o E j b:=λ b g k e d=>by
   refine ez d (λ d=>?_) (λ d=>?_) λ d=>?_;·exact k (.inl d)
   · rcases a.own b d with d|d;·exact k (.inr (.inl d))
     ·rw[e]at d;exact c7 d
   ·exact k (.inr (.inr d))
 refine⟨λ c g m e=>b.keep c g (n c g m e) (a.keep c g m e),λ c i=>?_,λ c i=>b.sub c (a.sub c i),b.eV⟩;rcases b.own c i with d|d;·exact a.own c d
 · rcases e:q.heap.get? c with _|g;·exact .inr rfl
   · by_cases h:c∈O;·exact .inl h
     · by_cases f:h2 A o E O c
       · refine ez f (λ f=>?_) (λ f=>?_) λ p=>?_;·exact((b.eV c i).1 (.inr f)).elim
         ·exact(h f).elim
         ·exact am p λ t f=>(f.elim ((b.eV c i).2 t).1 ((b.eV c i).2 t).2).elim
       ·rw[a.keep c g f e]at d;exact c7 d
def aZ.bR(hO:∀b∈Y,¬Ow w E b/\(A.t=true->ff o b))(k:Kp q H):aZ A o w E Y q Y H:=⟨λ b a _ e=>k.keep b a e,λ b h=>.inl h,λ _ h=>h,hO⟩
def aZ.dn(hO:∀b∈Y,¬Ow w E b/\(A.t=true->ff o b))(k:KX (gI E) q.heap H.heap):aZ A o w E Y q Y H:=⟨λ b c a e=>k b c (λ d=>a (.inl d)) e,λ b h=>.inl h,λ _ h=>h,hO⟩
inductive gK(x:Cx)(X:ae->Prop)(w:ar)(A:aq)(f:aw)(c:Env)(g:aa)(O:List ae)(s:aa)(h:List (Str×PV))(i:List (Str×OL))(d:aa):Prop|mk(m e:Str->Option ab)(a:List ae)(F:FB x X w A f c g h i m e a d)(b:aZ x A X c O s a d)
inductive AJ(t:Bool)(X:ae->Prop)(w:ar)(A:aq)(WK:Env)(b:aa)(f:PF)(a:aa)(p:PV):Prop|mk(v:ab)(e:f=.ret v)(r:RV (Ow X WK) a.heap v p)(k:Kq t A b a)(L:aC w a.heap)(c:∃m,a.heap.Ns WK.locals m)
def c'(x:Cx)(X:ae->Prop)(w:ar)(A:aq)(g:aw)(c:Env)(e:aa)(O:List ae)(s:aa)(f:PF)(d:aa):Go->Prop
 |.next a b=>f=.next/\gK x X w A g c e O s a b d|.cont a b=>f=.cont/\gK x X w A g c e O s a b d|.brk a b=>f=.brk/\gK x X w A g c e O s a b d|.ret p=>AJ x.t X w A c e f d p
def St(x:Cx)(k:Lv)(a:aw)(e:List (Str×PV))(h:List (Str×OL))(st:Il)(g:Go):Prop:=∀(X:ae->Prop)(WL:ar)(A:aq),Rm k A->∀(WK:Env)(b s:aa)(E:ab->aa->Prop)m c O,FB x X WL A a WK b e h m c O s->aA (au P0 WL) A (exec st WK) (λ f d=>c' x X WL A a WK b O s f d g) E s
def ag(x:Cx)(k:Lv)(a:aw)(e:List (Str×PV))(h:List (Str×OL))(WM:List Il)(g:Go):Prop:=∀(X:ae->Prop)(WL:ar)(A:aq),Rm k A->∀(WK:Env)(b s:aa)(E:ab->aa->Prop)m c O,FB x X WL A a WK b e h m c O s->aA (au P0 WL) A (RF WM WK) (λ f d=>c' x X WL A a WK b O s f d g) E s
def ag.nil:ag A u g i D [] (.next i D):=λ X w b d c e s E m a O F=>J2 ⟨rfl,m,a,O,F,.bR F.hO (Kp.refl s)⟩
def c'.after{e s i d:aa}(a:aZ A o w E Y s V4 i){h:Go}(H:c' A w c o g E e V4 i WB d h):c' A w c o g E e Y s WB d h:=by
 have B:∀{j k},gK A w c o g E e V4 i j k d->gK A w c o g E e Y s j k d:=λ p=>by obtain⟨m,n,l,F,b⟩:=p;exact⟨m,n,l,F,a.trans b⟩
 cases h with
 |next=>exact⟨H.1,B H.2⟩|cont=>exact⟨H.1,B H.2⟩|brk=>exact⟨H.1,B H.2⟩|ret=>exact H
def ag.cons{d:Go}(h:St A u g i D V1 (.next VN V0))(t:ag A u g VN V0 Vp d):ag A u g i D (V1::Vp) d:=λ X w b j c l s E m p O F=>ii (aG (h X w b j c l s E m p O F) (λ f z y=>by
  obtain⟨e,v,r,o,n,a⟩:=y;subst e;exact aG (t X w b j c l z E v r o n) (λ f B q=>q.after a) λ _ _ A=>A) λ _ _ A=>A)
def AK:Go->Prop|.next _ _=>False|_=>True
def ag.last{a:Go}(h:St A u g i D V1 a)(l:AK a):ag A u g i D (V1::Vp) a:=λ X w b j d y s E m c O F=>ii (aG (h X w b j d y s E m c O F) (λ f z q=>by cases a with
  |next=>exact l.elim|cont=>obtain⟨e,r⟩:=q;subst e;exact⟨rfl,r⟩|brk=>obtain⟨e,r⟩:=q;subst e;exact⟨rfl,r⟩|ret=>obtain⟨v,e,n,o,p,t⟩:=q;subst e;exact⟨v,rfl,n,o,p,t⟩) λ _ _ A=>A)
inductive eW:PV->Prop|int{n}:eW (I n)|str{WN}:eW (S WN)|bool{WK}:eW (Bo WK)|none:eW (.d .none)|raw{WM}:eW (.raw WM)
def eW.any(a:eW V)(r:RV w s U V):RV VE Vk U V:=by cases a with
 |int=>refine ai r.int ?_;rintro t rfl;exact .mkInt|str=>refine ai r.str ?_;rintro t rfl;exact .mkStr|bool=>obtain rfl:=r.bool;exact .k8|none=>refine ai r λ b r=>?_;refine am (hb r) ?_;rintro rfl _;exact⟨_,.none⟩|raw=>exact r
noncomputable def Sub:List (Str×PV)->List (Str×PV)->Prop
 |[],_=>True|q::r,a=>a.lookup q.1=some q.2/\Sub r a
theorem Sub.look:∀{d c:List (Str×PV)},Sub d c->∀y p,d.lookup y=some p->c.lookup y=some p
 |[],_,_,_,_,h=>aQ h|(n,a)::r,c,⟨e,f⟩,y,p,h=>by
  rw[aN]at h;refine gy (M:=y==n) (λ b=>?_) λ b=>?_;·rw[b]at h;exact f.look y p h
  ·rw[b]at h;obtain rfl:=ax h;rw[pV b];exact e
def FB.weaken(F:FB A w c o g E q i D Ve Vn Y H)(h:Sub VN i):FB A w c o g E q VN D Ve Vn Y H:={F with er:={F.er with vars:=λ y p e=>F.er.vars y p (h.look y p e)}}
def ag.weaken{a:Go}(h:ag A u g VN D Vp a)(f:Sub VN i):ag A u g i D Vp a:=λ X w b e d j s E m c O F=>h X w b e d j s E m c O (F.weaken f)
def St.ret(h:Ev u g (seen i D) z V):St A u g i D (.Return (some z) v) (.ret V):=λ X w d a j n s E m f O F=>M2 (h.use a F.reads (Kp.refl s) λ c l b u _ R=>⟨c,rfl,b,F.rel.trans u.kq,R.left,m,F.ns.keeps u.keep⟩)
noncomputable def ce(a:aw)(x:Str):Bool:=match a.names.lookup x with|some .local=>true|some .cell=>true|_=>ap
def dL(h:ce g j=true):g.names.lookup j=some .local\/g.names.lookup j=some .cell:=by
 unfold ce at h;revert h;rcases g.names.lookup j with _|a;·intro h;cases h
 ·cases a<;>first|(intro h;cases h;done)|(intro _;exact .inl rfl)|(intro _;exact .inr rfl)
def St.assign(h:Ev u g i z V)(l:ce g j=true)(f:autoParam (∀a,ME z (some (.Name j v)) J.line a=jq ap) cN):St A u g i D (.Assign [.Name j v] z J) (.next ((j,V)::i) (bu j D)):=λ X w r d a C s E m t O F=>Jf (h.use d F.er (Kp.refl s) λ G y o u _ _=>(F.kp u).store (dL l) o λ B n c b q=>⟨rfl,n,c,O,b,(aZ.bR F.hO u).trans (.dn F.hO q)⟩) (f a)
def St.gL(h:Ev u g (seen i D) z V)(f:eW V)(n:ce g j=true)(l:autoParam (∀a,ME z (some (.Name j v)) J.line a=jq ap) cN):St A u g i D (.Assign [.Name j v] z J) (.next ((j,V)::i) (bu j D)):=λ X w t d a G s E m y O F=>Jf (h.use d F.reads (Kp.refl s) λ H B r u _ _=>(F.kp u).store (dL n) (f.any r) λ C o c b q=>⟨rfl,o,c,O,b,(aZ.bR F.hO u).trans (.dn F.hO q)⟩) (l a)
def St.ite{d:Go}(y:Tr u g (seen i D) z M)(p:M=true->ag A u g i D Vp d)(r:M=ap->ag A u g i D Wg d):St A u g i D (.If z Vp Wg v) d:=λ X w h e l o s E m j O F=>Pt (y.use e F.reads (Kp.refl s) λ n u _ _=>by cases M with
  |true=>exact aG (p rfl X w h e l o n E m j O (F.kp u)) (λ f B q=>q.after (.bR F.hO u)) λ _ _ A=>A|false=>exact aG (r rfl X w h e l o n E m j O (F.kp u)) (λ f B q=>q.after (.bR F.hO u)) λ _ _ A=>A)
def St.fL(B:i.lookup j=some (I C))(y:Ev u g (seen i D) z (I Vq))(c:ce g j=true)(p:autoParam ((j==("__classdict__":Str))=ap) ew):St A u g i D (.AugAssign (.Name j v) .Add z J) (.next ((j,I (C+Vq))::i) (bu j D)):=λ X w Q o U Y s E m T O F=>by
 refine wpAny_AugAssign_Name (aG (tJ F.er B (by rcases dL c with q|q;exact .inl q;exact .inr (.inl q)) p) (λ WM N L=>?_) λ _ _ A=>A);obtain⟨n,r⟩:=L;subst n;obtain⟨t,rfl⟩:=r.int;refine y.use o F.reads (Kp.refl _) λ WL f M G _ _=>?_;obtain⟨WK,rfl⟩:=M.int;refine iadd_int ?_;have d:Kp N {f with toks:=f.toks+1}:=G.trans Kp.toks;exact(F.kp d).store (dL c) .mkInt λ V H l h q=>⟨rfl,H,l,O,h,(aZ.bR F.hO d).trans (.dn F.hO q)⟩
def St.cont:St A u g i D (.Continue v) (.cont i D):=λ X w b d c e s E m a O F=>wpAny_Continue ⟨rfl,m,a,O,F,.bR F.hO (Kp.refl s)⟩
def St.brk:St A u g i D (.Break v) (.brk i D):=λ X w b d c e s E m a O F=>wpAny_Break ⟨rfl,m,a,O,F,.bR F.hO (Kp.refl s)⟩
def St.doc:St A u g i D (.Expr (.Constant (.str j) a v) J) (.next i D):=λ X w c e d f s E m b O F=>O' (Ti ⟨rfl,m,b,O,F.kp Kp.toks,.bR F.hO Kp.toks⟩) (by unfold On;rw[F.er.scope,F.er.kind];rfl)
end
variable{VY:Go}
noncomputable def AL:Data->Option It|.func f=>some f|_=>none
noncomputable def ue:ab->Option Str|.str x _=>some x|_=>none
noncomputable def qo:Data->Option Str|.fields a=>(a[1]?:Option ab).bind ue|_=>none
noncomputable def ll(P:a3)(a:ae):Option It:=((d8 P).find? (·.1==a)).bind λ q=>AL q.2.data
noncomputable def qp(P:a3)(a:ae):Option Str:=((d8 P).find? (·.1==a)).bind λ q=>qo q.2.data
def aC.fin(L:aC c s){g:Data->Option Vb}{x:Vb}(e:((d8 c.params).find? (·.1==h)).bind (λ q=>g q.2.data)=some x)(k:c8 h=ap):∃o,s.get? h=some o/\g (gf o).data=some x:=by
 refine aj λ l=>ak (dg.mp e) λ q b d=>?_;have f:q.1=h:=pV (S3 (p:=λ p:Nat×Obj=>p.1==h) b);subst f;refine ak (L.objs _ (PZ b) k) λ o j i=>?_;exact l (bj o j (i▸d))
def aC.fn(L:aC c s)(e:ll c.params h=some Wp)(g:c8 h=ap):∃o doc,s.get? h=some o/\o.data=.func {Wp with doc:=doc}:=by
 refine ak (L.fin e g) λ j d e=>?_;obtain⟨k,l,i,m⟩:=j;cases i with
 |func b=>obtain rfl:=ax e;exact dw _ b.doc d rfl|_=>exact aQ e
def uf(e:qo (.fields Vz)=some j):∃t,Vz[1]?=some (.str j t):=by
 refine ak (dg.mp (show(Vz[1]?:Option ab).bind ue=some j from e)) λ v a e=>?_;cases v with
 |str x t=>obtain rfl:=ax e;exact⟨t,a⟩|_=>exact aQ e
def aC.code(L:aC c s)(e:qp c.params h=some j)(d:c8 h=ap):s.CodeRec (.ref h) j:=by
 refine ak (L.fin e d) λ i b e=>?_;obtain⟨l,m,g,n⟩:=i;cases g with
 |fields k=>refine ai (uf e) λ t f=>?_;exact g2 h _ k t rfl b rfl f|_=>exact aQ e
def aC.noLimit(L:aC c s):s.NoLimit:=by
 have e:s.get? 2=some (hP c.params):=L.eC 0 (by lia) rfl λ x q=>iK q;exact bj _ (k6 e (by lia)) (by lia)
theorem aU.zip{X:ae->Prop}{h:a7}{x:Str}{p:PV}:∀{c:List Str}{f:List ab}{d:List PV},aU X h f d->(c.zip d).lookup x=some p->∃v,(c.zip f).lookup x=some v/\RV X h v p:=λ{c f d}z e=>by induction z generalizing c with
 |nil=>cases c<;>exact aQ e|cons a b i=>
  obtain _|⟨n,j⟩:=c;·exact aQ e
  simp only[Oe,aN]at e⊢;rcases g:x==n with _|_;·rw[g]at e;exact i e
  ·rw[g]at e;obtain rfl:=ax e;exact bj _ rfl a
noncomputable def cf(P:a3)(a:ae):It:=match ll P a with|some f=>f|none=>b2
structure ScOk(a:aw)(b:List Str):Prop where
 nodup:b.Nodup
 kinds:(b.all λ x=>match a.names.lookup x with|some .local=>true|some .cell=>true|_=>ap)=true
 ug:(a.names.all λ y=>!t1 y.2)=true
 co:a.isCoroutine=ap
 gen:a.isGenerator=ap
 kind:a.kind=.function
structure cu(WK b:ae)(d:List Il)(c:aw)(e:List Str):Prop extends ScOk c e where
 fn:∀P,ll P WK=some (cf P WK)code:∀P,qp P b=some (cf P WK).qualname
 ok:∀P,(cf P WK).code=.ref b/\(cf P WK).body=.stmts d/\(cf P WK).closure=[]/\(cf P WK).scope=c/\(cf P WK).globals=FG/\(cf P WK).builtins=IT
 tabs:c8 WK=ap/\c8 b=ap
def cu.mk'(d:∀P,ll P h=some (cf P h))(c:∀P,qp P Q=some (cf P h).qualname)(l:∀P,(cf P h).code=.ref Q/\(cf P h).body=.stmts Vp/\(cf P h).closure=[]/\(cf P h).scope=g/\(cf P h).globals=FG/\(cf P h).builtins=IT)(j:G.Nodup)(i:(G.all λ x=>match g.names.lookup x with|some .local=>true|some .cell=>true|_=>ap)=true)(k:(g.names.all λ y=>!t1 y.2)=true)(m:c8 h=ap/\c8 Q=ap)(b:g.isCoroutine=ap)(e:g.isGenerator=ap)(f:g.kind=.function):cu h Q Vp g G:={nodup:=j,kinds:=i,ug:=k,co:=b,gen:=e,kind:=f,fn:=d,code:=c,ok:=l,tabs:=m}
structure fg(A:aq)(X:ae->Prop)(h:a7):Prop where
 tab:∀b,bC b->X b
 fa:∀b,FA A b->X b
 fr:cH A h
 code:∀b o,X b->¬bC b->h.get? b=some o->¬bw o
def dd.outer(v:∀L,E.frame=some L->s.get? L=none)(e:dd M (o.deeper E) s Vk):dd M o s Vk:=by
 have x:∀b,FA o b->FA (o.deeper E) b:=λ b k=>by obtain⟨l,a,y,j,q⟩:=k;exact⟨E::l,by show o.frames.map _=_;refine a.symm▸?_;rfl,y,.tail _ j,q⟩
 have u:∀b g,s.get? b=some g->FA (o.deeper E) b->FA o b:=λ b g i k=>by
  obtain⟨l,a,y,j,q⟩:=k;have p:o.frames.map (E::·)=some l:=a;refine ak (bh.mp p) λ w r c=>?_;subst c;rcases aP.mp j with rfl|j;·exact bN (v b q) i
  ·exact⟨w,r,y,j,q⟩
 exact⟨λ b g n i=>e.keep b g (λ m=>⟨(n m).1,λ q=>(n m).2 (u b g i q)⟩) i,λ b g f d i=>e.fr b g (x b f) d i⟩
theorem Kq.outer(a:∀L,E.frame=some L->q.heap.get? L=none):Kq M (o.deeper E) q H->Kq M o q H|⟨_,_,e,k⟩=>⟨_,_,e,k.outer a⟩
def uh(D:ScOk g G)(Xo:q.heap.get? h=some O)(Xj:O.data=.func Wp)(Xh:q.heap.CodeRec Wp.code Wp.qualname)(f2:Wp.body=.stmts Vp)(f3:Wp.closure=[])(H:Wp.scope=g)(f5:Wp.globals=FG)(f6:Wp.builtins=IT)(WY:Rm (a+1,M) o)(L:aC c q.heap)(ex:Ex w q.heap)(W2:aU w q.heap Vc Vi)(Xm:G.length=Vi.length)(Xf:∀(y:List (Str×ab)->aa->Prop)(Vf:ab->aa->Prop),y (G.zip Vc) q->aA (au P0 c) o.in1 (J4 Wp Wv) y Vf q)(Xi:A.cd=Wp.code)(Xg:A.t=true->A.qual=Wp.qualname++ac ".<locals>.")(Xq:A.t=true->fg o w q.heap)(u:∀t C m W7,(∀L,t.frame=some L->q.heap.get? L=none)->Rm (a,M) (o.deeper t)->FB A w c (o.deeper t) g t q (G.zip Vi) [] m W7 [] C->aA (au P0 c) (o.deeper t) (RF Vp t) (λ f T=>y (match f with|.ret v=>v|_=>.none) T) (λ e T=>aA (au P0 c) (o.deeper t) (OE t e) (λ _ WV=>Vf e WV) (λ WN WV=>Vf WN WV) T) C):JM (au P0 c) o (.call (.ref h) Wv) (λ r T=>match r with|.ok (.ret v)=>y v T|.ok _=>False|.error e=>Vf e T) q:=by
 have eD:∀A∈G,g.names.lookup A=some .local\/g.names.lookup A=some .cell:=λ A U=>by
   have :=H7.mp D.kinds A U;revert this;rcases g.names.lookup A with _|kd;·intro u;cases u
   ·cases kd<;>first|(intro u;cases u;done)|(intro _;exact .inl rfl)|(intro _;exact .inr rfl)
 have WS:∀n A,g.names.lookup A=some .cell->∃M,(RG n g.names []).lookup A=some M:=λ n A U=>by exact ai (qm g.names n [] A (.inl (eF U))) λ M Xn=>nb Xn
 have Xk:Wp.scope.isGenerator=ap:=by refine H.symm▸?_;exact D.gen
 have Xl:Wp.scope.kind=.function:=by rw[H];exact D.kind
 refine Sn (fd:=Wp) (by have :=WY.depth;exact c5 dG (fy this)) Xo Xj (by refine H.symm▸?_;exact D.co) Xk f2 Xh ?_;refine f3.symm▸(Xf _ _ (wpAny_newFunctionEnv_cells Xl (λ A U=>?_) λ t z C I=>?_))
 · show Wp.scope.names.lookup A.1=_\/Wp.scope.names.lookup A.1=_/\_;refine H.symm▸?_;rcases eD A.1 (L3 U).1 with j|j;·exact .inl j
   · refine ai (WS (q.heap.objs.size+1) A.1 j) λ M N=>?_;exact .inr ⟨j,by rw[N];rfl⟩
 · refine⟨L.noLimit.keeps I.toInCall.keep,codeAny_func ?_⟩;have WO:t.scope=g:=by rw[z];exact H
   have W9:t.builtins=IT:=by rw[z];exact f6
   have WP:t.cells=RG (q.heap.objs.size+1) g.names []:=by simp only[z,<-H];rfl
   have V:t.kindOf=λ A=>g.names.lookup A:=by funext A;unfold KJ;rw[WO]
   have W':t.code=Wp.code:=by rw[z];rfl
   have Y:t.frame=some t.locals:=by rw[z];rfl
   refine aW I.done λ h' XH WQ Xs=>?_;have keep:KO q.heap C.heap:=by rw[WQ];exact Xs
   have J:q.heap.objs.size<=t.locals:=I.toInCall.fresh;have Xv:∀b,Ow w t b->w b\/q.heap.get? b=none:=λ b j=>by
     refine ez j (λ j=>?_) (λ j=>?_) λ WU=>?_;·exact .inl j
     ·exact .inr (cW (j▸J))
     ·exact ai WU λ n j=>.inr (cW (bn (bz J (I.above n b (eF j)))))
   have W8:aL w t []=Ow w t:=funext λ b=>propext ⟨λ j=>j.elim id λ j=>(nomatch j),.inl⟩;have W4:314<=q.heap.objs.size:=by
     refine ak (L.objs (313,mN c.params) (ct (i:=268) (by lia)) rfl) λ O e _=>?_;exact az e
   have XI:cH o q.heap->cH o C.heap:=λ F=>F.move λ b O _ d e=>⟨O,keep b O e,d⟩;refine u t C _ _ (λ L e=>by cases aO Y e;exact cW J) (WY.deeper t) ⟨⟨h',XH,WQ,by rw[WQ]at keep;exact .of_keeps keep⟩,I.toInCall.ns,J,W4,I.cell,I.apart,I.above,?_,λ _ u=>(nomatch u),λ _ _ u=>(nomatch u),λ _ u=>(nomatch u),ND,λ _ _ _ _ _ u=>(nomatch u),W'.trans Xi.symm,Y,λ WL=>(by rw[z,Xg WL];rfl),λ WL=>?_,λ WL b O WK Xp e=>(by refine ai (ex b WK) λ XJ WN=>?_;exact absurd (az WN) (b'.mpr Xp))⟩
   · rw[W8];refine⟨L.keeps keep,WO,by rw[z];exact f5,W9,D.kind,λ b j=>?_,λ A p e=>?_,λ A j=>?_⟩
     · refine ez j (λ j=>?_) (λ j=>?_) λ WU=>?_;·refine ai (ex b j) λ O e=>?_;exact⟨O,keep _ _ e⟩
       ·subst j;refine eb I.toInCall.ns λ O _ _ e _=>?_;exact⟨O,e⟩
       · refine ai WU λ n j=>?_;refine ak (I.cell n b j) λ O e _=>?_;exact⟨O,e⟩
     · refine aj λ WX=>ak (W2.zip e) λ v W0 XC=>WX ?_;have W3:RV (Ow w t) C.heap v p:=XC.shift λ b O Xu e=>⟨λ j=>(Xv b j).elim Xu λ j=>(by rw[e]at j;exact c7 j),keep b O e⟩;have WZ:((G.zip Vc).map (·.1)).Nodup:=by rw[LW (oL Xm W2.len)];exact D.nodup
       unfold cc;rw[V];refine aH (eD A ((L3 (eF e)).1)) (λ j=>?_) λ j=>?_
       · simp only[j];refine⟨_,v,I.toInCall.ns,?_,W3⟩;exact t9 _ A v (by rw[V];exact j) _ _ WZ W0
       · simp only[j];refine ai (WS (q.heap.objs.size+1) A j) λ WM N=>?_;refine⟨WM,v,by rw[WP];exact N,?_,W3⟩;have :=I.cell A WM (by rw[WP];exact N);rwa[t' _ A v (by rw[V];simp[j]) _ _ WZ W0]at this
     · rw[V]at j;rcases j with j|j
       · refine ai (WS (q.heap.objs.size+1) A j) λ WM N=>?_;rw[WP,N];rfl
       · have :=H7.mp D.ug _ (eF j);cases this
   · obtain⟨XD,XE,XF,XG⟩:=Xq WL;have Wp:∀b,FA (o.deeper t) b->FA o b\/b=t.locals:=λ b⟨l,h,WW,B,j⟩=>by
       refine ak (bh.mp h) λ l' W6 M=>?_;subst M;rcases aP.mp B with rfl|B;·cases aO Y j;exact .inr rfl
       ·exact .inl ⟨l',W6,WW,B,j⟩
     refine ak XF λ l WT ok=>?_;refine⟨XD,λ b j=>?_,⟨t::l,by show o.frames.map _=_;rw[WT];rfl,λ WW B=>?_⟩,⟨l,by show o.frames.map _=_;rw[WT];rfl⟩,λ b WK Xw _=>(let⟨O,e⟩:=ex b WK;⟨O,e,XG b O WK Xw e⟩)⟩
     · rcases Wp b j with j|j
       · refine aj λ WX=>?_;obtain⟨_,O,e,_⟩:=cH.fa ⟨l,WT,ok⟩ j;exact WX ⟨.inl (XE b j),an (bn (az e)) J⟩
       ·exact⟨.inr (.inl j),Ja j⟩
     · refine aH (aP.mp B) ?_ λ B=>?_
       · rintro rfl;refine ak (Ns.c9 I.toInCall.ns) λ O e d=>⟨λ j=>?_,_,O,Y,an W4 J,e,d⟩;rw[WO,D.kind]at j;cases j
       · obtain⟨Xx,W5,O,Xy,Xz,XA,XB⟩:=ok WW B;exact⟨Xx,W5,O,Xy,Xz,keep _ _ XA,XB⟩
def ui(D:ScOk g G)(WK:q.heap.get? h=some O)(V:O.data=.func Wp)(T:q.heap.CodeRec Wp.code Wp.qualname)(r:Wp.body=.stmts Vp)(t:Wp.closure=[])(u:Wp.scope=g)(z:Wp.globals=FG)(B:Wp.builtins=IT)(H:Rm (a+1,M) o)(L:aC c q.heap)(p:Ex w q.heap)(WM:aU w q.heap Vc Vi)(Y:G.length=Vi.length)(J:∀(y:List (Str×ab)->aa->Prop)(Vf:ab->aa->Prop),y (G.zip Vc) q->aA (au P0 c) o.in1 (J4 Wp Wv) y Vf q)(U:A.cd=Wp.code)(N:A.t=true->A.qual=Wp.qualname++ac ".<locals>.")(WL:A.t=true->fg o w q.heap)(C:∀b j m l,(∀L,b.frame=some L->q.heap.get? L=none)->Rm (a,M) (o.deeper b)->FB A w c (o.deeper b) g b q (G.zip Vi) [] m l [] j->aA (au P0 c) (o.deeper b) (RF Vp b) (λ f d=>y (match f with|.ret v=>v|_=>.none) d) (λ e d=>aA (au P0 c) (o.deeper b) (OE b e) (λ _ i=>Vf e i) (λ n i=>Vf n i) d) j):aA (au P0 c) o (I1 (.ref h) Wv.pos Wv.kw) y Vf q:=Je (uh D WK V T r t u z B H L p WM Y J U N WL C)
def uj(D:ScOk g G)(WK:q.heap.get? h=some O)(V:O.data=.func Wp)(T:q.heap.CodeRec Wp.code Wp.qualname)(t:Wp.body=.stmts Vp)(u:Wp.closure=[])(z:Wp.scope=g)(B:Wp.globals=FG)(C:Wp.builtins=IT)(H:Rm (a+1,M) o)(L:aC c q.heap)(r:Ex w q.heap)(WM:aU w q.heap Vc Vi)(Y:G.length=Vi.length)(J:J4 Wp Wv=jq (G.zip Vc))(U:A.cd=Wp.code)(N:A.t=true->A.qual=Wp.qualname++ac ".<locals>.")(WL:A.t=true->fg o w q.heap)(d:∀b l m n,(∀L,b.frame=some L->q.heap.get? L=none)->Rm (a,M) (o.deeper b)->FB A w c (o.deeper b) g b q (G.zip Vi) [] m n [] l->aA (au P0 c) (o.deeper b) (RF Vp b) (λ f i=>y (match f with|.ret v=>v|_=>.none) i) (λ e i=>aA (au P0 c) (o.deeper b) (OE b e) (λ _ j=>Vf e j) (λ p j=>Vf p j) i) l):aA (au P0 c) o (I1 (.ref h) Wv.pos Wv.kw) y Vf q:=ui D WK V T t u z B C H L r WM Y (λ y Vf d=>by refine J.symm▸?_;exact ah d) U N WL d
def jO(D:cu h Q Vp g G)(J:Rm (a+1,M) o)(L:aC c q.heap)(r:Ex w q.heap)(WL:aU w q.heap Vc Vi)(V:G.length=Vi.length)(N:∀doc,J4 {cf c.params h with doc:=doc} Wv=jq (G.zip Vc))(T:A.cd=.ref Q)(O:A.t=true->A.qual=(cf c.params h).qualname++ac ".<locals>.")(WK:A.t=true->fg o w q.heap)(H:∀b l m n,(∀L,b.frame=some L->q.heap.get? L=none)->Rm (a,M) (o.deeper b)->FB A w c (o.deeper b) g b q (G.zip Vi) [] m n [] l->aA (au P0 c) (o.deeper b) (RF Vp b) (λ f d=>y (match f with|.ret v=>v|_=>.none) d) (λ e d=>aA (au P0 c) (o.deeper b) (OE b e) (λ _ i=>Vf e i) (λ p i=>Vf p i) d) l):aA (au P0 c) o (I1 (.ref h) Wv.pos Wv.kw) y Vf q:=by
 refine aj λ WM=>aW (L.fn (D.fn c.params) D.tabs.1) λ WN doc Y U=>mB (D.ok c.params) λ j t u z B C=>WM ?_;exact uj (Wp:={cf c.params h with doc:=doc}) D.toScOk Y U (by rw[j];exact L.code (D.code c.params) D.tabs.2) t u z B C J L r WL V (N doc) (T.trans j.symm) O WK H
def Bd(x:Cx)(k:Lv)(b:aw)(c:List (Str×PV))(a:List Il)(r:PV):Prop:=ag x k b c [] a (.ret r)
def Fn.of(D:cu h Q Vp g G)(t:∀P doc d,d.length=Vi.length->J4 {cf P h with doc:=doc} ⟨d,[]⟩=jq (G.zip d))(u:G.length=Vi.length)(p:Bd ⟨ap,.ref Q,aR⟩ (a,M) g (G.zip Vi) Vp V):Fn (a+1,M) (.ref h) Vi V:=λ X w A n s z E L l b=>jO (A:=⟨ap,.ref Q,aR⟩) (Wv:=⟨z,[]⟩) D n L l b u (λ doc=>t _ _ _ b.len) rfl (λ q=>by cases q) (λ q=>by cases q) λ j y m i B o F=>aG (p X w _ o j s y _ m i [] F) (λ f C H=>by obtain⟨v,e,b,a,_⟩:=H;subst e;exact⟨b.mono λ _ q=>.inl q,a.kp⟩) λ _ _ x=>x
def ef(k:Lv)(f:ab)(b:List PV)(r:PV):Prop:=∀(X:ae->Prop)(WK:ar)(A:aq),Rm k A->∀(s:aa)(vs:List ab)(E:ab->aa->Prop),aC WK s.heap->Ex X s.heap->fg A X s.heap->aU X s.heap vs b->aA (au P0 WK) A (I1 f vs) (λ v a=>RV X a.heap v r/\Kq true A s a/\aC WK a.heap) E s
def ef.of(D:cu h Q Vp g G)(y:∀P doc d,d.length=Vi.length->J4 {cf P h with doc:=doc} ⟨d,[]⟩=jq (G.zip d))(B:G.length=Vi.length)(C:∀P,j=(cf P h).qualname++ac ".<locals>.")(u:Bd ⟨true,.ref Q,j⟩ (a,M) g (G.zip Vi) Vp V):ef (a+1,M) (.ref h) Vi V:=λ X w A p s N E L o T b=>jO (A:=⟨true,.ref Q,j⟩) (Wv:=⟨N,[]⟩) D p L o b B (λ doc=>y _ _ _ b.len) rfl (λ _=>C _) (λ _=>T) λ n J m l z t F=>aG (u X w _ t n s J _ m l [] F) (λ f O H=>by obtain⟨v,e,b,a,i,_⟩:=H;subst e;exact b3 (b.mono λ _ j=>.inl j) (a.outer z) i) λ _ _ x=>x
def Fn.t(h:Fn u U Vi V):ef u U Vi V:=λ X w A d s i E L c T g=>aG (h X w A d s i E L c g) (λ v j e=>by refine am e λ a b=>?_;exact b3 a b.kq (L.keeps b.keep)) λ _ _ x=>x
def uk(h:B.length<=100):Fn (a+1,true) (.ref 296) [Ls B] (Ls (b6 B)):=Fn.of (Q:=295) (Vp:=bB [33]) (g:=a0 [33]) (G:=[ac "numbers"]) (.mk' (λ P=>by lia) (λ P=>by lia) (λ P=>⟨by lia,by lia,by lia,by lia,by lia,by lia⟩) (by decide) (by rfl) (by rfl) ⟨rfl,rfl⟩ rfl rfl rfl) (λ P doc c b=>by
   refine ai (k2 b) ?_;rintro v rfl;lia) rfl (ag.last (St.ret (AG h)) trivial)
noncomputable def eX(WK WL:Bool):Int:=(if WK then 1 else 0)-(if WL then 1 else 0)
def AM:Fn (a+1,M) (.ref 198) [S j,S Vd] (I (eX (bF (Vd.cps.toList<j.cps.toList)) (bF (j.cps.toList<Vd.cps.toList)))):=Fn.of (Q:=197) (Vp:=bB [26]) (g:=a0 [26]) (G:=[ac "x",ac "y"]) (.mk' (λ P=>by lia) (λ P=>by lia) (λ P=>⟨by lia,by lia,by lia,by lia,by lia,by lia⟩) (by decide) (by rfl) (by rfl) ⟨rfl,rfl⟩ rfl rfl rfl) (λ P doc d b=>by
   refine cP (d9 b) ?_;rintro v u rfl;lia) rfl (by
   refine ag.cons St.doc (ag.last (St.ret (Ev.bJ bb.qi ?_ ?_)) trivial);·exact Ev.cmp aD.k' Ev.nm Ev.nm
   ·exact Ev.cmp aD.jG Ev.nm Ev.nm)
noncomputable def b8(y:Str)(l:OL)(a:List (Str×OL)):List (Str×OL):=a.map λ q=>if q.1==y then(q.1,l)else q
def qq(WL:Str)(l:OL)(Ω:List (Str×OL)):(b8 WL l Ω).map (·.1)=Ω.map (·.1):=by
 unfold b8;rw[ec];apply Ix;intro q _;show(if q.1==WL then(q.1,l)else q).1=q.1;split<;>rfl
theorem jP{y z:Str}{l d:OL}:∀{f:List (Str×OL)},(b8 y l f).lookup z=some d->(z=y/\d=l)\/(z≠y/\f.lookup z=some d)
 |[],h=>aQ h|(n,a)::r,h=>by
   have b:((if n==y then(n,l)else(n,a))::b8 y l r).lookup z=some d:=h;by_cases e:n=y
   · subst e;rw[if_pos (beq_self_eq_true n),aN]at b;by_cases c:z=n;·subst c;simp only[beq_self_eq_true]at b;obtain rfl:=ax b;exact .inl ⟨rfl,rfl⟩
     · rw[beq_eq_false_iff_ne.mpr c]at b;rcases jP b with q|q;·exact .inl q
       ·exact .inr ⟨c,by simp only[aN,beq_eq_false_iff_ne.mpr c];exact q.2⟩
   · rw[if_neg (by simpa using e),aN]at b;by_cases c:z=n;·subst c;simp only[beq_self_eq_true]at b;obtain rfl:=ax b;exact .inr ⟨e,by simp only[aN,beq_self_eq_true]⟩
     · rw[beq_eq_false_iff_ne.mpr c]at b;rcases jP b with q|q;·exact .inl q
       ·exact .inr ⟨q.1,by simp only[aN,beq_eq_false_iff_ne.mpr c];exact q.2⟩
def FB.lm{l l':OL}(F:FB A w c o g E q i D Ve Vn Y H)(WO:D.lookup j=some l)(WN:Ve j=some (.ref h))(WR:s.PlainList h Vc.toArray)(Q:Jq h H.heap s)(W8:RO (aL w E Y) s Vc l'):FB A w c o g E q i (b8 j l' D) Ve Vn Y {H with heap:=s,toks:=a}/\aZ A o w E Y H Y {H with heap:=s,toks:=a}:=by
 obtain⟨W',Xd,W1,W2,U,⟨Xc,W3⟩,Xa⟩:=F.own j l WO;cases aO WN W2;have V:=(F.new h U).2;have WV:=(F.new h U).1;have B:∀b t,b≠h->H.heap.get? b=some t->s.get? b=some t:=λ b t G e=>Q.extBut b t G e;have WP:KX (aL w E Y) H.heap s:=λ b t G e=>B b t (λ k=>G (.inr (k▸U))) e;have WX:E.locals≠h:=λ k=>V (.inr (.inl k.symm));have WW:∀n J,E.cells.lookup n=some J->J≠h:=λ n J v k=>V (.inr (.inr ⟨n,k▸v⟩));have R:=F.er;refine⟨⟨F.rel.hh WV B,F.ns.sameBut Q WX,F.fresh,F.hg,λ n J v=>(F.cell n J v).sameBut Q (WW n J v),F.cells,F.above,⟨R.left.hh (an F.hg WV) (λ t e W7=>by refine ak W7 λ vs k _=>?_;cases aO W3 e;cases k) B,R.scope,R.glob,R.blt,R.kind,λ b k=>?_,λ z k e=>?_,R.cells⟩,F.new,λ z M v=>?_,λ b C=>(by
     by_cases k:b=h;·obtain rfl:=k.symm;exact⟨_,WR⟩
     ·refine ai (F.gJ b C) λ vs e=>?_;exact⟨vs,e.at λ t e=>B b t k e⟩),by simp only[qq];exact F.nodup,λ W9 z M Xb b N L WL WM=>?_,F.code,F.frame,F.qual,λ T=>?_,λ T b t C WZ e=>(by
     refine ai (R.ex b (.inl (.inl C))) λ W6 WU=>?_;have :=B b W6 (λ k=>V (.inl (k▸C))) WU;cases aO e this;exact F.xc T b t C WZ WU)⟩,⟨λ b t G e=>B b t (λ k=>G (.inr (.inl (k▸U)))) e,λ b v=>.inl v,λ _ v=>v,F.hO⟩⟩
 · by_cases C:b=h;·obtain rfl:=C.symm;refine ai WR λ _ e=>?_;exact⟨_,e⟩
   ·refine ai (R.ex b k) λ t e=>?_;exact⟨t,B b t C e⟩
 · refine(R.vars z k e).imp (λ k=>?_) λ k=>?_
   · obtain⟨W5,u,p,b,r⟩:=k;exact⟨W5,u,p.sameBut Q WX,b,r.b0 WP⟩
   · obtain⟨d,u,p,b,r⟩:=k;exact⟨d,u,p,b.sameBut Q (WW z d p),r.b0 WP⟩
 · refine aH (jP v) (λ WS=>?_) λ WT=>?_
   · obtain⟨rfl,rfl⟩:=WS;exact⟨h,Vc,W1,WN,U,WR,W8⟩
   · obtain⟨W0,v⟩:=WT;obtain⟨b,vs,N,L,WL,WM,WY⟩:=F.own z M v;have G:b≠h:=λ k=>W0 (F.apart z j M l h v WO (k▸L) WN);exact⟨b,vs,N,L,WL,WM.at λ t e=>B b t G e,WY.b0 WP⟩
 · have iT:∀z M,(b8 j l' D).lookup z=some M->∃W4,D.lookup z=some W4:=λ z M v=>by
     refine aH (jP v) (λ WS=>?_) λ WT=>?_
     · obtain⟨rfl,_⟩:=WS;exact⟨_,WO⟩
     · obtain⟨_,v⟩:=WT;exact⟨_,v⟩
   exact ai (iT _ _ N) λ _ N=>ai (iT _ _ L) λ _ L=>F.apart W9 z _ _ b N L WL WM
 · refine{F.bi T with dA:=(F.bi T).dA.move λ b t f d e=>⟨t,B b t (λ k=>?_) e,d⟩};subst k;exact V ((F.bi T).fa b f).1
noncomputable def OL.push:OL->PV->Option OL
 |.p l,.d d=>some (.p (l++[d]))|.m l,q=>some (.m (l++[q]))|_,_=>none
def aU.AN(r:RV w s U V)(a:aU w s Vc Vi):aU w s (Vc++[U]) (Vi++[V]):=by induction a with
 |nil=>exact .cons r .nil|cons a _ b=>exact .cons a b
theorem RO.push{l b:OL}(a:RO w s Vc l)(r:RV w s U V)(e:l.push V=some b):RO w s (Vc++[U]) b:=by cases l with
 |p l=>cases V with
  |d d=>obtain rfl:=ax e;refine ai a λ c a=>?_;refine ai r λ f r=>?_;exact m7 a (.cons r .nil)|_=>exact aQ e
 |m l=>obtain rfl:=ax e;exact aU.AN r a
noncomputable def OL.len:OL->Nat|.p l=>l.length|.m l=>l.length
theorem RO.len:∀{l:OL},RO w s Vc l->Vc.length=l.len
 |.p _,⟨b,a⟩=>cy a|.m _,a=>aU.len a
def h3(F:FB A w c o g E q i D Ve Vn Y H)(r:D.lookup j=some VX)(p:(j==("__debug__":Str))=ap)(n:∀a b,Ve j=some (.ref a)->a∈Y->H.heap.PlainList a b.toArray->RO (aL w E Y) H.heap b VX->Vf (.ref a) H):aA (au P0 c) o (He (.Name j v) E) Vf y H:=by
 refine aj λ t=>?_;obtain⟨a,b,e,d,f,h,k⟩:=F.own j VX r;exact t (L5 (Ol F.eD e F.ns d (n a b d f h k)) p)
def PlainList.ln(f:s.PlainList h Vz)(e:q.heap=s):q.TypeIs (.ref h) "list"/\∀b,hk h=.ref b->∃c,q.heap.get? b=some c/\c.dict=none:=by
 refine aj λ g=>?_;subst e;refine ai f λ n e=>g ?_;exact⟨⟨_,e,rfl⟩,λ b d=>by cases d;exact⟨_,e,rfl⟩⟩
def St.append{l B:OL}(Y:D.lookup j=some l)(t:Ev u g i z V\/(Ev u g (seen i D) z V/\eW V))(WX:l.push V=some B)(WY:l.len<=a9)(WU:autoParam ((j==("__debug__":Str))=ap) ew)(h:autoParam (∀WM d,bD (z::WM) d=(ap,He z d)::bD WM d) bc)(WT:autoParam (∀d,J9 (.Name j v) (ac "append") d (He (.Name j v) d)=He (.Name j v) d) cN)(WV:autoParam ((J.endLine==Vg.line)=true) bc):St A u g i D (.Expr (.Call (.Attribute (.Name j v) (ac "append") J) [z] [] Vg) VA) (.next i (b8 j B D)):=λ X w n M d H s E m WP O F=>by
 refine O' ?_ (by unfold On;rw[F.er.scope,F.er.kind];rfl);have N:(L7 Vg (bD [z] d)).any (·.1)=ap:=by rw[h];rfl
 refine JC (WT d) (by rw[h];rfl) WV (h3 F Y WU λ a L WW WR WK W2=>?_);refine am (PlainList.ln WK rfl) λ W4 W5=>⟨"list","list.append",Jt,slot_list_append,rfl,W4,W5,?_⟩;have fin:∀(f:ab)(c:aa),RV (aL X d O) c.heap f V->Kp s c->aA (au P0 w) n (I1 (.builtin "list.append") [.ref a,f]) (λ f c=>match f with|.ref _=>False|_=>c' A X w n g d H O s .next c (.next i (b8 j B D))) E c:=λ f c W3 kp=>by
   have WN:RO (aL X d O) c.heap L l:=W2.b0 λ b o _ z=>kp.keep b o z;have WL:c.heap.PlainList a L.toArray:=WK.at λ o z=>kp.keep _ _ z;refine RB WL (hsz:=by have :=WN.len;simp;exact dS this WY) λ h' W0 T=>?_;refine ai WL λ W9 W7=>?_;refine am ((F.kp kp).lm (a:=c.toks) Y WW (Vc:=L++[f]) (by simpa using W0) T ((WN.push W3 WX).b0 λ b o WZ z=>T.extBut b o (λ q=>WZ (.inr (q▸WR))) z)) λ WO fr=>?_;exact⟨rfl,m,WP,O,WO,(aZ.bR F.hO kp).trans fr⟩
 rw[h]at N⊢;refine Ip N (b1 (aH t (λ t=>?_) λ W1=>?_))
 · have U:=a6.use M (z:=Vg) (E:=E) (.cons t .nil h) (s:=s) (e:=s) (Q:=λ C c=>aA (au P0 w) n (I1 (.builtin "list.append") ([.ref a]++C)) (λ f c=>match f with|.ref _=>False|_=>c' A X w n g d H O s .next c (.next i (b8 j B D))) E c) F.er (Kp.refl s) λ C c G kp _ _=>by
     refine ak G.one ?_;rintro W6 rfl r;exact fin _ c r kp
   rw[h]at U;exact U
 · refine am W1 λ t WS=>?_;have U:=a6.use M (z:=Vg) (E:=E) (.cons t .nil h) (s:=s) (e:=s) (Q:=λ C c=>aA (au P0 w) n (I1 (.builtin "list.append") ([.ref a]++C)) (λ f c=>match f with|.ref _=>False|_=>c' A X w n g d H O s .next c (.next i (b8 j B D))) E c) F.reads (Kp.refl s) λ C c G kp _ _=>by
     refine ak G.one ?_;rintro W6 rfl r;exact fin _ c (WS.any r) kp
   rw[h]at U;exact U
noncomputable def h4:List (Str×PV)->List (Str×OL)->List (Str×OL)
 |[],Ω=>Ω|q::r,Ω=>bu q.1 (h4 r Ω)
def FB.AO{h:List (Str×Pos)}:∀{s:aa}{m z:Str->Option ab}{f:List (Str×PV)}{u:List ab}{a:List bP}{v:List ae}{Q:Unit->aa->Prop},FB A w c o g E q (f++i) (h4 f D) m z Y s->ga (cb (aL w E Y) s.heap) u a v->h.length=a.length->(∀n∈h,ce g n.1=true)->(∀t J H,FB A w c o g E q ((((h.map (·.1)).zip (a.map .d)).reverse++f)++i) (h4 (((h.map (·.1)).zip (a.map .d)).reverse++f) D) J H Y t->aZ A o w E Y s Y t->Q () t)->aA (au P0 c) o (Ro ((K3 (h.map λ n=>.Name n.1 n.2) E).map (·.2)) u) Q y s:=by induction h with
 |nil=>
   intro s m z f u a v Q F j l C B;cases a with
   |cons=>cases l|nil=>obtain⟨rfl,_⟩:=gi j;exact J6 (B _ _ _ F (.bR F.hO (Kp.refl s)))
 |cons n h U=>
   intro s m z f u a v Q F j l C B;rcases a with _|⟨d,a⟩;·cases l
   · obtain⟨_,_,_,_,rfl,_,r,j⟩:=eT j;exact Ij (assign_Name (F.store (V:=.d d) (dL (C _ (.head _))) ⟨_,r⟩ λ t J H L k=>U (f:=(n.1,.d d)::f) L (vr (gh λ b WL WK e=>k b WL (λ G=>WK (.inl (.inr G))) e) j) (MH l) (λ n G=>C n (.tail _ G)) λ WM V N M T=>B WM V N (tQ.symm▸M) ((aZ.dn F.hO k).trans T)))
def FB.assign(F:FB A w c o g E q i D Ve Vn Y H)(B:BindsTo z V VN)(G:∀l d,(l,d)∈VN->ce g l=true)(u:∀b,aL w E Y b->VE b)(L:iP VE H.heap U V z)(WN:(∀l WT,z≠.Name l WT)->o.handled=none)(C:∀a h f,FB A w c o g E q (VN++i) (h4 VN D) h f Y a->aZ A o w E Y H Y a->VO () a):aA (au P0 c) o (assign z E U) VO y H:=by cases B with
 |name=>exact LZ (F.store (dL (G _ _ (.head _))) (RV.mono u L) λ a h f j k=>C a h f j (.dn F.hO k))|tup xs ds WQ r=>
   refine aj λ WW=>?_;refine du L λ T WZ WK as WU e WS M=>?_;obtain rfl:=WU;obtain rfl:=tO WQ e;refine WW (tF (WN λ _ _ d=>by cases d) F.er.left WS ?_ ?_ λ J WM=>?_);·simp only[I8,cy M,<-r,qd]
   ·exact qe
   have kp:Kp H {H with heap:=J}:=⟨J,H.toks,rfl,λ b t e=>WM b t (br (az e)) e⟩;refine FB.AO (f:=[]) (F.kp kp) (nd u (vr (gh λ b t _ e=>kp.keep b t e) M)) r (λ n WP=>?_) λ a h f j fr=>C a h f ?_ ((aZ.bR F.hO kp).trans fr)
   · have WO:n.1∈(((xs.map (·.1)).zip (WK.map PV.d)).reverse).map (·.1):=by
       rw[Sy,LW (by rw[be,be,r];exact aB _)];exact MT.mpr (K1 WP)
     exact ak (hp.mp WO) λ d WR e=>e▸G d.1 d.2 WR
   ·rw[IW]at j;exact j
abbrev cX(X W:ae->Prop)(b:ae):Prop:=X b\/W b
def qr(a:Ow (cX w VE) E h):Ow w E h\/VE h:=by
 rcases a with(a|a)|a;·exact .inl (.inl a)
 ·exact .inr a
 ·exact .inl (.inr a)
def jQ(a:Ow w E h):Ow (cX w VE) E h:=a.elim (λ a=>.inl (.inl a)) .inr
def qs(a:aL (cX w VE) E Y h):aL w E Y h\/VE h:=a.elim (λ a=>(qr a).elim (λ a=>.inl (.inl a)) .inr) λ a=>.inl (.inr a)
def ul(a:aL w E Y h):aL (cX w VE) E Y h:=a.elim (λ a=>.inl (jQ a)) .inr
def cc.shift(e:cc w E s j V)(k:∀b o,¬w b->s.get? b=some o->¬VE b/\Vk.get? b=some o)(g:∀o,s.get? E.locals=some o->Vk.get? E.locals=some o)(f:∀n c,E.cells.lookup n=some c->∀o,s.get? c=some o->Vk.get? c=some o):cc VE E Vk j V:=by
 refine e.imp (λ q=>?_) λ q=>?_;·obtain⟨i,v,a,b,c⟩:=q;exact⟨i,v,a.at' g,b,c.shift k⟩
 ·obtain⟨c,v,a,⟨o,b,d⟩,r⟩:=q;exact⟨c,v,a,⟨o,f j c a o b,d⟩,r.shift k⟩
def FB.wide(F:FB A w c o g E q i D Ve Vn Y H)(kp:Kp H VH)(u:∀b,VE b->H.heap.get? b=none)(M:∀b,VE b->∃f,VH.heap.get? b=some f)(Q:∀b,VE b->q.heap.objs.size<=b)(N:∀b f,VE b->VH.heap.get? b=some f->¬bw f):FB A (cX w VE) c o g E q i D Ve Vn Y VH:=by
 have j:=F.kp kp;have v:∀b f,¬aL w E Y b->H.heap.get? b=some f->¬aL (cX w VE) E Y b/\VH.heap.get? b=some f:=λ b f T e=>⟨λ d=>(qs d).elim T (λ d=>bN (u b d) e),kp.keep b f e⟩;refine{j with er:={j.er with ex:=λ b d=>?_,vars:=λ y p e=>(F.er.vars y p e).shift v (λ f=>kp.keep _ f) λ _ _ _ f=>kp.keep _ f},new:=λ b k=>⟨(F.new b k).1,λ d=>?_⟩,own:=λ y l h=>?_,bi:=λ t=>?_,xc:=λ t b f k r e=>?_}
 · rcases qs d with d|d;·exact j.er.ex b d
   ·exact M b d
 · refine aH (qr d) (λ d=>?_) λ d=>?_;·exact(F.new b k).2 d
   ·exact ai (F.er.ex b (.inr k)) λ f e=>bN (u b d) e
 · obtain⟨a,vs,B,C,G,J,L⟩:=F.own y l h;exact⟨a,vs,B,C,G,J.at λ f e=>kp.keep _ _ e,L.shift v⟩
 · obtain⟨U,z,V,WK,WL⟩:=j.bi t;exact⟨λ b d=>.inl (U b d),λ b d=>⟨jQ (z b d).1,(z b d).2⟩,V,WK,λ b d n r=>d.elim (λ d=>WL b d n r) λ d=>absurd r (b'.mpr (Q b d))⟩
 · refine aH k (λ d=>?_) λ d=>?_;·exact j.xc t b f d r e
   ·exact N b f d e
def FB.narrow(F:FB A (cX w VE) c o g E q i D Ve Vn Y H)(r:A.t=true->(∀b,bC b->w b)/\(∀b,FA o b->Ow w E b/\b<=E.locals)):FB A w c o g E q i D Ve Vn Y H:=by
 have j:∀b,aL w E Y b->aL (cX w VE) E Y b:=λ b d=>ul d;refine{F with er:={F.er with ex:=λ b d=>F.er.ex b (j b d),vars:=λ y p e=>(F.er.vars y p e).shift (λ b n k e=>⟨λ d=>k (j b d),e⟩) (λ _ e=>e) λ _ _ _ _ e=>e},new:=λ b f=>⟨(F.new b f).1,λ d=>(F.new b f).2 (jQ d)⟩,own:=λ y l h=>?_,bi:=λ h=>?_,xc:=λ t b n f=>F.xc t b n (.inl f)}
 · obtain⟨a,M,u,v,z,B,C⟩:=F.own y l h;exact⟨a,M,u,v,z,B,C.shift λ b n k e=>⟨λ d=>k (j b d),e⟩⟩
 · obtain⟨_,_,G,J,L⟩:=F.bi h;exact⟨(r h).1,(r h).2,G,J,λ b d=>L b (.inl d)⟩
def Kq.um(i:∀b,w b->q.heap.objs.size<=b)(k:Kq M o q H)(g:KX w H.heap s):Kq M o q {H with heap:=s,toks:=a}:=by
 refine aW k λ m p e E=>?_;subst e;have ne:∀b c,q.heap.get? b=some c->¬w b:=λ b c e j=>absurd (az e) (b'.mpr (i b j));exact⟨s,a,rfl,λ b c n e=>g b c (ne b c e) (E.keep b c n e),λ b c f d e=>(ai (E.fr b c f d e) λ l h=>⟨l,g b _ (ne b c e) h⟩)⟩
def FB.uo(F:FB A (cX w VE) c o g E q i D Ve Vn Y H)(z:∀b,VE b->q.heap.objs.size<=b/\314<=b)(u:∀b,VE b->¬aL w E Y b)(L:∀b j,VE b->H.heap.get? b=some j->¬bw j)(k:KX VE H.heap s)(B:∀b,VE b->∃j,s.get? b=some j)(G:A.t=true->∀b,FA o b->Ow w E b)(M:∀b j,VE b->s.get? b=some j->¬bw j):FB A (cX w VE) c o g E q i D Ve Vn Y {H with heap:=s,toks:=a}:=by
 refine F.qn (F.rel.um (λ b l=>(z b l).1) k) (λ t=>?_) (λ t b j v C e=>?_) (F.ns.at' λ j e=>k _ j (λ l=>u _ l (.inl (.inr (.inl rfl)))) e) (λ n r h j e=>k r j ((λ n r h l=>u r l (.inl (.inr (.inr ⟨n,h⟩)))) n r h) e) (λ b v j e=>k b j (λ l=>u b l (.inr v)) e) (λ b j J e=>k b j (λ l=>J (.inl (.inl (.inr l)))) e) (F.er.left.move λ b j l e=>k b j (λ p=>?_) e) λ b l=>?_;·exact(F.bi t).dA.move λ b j f d e=>⟨j,k b j (λ l=>u b l (.inl (G t b f))) e,d⟩
 · by_cases p:VE b;·exact M b j p e
   · obtain⟨N,y⟩:=F.er.ex b (.inl (.inl v));have :=k b N p y;cases aO e this;exact F.xc t b j v C y
 · refine aH l (λ l=>?_) λ l=>?_;·exact absurd l.lt (b'.mpr (z b p).2)
   ·exact L b j p e l
 · by_cases p:VE b;·exact B b p
   ·obtain⟨j,e⟩:=F.er.ex b l;exact⟨j,k b j p e⟩
def FB.nr(F:FB A (cX w VE) c o g E q i D Ve Vn Y H)(N:∀b,VE b->q.heap.objs.size<=b/\314<=b)(z:∀b,VE b->¬aL w E Y b)(WQ:∀b j,VE b->H.heap.get? b=some j->¬bw j)(k:KX VE H.heap s)(WP:A.t=true->(∀b,bC b->w b)/\(∀b,FA o b->Ow w E b/\b<=E.locals)):FB A w c o g E q i D Ve Vn Y {H with heap:=s,toks:=a}:=by
 have U:¬VE E.locals:=λ r=>z _ r (.inl (.inr (.inl rfl)));have T:∀n u,E.cells.lookup n=some u->¬VE u:=λ n u h r=>z u r (.inl (.inr (.inr ⟨n,h⟩)));have G:=F.narrow WP;have V:∀b j,¬aL (cX w VE) E Y b->H.heap.get? b=some j->¬aL w E Y b/\s.get? b=some j:=λ b j Q e=>⟨λ r=>Q (ul r),k b j (λ r=>Q (.inl (.inl (.inr r)))) e⟩;have R:=G.er;refine⟨G.rel.um (λ b r=>(N b r).1) k,G.ns.at' λ j e=>k _ j U e,G.fresh,G.hg,λ n u h=>let⟨j,C,b⟩:=G.cell n u h;⟨j,k u j (T n u h) C,b⟩,G.cells,G.above,⟨R.left.move λ b j r e=>k b j (λ v=>?_) e,R.scope,R.glob,R.blt,R.kind,λ b r=>?_,λ y p e=>(F.er.vars y p e).shift V (λ j e=>k _ j U e) λ n u h j e=>k u j (T n u h) e,R.cells⟩,G.new,λ y l h=>?_,λ b B=>(let⟨J,e⟩:=G.gJ b B;⟨J,e.at λ j e=>k b j (λ v=>z b v (.inr B)) e⟩),G.nodup,G.apart,G.code,G.frame,G.qual,λ t=>?_,λ t b j B WO e=>?_⟩
 · refine aH r (λ r=>?_) λ r=>?_;·exact absurd r.lt (b'.mpr (N b v).2)
   ·exact WQ b j v e r
 ·exact ai (R.ex b r) λ j e=>⟨j,k b j (λ v=>z b v r) e⟩
 · obtain⟨C,J,WK,WL,M,WM,WN⟩:=F.own y l h;exact⟨C,J,WK,WL,M,WM.at λ j e=>k C j (λ v=>z C v (.inr M)) e,WN.shift V⟩
 ·exact{G.bi t with dA:=(G.bi t).dA.move λ b j f d e=>⟨j,k b j (λ r=>z b r (.inl ((G.bi t).fa b f).1)) e,d⟩}
 · refine ai (R.ex b (.inl (.inl B))) λ WR L=>?_;have :=k b WR (λ v=>z b v (.inl (.inl B))) L;cases aO e this;exact G.xc t b j B WO L
def fM:Go->List (Str×PV)->List (Str×OL)->Prop
 |.next b d,a,c=>Sub a b/\d=c|.cont b d,a,c=>Sub a b/\d=c|_,_,_=>False
def fM.qt(h:fM VY i D)(a:c' A w c o g E q Y H WB VH VY):(WB=.next\/WB=.cont)/\gK A w c o g E q Y H i D VH:=by
 have B:∀{d e},Sub i d/\e=D->gK A w c o g E q Y H d e VH->gK A w c o g E q Y H i D VH:=λ h b=>by
  obtain⟨m,k,j,F,b⟩:=b;exact⟨m,k,j,h.2▸F.weaken h.1,b⟩
 cases VY with
 |next=>exact⟨.inl a.1,B h a.2⟩|cont=>exact⟨.inr a.1,B h a.2⟩|_=>exact h.elim
inductive up(x:Cx)(X:ae->Prop)(w:ar)(A:aq)(h:aw)(d:Env)(j s k:aa)(O:List ae)(WM:Nat->List (Str×PV))(WN:Nat->List (Str×OL))(f WL N:ae->Prop)(S:Nat->a7->Prop)(L n:Nat)(c:aa):Prop|mk(WK:Nat)(g e:Str->Option ab)(a:List ae)(F:FB x (cX X WL) w A h d j (WM WK) (WN WK) g e a c)(l:aZ x A X d O s a c)(q:S WK c.heap)(t:WK<=L)(u:n=L+1-WK)(r:∀b,f b->¬aL X d a b)(p:∀b∈a,N b)(m:∀b o,k.heap.get? b=some o->∃o,c.heap.get? b=some o)
def uq(j:List PV)(L:Nat->List (Str×PV))(M:Nat->List (Str×OL))(bs:Nat->List (Str×PV))(Xb:Nat->Go)(G:∀i p,j[i]?=some p->BindsTo z p (bs i))(XK:∀i Xj q,(Xj,q)∈bs i->ce g Xj=true)(XA:∀i,i<j.length->ag A u g (bs i++L i) (h4 (bs i) (M i)) Vp (Xb i))(XD:∀i,i<j.length->fM (Xb i) (L (i+1)) (M (i+1)))(Xw:Rm u o){J s W6 V:aa}{WO B N:ae->Prop}{S:Nat->a7->Prop}{Xm:Nat->ab->a7->Prop}(Xk:FB A (cX w B) c o g E J (L 0) (M 0) Ve Vn Y V)(Xr:aZ A o w E Y s Y V)(Xv:∀b a,W6.heap.get? b=some a->∃a,V.heap.get? b=some a)(W2:∀b,N b↔aL w E Y b\/W6.heap.get? b=none)(XO:∀b,B b->N b)(Fd:dc N c o U z j WO B S Xm)(XM:S 0 V.heap)(Xe:∀b,B b->J.heap.objs.size<=b/\314<=b)(Xz:∀b,B b->s.heap.get? b=none)(XC:∀b,WO b->¬aL w E Y b)(WM:A.t=true->(∀b,bC b->w b)/\(∀b,FA o b->Ow w E b/\b<=E.locals)){Q:PF->aa->Prop}(Xq:∀f l,c' A w c o g E J Y s f l (.next (L j.length) (M j.length))->Q f l):JM (au P0 c) o (.forLoop z U Vp [] E) (λ r l=>match r with|.ok f=>Q f l|.error e=>y e l) V:=by
 refine S5 (λ n l=>up A w c o g E J s V Y L M WO B N S j.length n l) ?_ (j.length+1) ⟨0,Ve,Vn,Y,Xk,Xr,XM,dk _,rfl,λ b q=>XC b q,λ b G=>(W2 b).mpr (.inl (.inr G)),λ b a e=>⟨a,e⟩⟩;intro n l H;obtain⟨i,W5,WZ,C,W8,D,WU,XE,XJ,T,Xd,Xc⟩:=H;subst XJ;have Xx:∀b,aL (cX w B) E C b->N b:=λ b q=>by
   refine aH q (λ q=>?_) λ q=>?_
   · refine aH (qr q) (λ q=>?_) λ q=>?_;·exact(W2 b).mpr (.inl (.inl q))
     ·exact XO b q
   ·exact Xd b q
 have Xf:∀b,B b->¬aL w E C b:=λ b q=>T b (Fd.sub b q);have Xg:∀b a,s.heap.get? b=some a->¬B b:=λ b a e q=>bN (Xz b q) e;by_cases WK:i<j.length
 · have W3:j[i]?=some j[i]:=ay WK;generalize j[i]=p at W3;refine Fd.next i p l _ _ W3 WU λ v W4 WS XF XI WV=>Fd.go i v p {l with heap:=W4,toks:=WS} _ _ XI XF λ WR WL XG XH=>?_;have WW:KX B l.heap WR:=λ b a WN e=>XH b a WN (WV b a WN e);have WY:FB A (cX w B) c o g E J (L i) (M i) W5 WZ C {l with heap:=WR,toks:=WS}:=W8.uo Xe Xf (λ b a q e=>Fd.hV i _ WU b a q e) WW (λ b q=>Fd.there _ _ WL b (Fd.sub b q)) (λ t b f=>((WM t).2 b f).1) (λ b a q e=>Fd.hV (i+1) _ WL b a q e);have Xs:aZ A o w E Y s C {l with heap:=WR,toks:=WS}:=⟨λ b a WN e=>WW b a (Xg b a e) (D.keep b a WN e),D.own,D.sub,D.eV⟩;refine WY.assign (G i p W3) (XK i) Xx XG Fd.calm λ XU XP Xn Xl Xt=>aG (XA i WK (cX w B) c o Xw E J XU _ XP Xn C Xl) (λ f W7 XN=>?_) λ _ _ h=>h;have XR:∀b,WO b->¬h2 A o E C b:=λ b q d=>by
     rcases d with d|d|⟨t,d|d⟩;·exact T b q (.inl (.inr d))
     ·exact T b q (.inr d)
     ·exact T b q (.inl (.inl ((WM t).1 b d)))
     ·exact T b q (.inl ((WM t).2 b d).1)
   obtain⟨XB,XQ,Xo,W',W9,Xu⟩:=(XD i WK).qt XN;suffices XS:∃Ve,Ve<j.length+1-i/\up A w c o g E J s V Y L M WO B N S j.length Ve W7 from by rcases XB with rfl|rfl<;>exact XS
   have WP:=Xt.trans Xu;have Xy:S (i+1) W7.heap:=Fd.frame _ _ _ WL λ b a q e=>WP.keep b a (XR b q) e;have Xa:∀b a,WR.get? b=some a->∃a,W7.heap.get? b=some a:=λ b a e=>by
     by_cases q:h2 A o E C b
     · refine W9.er.ex b ?_;rcases q with q|q|⟨t,q|q⟩;·exact .inl (.inr q)
       ·exact .inr (WP.sub b q)
       ·exact .inl (.inl (.inl ((WM t).1 b q)))
       ·exact .inl (jQ ((WM t).2 b q).1)
     ·exact⟨a,WP.keep b a q e⟩
   have Xh:∀b∈W',b∈C\/WR.get? b=none:=WP.own;refine⟨j.length+1-(i+1),jb WK,i+1,XQ,Xo,W',W9,Xs.trans ((λ f=>⟨f.keep,f.own,f.sub,λ b G=>⟨λ q=>(f.eV b G).1 (jQ q),(f.eV b G).2⟩⟩) WP),Xy,WK,rfl,λ b q d=>?_,λ b G=>?_,λ b a e=>?_⟩
   · refine aH d (λ d=>?_) λ d=>?_;·exact T b q (.inl d)
     · refine aH (Xh b d) (λ d=>?_) λ d=>?_;·exact T b q (.inr d)
       · refine ai (Fd.there _ _ WL b q) λ a e=>?_;rw[e]at d;exact c7 d
   · refine aH (Xh b G) (λ q=>?_) λ q=>?_;·exact Xd b q
     · refine(W2 b).mpr (.inr ?_);rcases e:W6.heap.get? b with _|a;·rfl
       · refine ai (Xv b a e) λ XT Xp=>ai (Xc b XT Xp) λ WX W0=>?_;by_cases WQ:B b
         · refine ai (Fd.there _ _ WL b (Fd.sub b WQ)) λ Xi W1=>?_;rw[W1]at q;exact c7 q
         · have d:=WW b WX WQ W0;rw[d]at q;exact c7 q
   · refine ai (Xc b a e) λ WX W0=>?_;by_cases WQ:B b;·exact ai (Fd.there _ _ WL b (Fd.sub b WQ)) λ Xi W1=>Xa b Xi W1
     ·exact Xa b WX (WW b WX WQ W0)
 · obtain rfl:=(gu XE WK).symm;refine Fd.done l _ _ WU λ W4 WS WV=>?_;have WY:FB A w c o g E J (L j.length) (M j.length) W5 WZ C {l with heap:=W4,toks:=WS}:=W8.nr Xe Xf (λ b a q e=>Fd.hV _ _ WU b a q e) WV WM;exact J2 (Xq _ _ ⟨rfl,W5,WZ,C,WY,⟨λ b a WN e=>WV b a (Xg b a e) (D.keep b a WN e),D.own,D.sub,D.eV⟩⟩)
def St.nt(a:List PV)(c:Nat->List (Str×PV))(f:Nat->List (Str×OL))(d:Nat->List (Str×PV))(l:Nat->Go)(WQ:bg u g (c 0) Vl z a)(Y:∀i p,a[i]?=some p->BindsTo z p (d i))(WO:∀i y q,(y,q)∈d i->ce g y=true)(WK:∀i,i<a.length->ag A u g (d i++c i) (h4 (d i) (f i)) Vp (l i))(WM:∀i,i<a.length->fM (l i) (c (i+1)) (f (i+1)))(WN:autoParam (∀h A,Ad Vl h A=jq A) bc):St A u g (c 0) (f 0) (.For z Vl Vp [] v) (.next (c a.length) (f a.length)):=λ X w V D h U s E m WT O F=>jF λ Q fin=>by
 refine T0 (WQ _ w V D h s E _ F.er λ it B WR WU C S WS N r M G Fd n WV j WL=>?_) (WN h);have T:Kp s WR:=r.trans M;have L:U.heap.objs.size<=B.heap.objs.size/\314<=B.heap.objs.size:=by
  refine ak (Ns.c9 (F.ns.keeps r.keep)) λ o e _=>?_;have :=az e;exact⟨bn (bz F.fresh this),bn (bz F.locals this)⟩
 have H:∀b,C b->U.heap.objs.size<=b/\314<=b:=λ b q=>⟨an L.1 (j b q),an L.2 (j b q)⟩;have J:∀b,C b->s.heap.get? b=none:=λ b q=>by
  rcases e:s.heap.get? b with _|o;·rfl
  ·exact absurd (az (r.keep b o e)) (b'.mpr (j b q))
 have WP:∀b,C b->N b:=λ b q=>(G b).mpr (.inr (cW (j b q)));refine uq a c f d l Y WO WK WM D (W6:=B) (F.wide T J (λ b q=>Fd.there 0 _ n b (Fd.sub b q)) (λ b q=>(H b q).1) (λ b o q e=>Fd.hV 0 _ n b o q e)) (.bR F.hO T) (λ b o e=>⟨o,M.keep b o e⟩) G WP Fd n H J WL (λ t=>⟨(F.bi t).tab,(F.bi t).fa⟩) fin
def qu:Go->Go->Prop
 |.brk a b,g=>g=.next a b|.ret p,g=>g=.ret p|_,_=>False
def qu.at{j s k i:aa}{a d:Go}(h:qu a d)(q:aZ A o w E Y s V4 k)(H:c' A w c o g E j V4 k WB i a):(WB=.brk/\c' A w c o g E j Y s .next i d)\/∃v,WB=.ret v/\c' A w c o g E j Y s (.ret v) i d:=by cases a with
 |brk=>
  obtain⟨e,m,n,l,F,b⟩:=H;obtain rfl:=h;exact .inl ⟨e,rfl,m,n,l,F,q.trans b⟩|ret p=>
  obtain⟨v,e,r,t,u,y⟩:=H;obtain rfl:=(h).symm;exact .inr ⟨v,e,v,rfl,r,t,u,y⟩|_=>exact h.elim
inductive ur(x:Cx)(X:ae->Prop)(w:ar)(A:aq)(f:aw)(b:Env)(g s:aa)(O:List ae)(WL:Nat->List (Str×PV))(WM:Nat->List (Str×OL))(n j:Nat)(c:aa):Prop|mk(WK:Nat)(e d:Str->Option ab)(a:List ae)(F:FB x X w A f b g (WL WK) (WM WK) e d a c)(h:aZ x A X b O s a c)(k:WK<=n)(l:j=n+1-WK)
def St.lq(n:Nat)(a:Nat->List (Str×PV))(b:Nat->List (Str×OL))(J:Nat->Go)(WK:∀i,i<n->Tr u g (seen (a i) (b i)) z true)(WM:∀i,i<n->ag A u g (a i) (b i) Vp (J i))(WO:∀i,i<n->fM (J i) (a (i+1)) (b (i+1)))(WR:(Tr u g (seen (a n) (b n)) z ap/\VY=.next (a n) (b n))\/∃gl,Tr u g (seen (a n) (b n)) z true/\ag A u g (a n) (b n) Vp gl/\qu gl VY):St A u g (a 0) (b 0) (.While z Vp [] v) VY:=λ X w l e o p s E m U O F=>jF λ Q fin=>by
 refine wpAny_While (TH (λ j L=>ur A X w l g o p s O a b n j L) ?_ (n+1) ⟨0,m,U,O,F,.bR F.hO (Kp.refl _),dk _,rfl⟩);intro j L H;obtain⟨i,G,y,t,c,B,WP,WQ⟩:=H;subst WQ;by_cases d:i<n
 · refine(WK i d).use e c.reads (Kp.refl _) λ r kp _ _=>?_;simp only[if_true];refine aG (WM i d X w l e o p r _ G y t (c.kp kp)) (λ f M D=>?_) λ _ _ h=>h;obtain⟨WN,WT,V,T,N,Y⟩:=(WO i d).qt D;suffices WU:∃j,j<n+1-i/\ur A X w l g o p s O a b n j M from by rcases WN with rfl|rfl<;>exact WU
   exact⟨n+1-(i+1),jb d,i+1,WT,V,T,N,(B.trans (aZ.bR c.hO kp)).trans Y,d,rfl⟩
 · obtain rfl:=(gu WP d).symm;rcases WR with⟨C,rfl⟩|⟨gl,C,WL,WS⟩
   · refine C.use e c.reads (Kp.refl _) λ r kp _ _=>?_;simp only[cT,if_false];exact J2 (fin _ _ ⟨rfl,G,y,t,c.kp kp,B.trans (aZ.bR c.hO kp)⟩)
   · refine C.use e c.reads (Kp.refl _) λ r kp _ _=>?_;simp only[if_true];refine aG (WL X w l e o p r _ G y t (c.kp kp)) (λ f M D=>(aH (WS.at (B.trans (aZ.bR c.hO kp)) D) (λ WV=>?_) λ WW=>?_)) λ _ _ h=>h
     · refine am WV ?_;rintro rfl q;exact fin _ _ q
     · refine ak WW ?_;rintro WX rfl q;exact fin _ _ q
def Tr.true:Tr u g i (.Constant (.bool true) a v) true:=λ X w A c b s E R=>R' (S4 (zF ⟨rfl,Kp.refl _⟩))
def dB(WK:ar)(h:a7)(a:ae)(S:Str->Bool):Prop:=∃b c t,h.get? a=some {cls:=.type "frozenset",data:=.set b c t}/\OI (strKind P0 WK) b.toList/\(∀k,S k=true↔∃e∈b.toList,(strKind P0 WK).is k e.2=true)/\b.size<K7/\t.fits b.size=true
def dB.keeps(x:dB c s h Wy)(k:KO s Vk):dB c Vk h Wy:=eb x λ d b t e r=>mE d b t (k _ _ e) r
def dB.typeIs(x:dB c q.heap h Wy):q.TypeIs (.ref h) "frozenset":=by exact eb x λ _ _ _ e _=>bj _ e rfl
def bk.us(x:bk P0 c O G)(m:s.get? h=some O)(l:G.length<K7):dB c s h (λ k=>bF (k∈G)):=by
 refine aj λ n=>o3 (x.kS m) λ j i t b d e f g=>n ?_;exact sK j i t b d e (by refine f.symm▸?_;exact l) g
def qv{L:List (List Nat)}(h:cps G=L)(c:Nat):(⟨#[c]⟩:Str)∈G↔[c]∈L:=by refine h▸?_;exact mV
def aC.AP(L:aC c s):∃S,dB c s 52 S/\∀d,S ⟨#[d]⟩=bF (d=9\/d=32\/d=10):=by
 refine aj λ f=>bS L.jy λ o g a b e=>f ?_;refine bj _ (b.us a (by rw[(mU e)];decide)) (λ d=>?_);rw[decide_eq_decide,qv e];simp
noncomputable def gM(c:Nat):Bool:=(48<=c&&c<=57)||(65<=c&&c<=70)||(97<=c&&c<=102)
noncomputable def qw:List (List Nat):=[70,69,68,67,66,65,102,101,100,99,98,97,57,56,55,54,53,52,51,50,49,48].map λ i=>[i]
def AQ:∀c,c<128->bF ([c]∈qw)=gM c:=by decide+kernel
def AR(h:128<=a):bF ([a]∈qw)=gM a:=by
 have e:∀n,n<128->bF (a<=n)=ap:=λ n q=>decide_eq_false (IQ.mpr (aJ q h));unfold gM;simp only[e 57 (by decide),e 70 (by decide),e 102 (by decide),NI,NI,NI];refine decide_eq_false λ q=>?_;have :=H7.mp (show(qw.all λ x=>x.all (·<128))=true by decide) _ q;simp at this;exact absurd h (IQ.mpr this)
def aC.nu(L:aC c s):∃S,dB c s 53 S/\∀d,S ⟨#[d]⟩=gM d:=by
 refine aj λ f=>bS L.jz λ o g a b e=>f ?_;refine bj _ (b.us a (by rw[(mU e)];decide)) (λ d=>?_);rw[decide_eq_decide.mpr (qv e d)];refine aH (Nat.lt_or_ge d 128) (λ q=>?_) λ q=>?_;·exact AQ d q
 ·exact AR q
def aC.ut(L:aC c s):∃S,dB c s 43 S/\∀d,32<=d->d≠127->S ⟨#[d]⟩=ap:=by
 refine aj λ x=>bS L.jx λ o y a b e=>?_;refine o3 b λ f n t v g j l m=>?_;obtain rfl:=v;refine x ?_;classical
 refine bj (λ k=>bF (∃e∈f.toList,(strKind P0 c).is k e.2=true)) ⟨f,n,t,a,g,λ k=>by simp only[decide_eq_true_eq],l,m⟩ (λ d p r=>?_);rw[decide_eq_false_iff_not];intro q;have :=(qv e d).mp (j _ q);rcases k9.mp this with q|q
 · refine ak (hp.mp q) λ i u e=>?_;have :=cI.mp (MT.mp u);cases e;exact dR this p
 ·simp at q;exact yk q r
def qx(d:dB c q.heap h Wy)(b:V2 (Wy j) {q with toks:=q.toks+1}):aA (au P0 c) o (setContains h (.str j Vt)) V2 y q:=by
 refine aj λ n=>o3 d λ u p v l f i e g=>n ?_;unfold setContains;exact aK (af ((strKind P0 c).pyHash (k:=j) (iE j Vt) (af (setFind_any (s:={q with toks:=q.toks+1}) (knd:=strKind P0 c) (iE j Vt) rfl l rfl f i e g λ r m=>(m.symm▸(ah b))))))
def AS(d:dB c q.heap h Wy)(e:V2 (Wy j) {q with toks:=q.toks+1}):aA (au P0 c) o (contains (.ref h) (.str j Vt)) V2 y q:=by
 have b:=d.typeIs;unfold contains;try with_reducible refine aK ?_
 refine af (NV b FB.slot_frozenset_contains.lookup ?_);refine bT (by rw[beq_builtin_none];exact Jn) ?_;refine af (wpAny_callSpecialUnlessNone?_slot (name:=ac "__contains__") b FB.slot_frozenset_contains (IN FB.slot_frozenset_contains b FB.entry_frozenset_contains ?_ (FB.args_frozenset_contains_2 _ _)));unfold Builtin.«frozenset.__contains__»Lp;simp only[MV,QU];unfold Lq SU;refine af (ah ?_);try dsimp only
 refine af (ah ?_);try dsimp only
 exact af (QD (qx d (ah ⟨_,rfl,zF e⟩)))
def Tr.AT(d:∀w f,aC w f->∃S,dB w f h S/\S j=M)(o:Ev u g i z (S j))(p:Ev u g i Vl (.raw (.ref h)))(q:autoParam (Lm .In Vl=ap) gX):Tr u g i (.Compare z [.In] [Vl] v) M:=λ X w A l H s E R=>JX (o.use l R (Kp.refl s) λ O L C _ y m=>p.use l m y λ G N D J B n=>by
  refine ai C.str ?_;rintro t rfl;obtain rfl:G=.ref h:=D;refine ak (d w _ n.left) λ S d e=>?_;refine af (AS d (ah (zF ⟨e,B.trans Kp.toks⟩)))) q
def qy:PlainAttrs "frozenset":=⟨⟨"object.__getattribute__",by rw[I4,FF];lia,by decide+kernel⟩,by rw[I4,FF];lia⟩
def qz:Rp "frozenset" "isdisjoint" "frozenset.isdisjoint":=.of (owner:="frozenset") (n:="isdisjoint") (by rw[I4,FF];lia) (by decide+kernel) (by decide+kernel) (by decide+kernel) (by first|exact .inl (by decide+kernel)|exact .inr (by decide+kernel)) (by rw[kF];lia)
def nv:Rp "frozenset" "issuperset" "frozenset.issuperset":=.of (owner:="frozenset") (n:="issuperset") (by rw[I4,FF];lia) (by decide+kernel) (by decide+kernel) (by decide+kernel) (by first|exact .inl (by decide+kernel)|exact .inr (by decide+kernel)) (by rw[kF];lia)
def AU:Na (.builtin "frozenset.isdisjoint")=jq (.type "method_descriptor"):=by show builtinType _=_;refine S7.symm▸?_;lia
def uu:Na (.builtin "frozenset.issuperset")=jq (.type "method_descriptor"):=by show builtinType _=_;refine S7.symm▸?_;lia
def AV:KE Kj "frozenset.isdisjoint"=some Builtin.«frozenset.isdisjoint»:=Jv (by lia)
def AW:KE Kj "frozenset.issuperset"=some Builtin.«frozenset.issuperset»:=Jv (by lia)
def uv:KE Kj "frozenset.isdisjoint.loop"=some Builtin.«frozenset.isdisjoint.loop»:=Jv (by lia)
def uw:KE Kj "frozenset.issuperset.loop"=some Builtin.«frozenset.issuperset.loop»:=Jv (by lia)
def AX(a b:ab):L8 "frozenset.isdisjoint" ⟨[a,b],[]⟩:=by unfold L8;rw[Mg (id:="frozenset.isdisjoint") (n:="isdisjoint".toList.reverse) (o:=['t','e','s','n','e','z','o','r','f']) (by lia) Kr];lia
def AY(a b:ab):L8 "frozenset.issuperset" ⟨[a,b],[]⟩:=by unfold L8;rw[Mg (id:="frozenset.issuperset") (n:="issuperset".toList.reverse) (o:=['t','e','s','n','e','z','o','r','f']) (by lia) Kr];lia
def nw:plainId "frozenset.isdisjoint.loop"=true:=by decide+kernel
def nx:plainId "frozenset.issuperset.loop"=true:=by decide+kernel
def AZ{I a:ae}{St:Nat->a7->Prop}(W:U2 P0 c o.in1 I [I] [I] j.cps.size (SignAt j) St)(U:∀y∈j.cps.toList,Wy ⟨#[y]⟩=ap)(N:a≠I)(k:aa):∀(n i:Nat)(s:aa),j.cps.size-i=n->i<=j.cps.size->St i s.heap->dB c s.heap a Wy->(∃h l,s={k with heap:=h,toks:=l}/\∀b d,b≠I->k.heap.get? b=some d->h.get? b=some d)->(∀f l,(∀b d,b≠I->k.heap.get? b=some d->f.get? b=some d)->Wf (.ok (.ret (.bool true))) {k with heap:=f,toks:=l})->JM (au P0 c) o (.builtin "frozenset.isdisjoint.loop" ⟨[.ref a,.ref I],[]⟩) Wf s:=by
 intro n;induction n with
 |zero=>
  rintro i s m G B D⟨h,l,rfl,C⟩z;have T:i=j.cps.size:=hA G (iu m);subst T;refine hN uv ?_;rw[fH nw _];unfold Builtin.«frozenset.isdisjoint.loop»;exact af (W.done _ _ _ B λ f q p=>(ah (z f q λ b d g e=>p b d (by simpa using g) (C b d g e))))|succ n Y=>
  rintro i s m G B D⟨h,l,rfl,C⟩z;have H:i<j.cps.size:=iv m;refine hN uv ?_;rw[fH nw _];unfold Builtin.«frozenset.isdisjoint.loop»;refine af (W.item i _ _ _ H B λ v f q O V p=>(aj λ WK=>?_));refine aW O ?_;rintro y u Q rfl;refine WK ?_;have E:dB c f a Wy:=by exact eb D λ L J t e r=>mE L J t (p a _ (by simpa using N) e) r
  refine af (aK (qx (q:={k with heap:=f,toks:=q}) E ?_));rw[U y (by refine ai (eB.mp Q) λ WL M=>?_;rw[<-M];simp)];exact ah ⟨I0 nw _,Y (i+1) _ (hB m) H V E ⟨f,q+1,rfl,λ b d g e=>p b d (by simpa using g) (C b d g e)⟩ z⟩
def A0{I a:ae}{St:Nat->a7->Prop}(W:U2 P0 c o.in1 I [I] [I] j.cps.size (SignAt j) St)(Q:∀y∈j.cps.toList,Wy ⟨#[y]⟩=true)(N:a≠I)(k:aa):∀(n i:Nat)(s:aa),j.cps.size-i=n->i<=j.cps.size->St i s.heap->dB c s.heap a Wy->(∃h l,s={k with heap:=h,toks:=l}/\∀b d,b≠I->k.heap.get? b=some d->h.get? b=some d)->(∀f l,(∀b d,b≠I->k.heap.get? b=some d->f.get? b=some d)->Wf (.ok (.ret (.bool true))) {k with heap:=f,toks:=l})->JM (au P0 c) o (.builtin "frozenset.issuperset.loop" ⟨[.ref a,.ref I],[]⟩) Wf s:=by
 intro n;induction n with
 |zero=>
  rintro i s m G B D⟨h,l,rfl,C⟩z;have U:i=j.cps.size:=hA G (iu m);subst U;refine hN uw ?_;rw[fH nx _];unfold Builtin.«frozenset.issuperset.loop»;exact af (W.done _ _ _ B λ f q p=>(ah (z f q λ b d g e=>p b d (by simpa using g) (C b d g e))))|succ n Y=>
  rintro i s m G B D⟨h,l,rfl,C⟩z;have H:i<j.cps.size:=iv m;refine hN uw ?_;rw[fH nx _];unfold Builtin.«frozenset.issuperset.loop»;refine af (W.item i _ _ _ H B λ v f q O V p=>(aj λ WK=>?_));refine aW O ?_;rintro y u T rfl;refine WK ?_;have E:dB c f a Wy:=by exact eb D λ L J t e r=>mE L J t (p a _ (by simpa using N) e) r
  refine af (aK (qx (q:={k with heap:=f,toks:=q}) E ?_));rw[Q y (by refine ai (eB.mp T) λ WL M=>?_;rw[<-M];simp)];exact ah ⟨I0 nx _,Y (i+1) _ (hB m) H V E ⟨f,q+1,rfl,λ b d g e=>p b d (by simpa using g) (C b d g e)⟩ z⟩
def Fn.isdisjoint(l:u.2=true)(d:∀w f,aC w f->∃S,dB w f h S/\∀c∈j.cps.toList,S ⟨#[c]⟩=ap):Fn u (.builtin "frozenset.isdisjoint") [.raw (.ref h),S j] (Bo true):=λ X w A i s C E L B r=>by
 refine aj λ z=>?_;refine bS r.two ?_;rintro D G rfl q v;obtain rfl:_=hk h:=q;refine ai v.str ?_;rintro t rfl;refine ak (d w _ L) λ S d m=>z ?_;refine Je (Ig qz.plain AV (qz.check _ _ _ _ _ _ _ _ d.typeIs (AX _ _) ?_));unfold Builtin.«frozenset.isdisjoint»Lp;rw[MV,QU];unfold Lq;refine af (ah ?_);try dsimp only
 refine af (ah ?_);try dsimp only
 refine bT (λ f=>by cases f) ?_;refine af (LX (JF _ _ _) (bT (by decide) ?_));refine af (TY λ o St W n=>?_);refine ah ⟨I0 nw _,AZ (W _ (i.calm l)) m (by refine eb d λ _ _ _ e _=>?_;exact br (az e)) {s with heap:=s.heap.push o} _ 0 _ rfl (dk _) n (d.keeps λ _ _ e=>ao _ e) ⟨_,_,rfl,λ _ _ _ e=>e⟩ λ g y p=>?_⟩;exact⟨.k8,⟨g,y,rfl,λ b o e=>p b o (br (az e)) (ao _ e)⟩⟩
def A1:Kk (.type "str") (.type "set")=jq ap:=by rw[kF];lia
def A2:Kk (.type "str") (.type "frozenset")=jq ap:=by rw[kF];lia
def A3(h:V2 ap q):aA (au P0 c) o (Ml (.str j Vt)) V2 y q:=by
 unfold Ml;show aA _ _ (do let b<-NL (.str j Vt) (.type "set");if b=true then jq true else NL (.str j Vt) (.type "frozenset")) _ _ q;refine af (JP (JF _ _ _) A1 (bT (λ h=>by cases h) ?_));exact JP (JF _ _ _) A2 h
def Fn.issuperset(l:u.2=true)(d:∀w f,aC w f->∃S,dB w f h S/\∀c∈j.cps.toList,S ⟨#[c]⟩=true):Fn u (.builtin "frozenset.issuperset") [.raw (.ref h),S j] (Bo true):=λ X w A i s C E L B r=>by
 refine aj λ z=>?_;refine bS r.two ?_;rintro D G rfl q v;obtain rfl:_=hk h:=q;refine ai v.str ?_;rintro t rfl;refine ak (d w _ L) λ S d m=>z ?_;refine Je (Ig nv.plain AW (nv.check _ _ _ _ _ _ _ _ d.typeIs (AY _ _) ?_));unfold Builtin.«frozenset.issuperset»Lp;rw[MV,QU];unfold Lq;refine af (ah ?_);try dsimp only
 refine af (ah ?_);try dsimp only
 refine af (A3 (bT (λ f=>by cases f) ?_));refine af (TY λ o St W n=>?_);refine ah ⟨I0 nx _,A0 (W _ (i.calm l)) m (by refine eb d λ _ _ _ e _=>?_;exact br (az e)) {s with heap:=s.heap.push o} _ 0 _ rfl (dk _) n (d.keeps λ _ _ e=>ao _ e) ⟨_,_,rfl,λ _ _ _ e=>e⟩ λ g y p=>?_⟩;exact⟨.k8,⟨g,y,rfl,λ b o e=>p b o (br (az e)) (ao _ e)⟩⟩
def fJ.kS(c:∀w d,aC w d->∃S,dB w d h S):fJ "frozenset" (.raw (.ref h)):=λ X w s v L r=>by
 obtain rfl:v=.ref h:=r;refine ai (c w _ L) λ S c=>dv c.typeIs (λ b f=>(eb c λ _ _ _ e _=>?_));cases f;exact bj _ e rfl
def St.iU{l:ExceptHandler}{j:List ExceptHandler}(h:ag A u g i D Vp (.next VN V0)):St A u g i D (.Try Vp (l::j) [] [] v) (.next VN V0):=λ X w a d c o s E m b O F=>Np (aG (h X w a d c o s _ m b O F) (λ f p n=>by obtain⟨e,r⟩:=n;subst e;exact J2 ⟨rfl,r⟩) λ _ _ A=>A)
noncomputable abbrev nm(s:String):Str:=ac s
def ux(P:a3):a5 P (nm "TOML_WS_AND_NEWLINE")=some (.ref 52):=by lia
def uy(P:a3):a5 P (nm "HEXDIGIT_CHARS")=some (.ref 53):=by lia
def A4(P:a3):a5 P (nm "ILLEGAL_COMMENT_CHARS")=some (.ref 43):=by lia
def uz(P:a3):a5 P (nm "skip_chars")=some (.ref 76):=by lia
def A5(P:a3):a5 P (nm "skip_until")=some (.ref 83):=by lia
def uA(P:a3):a5 P (nm "skip_comment")=some (.ref 90):=by lia
noncomputable def eY(c:Nat):Bool:=bF (c=9\/c=32\/c=10)
def qA:cu 76 75 (bB [11]) (a0 [11]) [nm "src",nm "pos",nm "chars"]:=.mk' (λ P=>by lia) (λ P=>by lia) (λ P=>⟨by lia,by lia,by lia,by lia,by lia,by lia⟩) (by decide) (by rfl) (by rfl) ⟨rfl,rfl⟩ rfl rfl rfl
def qB(s:∀i,i<b->∃c,j.cps[a+i]?=some c/\eY c=true)(t:∃c,j.cps[a+b]?=some c/\eY c=ap)(u:(a+b:Int)<2^62):Fn (Vs+1,true) (.ref 76) [S j,I a,.raw (.ref 52)] (I ((a+b:Nat):Int)):=by
 refine Fn.of qA (λ P doc G v=>by
     refine aj λ f=>?_;refine iC (jD v) ?_;rintro m o c rfl;refine f ?_;lia) rfl ?_;let g:Nat->List (Str×PV):=λ i=>[(nm "pos",I ((a+i:Nat):Int)),(nm "src",S j),(nm "chars",.raw (.ref 52))];refine ag.weaken (VN:=g 0) ?_ ⟨rfl,rfl,rfl,trivial⟩;have z:∀(c:Nat)(w:ar)(h:a7),aC w h->∃S,dB w h 52 S/\S ⟨#[c]⟩=eY c:=λ c w h L=>by exact ak L.AP λ S m o=>bj S m (o c)
 have q:∀{A B C D E:Pos}i c r,r=eY c->i<=b->j.cps[a+i]?=some c->Tr (Vs,true) (a0 [11]) (seen (g i) []) (.Compare (.Subscript (.Name (nm "src") A) (.Name (nm "pos") B) C) [.In] [.Name (nm "chars") D] E) r:=λ i c r y d e=>by
   subst y;exact Tr.AT (z c) (Ev.m9 (j:=j) (C:=((a+i:Nat):Int)) Ev.nm Ev.nm (dh) (yW u d) (by rw[b4];exact e)) Ev.nm
 refine ag.cons (St.iU (ag.cons (St.lq b g (λ _=>[]) (λ i=>.next ((nm "pos",I (((a+i:Nat):Int)+1))::g i) []) (λ i d=>?_) (λ i d=>?_) (λ i d=>?_) (.inl ⟨?_,rfl⟩)) ag.nil)) (ag.last (St.ret Ev.nm) trivial);·exact aj λ f=>ak (s i d) λ c e l=>f (q i c _ l.symm (bn d) e)
 ·exact ag.cons (St.fL (by rfl) .int (by rfl)) ag.nil
 · refine dv ⟨?_,rfl,rfl,trivial⟩ rfl;show some (I (((a+i:Nat):Int)+1))=some (I ((a+(i+1):Nat):Int));rw[show((a+(i+1):Nat):Int)=((a+i:Nat):Int)+1 by exact yg]
 ·exact aj λ f=>ak t λ c e l=>f (q b c _ l.symm (aB _) e)
noncomputable abbrev Cp(x:Str):List Nat:=x.cps.toList
def A6{i j:Option Int}(c:s.IsSliceOf h U V7 .none)(e:R7 U i)(f:R7 V7 j):∃l u:Option (Int×Tok),s.IsSlice h l u none/\l.map (·.1)=i/\u.map (·.1)=j:=by
 have one:∀{v:ab}{i:Option Int},R7 v i->∃l:Option (Int×Tok),v=partValue l/\l.map (·.1)=i:=λ p=>by cases p with
  |none=>exact bj none rfl rfl|int i t=>exact bj (some (i,t)) rfl rfl
 refine aj λ g=>?_;refine ak (one e) ?_;rintro l rfl b;refine ak (one f) ?_;rintro u rfl d;exact g (kN l u c b d)
def Ev.ny{o m:Option b7}{c d:Option Int}(B:Ev u g i z (S j))(D:gF u g i o c)(C:gF u g i m d)(e:(L' j c d).length<=a9):Ev u g i (.Subscript z (.Slice o m none v) J) (S (L' j c d)):=λ X w A f V s E R=>Ma (B.use f R (Kp.refl s) λ WM WK O _ L q=>qa f D C q L λ b WN WO WL M N H Y n U=>by
   refine aj λ T=>?_;refine ai O.str ?_;rintro t rfl;refine bS (A6 H M N) λ l Q G r y=>T (Nw (ops:=[.ref b]) (JF _ _ _) SR.lookup (wpAny_getItem_str_slice G rfl ?_) rfl);unfold sliceMade;unfold L' at e⊢;rw[show slicePicked j l Q none=UC c d 1 j.length by unfold slicePicked;rw[r,y];rfl];show Made.post (if((1:Int)==1&&(UC c d 1 j.length).length==j.length)=true then _ else _) _ _;split;·exact dv .mkStr n
   · rename_i h;rw[if_neg h]at e;exact b3 e .mkStr (n.trans Kp.toks))
def uB(x:Str)(c:a<=b)(d:b<=x.length):L' x (some (a:Int)) (some (b:Int))=⟨((Cp x).drop a|>.take (b-a)).toArray⟩:=sliceText_nat x c d
def A7(x:Str)(c:a<=x.length):L' x none (some (a:Int))=⟨((Cp x).take a).toArray⟩:=by
 rw[sliceText_to ⟨dh,by simp[Ou]at c⊢;exact c⟩];rfl
def jR(WK:Str)(c i:Nat):subAt WK ⟨#[c]⟩ i=true↔(Cp WK)[i]?=some c:=by
 rw[subAt_eq];show((Cp WK|>.drop i).take 1==[c])=true↔_;rw[beq_iff_eq];constructor
 · intro h;have :((Cp WK).drop i)[0]?=some c:=by
     rcases q:(Cp WK).drop i with _|⟨a,r⟩;·rw[q]at h;simp at h
     ·rw[q]at h;simp at h;simp[h]
   simpa using this
 · intro h;have :((Cp WK).drop i)[0]?=some c:=by simpa using h
   rcases q:(Cp WK).drop i with _|⟨a,r⟩;·rw[q]at this;simp at this
   ·rw[q]at this;simp at this;simp[this]
theorem qC(WM:Str)(WL b d:Nat):∀(l:List Nat)(st:Array Nat×Nat),l.Pairwise (·<·)->(∀WN∈l,st.2<=WN)->st.1.size+l.length<=d->(QX l st (occBody WM ⟨#[WL]⟩ b d)).run.1.size=st.1.size+l.countP λ WN=>bF (WN+1<=b/\(Cp WM)[WN]?=some WL)
 |[],st,_,_,_=>rfl|WK::l,st,j,f,e=>by
   refine am (Mp.mp j) λ WQ g=>?_;rw[Ku];unfold occBody;simp only[y3]at e;by_cases WO:WK+1<=b/\(Cp WM)[WK]?=some WL
   · have c1:((st.1.size<d/\st.2<=WK)/\WK+(⟨#[WL]⟩:Str).length<=b)/\subAt WM ⟨#[WL]⟩ WK=true:=⟨⟨⟨jg e,f WK (.head _)⟩,WO.1⟩,(jR WM WL WK).mpr WO.2⟩;rw[if_pos c1];have :=qC WM WL b d l (st.1.push WK,WK+1) g (λ WN WP=>WQ WN WP) (by simp;exact hD e);rw[List.countP_cons_of_pos (by simpa using WO)];refine this.trans ?_;simp;exact hE
   · have c1:¬(((st.1.size<d/\st.2<=WK)/\WK+(⟨#[WL]⟩:Str).length<=b)/\subAt WM ⟨#[WL]⟩ WK=true):=λ h=>WO ⟨h.1.2,(jR WM WL WK).mp h.2⟩;rw[if_neg c1];rw[List.countP_cons_of_neg (by simpa using WO)];exact qC WM WL b d l (st.1,st.2) g (λ WN WP=>an (f WK (.head _)) (bn (WQ WN WP))) (by dsimp only;exact r9 e)
def A8(l:List Nat)(c:Nat):∀(n:Nat),n<=l.length->(NA 0 (n+1)).countP (λ i=>bF (i+1<=n/\l[i]?=some c))=(l.take n).count c:=by
 intro n d;have f:∀m,m<=n->(NA 0 m).countP (λ i=>bF (i+1<=n/\l[i]?=some c))=(l.take m).count c:=by
  intro m;induction m with
  |zero=>intro _;rfl|succ m e=>
   intro WK;have b:m<l.length:=bA (gY WK) d;rw[RT,RU,e (gv WK)];rw[((List.take_append_getElem b).symm),KC,QR,NG];simp only[Ik,Nat.mul_one,Nat.one_mul];congr 1;have :l[m]?=some l[m]:=ay b;rw[this];by_cases a:l[m]=c;·simp[a];exact WK
   ·simp[a]
 simp only[RT,RU,f n (aB _),QR];simp;intro WL;exact dR (dt WL) (ix WL)
def A9(WK:Str)(c a:Nat)(b:a<=WK.length):(LN WK ⟨#[c]⟩ 0 a (WK.length+1)).length=((Cp WK).take a).count c:=by
 rw[occ_eq];have :=qC WK c a (WK.length+1) (NA 0 (a+1-0)) (#[],0) (Qk) (λ _ _=>dk _) (by simp;exact b);rw[aX,this,KR,A8 _ _ _ (jh (by rfl) b)];simp
noncomputable def cg(l:List Nat)(c:Nat):Nat:=(l.reverse.takeWhile (· !=c)).length
def uC(c:Nat):∀(l:List Nat),c∈l->cg l c<l.length/\l[l.length-1-cg l c]?=some c/\∀i,l.length-1-cg l c<i->i<l.length->l[i]?≠some c:=by
 intro l WL;refine ai (⟨l.reverse,by simp⟩:∃r,l=r.reverse) ?_;rintro r rfl;unfold cg;rw[List.reverse_reverse,NZ];have g:∀(r:List Nat),c∈r->(r.takeWhile (· !=c)).length<r.length/\r[(r.takeWhile (· !=c)).length]?=some c/\∀i,i<(r.takeWhile (· !=c)).length->r[i]?≠some c:=by
   intro r;induction r with
   |nil=>intro WL;cases WL|cons a r f=>
     intro d;by_cases q:a=c
     · obtain rfl:=q.symm;simp
     · refine a4 (f ((aP.mp d).elim (λ e=>(q e.symm).elim) id)) λ WK WM b=>?_;have e:(a::r).takeWhile (· !=c)=a::r.takeWhile (· !=c):=by simp[Md,q]
       rw[e];refine b3 (by simpa using WK) (WM) (λ i WN=>?_);rcases i with _|i;·simpa using q
       ·exact b i (by simpa using WN)
 refine aj λ j=>a4 (g r (by simpa using WL)) λ WK WM b=>?_;refine j (b3 WK ?_ (λ i WN WO=>?_))
 · simp only[QQ (hF WK),<-WM];congr 1;exact yh WK
 · rw[QQ WO];exact b _ (y0 WN WO)
def Ba(WK:Str)(WL b:Nat)(l:b<=WK.length)(WR:WL∈(Cp WK).take b):QN WK ⟨#[WL]⟩ 0 b=some (b-1-cg ((Cp WK).take b) WL):=by
 have m:((Cp WK).take b).length=b:=by simp[Ou]at l⊢;exact mo l
 refine aj λ n=>a4 (uC WL _ WR) λ e j WP=>n ?_;rw[m]at e j WP;generalize cg ((Cp WK).take b) WL=d at e j WP;rw[last_eq];have k:=last_run WK ⟨#[WL]⟩ b (NA 0 (b+1-0)) [] none (λ _ WM=>nomatch WM) (λ _ WM=>nomatch WM) (Qk);simp only[Pp]at k;have WO:∀i,At WK ⟨#[WL]⟩ b i↔i<b/\((Cp WK).take b)[i]?=some WL:=λ i=>by
   unfold At;rw[jR];constructor
   · rintro⟨f,g⟩;have WQ:i+1<=b:=f;exact⟨gY WQ,by rw[MK (gY WQ)];exact g⟩
   · rintro⟨f,g⟩;exact⟨f,by rwa[MK f]at g⟩
 generalize(QX (NA 0 (b+1-0)) none (lastBody WK ⟨#[WL]⟩ b)).run=r at k;rcases r with _|WN;·exact(k (b-1-d) (by rw[Se];exact sl e) ((WO _).mpr ⟨hF e,j⟩)).elim
 · refine am k λ f g=>am ((WO WN).mp f) λ WS WT=>?_;congr 1;refine ez (LB WN (b-1-d)) (λ WM=>?_) (λ WM=>?_) λ WM=>?_;·exact(g _ (by rw[Se];exact sl e) WM ((WO _).mpr ⟨hF e,j⟩)).elim
   ·exact WM
   ·exact(WP WN WM WS WT).elim
def Bb(x y:Str)(i:Int)(t u v:Tok)(q:Nat)(r:List Nat)(h:LN x y (JQ x.length i) x.length 1=q::r):TO (Builtin.«str.index» ⟨[.str x t,.str y u,.int i v],[]⟩) (.int q):=by
 show TO (match LN x y (JQ x.length i) (min x.length x.length) 1 with|k::_=>retInt k|[]=>(do rule "str.index.not-found";raiseError"ValueError""substring not found")) _;rw[Uk,h];exact .of_eq rfl
def Bc(x y:Str)(i j:Int)(t u v a:Tok):TO (Builtin.«str.count» ⟨[.str x t,.str y u,.int i v,.int j a],[]⟩) (.int (LN x y (JQ x.length i) (min (JQ x.length j) x.length) (x.length+1)).length):=.of_eq rfl
def Be(x y:Str)(i j:Int)(t u v a:Tok)(q:Nat)(h:QN x y (JQ x.length i) (min (JQ x.length j) x.length)=some q):TO (Builtin.«str.rindex» ⟨[.str x t,.str y u,.int i v,.int j a],[]⟩) (.int q):=by
 show TO (match QN x y (JQ x.length i) (min (JQ x.length j) x.length)with|some i=>retInt i|none=>(do rule "str.rindex.not-found";raiseError"ValueError""substring not found")) _;rw[h];exact .of_eq rfl
def lr(n i:Nat):JQ n (i:Int)=i:=by
 unfold JQ;have :¬((i:Int)<0):=oH dh;rfl
def Fn.Bf(g:b<=x)(d:(Cp j)[x]?=some a)(m:∀i,b<=i->i<x->(Cp j)[i]?≠some a):Fn u (.builtin "str.index") [S j,S ⟨#[a]⟩,I b] (I x):=λ X w A N s O E L M r=>by
 refine aj λ J=>?_;refine bI r.three ?_;rintro Q T U rfl C D G;refine ai C.str ?_;rintro t rfl;refine ai D.str ?_;rintro H rfl;refine ai G.int ?_;rintro v rfl;have l:x<j.length:=by have :=(a8.mp d).1;exact this
 obtain⟨r,y⟩:∃r,LN j ⟨#[a]⟩ (JQ j.length (b:Int)) j.length 1=x::r:=by
   rw[lr];refine aH (occ_head_from j ⟨#[a]⟩ b 1 (aB 1)) (λ z=>?_) λ B=>?_;·exact am z λ f e=>(e x g ⟨l,(jR j a x).mpr d⟩).elim
   · refine di B λ i r f o n e=>⟨r,?_⟩;refine ez (LB i x) (λ h=>?_) (λ h=>?_) λ h=>?_;·exact(m i o h ((jR j a i).mp n.2)).elim
     ·rw[f,h]
     ·exact(e x g h ⟨l,(jR j a x).mpr d⟩).elim
 exact J (Tm Tq (JF _ _ _) F.entry_str_index (F.args_str_index_3 _ _ _) (Bb j ⟨#[a]⟩ b t H v x r y) ⟨.mkInt,Kp.toks⟩)
def Fn.Bg(d:b<=j.length):Fn u (.builtin "str.count") [S j,S ⟨#[a]⟩,I 0,I b] (I (((Cp j).take b).count a)):=λ X w A q s y E L o r=>by
 refine aj λ n=>?_;refine o6 r.four ?_;rintro z B C D rfl f g h i;refine ai f.str ?_;rintro t rfl;refine ai g.str ?_;rintro l rfl;refine ai h.int ?_;rintro v rfl;refine ai i.int ?_;rintro m rfl;refine n ?_;have e:(LN j ⟨#[a]⟩ (JQ j.length 0) (min (JQ j.length (b:Int)) j.length) (j.length+1)).length=((Cp j).take b).count a:=by rw[lr,IX d,show JQ j.length (0:Int)=0 from lr _ 0,A9 j a b d]
 refine Tm Ts (JF _ _ _) F.entry_str_count (F.args_str_count_4 _ _ _ _) (Bc j ⟨#[a]⟩ 0 b t l v m) ⟨?_,Kp.toks⟩;rw[e];exact .mkInt
def Fn.Bh(d:b<=j.length)(e:a∈(Cp j).take b):Fn u (.builtin "str.rindex") [S j,S ⟨#[a]⟩,I 0,I b] (I ((b-1-cg ((Cp j).take b) a:Nat):Int)):=λ X w A q s y E L o r=>by
 refine aj λ n=>?_;refine o6 r.four ?_;rintro z B C D rfl f g h i;refine ai f.str ?_;rintro t rfl;refine ai g.str ?_;rintro l rfl;refine ai h.int ?_;rintro v rfl;refine ai i.int ?_;rintro m rfl;refine n (Tm Ta (JF _ _ _) F.entry_str_rindex (F.args_str_rindex_4 _ _ _ _) (Be j ⟨#[a]⟩ 0 b t l v m _ ?_) ⟨.mkInt,Kp.toks⟩);rw[lr,IX d,show JQ j.length (0:Int)=0 from lr _ 0,Ba j a b d e]
def Tr.ev(e:Ev u g i z (Bo M))(f:autoParam (∀c,isTrue z c (He z c)=(do let v<-He z c;NJ z.pos;Mh [v] (truthy v))) cN):Tr u g i z M:=λ X w A d c s E R=>R' (e.use d R (Kp.refl _) λ v l j _ h _=>by
  obtain rfl:=j.bool;exact zF ⟨rfl,h⟩) (f c)
def lv(k:Lv)(a:ae)(f:List PV)(b:List (Str×PV))(r:PV):Prop:=∀(X:ae->Prop)(WK:ar)(A:aq),Rm k A->∀(s:aa)(e d:List ab)(E:ab->aa->Prop),aC WK s.heap->Ex X s.heap->aU X s.heap e f->aU X s.heap d (b.map (·.2))->aA (au P0 WK) A (I1 (.ref a) e ((b.map (·.1)).zip d)) (λ v c=>RV X c.heap v r/\Kp s c) E s
def aU.append{c d:List PV}(a:aU w s Vc c)(b:aU w s WF d):aU w s (Vc++WF) (c++d):=by induction a with
 |nil=>exact b|cons r _ e=>exact .cons r e
def lv.of(D:cu h Q Vp g G)(z:∀P doc j b,j.length=Vi.length->b.length=i.length->J4 {cf P h with doc:=doc} ⟨j,(i.map (·.1)).zip b⟩=jq (G.zip (j++b)))(B:G.length=Vi.length+i.length)(y:Bd ⟨ap,.ref Q,aR⟩ (a,M) g (G.zip (Vi++i.map (·.2))) Vp V):lv (a+1,M) h Vi i V:=λ X w A t s J b E L p d l=>jO (A:=⟨ap,.ref Q,aR⟩) (Wv:=⟨J,(i.map (·.1)).zip b⟩) D t L p (d.append l) (by simp[B]) (λ doc=>z _ _ _ _ d.len (by simpa using l.len)) rfl (λ q=>by cases q) (λ q=>by cases q) λ o C m n N u F=>aG (y X w _ u o s C _ m n [] F) (λ f O H=>by obtain⟨v,e,d,a,_⟩:=H;subst e;exact⟨d.mono λ _ q=>.inl q,a.kp⟩) λ _ _ x=>x
def Ev.Bi(T:∀w,fI w h)(M:lv u h Vi [(Vd,VS),(Wn,Ww)] V)(O:Ev u g i (.Name j Vg) (.raw (.ref h)))(y:a6 u g i (z::Vr) Vi)(WK:Ev u g i Vl VS)(WL:Ev u g i Wd Ww):Ev u g i (.Call (.Name j Vg) (z::Vr) [⟨some Vd,Vl,v⟩,⟨some Wn,Wd,J⟩] VA) V:=λ X w A c q s E R=>by
 refine Tj (O.use c R (Kp.refl s) λ l WX WV _ WN n=>(aj λ W2=>?_));obtain rfl:l=.ref h:=WV;have W3:=y.plain (E:=q) (v:=VA);refine aW (T w _ n.left) λ o t Y N=>W2 (callWith_function_kw (o:=o) (fd:=t) ?_);refine di y.cut λ _ _ WR L b B=>?_;obtain rfl:=WR;have U:=a6.use c (z:=VA) (E:=E) (.cons L b B) (s:=WX) (Q:=λ m d=>aA (au P0 w) A (evalAll ((backToKw VA (keywordEach [⟨some Vd,Vl,v⟩,⟨some Wn,Wd,J⟩] q)).map (·.2))) (λ WZ D=>(D.heap.get? h=some o/\o.data=.func t)/\aA (au P0 w) A (I1 (.ref h) ([]++m) ([Vd,Wn].zip WZ)) (λ l d=>RV X d.heap l V/\Kp s d) E D) E d) n WN λ m W4 WW WM WO G=>by
  refine Tg (al (WK.use c G WO λ W0 W5 WT C WP H=>al (Iq (ah (Tg (al (WL.use c H WP λ W1 WY WU f WQ p=>al (Iq (ah (wpAny_evalAll_nil ⟨⟨f.keep _ _ (C.keep _ _ (WM.keep _ _ Y)),N⟩,?_⟩))))))))));exact aG (M X w A c WY m [W0,W1] E p.left p.ex ((WW.keeps C.keep).keeps f.keep) (.cons (WT.keeps f.keep) (.cons WU .nil))) (λ _ _ WS=>by refine am WS λ h b=>?_;exact⟨h,WQ.trans b⟩) λ _ _ j=>j
 simp only[B]at U⊢;exact evalArgs_kw (by rfl) U
def de(c:∀P,∃f,ll P h=some f)(d:autoParam (c8 h=ap) bc):∀w,fI w h:=λ w i L=>by exact aj λ g=>ai (c w.params) λ f e=>aW (L.fn e d) λ o doc h b=>g (dw o _ h b)
def uD:cu 83 82 (bB [12]) (a0 [12]) [nm "src",nm "pos",nm "expect",nm "error_on",nm "error_on_eof"]:=.mk' (λ P=>by lia) (λ P=>by lia) (λ P=>⟨by lia,by lia,by lia,by lia,by lia,by lia⟩) (by decide) (by rfl) (by rfl) ⟨rfl,rfl⟩ rfl rfl rfl
def Bj(t:a<=b)(u:(Cp j)[b]?=some 10)(v:∀i,a<=i->i<b->∃c,(Cp j)[i]?=some c/\32<=c/\c≠127)(C:j.length<=1000000):lv (Vs+1,true) 83 [S j,I a,S ⟨#[10]⟩] [(nm "error_on",.raw (.ref 43)),(nm "error_on_eof",Bo ap)] (I b):=by
 refine lv.of uD (λ P doc N M D G=>by
     refine aj λ H=>?_;refine iC (jD D) ?_;rintro l s c rfl;refine cP (d9 G) ?_;rintro d e rfl;refine H ?_;lia) rfl ?_;have y:(Cp j).length=j.length:=by rfl
 have A:L' j (some (a:Int)) (some (b:Int))=⟨((Cp j).drop a|>.take (b-a)).toArray⟩:=uB j t (j4 (j5 ((a8.mp u).1)) (j6 y));have z:∀c∈(L' j (some (a:Int)) (some (b:Int))).cps.toList,32<=c/\c≠127:=λ c f=>by
   rw[A]at f;refine ai (Nl.mp f) λ i n=>?_;have o:i<b-a:=by
     have :=(a8.mp n).1;simp at this;exact bA this fx
   refine ak (v (a+i) (dG) (iz o)) λ J e r=>?_;have :((Cp j).drop a|>.take (b-a))[i]?=some c:=n;rw[MK o,Mq,e]at this;obtain rfl:=ax this;exact r
 have E:(L' j (some (a:Int)) (some (b:Int))).length<=a9:=by
   rw[A];refine an (m:=j.length) ?_ (an C (by decide));show((Cp j).drop a|>.take (b-a)).toArray.size<=_;simp only[I8,KQ,MU,y];exact an (KS _ _) (Nf _ _)
 refine ag.cons (St.iU (ag.cons (St.assign (V:=I b) ?_ (by rfl)) ag.nil)) (ag.cons (St.ite (M:=ap) (d:=.next _ _) ?_ (λ h=>by cases h) (λ _=>ag.nil)) (ag.last (St.ret Ev.nm) trivial))
 · refine Ev.lj Tq F.type_str_index (Fn.Bf (a:=10) t u λ i n o e=>(ak (v i n o) λ c B r=>?_)) Ev.nm (.cons Ev.nm (.cons Ev.nm .nil));cases aO e B;exact dR (dt r.left) bE
 · refine Tr.not (M:=true) (Tr.ev (Ev.li qy qz AU (fJ.kS λ w h L=>let⟨S,l,_⟩:=L.ut;⟨S,l⟩) (Fn.isdisjoint rfl λ w h L=>?_) Ev.nm (.cons (Ev.ny (j:=j) Ev.nm (.some Ev.nm) (.some Ev.nm) E) .nil) (by decide)));exact ak L.ut λ S l s=>bj S l (λ c f=>s c (z c f).1 (z c f).2)
def aD.jS:aD .Eq (I C) (I Vq) (C==Vq):=λ X w A _ s v u E c b a=>by obtain⟨t,rfl⟩:=b.int;obtain⟨d,rfl⟩:=a.int;exact eq_int ⟨rfl,Kp.refl _⟩
def aD.qD:aD .Eq (S j) (S Vd) (j==Vd):=λ X w A _ s v u E c b a=>by obtain⟨t,rfl⟩:=b.str;obtain⟨d,rfl⟩:=a.str;exact eq_str ⟨rfl,Kp.refl _⟩
def nz:cu 90 89 (bB [13]) (a0 [13]) [nm "src",nm "pos"]:=.mk' (λ P=>by lia) (λ P=>by lia) (λ P=>⟨by lia,by lia,by lia,by lia,by lia,by lia⟩) (by decide) (by rfl) (by rfl) ⟨rfl,rfl⟩ rfl rfl rfl
def uE(d:j.cps[a]?=some b)(l:b≠35)(m:j.length<=1000000):Fn (Vs+1,true) (.ref 90) [S j,I a] (I a):=by
 refine Fn.of nz (λ P doc s n=>by
   refine cP (d9 n) ?_;rintro o r rfl;lia) rfl ?_;refine ag.cons (St.iU (ag.cons (St.gL (V:=S ⟨#[b]⟩) (Ev.m9 (j:=j) (C:=(a:Int)) Ev.nm Ev.nm dh (mi (iw ((eB.mp d).1)) (fC m (aE true))) (by simp only[b4];exact d)) .str (by rfl)) ag.nil)) (ag.cons (St.ite (M:=ap) (d:=.next _ _) ?_ (λ h=>by cases h) (λ _=>ag.nil)) (ag.last (St.ret Ev.nm) trivial));have e:((⟨#[b]⟩:Str)==ac "#")=ap:=by
  rw[beq_eq_false_iff_ne];intro q;have :(⟨#[b]⟩:Str).cps=(ac "#").cps:=by rw[q]
  have f:(ac "#").cps=#[35]:=by decide
  simp only[f]at this;simp at this;exact l this
 simp only[<-e];exact Tr.cmp aD.qD Ev.nm .str
def Bk(d:j.cps[a]?=some 35)(o:a+1<=b)(l:(Cp j)[b]?=some 10)(m:∀i,a+1<=i->i<b->∃c,(Cp j)[i]?=some c/\32<=c/\c≠127)(f:j.length<=1000000):Fn (Vs+2,true) (.ref 90) [S j,I a] (I b):=by
 refine Fn.of nz (λ P doc t n=>by
     refine cP (d9 n) ?_;rintro r s rfl;lia) rfl ?_;refine ag.cons (St.iU (ag.cons (St.gL (V:=S ⟨#[35]⟩) (Ev.m9 (j:=j) (C:=(a:Int)) Ev.nm Ev.nm dh (mi (iw ((eB.mp d).1)) (fC f (aE true))) (by simp only[b4];exact d)) .str (by rfl)) ag.nil)) (ag.last (St.ite (M:=true) (d:=.ret (I b)) ?_ (λ _=>ag.last (St.ret ?_) trivial) (λ h=>by cases h)) trivial)
 · have e:((⟨#[35]⟩:Str)==ac "#")=true:=by decide
   exact e▸(Tr.cmp aD.qD Ev.nm .str)
 · refine Ev.Bi (de λ P=>⟨_,uD.fn P⟩) (Bj (j:=j) (a:=a+1) (b:=b) (Vs:=Vs) o l m f) (Ev.gl A5) (.cons Ev.nm (.cons ?_ (.cons ?_ .nil))) (Ev.gl A4) .bool;·exact Ev.bJ bb.fc Ev.nm .int
   ·exact .str
inductive fh(WK:Str):Nat->Nat->Prop|stop{p c:Nat}:WK.cps[p]?=some c->eY c=ap->c≠35->fh WK p p|lw{p n c r:Nat}:n≠0->(∀i,i<n->∃c,WK.cps[p+i]?=some c/\eY c=true)->WK.cps[p+n]?=some c->eY c=ap->c≠35->fh WK (p+n) r->fh WK p r|comment{p n q r:Nat}:(∀i,i<n->∃c,WK.cps[p+i]?=some c/\eY c=true)->WK.cps[p+n]?=some 35->p+n+1<=q->(Cp WK)[q]?=some 10->(∀i,p+n+1<=i->i<q->∃c,(Cp WK)[i]?=some c/\32<=c/\c≠127)->fh WK q r->fh WK p r
def uF:cu 97 96 (bB [14]) (a0 [14]) [nm "src",nm "pos"]:=.mk' (λ P=>by lia) (λ P=>by lia) (λ P=>⟨by lia,by lia,by lia,by lia,by lia,by lia⟩) (by decide) (by rfl) (by rfl) ⟨rfl,rfl⟩ rfl rfl rfl
def fh.turns(h:fh j a b):∃n,∃g:Nat->Nat,g 0=a/\g n=b/\(∀i,i<n->g i≠g (i+1))/\(∀i,i<n->∃m c,(∀k,k<m->∃c,j.cps[g i+k]?=some c/\eY c=true)/\j.cps[g i+m]?=some c/\eY c=ap/\((c≠35/\g (i+1)=g i+m)\/(c=35/\g i+m+1<=g (i+1)/\(Cp j)[g (i+1)]?=some 10/\∀k,g i+m+1<=k->k<g (i+1)->∃c,(Cp j)[k]?=some c/\32<=c/\c≠127)))/\∃c,j.cps[b]?=some c/\eY c=ap/\c≠35:=by induction h with
 |stop t u B=>exact⟨0,λ _=>_,rfl,rfl,λ _ h=>hC h,λ _ h=>hC h,_,t,u,B⟩|@lw a n c b D w v t u _ x=>
  refine aj λ y=>mD x λ N g l s d e f=>y ⟨N+1,λ i=>match i with|0=>a|i+1=>g i,rfl,s,λ i o=>?_,λ i o=>?_,f⟩;·cases i with
   |zero=>show a≠g 0;rw[l];exact br (MZ (Oz D))|succ i=>exact d i (mc o)
  ·cases i with
   |zero=>exact⟨n,c,w,v,t,.inl ⟨u,l⟩⟩|succ i=>exact e i (mc o)
 |@comment a n q b w v z A C _ x=>
  refine aj λ y=>mD x λ N g l s d e f=>y ⟨N+1,λ i=>match i with|0=>a|i+1=>g i,rfl,s,λ i o=>?_,λ i o=>?_,f⟩;·cases i with
   |zero=>show a≠g 0;rw[l];exact rY (jg z)|succ i=>exact d i (mc o)
  ·cases i with
   |zero=>exact⟨n,35,w,v,by decide,.inr ⟨rfl,by show _<=g 0;rw[l];exact z,by show(Cp j)[g 0]?=_;refine l.symm▸?_;exact A,by show∀k,_->k<g 0->_;refine l.symm▸?_;exact C⟩⟩|succ i=>exact e i (mc o)
def Bl(h:fh j a b)(f:j.length<=1000000):Fn (x+3,true) (.ref 97) [S j,I a] (I b):=by
 refine Fn.of uF (λ P doc U H=>by
     refine cP (d9 H) ?_;rintro O Q rfl;lia) rfl ?_;refine aj λ w=>?_;obtain⟨n,d,rfl,rfl,J,L,B,t,C,D⟩:=h.turns;refine w ?_;let A:Nat->List (Str×PV):=λ i=>[(nm "pos",I (d i:Nat)),(nm "src",S j)];refine ag.weaken (VN:=A 0) ?_ ⟨rfl,rfl,trivial⟩;have h5:∀{a c:Nat},j.cps[a]?=some c->a<j.length:=λ h=>(eB.mp h).1;refine ag.last (St.lq n A (λ _=>[]) (λ i=>.next [(nm "pos",I (d (i+1):Nat)),(nm "src",S j)] []) (λ i l=>Tr.true) (λ i l=>?_) (λ i l=>⟨⟨rfl,rfl,trivial⟩,rfl⟩) (.inr ⟨.ret (I (d n:Nat)),Tr.true,?_,rfl⟩)) trivial
 · refine aj λ w=>di (L i l) λ m c z o y G=>w ?_;have s:=h5 o;have T:Fn (x+1,true) (.ref 76) [S j,I (d i:Nat),.raw (.ref 52)] (I ((d i+m:Nat):Int)):=qB z ⟨c,o,y⟩ (oU s f rfl);have E:Fn (x+2,true) (.ref 90) [S j,I ((d i+m:Nat):Int)] (I (d (i+1):Nat)):=by
     rcases G with⟨u,v⟩|⟨u,v,M,N⟩;·rw[v];exact uE o u f
     ·subst u;exact Bk o v M N f
   refine ag.cons (St.assign (V:=I (d i:Nat)) Ev.nm (by rfl)) ?_;refine ag.cons (St.assign (V:=I ((d i+m:Nat):Int)) (Ev.ed (de λ P=>⟨_,qA.fn P⟩) (u:=(x+2,true)) (qB z ⟨c,o,y⟩ (oU s f rfl)) (Ev.gl uz) (.cons Ev.nm (.cons Ev.nm (.cons (Ev.gl ux) .nil)))) (by rfl)) ?_;refine ag.cons (St.assign (V:=I (d (i+1):Nat)) (Ev.ed (de λ P=>⟨_,nz.fn P⟩) E (Ev.gl uA) (.cons Ev.nm (.cons Ev.nm .nil))) (by rfl)) ?_;refine ag.weaken (VN:=[(nm "pos",I (d (i+1):Nat)),(nm "src",S j),(nm "pos_before_skip",I (d i:Nat))]) (ag.cons (St.ite (M:=ap) (d:=.next _ _) ?_ (λ h=>by cases h) (λ _=>ag.nil)) (ag.weaken ag.nil ⟨rfl,rfl,trivial⟩)) ⟨rfl,rfl,rfl,trivial⟩;have e:(((d (i+1):Nat):Int)==((d i:Nat):Int))=ap:=by rw[beq_eq_false_iff_ne];have :=J i l;exact λ q=>this (Oh.mp q).symm
   rw[<-e];exact Tr.cmp aD.jS Ev.nm Ev.nm
 · have s:=h5 t;refine ag.cons (St.assign (V:=I (d n:Nat)) Ev.nm (by rfl)) ?_;refine ag.cons (St.assign (V:=I ((d n:Nat):Int)) (Ev.ed (de λ P=>⟨_,qA.fn P⟩) (u:=(x+2,true)) (qB (b:=0) (λ i l=>hC l) ⟨B,t,C⟩ (oU (b:=0) s f rfl)) (Ev.gl uz) (.cons Ev.nm (.cons Ev.nm (.cons (Ev.gl ux) .nil)))) (by rfl)) ?_;refine ag.cons (St.assign (V:=I (d n:Nat)) (Ev.ed (de λ P=>⟨_,nz.fn P⟩) (u:=(x+2,true)) (uE (Vs:=x+1) t D f) (Ev.gl uA) (.cons Ev.nm (.cons Ev.nm .nil))) (by rfl)) ?_;refine ag.weaken (VN:=[(nm "pos",I (d n:Nat)),(nm "src",S j),(nm "pos_before_skip",I (d n:Nat))]) (ag.last (St.ite (M:=true) (d:=.ret _) ?_ (λ _=>ag.last (St.ret Ev.nm) trivial) (λ h=>by cases h)) trivial) ⟨rfl,rfl,rfl,trivial⟩;have e:(((d n:Nat):Int)==((d n:Nat):Int))=true:=beq_self_eq_true _;rw[<-e];exact Tr.cmp aD.jS Ev.nm Ev.nm
def Bm(b:(Wc.takeWhile (· !=0)).length<=640)(c:(int_private%"readNumeral") 0 16 (Wc.takeWhile (· !=0))=(int_private%"Numeral.value") C)(a:((Wc.takeWhile (· !=0)).length==Wc.length)=true)(h:Vf (.int C q.toks) {q with toks:=q.toks+1}):aA VK o ((int_private%"intFromText") U Wc 16) Vf y q:=by
 obtain⟨e,g,d,f,os⟩:=q;repeat(any_goals(first
  |assumption|(with_reducible refine Om (decide_eq_true b) ?_)|(with_reducible refine Om (decide_eq_true a) ?_)|wp_step))
 all_goals(try rw[c])
 all_goals(try dsimp only)
 repeat(any_goals(first
  |assumption|(with_reducible refine Om (decide_eq_true b) ?_)|(with_reducible refine Om (decide_eq_true a) ?_)|wp_step))
structure nA(x:Str)(n:Int):Prop where
 ascii:x.cps.all (·<128)=true
 all:x.cps.toList.takeWhile (· !=0)=x.cps.toList
 Bn:x.cps.toList.length<=640
 val:(int_private%"readNumeral") 0 16 x.cps.toList=(int_private%"Numeral.value") n
def Bp{x:PySem.Str}(a:nA x C):TO (Builtin.«int.__new__» ⟨[.type "int",.str x Vt,.int 16 Wo],[]⟩) (.int C):=.of_wp λ M A E s Q h=>by
  obtain⟨j,g,d,k,os⟩:=s;have f:=F.conv_sub_int;have i:=F.madeHere_int;have b:((if x.cps.all (·<128)then x.cps.toList else L9 x.cps.toList).takeWhile (· !=0)).length<=640:=by rw[if_pos a.ascii,a.all];exact a.Bn
  have c:(int_private%"readNumeral") 0 16 ((if x.cps.all (·<128)then x.cps.toList else L9 x.cps.toList).takeWhile (· !=0))=(int_private%"Numeral.value") C:=by rw[if_pos a.ascii,a.all];exact a.val
  have e:(((if x.cps.all (·<128)then x.cps.toList else L9 x.cps.toList).takeWhile (· !=0)).length==(if x.cps.all (·<128)then x.cps.toList else L9 x.cps.toList).length)=true:=by rw[if_pos a.ascii,a.all];exact beq_self_eq_true _
  clear a;repeat(any_goals(first
   |assumption|((with_reducible show aA _ _ ((int_private%"intFromText") _ _ _) _ _ _);refine Bm b c e ?_)|wp_step))
  all_goals first|exact bj _ rfl h|skip
def Br(a b:ab):checkTypeCall "int" ⟨[a,b],[]⟩=jq ():=by lia
def Bs(a b:ab):PS "int.__new__" ⟨[.type "int",a,b],[]⟩=jq ():=by lia
def Fn.uG(a:nA j C):Fn u (.type "int") [S j,I 16] (I C):=λ X w A g s i E L f r=>by
 refine aj λ e=>?_;refine bS r.two ?_;rintro l m rfl c d;refine ai c.str ?_;rintro t rfl;refine ai d.int ?_;rintro h rfl;exact e (callType_new F.called_int F.newNe_int (Br _ _) (Bs _ _) (λ b=>F.args_object_init_3 b _ _) F.entry_int_new (Bp a).meets (show(Made.int C).post _ s from⟨rfl,.mkInt,Kp.toks⟩))
def eg(c d:Nat):Prop:=gM c=true/\Pd c=some d/\d<16
def Bt:∀c<128,gM c=true->c≠0/\Nz c=ap/\c≠45/\c≠43/\c≠95/\c≠120/\c≠88/\c≠111/\c≠79/\eY c=ap/\c≠35:=by decide+kernel
def eg.facts(h:eg a b):a<128/\a≠0/\Nz a=ap/\a≠45/\a≠43/\a≠95/\a≠120/\a≠88/\a≠111/\a≠79/\eY a=ap/\a≠35:=by
 have e:=h.1;unfold gM at e;simp only[JW,kn,decide_eq_true_eq]at e;have lt:a<128:=by rcases e with(q|q)|q<;>exact bz q.2 (by decide)
 exact⟨lt,Bt a lt h.1⟩
def Bu(g:¬(b==120||b==88)=true)(h:¬(b==111||b==79)=true)(f:L1 (a::b::Wc)=some x):x=2:=by
 by_cases q:a=48
 · subst q;have e:L1 (48::b::Wc)=if(b==120||b==88)=true then some 16 else if(b==111||b==79)=true then some 8 else if(b==98||b==66)=true then some 2 else none:=rfl;rw[e,if_neg g,if_neg h]at f;by_cases z:(b==98||b==66)=true;·rw[if_pos z]at f;exact(ax f).symm
   ·rw[if_neg z]at f;exact aQ f
 · have e:L1 (a::b::Wc)=none:=by delta L1 Tp;exact dif_neg q
   exact aQ (e.symm.trans f)
def eg.nB(h:eg a b)(e:Array Nat)(f:Bool):SO 16 (e,f) a=some (e.push b,true):=by
 unfold SO;rw[if_neg (by simpa using h.facts.2.2.2.2.2.1),h.2.1];dsimp only;rw[if_pos h.2.2]
def Bv{a b c d g h i j:Nat}(m:eg a g)(n:eg b h)(o:eg c i)(q:eg d j):nA ⟨#[a,b,c,d]⟩ (((g*16+h)*16+i)*16+j:Nat):=by
 have f:=m.facts;have e:=n.facts;have l:=o.facts;have k:=q.facts;refine⟨?_,?_,by simp,?_⟩;·simp[Array.all,f.1,e.1,l.1,k.1]
 ·simp[Md,f.2.1,e.2.1,l.2.1,k.2.1]
 · show(int_private%"readNumeral") 0 16 [a,b,c,d]=_;simp only[NumText.readNumeral_eq];have r:[a,b,c,d].dropWhile Nz=[a,b,c,d]:=by simp[Rx,f.2.2.1]
   refine r.symm▸?_;have s:SP [a,b,c,d]=(ap,[a,b,c,d]):=by
     delta SP UB;refine Eq.trans (dif_neg f.2.2.2.1) ?_;exact dif_neg f.2.2.2.2.1
   refine s.symm▸?_;have t:Sr 16 [a,b,c,d]=(16,ap,[a,b,c,d]):=by
     unfold Sr;rcases w:L1 [a,b,c,d]with _|p;·rfl
     · obtain rfl:=Bu (by simp[e.2.2.2.2.2.2.1,e.2.2.2.2.2.2.2.1]) (by simp[e.2.2.2.2.2.2.2.2.1,e.2.2.2.2.2.2.2.2.2.1]) w;rfl
   refine t.symm▸?_;have u:([a,b,c,d].reverse.dropWhile Nz).reverse=[a,b,c,d]:=by simp[Rx,k.2.2.1]
   dsimp only;refine u.symm▸?_;have v:RL 16 [a,b,c,d]=some #[g,h,i,j]:=by
     unfold RL;simp only[List.foldlM_cons,List.foldlM_nil,Option.bind_eq_bind,m.nB,n.nB,o.nB,q.nB,LP];rfl
   rw[v];unfold NumText.judge;simp
def Ev.nC{j l:SS}(N:aD j V VS M)(O:aD l VS Ww We)(G:Ev u g i z V)(H:Ev u g i Vl VS)(J:Ev u g i Wd Ww)(L:autoParam (lastMarks [j,l] [Vl,Wd]=ap) gX):Ev u g i (.Compare z [j,l] [Vl,Wd] v) (Bo (M&&We)):=λ X w A f WR s E R=>Compare_chain (G.use f R (Kp.refl s) λ WP WS WL _ U C=>chain_link (H.use f C U λ B WN t Q o n=>aG (N X w A f.gC WN WP B E n.ex (WL.keeps Q.keep) t) (λ c WT m=>by
     obtain⟨e,h⟩:=m;subst e;refine zF ?_;rcases M with _|_;·exact⟨⟨_,.bool ap⟩,o.trans h⟩
     · refine chain_last (J.use f (n.keeps h.keep) (o.trans h) λ WQ WO WM T Y D=>(aG (O X w A f.gC WO B WQ E D.ex ((t.keeps h.keep).keeps T.keep) WM) (λ c WU m=>?_) λ _ _ M=>M));obtain⟨e,WK⟩:=m;subst e;exact⟨⟨_,.bool We⟩,Y.trans WK⟩) λ _ _ M=>M)) L
def Ev.k7(f:Ev u g i z (Bo M))(h:M=ap->Ev u g i Vl (Bo We)):Ev u g i (.BoolOp .Or [z,Vl] v) (Bo (M||We)):=λ X w A c n s E R=>BoolOp_or (f.use c R (Kp.refl s) λ r o l _ d e=>by
  obtain rfl:=l.bool;refine zF ?_;cases M with
  |true=>exact⟨.k8,d⟩|false=>exact BoolOp_one ((h rfl).use c e d λ q p m _ j _=>⟨m,j⟩))
def qE:cu 118 117 (bB [17]) (a0 [17]) [nm "codepoint"]:=.mk' (λ P=>by lia) (λ P=>by lia) (λ P=>⟨by lia,by lia,by lia,by lia,by lia,by lia⟩) (by decide) (by rfl) (by rfl) ⟨rfl,rfl⟩ rfl rfl rfl
noncomputable def hl(n:Int):Bool:=(bF (0<=n)&&bF (n<=55295))||(bF (57344<=n)&&bF (n<=1114111))
def uH:Fn (a+1,true) (.ref 118) [I C] (Bo (hl C)):=by
 refine Fn.of qE (λ P doc d b=>by
  refine ai (k2 b) ?_;rintro c rfl;lia) rfl ?_;exact ag.last (St.ret (Ev.k7 (Ev.nC aD.le aD.le .int Ev.nm .int) λ _=>Ev.nC aD.le aD.le .int Ev.nm .int)) trivial
def uI(P:a3):a5 P (nm "is_unicode_scalar_value")=some (.ref 118):=by lia
def Bw(P:a3):a5 P (nm "suffixed_err")=some (.ref 111):=by lia
def nD:cu 104 103 (bB [15]) (a0 [15]) [nm "src",nm "pos",nm "hex_len"]:=.mk' (λ P=>by lia) (λ P=>by lia) (λ P=>⟨by lia,by lia,by lia,by lia,by lia,by lia⟩) (by decide) (by rfl) (by rfl) ⟨rfl,rfl⟩ rfl rfl rfl
structure gj(WK:Str)(p:Nat)(n:Nat):Prop where at':∃a b c d e f g h,((Cp WK).drop p).take 4=[a,b,c,d]/\eg a e/\eg b f/\eg c g/\eg d h/\n=((e*16+f)*16+g)*16+h
def gj.h5(h:gj j a b):a+4<=j.length:=by
 refine aj λ c=>?_;obtain⟨d,f,g,i,k,l,m,o,e,_⟩:=h.at';refine c ?_;have :(((Cp j).drop a).take 4).length=4:=by rw[e];rfl
 simp[Ou]at this⊢;exact yZ (an (j7 this) (KS _ _))
def gj.slice(h:gj j x Vs):∃d,L' j (some (x:Int)) (some ((x:Int)+4))=d/\d.length=4/\nA d Vs/\∀c∈d.cps.toList,gM c=true:=by
 refine aj λ s=>?_;obtain⟨m,o,q,r,t,u,v,w,e,g,i,k,l,rfl⟩:=h.at';refine s (o8 ⟨#[m,o,q,r]⟩ ?_ rfl (Bv g i k l) (λ c f=>?_))
 · have :=uB j (a:=x) (b:=x+4) (dG) h.h5;simp only[show((x:Int)+4)=((x+4:Nat):Int)from rfl,this,show x+4-x=4 by exact mr,e]
 · simp at f;rcases f with rfl|rfl|rfl|rfl;·exact g.1
   ·exact i.1
   ·exact k.1
   ·exact l.1
def aD.nE:aD .NotEq (I C) (I Vq) (C !=Vq):=λ X w A _ s v u E c b a=>by obtain⟨t,rfl⟩:=b.int;obtain⟨d,rfl⟩:=a.int;exact ne_int ⟨rfl,Kp.refl _⟩
def Bx(h:gj j b x)(u:j.length<=1000000)(o:ag A (a+1,true) (a0 [15]) [(nm "hex_int",I x),(nm "pos",I ((b+4:Nat):Int)),(nm "src",S j)] [] Vp VY):ag A (a+1,true) (a0 [15]) ([nm "src",nm "pos",nm "hex_len"].zip [S j,I b,I 4]) [] ((bB [15]).take 4++Vp) VY:=by
 refine aj λ s=>mC h.slice λ y i f r q=>s ?_;have t:=h.h5;refine ag.cons (St.gL (V:=S y) ?_ .str (by rfl)) (ag.cons (St.ite (M:=ap) (d:=.next _ _) ?_ (λ h=>by cases h) (λ _=>ag.nil)) (ag.cons (St.fL (C:=b) (Vq:=4) (by rfl) Ev.nm (by rfl)) (ag.cons (St.gL (V:=I x) ?_ .int (by rfl)) ?_)))
 · refine i▸?_;exact Ev.ny (j:=j) Ev.nm (.some Ev.nm) (.some (Ev.bJ bb.fc Ev.nm Ev.nm)) (by rw[i,f];decide)
 · have e:(ap:Bool)=(((y.length:Int)!=4)||!true):=by rw[f];rfl
   simp only[e];refine Tr.k7 (Tr.cmp aD.nE (Ev.cA (Fn.hZ (by rw[f];decide)) (Ev.bl dY) (.cons Ev.nm .nil)) Ev.nm) λ _=>?_;refine Tr.not (Tr.ev (Ev.li qy nv uu (fJ.kS λ w h L=>let⟨S,d,_⟩:=L.nu;⟨S,d⟩) (Fn.issuperset (j:=y) rfl λ w h L=>?_) (Ev.gl uy) (.cons Ev.nm .nil) (by decide)));exact ak L.nu λ S d l=>bj S d (λ c m=>by rw[l,q c m])
 ·exact Ev.gG (Fn.uG r) (Ev.bl ql) (.cons Ev.nm (.cons .int .nil))
 · refine ag.weaken o ⟨rfl,?_,rfl,trivial⟩;show some (I ((b:Int)+4))=some (I ((b+4:Nat):Int));rw[show((b+4:Nat):Int)=(b:Int)+4 by exact mf]
def By(h:gj j b x)(d:hl x=true)(f:j.length<=1000000):Fn (a+2,true) (.ref 104) [S j,I b,I 4] (Tu [.int ((b+4:Nat):Int),.str ⟨#[x]⟩]):=by
 refine Fn.of nD (λ P doc t l=>by
     refine aj λ o=>?_;refine iC (jD l) ?_;rintro r s c rfl;refine o ?_;lia) rfl (Bx h f (Vp:=(bB [15]).drop 4) ?_);have m:(x:Int)<=1114111:=by
   unfold hl at d;simp only[JW,kn,decide_eq_true_eq]at d;exact d.elim (λ q=>J0 q.2 (by decide)) (·.2)
 refine ag.cons (St.ite (M:=ap) (d:=.next _ _) ?_ (λ h=>by cases h) (λ _=>ag.nil)) (ag.last (St.ret ?_) trivial)
 · have e:(ap:Bool)=!(hl x):=by rw[d];rfl
   simp only[e];exact Tr.not (Tr.ev (Ev.ed (de λ P=>⟨_,qE.fn P⟩) uH (Ev.gl uI) (.cons Ev.nm .nil)))
 · refine Ev.tuple (Vm:=[.int ((b+4:Nat):Int),.str ⟨#[x]⟩]) (.cons Ev.nm (.cons ?_ .nil)) (f:=by show 2<=a9;decide);exact Ev.cA (Fn.nj (C:=(x:Int)) (dh) m) (Ev.bl nn) (.cons Ev.nm .nil)
def Ev.uJ(d:Ev u g i z (I C))(c:C.natAbs.log2<1920):Ev u g i (.FormattedValue z (-1) none v) (S (Ps C)):=λ X w A b j s E R=>SX (d.use b R (Kp.refl s) λ m l h _ f _=>by
  refine ai h.int ?_;rintro t rfl;exact wpAny_formatField_int c ⟨.mkStr,f.trans Kp.toks⟩)
def Ev.uK(b:Ev u g i z (S j))(c:j.length<=a9):Ev u g i (.FormattedValue z (-1) none v) (S j):=λ X w A a h s E R=>SX (b.use a R (Kp.refl s) λ o l f _ d _=>by
  refine ai f.str ?_;rintro t rfl;exact formatField_str (λ m n=>⟨.mkStr,d.trans Kp.toks⟩) c)
inductive jT(k:Lv)(a:aw)(b:List (Str×PV)):List b7->List Str->Prop|nil:jT k a b [] []|cons{e WK WL xs}:Ev k a b e (S WL)->jT k a b WK xs->jT k a b (e::WK) (WL::xs)
noncomputable def gN(a:Str)(b:List Str):Str:=b.foldl (·++·) a
theorem lx:∀(xs:List Str)(WK:Str),(gN WK xs).length=WK.length+(xs.map (·.length)).sum
 |[],WK=>by rfl|x::xs,WK=>by
  show(gN (WK++x) xs).length=_;simp only[lx xs,IL];simp;exact K9 _ _ _
theorem jT.use{k:Lv}{m:aw}{n:List (Str×PV)}{X:ae->Prop}{w:ar}{A:aq}(p:Rm k A){i:Env}{E:ab->aa->Prop}{f:List b7}{d:List Str}{c:Str}{s h:aa}(x:jT k m n f d)(R:bq X w m i s.heap n)(j:Kp h s)(g:(gN c d).length<=a9):aA (au P0 w) A (joinParts c (evalEach f i)) (λ v l=>RV X l.heap v (S (gN c d))/\Kp h l) E s:=by induction x generalizing c s h with
 |nil=>exact joinParts_nil ⟨.mkStr,j.trans Kp.toks⟩ g|@cons e f x d a b q=>
  refine joinParts_cons (a.use p R j λ v y u _ r o=>?_);refine ai u.str ?_;rintro t rfl;have :(gN (c++x) d).length<=a9:=g;refine⟨?_,q o r g⟩;rw[lx]at this;exact an (dx _ _) this
def Ev.uL(h:jT u g i (z::Vl::Vr) G)(b:(gN aR G).length<=a9):Ev u g i (.JoinedStr (z::Vl::Vr) v) (S (gN aR G)):=λ X w A a c s E R=>JoinedStr_many (h.use a R (Kp.refl s) b)
def Ex.jU(x:Ex w s)(b:s.get? h=none):¬w h:=λ q=>by refine ai (x h q) λ o e=>?_;exact bN b e
noncomputable def ly:Obj:=excClassObj (ac "TOMLDecodeError") (ac "TOMLDecodeError") 66 65 [.type "ValueError"] [.type "ValueError",.type "Exception",.type "BaseException",.type "object"] true [] [] ap none none (some (.ref 57)) none (some (.str (ac "TOMLDecodeError") 407)) (some (.str (ac "TOMLDecodeError") 415)) (some (.bool true)) "ValueError.__new__"
def aC.nF(L:aC c s):s.get? 66=some ly:=L.eC 22 (by lia) rfl λ _ e=>tC e
def aC.uM(L:aC c s):s.Ns 65 (iL (mM c.params)):=by exact k6 (L.eC 21 (by lia) rfl λ _ e=>iK e) (by lia)
def Bz(P:a3):iL (mM P) (ac "__init__")=none:=by lia
def BA(P:a3):iL (mM P) (ac "__str__")=none:=by lia
def uN(P:a3):a5 P (nm "TOMLDecodeError")=some (.ref 66):=by lia
def Ev.BB(O:Ev u g i (.Name (ac "TOMLDecodeError") v) (.raw (.ref 66)))(N:Ev u g i z (S j))(m:autoParam (∀D b,bD (z::D) b=(ap,He z b)::bD D b) bc):Ev u g i (.Call (.Name (ac "TOMLDecodeError") v) [z] [] J) (.exc j):=λ X w A y b s E R=>by
 refine dr (O.use y R (Kp.refl s) λ c WM WL _ T G=>?_);obtain rfl:c=.ref 66:=WL;unfold callWith;have C:(L7 J (bD [z] b)).any (·.1)=ap:=by rw[m];rfl
 have U:=a6.use y (z:=J) (E:=E) (.cons N .nil m) (s:=WM) (e:=s) (Q:=λ o f=>∃c,o=[c]/\RV X f.heap c (S j)/\Kp s f/\bq X w g b f.heap i) G T λ o f Y kp n a=>by
   refine ak Y.one ?_;rintro WT rfl r;exact o8 _ rfl r n a
 rw[m]at U C⊢;refine al (aK (b1 (aG U (λ o WN V=>(mC V λ c H WK n a=>?_)) λ _ _ j=>j)));obtain rfl:=H.symm;refine ai WK.str ?_;rintro t rfl;refine al (Iq ?_);rw[C];have B:=a.left.nF;obtain⟨WS,WR,d,WO,os⟩:=WN;refine al (wpAny_keeperOf_exc B ?_);refine al (wpAny_call_exc_sub (hrest:=by show 1<=a9;decide) R8 B a.left.uM (Bz _) λ L z l=>al (aK (SE (ah ?_))));refine aj λ WQ=>ci l.there λ WP h M p=>WQ ?_;refine dv ⟨z,WP,t,rfl,a.ex.jU l.new,a.ex.jU M,(λ q=>by rw[q,p]at h;cases h),h,p⟩ (n.trans ⟨L,WO,rfl,l.keeps⟩)
def aC.qF(L:aC c s):U3 s 110 106:=by
 have e:s.get? 110=some (tq c.params):=L.eC 66 (by lia) rfl λ _ e=>k1 e;exact⟨_,_,_,_,_,_,_,_,_,e,rfl,rfl,rfl,rfl,rfl,rfl,rfl,rfl,by decide⟩
def aC.BC(L:aC c s):U3 s 124 120:=by
 have e:s.get? 124=some (mP c.params):=L.eC 80 (by lia) rfl λ _ e=>k1 e;exact⟨_,_,_,_,_,_,_,_,_,e,rfl,rfl,rfl,rfl,rfl,rfl,rfl,rfl,by decide⟩
def aC.qG(L:aC c s):U3 s 312 310:=by
 have e:s.get? 312=some (tm c.params):=L.eC 267 (by lia) rfl λ _ e=>k1 e;exact⟨_,_,_,_,_,_,_,_,_,e,rfl,rfl,rfl,rfl,rfl,rfl,rfl,rfl,by decide⟩
def BD(P:a3):a5 P (ac "__builtins__")=some (.ref 4):=by lia
def aC.nG(L:aC c s)(a:(4:Nat)≠h):s.BuiltinsAt (a5 c.params) h:=⟨4,_,BD _,by decide,by decide,a,L.o4,rfl,rfl,rfl⟩
def jV(h:a7)(T:ae):Prop:=∃WK,h.get? T=some (Jw WK)/\OG WK.toList
def uO(h:OG Vc):Vc[1]?≠some (.str j Vt):=λ e=>by
 rcases Vc with _|⟨a,Vc⟩;·exact aQ e
 ·cases Vc with
  |nil=>exact aQ e|cons b Vc=>obtain rfl:=ax e;cases a<;>exact h
def nH(t:jV s h)(k:I3 h s Vk):s.CodeRec U j->Vk.CodeRec U j:=λ l=>by
 refine du l λ c o n m a b d e=>g2 c o n m a (k _ _ (λ i=>(ak t λ p f g=>?_)) b) d e;rw[i,f]at b;obtain rfl:=ax b;cases d;exact uO g (by simpa using e)
def nI(n:Q≠h)(t:jV s h)(k:I3 h s Vk):e9 s Q j->e9 Vk Q j:=λ i=>by refine ci i λ g a b c=>?_;exact dU g (k _ _ n a) b (λ f d e=>nH t k (c f d e))
def BE(a:h<314)(t:jV s h)(k:I3 h s Vk):mW s Q->mW Vk Q:=λ q=>by
 obtain⟨f,g,n,x,b,c,j,l,m⟩:=q;exact⟨f,g,n,x,b,c,k _ _ (IA (aJ a c)) j,k _ _ (IA (aJ a b)) l,λ i d e=>nH t k (m i d e)⟩
def uP(d:h<314)(n:(120:Nat)≠h)(t:jV s h)(k:I3 h s Vk):jA s->jA Vk:=λ q=>q.elim (λ a=>.inl (k _ _ n a)) λ e=>by refine ak e λ c a b=>?_;exact .inr ⟨c,k _ _ n a,BE d t k b⟩
def aC.grow(L:aC c s)(g:c8 h=true)(k:I3 h s Vk)(j:e9 Vk 106 hR)(m:e9 Vk 310 eS)(l:jA Vk):aC c Vk:=by
 have ne:∀{a:ae},c8 a=ap->a≠h:=λ s q=>by rw[q,g]at s;cases s
 refine⟨λ p i f=>?_,?_,?_,?_,k _ _ (ne rfl) L.o0,k _ _ (ne rfl) L.o1,k _ _ (ne rfl) L.o4,j,m,l⟩;·refine ak (L.objs p i f) λ o a b=>?_;exact⟨o,k _ _ (ne f) a,b⟩
 ·let⟨o,e,a,b,d⟩:=L.jx;exact⟨o,e,k _ _ (ne rfl) a,b,d⟩
 ·let⟨o,e,a,b,d⟩:=L.jy;exact⟨o,e,k _ _ (ne rfl) a,b,d⟩
 ·let⟨o,e,a,b,d⟩:=L.jz;exact⟨o,e,k _ _ (ne rfl) a,b,d⟩
def e9.is:e9 s h j->jV s h:=λ⟨c,a,b,_⟩=>⟨c,a,b⟩
def jA.is:jA s->jV s 120:=λ q=>q.elim (λ a=>⟨_,a,trivial⟩) λ⟨b,a,_⟩=>⟨_,a,trivial⟩
def BF{g o:Pos}:∀{l:List ab},OG l->∀{d:ab},MF g (l++[JG C,JG Vq,U])=some d->MF g l=some d\/d=U:=by
 intro l;fun_induction OG l with
 |case1=>
  intro _ d e;simp only[Pp,MF,JG]at e;split at e;·obtain rfl:=ax e;exact .inr rfl
  ·exact aQ e|case2 j t k u y p i=>
  intro h d e;simp only[O8,MF]at e⊢;split at e;·rename_i f;rw[if_pos f];exact .inl e
  ·rename_i f;rw[if_neg f];exact i h e|case3 l m n=>intro h;exact h.elim
def uQ(t:e9 s h j)(i:s.get? h=some (Jw Vz))(k:I3 h s Vk)(l:Vk.CodeRec (.ref Q) j)(g:Vk.get? h=some (Jw (Vz++#[JG v.line,JG v.col,.ref Q]))):e9 Vk h j:=by
 refine aj λ m=>ci t λ n a b c=>?_;cases aO i a;refine m (dU _ g (by simpa using TriplesOk_snoc _ _ _ _ b) (λ p f e=>?_));have d:MF p (Vz.toList++[JG v.line,JG v.col,.ref Q])=some f:=by simpa using e
 rcases BF (o:=p) b d with d|d;·exact nH t.is k (c p f d)
 ·rw[d];exact l
def aD.ge:aD .GtE (I C) (I Vq) (bF (Vq<=C)):=λ X w A _ s v u E c b a=>by obtain⟨t,rfl⟩:=b.int;obtain⟨d,rfl⟩:=a.int;exact ge_int ⟨rfl,Kp.refl _⟩
def nJ(h:C.natAbs<2^64):C.natAbs.log2<1920:=by
 by_cases a:C.natAbs=0;·refine a.symm▸?_;decide
 ·exact(Nat.log2_lt a).2 (aJ h (Nat.pow_le_pow_right (by decide) (by decide)))
def Ev.BG(D:ScOk VI G)(WY:∀h,pY h Vd V8 Vp VI->∀N,N.length=Vi.length->J4 h ⟨N,[]⟩=jq (G.zip N))(W0:G.length=Vi.length)(WX:∀p,Bd ⟨ap,p,aR⟩ (a,M) VI (G.zip Vi) Vp V)(WZ:Ev (a+1,M) g i (.Name j v) (.fn Vd V8 Vp VI))(WL:a6 (a+1,M) g i (z::Vr) Vi):Ev (a+1,M) g i (.Call (.Name j v) (z::Vr) [] J) V:=λ X w A y u s E R=>by
 refine dr (WZ.use y R (Kp.refl s) λ L C W7 _ W2 WO=>?_);obtain⟨T,o,h,p,W4,WR,t,rfl,W',Y,WK,d,WS,Xa,WT,WU,WV⟩:=W7;have W1:=WL.plain (E:=u) (v:=J);refine di WL.cut λ _ _ W5 WP b WM=>?_;obtain rfl:=W5;have U:=a6.use y (z:=J) (E:=E) (.cons WP b WM) (s:=C) (Q:=λ n l=>(l.heap.get? T=some o/\o.data=.func h)/\aA (au P0 w) A (I1 (.ref T) n) (λ L l=>RV X l.heap L V/\Kp s l) E l) WO W2 λ n W8 WN B W3 O=>⟨⟨B.keep _ _ Y,WK⟩,by
   refine uj (A:=⟨ap,h.code,aR⟩) (Wv:=⟨n,[]⟩) D (B.keep _ _ Y) WK ?_ d.body d.mY d.scope d.glob d.blt y O.left O.ex WN W0 (WY h d n WN.len) rfl (λ Vd=>by cases Vd) (λ Vd=>by cases Vd) λ u C m WQ W9 WW F=>aG (WX _ X w _ WW u W8 C _ m WQ [] F) (λ f l H=>by obtain⟨L,z,W6,a,_⟩:=H;subst z;exact dv (W6.mono λ _ Vd=>.inl Vd) (W3.trans a.kp)) λ _ _ j=>j;simp only[d.qual,WS];exact g2 p W4 WR t rfl (B.keep _ _ WT) WU WV⟩;rw[WM]at U W1⊢;exact rS (b1 U)
noncomputable def jW:Il:=(bB [16]).getD 1 b2
noncomputable def nK:Ji:=(cE jW).par
noncomputable def lz:List Il:=(cE jW).body
noncomputable def iV:aw:=(cE jW).scope
noncomputable def uS:Pos:=(cE jW).pos
def BH:jW=.FunctionDef (nm "coord_repr") nK lz [] none [] iV none (nm "coord_repr") uS:=by lia
def BI:ScOk iV [nm "src",nm "pos"]:=⟨by decide,by rfl,by rfl,rfl,rfl,rfl⟩
noncomputable def fi(WK:Str)(p:Nat):Str:=if WK.length<=p then ac "end of document"else gN aR [ac "line ",Ps ((((Cp WK).take p).count 10:Nat)+1:Int),ac ", column ",Ps ((cg ((Cp WK).take p) 10:Nat)+1:Int)]
theorem nL{c:Nat}:∀{r:List Nat},c∉r->r.takeWhile (· !=c)=r
 |[],_=>rfl|a::r,h=>by
  have b:a≠c:=λ q=>h (q▸.head _);rw[List.takeWhile_cons_of_pos (by simpa using b),nL λ q=>h (.tail _ q)]
def BJ(h:a∉Wc):cg Wc a=Wc.length:=by
 unfold cg;rw[nL (by simpa using h),NZ]
def qH(l:List Nat)(c:Nat):cg l c<=l.length:=by
 unfold cg;refine an (UI (List.takeWhile_sublist _)) (by simp)
def BK(f:j.length<=1000000)(u:a<=j.length)(v:ab):Bd ⟨ap,v,aR⟩ (b,true) iV ([nm "src",nm "pos"].zip [S j,I a]) lz (S (fi j a)):=by
 have i:(Cp j).length=j.length:=by rfl
 have s:bF ((j.length:Int)<=(a:Int))=bF (j.length<=a):=by
   by_cases h:j.length<=a;·rw[decide_eq_true h,decide_eq_true (oF h)]
   ·rw[decide_eq_false h,decide_eq_false (λ q=>h (r3 q))]
 by_cases d:j.length<=a
 · unfold fi;rw[if_pos d];refine ag.last (St.ite (M:=true) ?_ (λ _=>ag.last (St.ret .str) trivial) (λ h=>by cases h)) trivial;rw[<-decide_eq_true d,<-s];exact Tr.cmp aD.ge Ev.nm (Ev.cA (Fn.hZ (c6 f (aE true))) (Ev.bl dY) (.cons Ev.nm .nil))
 · unfold fi;rw[if_neg d];have r:((Cp j).take a).count 10<=1000000:=an (NH) (by simp;exact j4 hG (dS i f));have o:cg ((Cp j).take a) 10<=1000000:=an (qH _ _) (by simp;exact j4 hG (dS i f));refine ag.cons (St.ite (M:=ap) (d:=.next _ _) ?_ (λ h=>by cases h) (λ _=>ag.nil)) ?_
   · simp only[<-decide_eq_false d,<-s];exact Tr.cmp aD.ge Ev.nm (Ev.cA (Fn.hZ (c6 f (aE true))) (Ev.bl dY) (.cons Ev.nm .nil))
   refine ag.cons (St.gL (V:=I ((((Cp j).take a).count 10:Nat)+1:Int)) (Ev.bJ bb.fc (Ev.lj Ts F.type_str_count (Fn.Bg (a:=10) u) Ev.nm (.cons .str (.cons .int (.cons Ev.nm .nil)))) .int) .int (by rfl)) ?_;refine ag.cons (St.ite (M:=bF (((Cp j).take a).count 10=0)) (d:=.next [(nm "column",I ((cg ((Cp j).take a) 10:Nat)+1:Int)),(nm "line",I ((((Cp j).take a).count 10:Nat)+1:Int))] []) ?_ (λ h=>?_) (λ h=>?_)) ?_
   · have e:bF (((Cp j).take a).count 10=0)=((((((Cp j).take a).count 10:Nat)+1:Int))==1):=by
       by_cases h:((Cp j).take a).count 10=0;·rw[decide_eq_true h,h];rfl
       ·rw[decide_eq_false h];symm;rw[beq_eq_false_iff_ne];exact λ q=>h (MH (Int.ofNat.inj q))
     simp only[e];exact Tr.cmp aD.jS Ev.nm .int
   · have A:10∉(Cp j).take a:=JL.mp (pV (h));have e:cg ((Cp j).take a) 10=a:=by simp only[BJ A,KQ];exact mo (jh i (j5 (j9 d)))
     exact e.symm▸(ag.cons (St.gL (Ev.bJ bb.fc Ev.nm .int) .int (by rfl)) (ag.weaken ag.nil ⟨rfl,rfl,trivial⟩))
   · have t:10∈(Cp j).take a:=by
       have :((Cp j).take a).count 10≠0:=by simpa using h
       exact Mr.mp (c5 bE (oK this))
     have l:=(uC 10 _ t).1;have z:((Cp j).take a).length=a:=by rw[KQ];exact mo (jh i (j5 (j9 d)))
     have e:((cg ((Cp j).take a) 10:Nat)+1:Int)=(a:Int)-((a-1-cg ((Cp j).take a) 10:Nat):Int):=by simp only[z]at l;exact yT l
     rw[e];exact ag.cons (St.gL (Ev.bJ bb.sub Ev.nm (Ev.lj Ta F.type_str_rindex (Fn.Bh (a:=10) u t) Ev.nm (.cons .str (.cons .int (.cons Ev.nm .nil))))) .int (by rfl)) (ag.weaken ag.nil ⟨rfl,rfl,trivial⟩)
   · refine ag.last (St.ret (Ev.uL (.cons .str (.cons (Ev.uJ Ev.nm (nJ (my r rfl))) (.cons .str (.cons (Ev.uJ Ev.nm (nJ (my o rfl))) .nil)))) ?_)) trivial;rw[lx];have w:(ac "line ").length=5:=by decide
     have x:(ac ", column ").length=9:=by decide
     have y:aR.length=0:=rfl;simp only[uW,Kg,MJ,OP,w,x,y];exact an (m:=40) (sy (Ni (n:=((((Cp j).take a).count 10:Nat)+1:Int)) (jk) (jj r (aE true))) (Ni (n:=((cg ((Cp j).take a) 10:Nat)+1:Int)) (jk) (jj o (aE true)))) (by decide)
def FB.qI(r:A.t=true)(F:FB A w c o g E q i D Ve Vn Y H)(e:H.heap.get? h=some O)(k:bw O)(t:¬bC h):¬aL w E Y h:=λ a=>by
 obtain⟨J,L,C,M,G⟩:=F.bi r;refine ak k λ j f y=>?_;rcases a with(a|a|⟨n,a⟩)|a
 · by_cases p:q.heap.objs.size<=h;·exact F.xc r h O a p e k
   refine ak (G h a t (MY p)) λ B v z=>?_;by_cases l:FA o h
   · obtain⟨_,u,b,d⟩:=C.fa l;cases aO e b;exact d j f
   · have :=F.rel.ext.keep h B (λ _=>⟨t,l⟩) v;cases aO e this;exact z ⟨j,f,y⟩
 · subst a;refine ak (Ns.c9 F.ns) λ u b d=>?_;cases aO e b;exact d j f
 · refine ak (F.cell n h a) λ u b d=>?_;cases aO e b;rw[f]at d;cases d
 · refine cP (F.gJ h a) λ N n b=>?_;cases aO e b;cases f
def Kq.tab{q:aa}(i:c8 h=true)(j:∀b,FA o b->314<=b)(k:I3 h q.heap s):Kq true o q {q with heap:=s,toks:=a}:=by
 refine⟨s,a,rfl,λ b c n e=>k b c (λ g=>(n rfl).1 (by refine g.symm▸?_;exact i)) e,λ b c f d e=>⟨c.slots,k b c (λ g=>?_) e⟩⟩;exact absurd (bC.lt (h:=h) i) (b'.mpr (g▸j b f))
def qJ(L:aC c s)(x:s.CodeRec (.ref h) j):∃o,s.get? h=some o/\bw o/\¬bC h:=by
 refine aj λ m=>du x λ n o l t e a b d=>?_;cases e;refine m (dU o a ⟨l,b,.inr (.inr ⟨j,t,d⟩)⟩ (λ i=>?_));have one:∀{k:Array ab},s.get? h=some (Jw k)->OG k.toList->False:=λ f g=>by
  cases aO a f;cases b;exact uO g (by simpa using d)
 unfold bC c8 at i;simp only[JW]at i;rcases i with(i|i)|i<;>(have e:h=_:=Ky i;subst e);·refine ak L.g8.is λ k f g=>?_;exact one f g
 ·refine ak L.g'.is λ k f g=>?_;exact one f g
 ·refine ak L.g9.is λ k f g=>?_;exact one f g
noncomputable def qL:Cx:=⟨true,.ref 110,ac "suffixed_err"++ac ".<locals>."⟩
def St.BL:St qL u (a0 [16]) i D jW (.next ((nm "coord_repr",.fn hR nK lz iV)::i) (bu (nm "coord_repr") D)):=λ X w A W9 j W6 s E m W7 O F=>by
 refine BH.symm▸(nestDef_K (by lia) (by lia) (by lia) ?_);have WZ:j.kindOf (nm "coord_repr")=some .local:=by rw[F.cB];rfl
 have W1:QH j (nm "coord_repr") (nm "coord_repr")=hR:=by
   unfold QH;rw[WZ,F.qual rfl];decide
 refine W1.symm▸?_;have L:=F.er.left;refine ci L.g8 λ C y M U=>?_;have Y:NO iV j=jq []:=by rfl
 have store:∀(a:a7)(d:Nat)(l:It)(c:ae)(g:Kq true A s {s with heap:=a,toks:=d})(x:aC w a)(z:s.heap.objs.size<=a.objs.size)(WL:pY l hR nK lz iV)(V:l.code=.ref c)(WK:a.CodeRec (.ref c) hR)(WN:¬aL X j O c),aA (au P0 w) A (OD j (nm "coord_repr") (.ref a.objs.size)) (λ _ WR=>c' qL X w A (a0 [16]) j W6 O s .next WR (.next ((nm "coord_repr",.fn hR nK lz iV)::i) (bu (nm "coord_repr") D))) E {s with heap:=a.push {cls:=.type "function",data:=.func l},toks:=d}:=λ a d l c g x z WL V WK WN=>by
   have WP:Kp {s with heap:=a,toks:=d} {s with heap:=a.push {cls:=.type "function",data:=.func l},toks:=d}:=⟨_,_,rfl,λ b o e=>ao _ e⟩;have fr:aZ qL A X j O s O {s with heap:=a.push {cls:=.type "function",data:=.func l},toks:=d}:=⟨λ b o WQ e=>WP.keep b o (g.ext.keep b o (λ _=>⟨λ q=>WQ (.inr (.inr ⟨rfl,.inl q⟩)),λ q=>WQ (.inr (.inr ⟨rfl,.inr q⟩))⟩) e),λ b h=>.inl h,λ _ h=>h,F.hO⟩;refine du WK λ Q B G t H p r v=>?_;cases H;have W5:¬aL X j O a.objs.size:=F.er.ex.fresh z;refine((F.kt rfl g x).kp WP).store (.inl rfl) ?_ λ WR W4 WW WS W3=>⟨rfl,W4,WW,O,WS,fr.trans (.dn F.hO W3)⟩;exact⟨a.objs.size,_,l,c,B,G,t,rfl,W5,aF _ rfl,rfl,WL,V,WN,ao _ p,r,v⟩
 rcases J:MF uS C.toList with _|W8
 · refine makeFunction_K (mg:=a5 w.params) (c:=110) (P:=106) (ps:=C) Y F.er.glob L.mg F.code L.qF y M J (by decide) (L.nG (by decide)) λ Q WX doc a d n WM W0 WO W2=>?_;have g:Kq true A s {s with heap:=a,toks:=d}:=Kq.tab (h:=106) rfl (λ b f=>((F.bi rfl).dA.fa f).1) n;have x:aC w a:=L.grow rfl n (uQ ⟨C,y,M,U⟩ y n WO W2) (nI (by decide) L.g8.is n L.g9) (uP (by decide) (by decide) L.g8.is n L.g');exact store a d _ Q g x (bn (bz WM W0)) ⟨rfl,rfl,rfl,rfl,rfl,rfl,rfl,rfl,rfl⟩ rfl WO (F.er.ex.fresh WM)
 · refine aj λ N=>du (U _ _ J) λ c B G t H p r v=>?_;obtain rfl:=H.symm;refine N (makeFunction_hit (mg:=a5 w.params) (c:=110) (P:=106) (ps:=C) Y F.er.glob L.mg F.code L.qF y M J (L.nG (by decide)) λ WX doc a d g z=>?_);exact aj λ N=>ci (qJ L (h:=c) (j:=hR) ⟨c,B,G,t,rfl,p,r,v⟩) λ o WT WU WV=>N (store a d _ c ⟨a,d,rfl,.of_keeps g⟩ (L.keeps g) z ⟨rfl,rfl,rfl,rfl,rfl,rfl,rfl,rfl,rfl⟩ rfl ⟨c,B,G,t,rfl,g _ _ p,r,v⟩ (F.qI rfl WT WU WV))
def uT:cu 111 110 (bB [16]) (a0 [16]) [nm "src",nm "pos",nm "msg"]:=.mk' (λ P=>by lia) (λ P=>by lia) (λ P=>⟨by lia,by lia,by lia,by lia,by lia,by lia⟩) (by decide) (by rfl) (by rfl) ⟨rfl,rfl⟩ rfl rfl rfl
noncomputable def eI(b:Str)(p:Nat)(a:Str):Str:=gN aR [a,ac " (at ",fi b p,ac ")"]
def qM(b:j.length<=1000000)(k:a<=j.length):(fi j a).length<=40:=by
 unfold fi;split;·decide
 · have c:(Cp j).length=j.length:=by rfl
   have i:((Cp j).take a).count 10<=1000000:=an (NH) (by simp;exact j4 hG (dS c b));have h:cg ((Cp j).take a) 10<=1000000:=an (qH _ _) (by simp;exact j4 hG (dS c b));rw[lx];have d:=Ni (n:=((((Cp j).take a).count 10:Nat)+1:Int)) (jk) (jj i (aE true));have e:(ac "line ").length=5:=by decide
   have f:(ac ", column ").length=9:=by decide
   have g:aR.length=0:=rfl;simp only[uW,Kg,MJ,OP,e,f,g];exact sy d (Ni (n:=((cg ((Cp j).take a) 10:Nat)+1:Int)) (jk) (jj h (aE true)))
def BM(e:j.length<=1000000)(g:a<=j.length)(f:Vd.length<=1000):(eI j a Vd).length<=2000:=by
 unfold eI;rw[lx];have b:(ac " (at ").length=5:=by decide
 have c:(ac ")").length=1:=by decide
 have d:aR.length=0:=rfl;simp only[uW,Kg,MJ,OP,b,c,d];exact an (bX (IU f (bX (gp (qM e g) 1) 5)) 0) (by decide)
def BN(d:j.length<=1000000)(f:a<=j.length)(u:Vd.length<=1000):ef (b+2,true) (.ref 111) [S j,I a,S Vd] (.exc (eI j a Vd)):=by
 refine ef.of (j:=ac "suffixed_err"++ac ".<locals>.") uT (λ P doc y e=>by
  refine aj λ z=>?_;refine iC (jD e) ?_;rintro v w c rfl;refine z ?_;lia) rfl (λ P=>by lia) ?_;refine ag.cons St.doc (ag.cons St.BL (ag.last (St.ret (Ev.BB (Ev.gl uN) (Ev.uL (.cons (Ev.uK Ev.nm (an u (by decide))) (.cons .str (.cons (Ev.uK (Ev.BG BI ?_ rfl (BK d f) Ev.nm (.cons Ev.nm (.cons Ev.nm .nil))) (an (qM d f) (by decide))) (.cons .str .nil)))) (an (BM d f u) (by decide))))) trivial));intro x h y e;obtain⟨name,L,J,B,M,gl,C,E,G,doc,H,A,code,D,bl⟩:=x;obtain⟨g,i,l,m,n,o,r,s,t⟩:=h;dsimp only at g i l m n o r s t;subst g i l m n o r s t;refine cP (d9 e) ?_;rintro v w rfl;lia
def eJ(d:∀a,O.data≠.fields a):¬bw O:=λ b=>by refine ak b λ a q _=>?_;exact d a q
def uU:¬bw (k4 h):=λ b=>by
 refine ak b λ c q r=>?_;cases q;refine ez r (λ r=>?_) (λ r=>?_) λ a=>?_;·cases r
 ·cases r
 · refine cP a λ _ _ r=>?_;cases r
def BO:¬bw (ha j Vt):=eJ λ _ q=>by cases q
def uV(p:s.PlainList h Vz)(e:s.get? h=some O):∀a,O.data≠.fields a:=λ a q=>by
 refine ai p λ n c=>?_;cases aO e c;cases q
def FB.lA(l:A.t=true)(F:FB A w c o g E q i D Ve Vn Y H):fg o (aL w E Y) H.heap:=by
 obtain⟨y,z,r,J,B⟩:=F.bi l;refine⟨λ b a=>.inl (.inl (y b a)),λ b a=>.inl (z b a).1,r,λ b v a p e=>?_⟩;rcases a with(a|a|⟨n,a⟩)|a
 · by_cases k:q.heap.objs.size<=b;·exact F.xc l b v a k e
   · refine ak (B b a p (IQ.mp k)) λ h f u=>?_;by_cases j:FA o b
     · obtain⟨_,G,t,d⟩:=r.fa j;cases aO e t;exact eJ d
     · have :=F.rel.ext.keep b h (λ _=>⟨p,j⟩) f;cases aO e this;exact u
 · subst a;refine ak (Ns.c9 F.ns) λ h f d=>?_;cases aO e f;exact eJ d
 · refine ak (F.cell n b a) λ h f d=>?_;cases aO e f;exact eJ λ C a=>by rw[d]at a;cases a
 ·exact ai (F.gJ b a) λ C f=>eJ (uV f e)
def h6(h:a7)(b:ae):Prop:=∃o,h.get? b=some o/\(bC b\/¬bw o)
def h6.bi(L:aC c s)(F:cH o s):fg o (h6 s) s:=⟨λ b q=>let⟨a,e⟩:=L.tabs q;⟨a,e,.inl q⟩,λ b q=>let⟨_,a,e,d⟩:=F.fa q;⟨a,e,.inr (eJ d)⟩,F,λ b a i g e=>by
  refine ak i λ j f q=>?_;cases aO e f;exact q.resolve_left g⟩
def h6.new(K:Kq true o q H)(F:cH o q.heap)(n:¬h6 q.heap h)(e:H.heap.get? h=some O)(j:¬bw O):q.heap.get? h=none:=by
 rcases f:q.heap.get? h with _|a;·rfl
 · have c:bw a:=II λ c=>n ⟨a,f,.inr c⟩;by_cases g:FA o h
   · obtain⟨_,k,i,d⟩:=F.fa g;cases aO f i;exact(eJ d c).elim
   · have :=K.ext.keep h a (λ _=>⟨(λ t=>n ⟨a,f,.inl t⟩),g⟩) f;cases aO e this;exact(j c).elim
inductive Rz(w:ar)(A:aq)(a:aa)(m:Str)(e:ae)(s:aa):Prop|mk(t:ae)(WK:Tok)(K:Kq true A a s)(L:aC w s.heap)(F:cH A s.heap)(d:s.heap.get? e=some (k4 t))(f:s.heap.get? t=some (ha m WK))(g:a.heap.get? e=none)(h:a.heap.get? t=none)(b:¬FA A e)(c:¬FA A t)
def dM(x:Cx)(k:Lv)(f:aw)(g:List (Str×PV))(h:List (Str×OL))(WM:List Il)(d:Str):Prop:=∀(X:ae->Prop)(WK:ar)(A:aq),Rm k A->∀(WL:Env)(b s:aa)(Q:PF->aa->Prop)(E:ab->aa->Prop)m c O,FB x X WK A f WL b g h m c O s->(∀e a,Rz WK A b d e a->E (.ref e) a)->aA (au P0 WK) A (RF WM WL) Q E s
def iW(x:Cx)(k:Lv)(f:aw)(g:List (Str×PV))(h:List (Str×OL))(st:Il)(d:Str):Prop:=∀(X:ae->Prop)(WK:ar)(A:aq),Rm k A->∀(WL:Env)(b s:aa)(Q:PF->aa->Prop)(E:ab->aa->Prop)m c O,FB x X WK A f WL b g h m c O s->(∀e a,Rz WK A b d e a->E (.ref e) a)->aA (au P0 WK) A (exec st WL) Q E s
def dM.first(h:iW A u g i D V1 j):dM A u g i D (V1::Vp) j:=λ X w a d c f s Q E m b O F e=>ii (h X w a d c f s _ E m b O F e)
def dM.cons(h:St A u g i D V1 (.next VN V0))(t:dM A u g VN V0 Vp j):dM A u g i D (V1::Vp) j:=λ X w b d c l s Q E m p O F r=>ii (aG (h X w b d c l s E m p O F) (λ f z y=>by
  obtain⟨e,v,q,o,n,a⟩:=y;subst e;exact t X w b d c l z Q E v q o n r) λ _ _ A=>A)
def dM.weaken(h:dM A u g VN D Vp j)(e:Sub VN i):dM A u g i D Vp j:=λ X w a d c f s Q E m b O F=>h X w a d c f s Q E m b O (F.weaken e)
def iW.BP(n:Tr u g (seen i D) z true)(l:dM A u g i D Vp j):iW A u g i D (.If z Vp Wg v) j:=λ X w d c f p s Q E m e O F h=>Pt (n.use c F.reads (Kp.refl s) λ o u _ _=>l X w d c f p o Q E m e O (F.kp u) h)
def iW.raise(W8:A.t=true)(W6:∀w,fI w h)(W3:ef (a,true) (.ref h) Vi (.exc Vd))(H:Ev (a,true) g (seen i D) (.Name j v) (.raw (.ref h)))(u:a6 (a,true) g (seen i D) (z::Vr) Vi)(W4:∀p∈Vi,eW p):iW A (a,true) g i D (.Raise (some (.Call (.Name j v) (z::Vr) [] J)) none Vg) Vd:=λ X w B G W0 WW s Q E m Xl O F W2=>by
 have WZ:∀{Y Z:ae->Prop}{V:a7}{k:List ab}{Vi:List PV},(∀p∈Vi,eW p)->aU Y V k Vi->aU Z V k Vi:=by
   intro Y Z V k Vi u r;induction r with
   |nil=>exact .nil|cons h b W'=>exact .cons ((u _ (.head _)).any h) (W' λ p WL=>u p (.tail _ WL))
 simp only[arm_exec_Raise];refine al (Iq (wpAny_raiseStmt_made_sub (bm:=[.type "ValueError",.type "Exception",.type "BaseException",.type "object"]) (C:=66) (by decide) (G.calm rfl) (al (aG (Q:=λ d c=>∃z t,d=.ref z/\c.heap.get? 66=some ly/\c.heap.get? z=some (k4 t)/\E (.ref z) c) ?_ (λ d WX W9=>al (Iq (ah W9))) λ _ _ A=>A))));refine dr (H.use G F.reads (Kp.refl s) λ d c Xi _ Xb WN=>?_);obtain rfl:d=.ref h:=Xi;have WL:=u.plain (E:=W0) (v:=J);refine aW (W6 w _ WN.left) λ o fd W7 W5=>?_;refine di u.cut λ _ _ Xg WY b WQ=>?_;obtain rfl:=Xg;have U:=a6.use G (z:=J) (E:=E) (.cons WY b WQ) (s:=c) (Q:=λ k WV=>(WV.heap.get? h=some o/\o.data=.func fd)/\aA (au P0 w) B (I1 (.ref h) k) (λ d c=>∃z t,d=.ref z/\c.heap.get? 66=some ly/\c.heap.get? z=some (k4 t)/\E (.ref z) c) E WV) WN Xb λ k M Xj Xa Xc T=>⟨⟨Xa.keep _ _ W7,W5⟩,by
     have N:=F.kp Xc;obtain⟨Xm,Xn,l,Xo,Xp⟩:=N.bi W8;refine aG (W3 (h6 M.heap) w B G M k E T.left (λ b WM=>by refine ak WM λ o z _=>?_;exact⟨o,z⟩) (h6.bi T.left l) (WZ W4 Xj)) (λ d WX WM=>?_) λ _ _ A=>A;refine a4 WM λ Xh K L=>?_;obtain⟨z,t,Xk,rfl,Xd,Xe,_,WK,WO⟩:=Xh;have WR:=h6.new K l Xd WK uU;have WS:=h6.new K l Xe WO BO;have WU:∀b,M.heap.get? b=none->WW.heap.get? b=none:=λ b q=>by
       rcases Xf:WW.heap.get? b with _|o;·rfl
       · by_cases WP:bC b;·exact ai (T.left.tabs WP) λ o z=>bN q z
         · by_cases H:FA B b
           · obtain⟨_,o,z,_⟩:=l.fa H;exact bN q z
           · have :=N.rel.loose.ext.keep b o (λ _=>⟨WP,H⟩) Xf;exact bN q this
     have WT:∀b,M.heap.get? b=none->¬FA B b:=λ b q f=>by
       obtain⟨_,o,z,_⟩:=l.fa f;exact bN q z
     exact⟨z,t,rfl,L.nF,WK,W2 z WX ⟨t,Xk,N.rel.loose.trans K,L,l.ext K.ext,WK,WO,WU z WR,WU t WS,WT z WR,WT t WS⟩⟩⟩;rw[WQ]at U WL⊢;exact rS (b1 U)
open Classical in noncomputable def iX(X:ae->Prop)(h:a7):a7:=⟨h.objs.mapIdx λ i o=>if X i then⟨.none,none,.freed,#[]⟩else o,h.life⟩
def gk:(iX w s).get? h=some O↔¬w h/\s.get? h=some O:=by
 rw[JK,JK];unfold iX;rw[QB];rcases s.objs[h]? with _|x;·simp
 · by_cases q:w h
   · simp only[ID,q,if_true,not_true_eq_false,false_and,iff_false];rintro⟨e,f⟩;obtain rfl:=ax e;cases f
   ·simp only[ID,q,if_false,not_false_eq_true,true_and]
def jX(a:w h):(iX w s).get? h=none:=by
 rcases e:(iX w s).get? h with _|o;·rfl
 ·exact((gk.mp e).1 a).elim
theorem cH.nM{h B:a7}:∀{l:List Env},(∀e∈l,ua h e)->(∀e∈l,∀L,e.frame=some L->B.get? L=none)->h.FunFrames B l
 |[],_,_=>trivial|e::l,H,N=>by
  obtain⟨b,L,o,a,f,c,d⟩:=H e (.head _);exact b3 b ⟨L,o,a,N e (.head _) L a,c,d⟩ (cH.nM (λ e h=>H e (.tail _ h)) λ e h=>N e (.tail _ h))
inductive Fz(w:ar)(A:aq)(s:aa)(outer:List Env)(m:Str)(e:ae)(a:aa):Prop|mk(t:ae)(WK:Tok)(B:a7)(K:Kq true A s a)(L:aC w B)(c:M6 B outer e (.ref 66) (.ref t) a.heap)(h:B.get? t=some (ha m WK))(d:s.heap.get? e=none)(f:s.heap.get? t=none)(k:∀b o,s.heap.get? b=some o->ff A b->B.get? b=some o)
def jY(k:Lv)(f:ab)(b:List PV)(m:Str):Prop:=∀(X:ae->Prop)(WK:ar)(A:aq),Rm k A->∀(s:aa)(vs:List ab)(Q E:ab->aa->Prop)(outer:List Env),A.frames=some outer->aC WK s.heap->Ex X s.heap->fg A X s.heap->aU X s.heap vs b->(∀e a,Fz WK A s outer m e a->E (.ref e) a)->aA (au P0 WK) A (I1 f vs) Q E s
def fb.qN(F:cH o s)(a:fb h):¬FA o h:=λ q=>absurd a.lt (b'.mpr (F.fa q).1)
def jY.of(D:cu h Q Vp g G)(W7:∀P doc V,V.length=Vi.length->J4 {cf P h with doc:=doc} ⟨V,[]⟩=jq (G.zip V))(W8:G.length=Vi.length)(Xa:∀P,j=(cf P h).qualname++ac ".<locals>.")(W6:dM ⟨true,.ref Q,j⟩ (a,M) g (G.zip Vi) [] Vp Vd):jY (a+1,M) (.ref h) Vi Vd:=λ X w A W1 s vs Xl E outer WL L ex T WP W4=>jO (A:=⟨true,.ref Q,j⟩) (Wv:=⟨vs,[]⟩) D W1 L ex WP W8 (λ doc=>W7 _ _ _ WP.len) rfl (λ _=>Xa _) (λ _=>T) λ r Xi m WV WM W2 F=>by
   refine W6 X w _ W2 r s Xi _ _ m WV [] F λ e Xg R=>?_;obtain⟨t,WQ,K,WS,WR,H,J,O,Xe,f1,f2⟩:=R;have z:(A.deeper r).frames=some (r::outer):=Around.frames_deeper WL;let B:=iX (λ b=>b=e\/FA (A.deeper r) b) Xg.heap;have WK:B.get? e=none:=jX (.inl rfl);have W3:B.get? t=some (ha Vd WQ):=gk.mpr ⟨λ j=>j.elim (λ j=>by rw[j,H]at J;cases J) f2,J⟩;refine ak WR λ l N U=>?_;have W9:l=r::outer:=by cases aO z N;rfl
   subst W9;have W5:aC w B:=WS.move λ b o j i=>gk.mpr ⟨λ p=>by
     rcases p with p|p
     · obtain rfl:=p.symm;rcases j with j|j;·exact ai (L.pZ j) λ o e=>bN O e
       ·cases aO H i;exact uU j
     · refine aH j (λ j=>?_) λ j=>?_;·exact fb.qN ⟨_,N,U⟩ j p
       · obtain⟨_,Xp,C,d⟩:=cH.fa ⟨_,N,U⟩ p;cases aO i C;exact eJ d j,i⟩;refine wpAny_leaving_firstW (base:=B) z (cH.nM U λ y u L v=>jX (.inr ⟨_,z,y,u,v⟩)) F.frame H (λ b o e=>(gk.mp e).2) WK rfl rfl rfl λ h' WT=>?_;refine iB WT λ WN Xf Xc Xd=>?_;refine a4 Xf λ _ _ Xb=>?_;have Y:=K.outer WM;have eU:∀b o,s.heap.get? b=some o->ff A b->B.get? b=some o:=λ b o i WO=>by
     refine gk.mpr ⟨λ j=>?_,Y.ext.keep b o (λ _=>WO) i⟩;rcases j with rfl|⟨l',W',y,u,v⟩;·exact bN O i
     · cases aO z W';rcases aP.mp u with rfl|u;·exact bN (WM b v) i
       ·exact WO.2 ⟨outer,WL,y,u,v⟩
   refine W4 e _ ⟨t,WQ,B,(aW Y λ Xn Xj WX WU=>?_),W5,⟨WN,WK,Xb,Xc⟩,W3,O,Xe,eU⟩;subst WX;exact⟨h',Xj,rfl,λ b o n i=>WN b o (eU b o i (n rfl)),λ b o f d i=>(ai (WU.fr b o f d i) λ Xq C=>(ai (Xd b _ C d) λ Xh WW=>⟨Xh,WW⟩))⟩
def Tr.eq(h:Tr u g i z M)(q:M=We):Tr u g i z We:=q▸h
noncomputable def fj:Str:=ac "Escaped character is not a Unicode scalar value"
def BQ(h:gj j b x)(u:j.length<=1000000)(o:dM A (a+1,true) (a0 [15]) [(nm "hex_int",I x),(nm "pos",I ((b+4:Nat):Int)),(nm "src",S j)] [] Vp Vd):dM A (a+1,true) (a0 [15]) ([nm "src",nm "pos",nm "hex_len"].zip [S j,I b,I 4]) [] ((bB [15]).take 4++Vp) Vd:=by
 refine aj λ s=>mC h.slice λ y i f r q=>s ?_;have t:=h.h5;refine dM.cons (St.gL (V:=S y) ?_ .str (by rfl)) (dM.cons (St.ite (M:=ap) (d:=.next _ _) ?_ (λ h=>by cases h) (λ _=>ag.nil)) (dM.cons (St.fL (C:=b) (Vq:=4) (by rfl) Ev.nm (by rfl)) (dM.cons (St.gL (V:=I x) ?_ .int (by rfl)) ?_)))
 · refine i▸?_;exact Ev.ny (j:=j) Ev.nm (.some Ev.nm) (.some (Ev.bJ bb.fc Ev.nm Ev.nm)) (by rw[i,f];decide)
 · have e:(ap:Bool)=(((y.length:Int)!=4)||!true):=by rw[f];rfl
   simp only[e];refine Tr.k7 (Tr.cmp aD.nE (Ev.cA (Fn.hZ (by rw[f];decide)) (Ev.bl dY) (.cons Ev.nm .nil)) Ev.nm) λ _=>?_;refine Tr.not (Tr.ev (Ev.li qy nv uu (fJ.kS λ w h L=>let⟨S,d,_⟩:=L.nu;⟨S,d⟩) (Fn.issuperset (j:=y) rfl λ w h L=>?_) (Ev.gl uy) (.cons Ev.nm .nil) (by decide)));exact ak L.nu λ S d l=>bj S d (λ c m=>by rw[l,q c m])
 ·exact Ev.gG (Fn.uG r) (Ev.bl ql) (.cons Ev.nm (.cons .int .nil))
 · refine dM.weaken o ⟨rfl,?_,rfl,trivial⟩;show some (I ((b:Int)+4))=some (I ((b+4:Nat):Int));rw[show((b+4:Nat):Int)=(b:Int)+4 by exact mf]
def BR(h:gj j b x)(g:hl x=ap)(d:j.length<=1000000):jY (a+3,true) (.ref 104) [S j,I b,I 4] (eI j (b+4) fj):=by
 refine jY.of (j:=ac "parse_hex_char"++ac ".<locals>.") nD (λ P doc o f=>by
     refine aj λ i=>?_;refine iC (jD f) ?_;rintro l m c rfl;refine i ?_;lia) rfl (λ P=>by lia) (BQ (a:=a+1) h d (Vp:=(bB [15]).drop 4) ?_);refine dM.first (iW.BP ?_ (dM.first (iW.raise rfl (de λ P=>⟨_,uT.fn P⟩) (BN d h.h5 (by decide)) (Ev.gl Bw) (.cons Ev.nm (.cons Ev.nm (.cons .str .nil))) ?_)));·exact Tr.eq (Tr.not (Tr.ev (Ev.ed (de λ P=>⟨_,qE.fn P⟩) uH (Ev.gl uI) (.cons Ev.nm .nil)))) (by refine g.symm▸?_;rfl)
 · intro q e;simp only[aP,uR,or_false]at e;rcases e with rfl|rfl|rfl;·exact .str
   ·exact .int
   ·exact .str
def BS:builtinKind "BaseException.__str__"=some .slot:=by decide+kernel
def BU:splitId "BaseException.__str__"=some ("BaseException","__str__"):=by decide+kernel
def BV{a:Fin->aa->Prop}(g:q.heap.get? h=some O)(f:O.data=.fields Vz)(d:Vz[0]?=some (.ref Q))(i:q.heap.get? Q=some (ha j Vt))(b:a (.done (.ret (.str j Vt))) q):aA (au Vj c) o (Builtin.«BaseException.__str__» ⟨[.ref h],[]⟩) a y q:=by
 have k:∀{a:ab×List ab->aa->Prop},a (.ref Q,[.str j Vt]) q->aA (au Vj c) o (bexcArgs (.ref h)) a y q:=λ b=>by
  unfold bexcArgs;exact al (Jk g f d (al (QE i rfl (ah b))))
 unfold Builtin.«BaseException.__str__»;repeat(first|with_reducible refine k ?_|wp_step)
 exact b
def BW(f:q.heap.get? 66=some ly)(u:q.heap.Ns 65 Ve)(z:Ve (ac "__str__")=none)(a:q.heap.get? h=some O)(i:O.cls=.ref 66)(v:O.data=.fields Vz)(r:Vz[0]?=some (.ref Q))(B:q.heap.get? Q=some (ha j Vt))(D:VW.units<O3)(b:Vf (.str j Vt) q):aA (au Vj c) VW (strOf (.ref h)) Vf y q:=by
 have S:=F.excStr_ValueError.str;obtain⟨k,g,d,l,os⟩:=q;have p:∀{Vf:Option ab->aa->Prop},Vf (some (.str j Vt)) ⟨k,g,d,l,os⟩->aA (au Vj c) VW (R1 (.ref h) (ac "__str__")) Vf y ⟨k,g,d,l,os⟩:=λ b=>by
  rw[R1];refine af (wpAny_specialOf_inst a i f u z R8.mroIs S.lookup ?_);simp only[S.bind];refine aK (af (ah (af (Je (Ig S.plain F.entry_bexc_str (wpAny_check_slot_inst (rest:=[]) (id:="BaseException.__str__") (owner:="BaseException") (n:="__str__") (x:=h) (o:=O) (C:=66) (bm:=[.type "ValueError",.type "Exception",.type "BaseException",.type "object"]) BS BU (F.args_bexc_str _) (by decide) a i f ?_))))));exact BV a v r B (ah b)
 unfold U7;repeat(first|with_reducible refine UM D ?_|with_reducible refine p ?_|wp_step)
 exact b
def BX(f:q.heap.get? 66=some ly)(g:q.heap.Ns 65 Ve)(v:Ve (ac "__str__")=none)(i:q.heap.get? h=some O)(p:O.cls=.ref 66)(r:O.data=.fields Vz)(l:Vz[0]?=some (.ref Q))(k:q.heap.get? Q=some (ha j Vt))(x:o.units+2<O3)(b:Vf (.str j Vt) q):aA (au Vj c) o (I1 (.type "str") [.ref h]) Vf y q:=callType_new F.called_str (by decide) (F.typeCall_str_1 _) (F.newCall_str_1 _) (λ B=>F.args_object_init_2 B _) F.entry_str_new (meets_str_new (S:=λ a R d=>a.units+1<O3/\d.heap=q.heap/\R (.ok (.ret (.str j Vt))) d) λ Vj c a R d b=>by
    refine aj λ C=>a4 b λ z u n=>C ?_;rw[<-u]at f g i k;exact BW (VW:=a.in1) f g v i p r l k z n) ⟨(show o.units+1+1<O3 from x),rfl,JF _ _ _,b⟩
def FB.around(e:VW.frames=o.frames)(F:FB A w c o g E q i D Ve Vn Y H):FB A w c VW g E q i D Ve Vn Y H:=by
 have fa:FA VW=FA o:=by funext b;unfold FA;rw[e]
 exact{F with
  rel:=F.rel.frames e
  bi:=λ j=>by
   refine aj λ n=>?_;obtain⟨a,b,⟨l,h,f⟩,d,r⟩:=F.bi j;refine n ?_;exact⟨a,by refine fa.symm▸?_;exact b,⟨l,e.trans h,f⟩,(let⟨l,k⟩:=d;⟨l,e.trans k⟩),r⟩}
def Fn.BY:Fn u (.type "str") [.k3 j] (S j):=λ X w A g s p E L i h=>by
 refine ak h.one ?_;rintro q rfl r;obtain⟨e,t,o,n,l,rfl,_,_,a,b,c,d,f⟩:=r;exact BX L.nF L.uM (BA _) a b c d f (by have :=g.units;exact sx this rfl) ⟨.mkStr,Kp.refl _⟩
def BZ(WP:A.t=true)(WL:∀c,fI c h)(T:jY (a,true) (.ref h) Vi Vd)(WK:Ev (a,true) g i (.Name j v) (.raw (.ref h)))(u:a6 (a,true) g i (z::Vr) Vi)(k:Rm (a,true) o)(WM:o.frames=some WG)(F:FB A w c o g E q i D Ve Vn Y H)(N:∀z f d,FB A w c o g E q i D Ve Vn Y f->Fz c o f WG Vd z d->Vf (.ref z) d):aA (au P0 c) o (He (.Call (.Name j v) (z::Vr) [] J) E) y Vf H:=by
 refine dr (WK.use k F.er (Kp.refl H) λ WW f WU _ WR r=>?_);obtain rfl:WW=.ref h:=WU;have WO:=u.plain (E:=E) (v:=J);refine aW (WL c _ r.left) λ C M WN V=>?_;refine di u.cut λ _ _ WT L b B=>?_;obtain rfl:=WT;have U:=a6.use k (z:=J) (E:=Vf) (.cons L b B) (s:=f) (Q:=λ l d=>(d.heap.get? h=some C/\C.data=.func M)/\aA (au P0 c) o (I1 (.ref h) l) y Vf d) r WR λ l G WV WQ WS t=>⟨⟨WQ.keep _ _ WN,V⟩,by
   have p:=F.kp WS;exact T (aL w E Y) c o k G l y Vf WG WM t.left t.ex (p.lA WP) WV λ z d WX=>N z G d p WX⟩;rw[B]at U WO⊢;exact rS (b1 U)
def St.B0(N:A.t=true)(Xi:∀w,fI w h)(W':jY (a,true) (.ref h) Vi Wn)(Xh:Ev (a,true) g i (.Name j v) (.raw (.ref h)))(Xa:a6 (a,true) g i (z::Vr) Vi)(Xk:g.names.lookup (nm "TOMLDecodeError")=some .globalImplicit)(WR:g.names.lookup Vd=some .local)(Xb:ag A (a,ap) g ((Vd,.k3 Wn)::i) (bu Vd D) (V1::Vp) (.ret V)):St A (a,true) g i D (.Try [.Assign [.Tuple [Vl,Wd] b Vg] (.Call (.Name j v) (z::Vr) [] J) VA] [.ExceptHandler (some (.Name (nm "TOMLDecodeError") Wu)) (some Vd) (V1::Vp) Wq] [] [] VT) (.ret V):=λ X w r Y G WT s E m W2 O F=>jF λ Q fin=>by
 refine ai ((F.bi N).top) λ l WP=>Np (ii (Mu (BZ N Xi W' Xh Xa Y WP F λ C XD WS M Z=>?_) rfl rfl));obtain⟨t,XG,B,K,WZ,W7,W9,Xt,Xu,eU⟩:=Z;have XO:cH r XD.heap:=(M.bi N).dA;have mk:∀L:a7,M6 B (G::l) C (.ref 66) (.ref t) L->WS.heap.UpToSlots L->FB A X w r g G WT i D m W2 O {WS with heap:=L}:=λ L f u=>by
  refine M.kt N (aW K λ Xn XH Vr W1=>?_) (WZ.keeps f.1);subst Vr;exact⟨L,XH,rfl,λ k o Xv H=>f.1 k o (eU k o H (Xv rfl)),λ k o fa d H=>(ai (W1.fr k o fa d H) λ XV W4=>(ai (u k _ W4 d) λ XC W5=>⟨XC,W5⟩))⟩
 refine wpAny_looks_onW WP F.frame W7 λ Xn Xj XI=>wpAny_landsW Xj λ Xo T XJ=>?_;have WU:=XI.trans XJ;have A':Rm (a,ap) (r.mark (some (.ref C))):=⟨Y.depth,Y.units,λ q=>by cases q⟩;have WO:=FB.around (o:=r) (VW:=r.mark (some (.ref C))) rfl (mk Xo T WU);refine wpAny_handleBy_cons (codeAny_handlers_test ?_) (by intro q;cases q);refine L5 (aG (tK WO.er Xk (uN _)) (λ c XW WM=>?_) λ _ _ A=>A) (by decide);refine am WM λ Xz XA=>aj λ WN=>?_;subst Xz XA;refine di T.first λ XU vs Xf Xc XQ XP=>WN (wpAny_excMatches_sub_self (bm:=[.type "ValueError",.type "Exception",.type "BaseException",.type "object"]) WO.er.left.nF Xf Xc (by decide) ?_);refine codeAny_handlers_suite_as (lands_againW T λ Xp U XK=>?_);have WW:=FB.around (o:=r) (VW:=r.mark (some (.ref C))) rfl (mk Xp U (WU.trans XK));refine aj λ WN=>di U.first λ Xw XN Xg Xd Xe W8=>WN ?_;have Xx:¬aL X G O C:=M.er.ex.jU Xt;have Xy:¬aL X G O t:=M.er.ex.jU Xu;refine WW.store (.inl WR) (V:=.k3 Wn) ⟨C,t,XG,Xw,XN,rfl,Xx,Xy,Xg,Xd,Xe,W8,U.1 _ _ W9⟩ λ XE Xr W3 WX XR=>aG (Xb X w _ A' G WT XE _ Xr W3 O WX) (λ f XF WM=>?_) λ _ _ A=>A;obtain⟨XM,W6,XB,WY,W0,XS,WQ⟩:=WM;subst W6;refine wpAny_nameGoes (by rw[F.cB];exact WR) WQ (by refine(F.eD).symm▸?_;rfl) λ Xq Xs Xl Xm=>?_;have WK:∀k o,k≠G.locals->XF.heap.get? k=some o->Xq.get? k=some o:=λ k o WL z=>Xm.extBut k o WL z;refine fin _ _ ⟨XM,rfl,XB.b0 λ k o WL z=>WK k o (λ q=>WL (.inr (.inl q))) z,(Kq.frames (o:=r.mark (some (.ref C))) (VW:=r) rfl WY).hh F.fresh WK,W0.hh F.locals (λ o z=>(ak (Ns.c9 WQ) λ XT H d=>?_)) WK,Xs,Xl⟩;cases aO z H;exact eJ d
def St.uY(C:u.2=true)(h:Ev u g i z (Tu [VG,VZ]))(L:ce g j=true)(M:ce g Vd=true)(Q:autoParam ((Vd==j)=ap) ew)(G:autoParam (∀c,Ri [.Tuple [.Name j v,.Name Vd J] a Vg] z VA.line c=jq ap) cN)(H:autoParam (∀c,J8 [.Tuple [.Name j v,.Name Vd J] a Vg] z c=jq none) cN):St A u g i D (.Assign [.Tuple [.Name j v,.Name Vd J] a Vg] z VA) (.next ([(Vd,.d VZ),(j,.d VG)]++i) (h4 [(Vd,.d VZ),(j,.d VG)] D)):=λ X w WN l c WQ s E m WO O F=>by
 refine Mu (h.use l F.er (Kp.refl s) λ WT WP WK kp _ _=>(aj λ WM=>?_)) (G c) (H c);refine bI WK.tuple λ T vs o V nT B Y=>?_;obtain rfl:=V;refine WM ((F.kp kp).assign (V:=Tu [VG,VZ]) (VN:=[(Vd,.d VZ),(j,.d VG)]) (VE:=aL X c O) (.lb Q) (λ WS q f=>?_) (λ _ q=>q) ⟨T,vs,_,o,rfl,.inl rfl,.inl B,Y⟩ (λ _=>l.calm C) λ WR U r n t=>⟨rfl,U,r,O,n,(aZ.bR F.hO kp).trans t⟩);simp only[aP,uR,or_false]at f;rcases f with f|f<;>cases f;·exact M
 ·exact L
noncomputable abbrev Ld(l:List Str):bP:=.list (l.map .str)
noncomputable abbrev jZ(p:Nat)(a b:List Str):bP:=.list [.int p,Ld a,Ld b]
def qO:cu 291 290 (bB [32]) (a0 [32]) [nm "src",nm "state"]:=.mk' (λ P=>by lia) (λ P=>by lia) (λ P=>⟨by lia,by lia,by lia,by lia,by lia,by lia⟩) (by decide) (by rfl) (by rfl) ⟨rfl,rfl⟩ rfl rfl rfl
def B1(P:a3):a5 P (nm "skip_comments_and_array_ws")=some (.ref 97):=by lia
def uZ(P:a3):a5 P (nm "parse_hex_char")=some (.ref 104):=by lia
def u0{c:Bool}(h:fh j a b)(g:j.length<=1000000):∀{u o q s t f m e:Pos}{n:Nat},St A (x+3,true) (a0 [32]) ([nm "src",nm "state"].zip [S j,.d (jZ a G VJ)]) [] (.Assign [.Name (nm "start") u] (.Call (.Name (nm "skip_comments_and_array_ws") o) [.Name (nm "src") q,.Subscript (.Name (nm "state") s) (.Constant (.int 0) n t) f] [] m) e) (.next ((nm "start",I b)::[nm "src",nm "state"].zip [S j,.d (jZ a G VJ)]) []):=by
 intros;refine St.assign (V:=I b) ?_ (by rfl);exact Ev.ed (de λ P=>⟨_,uF.fn P⟩) (Bl h g) (Ev.gl B1) (.cons Ev.nm (.cons (Ev.dI (Vm:=[.int a,Ld G,Ld VJ]) (C:=0) Ev.nm .int (by decide) (by decide) rfl) .nil))
def B2(h:fh j a b)(q:gj j b x)(o:hl x=true)(f:j.length<=1000000)(g:G.length<=1000):Fn (Vs+4,true) (.ref 291) [S j,.d (jZ a G VJ)] (.d (jZ (b+4) (G++[⟨#[x]⟩]) VJ)):=by
 refine Fn.of qO (λ P doc s m=>by
     refine cP (d9 m) ?_;rintro G VJ rfl;lia) rfl ?_;refine ag.cons (u0 (VJ:=VJ) (c:=true) h f) (ag.cons (St.iU (ag.cons (St.uY rfl (VG:=.int ((b+4:Nat):Int)) (VZ:=.str ⟨#[x]⟩) ?_ (by rfl) (by rfl)) ag.nil)) (ag.last (St.ret ?_) trivial));·exact Ev.ed (de λ P=>⟨_,nD.fn P⟩) (By (a:=Vs+1) q o f) (Ev.gl uZ) (.cons Ev.nm (.cons Ev.nm (.cons .int .nil)))
 · refine Ev.list (Vm:=[.int ((b+4:Nat):Int),Ld (G++[⟨#[x]⟩]),Ld VJ]) (e:=by show 3<=a9;decide) ?_;refine .cons Ev.nm (.cons ?_ (.cons (Ev.dI (Vm:=[.int a,Ld G,Ld VJ]) (C:=2) Ev.nm .int (by decide) (by decide) rfl) .nil));have e:Ld (G++[⟨#[x]⟩])=.list (G.map .str++[.str ⟨#[x]⟩]):=by unfold Ld;rw[fs];rfl
   simp only[e];exact Ev.bJ (bb.m8 (by simp;exact an (gp g 1) (by decide))) (Ev.dI (Vm:=[.int a,Ld G,Ld VJ]) (C:=1) Ev.nm .int (by decide) (by decide) rfl) (Ev.list (Vm:=[.str ⟨#[x]⟩]) (e:=by show 1<=a9;decide) (.cons Ev.nm .nil))
def B3(h:fh j a b)(s:gj j b x)(o:hl x=ap)(f:j.length<=1000000)(g:VJ.length<=1000):ef (Vs+4,true) (.ref 291) [S j,.d (jZ a G VJ)] (.d (jZ (b+4) G (VJ++[eI j (b+4) fj]))):=by
 refine ef.of (j:=ac "_law_step"++ac ".<locals>.") qO (λ P doc t m=>by
     refine cP (d9 m) ?_;rintro G VJ rfl;lia) rfl (λ P=>by lia) ?_;refine ag.cons (u0 (VJ:=VJ) (c:=true) h f) (ag.last (St.B0 (h:=104) rfl (de λ P=>⟨_,nD.fn P⟩) (BR (a:=Vs) s o f) (Ev.gl uZ) (.cons Ev.nm (.cons Ev.nm (.cons .int .nil))) (by rfl) (by rfl) (ag.last (St.ret ?_) trivial)) trivial);refine Ev.list (Vm:=[.int ((b+4:Nat):Int),Ld G,Ld (VJ++[eI j (b+4) fj])]) (e:=by show 3<=a9;decide) ?_;refine .cons ?_ (.cons (Ev.dI (Vm:=[.int a,Ld G,Ld VJ]) (C:=1) Ev.nm .int (by decide) (by decide) rfl) (.cons ?_ .nil))
 · rw[show((b+4:Nat):Int)=(b:Int)+4 by exact mf];exact Ev.bJ bb.fc Ev.nm .int
 · have e:Ld (VJ++[eI j (b+4) fj])=.list (VJ.map .str++[.str (eI j (b+4) fj)]):=by unfold Ld;rw[fs];rfl
   simp only[e];exact Ev.bJ (bb.m8 (by simp;exact an (gp g 1) (by decide))) (Ev.dI (Vm:=[.int a,Ld G,Ld VJ]) (C:=2) Ev.nm .int (by decide) (by decide) rfl) (Ev.list (Vm:=[.str (eI j (b+4) fj)]) (e:=by show 1<=a9;decide) (.cons (Ev.gG Fn.BY (Ev.bl qk) (.cons Ev.nm .nil)) .nil))
theorem u1(WK:a7):∀l:List (Str×Tok),ga WK (T1 l) ((l.map (·.1)).map tl) []
 |[]=>.nil|p::r=>.cons (as:=[]) (.str p.1 p.2) (u1 WK r)
def Fn.B4(h:(Vd.length==0)=ap)(g:j.length+2<=a9):Fn u (.builtin "str.split") [S j,S Vd] (Lt (Pc j Vd)):=λ X w A v s z E L i r=>by
 refine aj λ p=>?_;refine bS r.two ?_;rintro B C rfl q n;refine ai q.str ?_;rintro t rfl;refine ai n.str ?_;rintro f rfl;refine p ?_;have m:(partsBetween j (LN j Vd 0 j.length (j.length+1)) Vd.length).length<=a9:=by rw[length_partsBetween];exact an (H8 (StrLaws.occ_length_le j Vd 0 j.length (j.length+1))) g
 have fin:∀(l:List (Str×Tok))(d:Nat),l.map (·.1)=Pc j Vd->RV X (s.heap.push {cls:=.type "list",data:=.seq (T1 l).toArray}) (.ref s.heap.objs.size) (Lt (Pc j Vd))/\Kp s {s with heap:=s.heap.push {cls:=.type "list",data:=.seq (T1 l).toArray},toks:=d}:=λ l d e=>by
   refine⟨.gD (i.fresh (aB _)) ⟨_,aF _ rfl⟩ (Y:=[]) ?_,⟨_,d,rfl,λ b o e=>ao _ e⟩⟩;exact e▸(u1 _ l)
 cases a:(bF (j.length<Vd.length)||bF (strKind j<strKind Vd))
 · cases c:(LN j Vd 0 j.length (j.length+1)).isEmpty
   · refine Kx Nc (JF _ _ _) Pe (OV _ _) (meets_str_split_sep j Vd t f a h c (gv g) m) ?_;rw[strsFrom_eq];exact fin (numbered s.toks _) _ ((numbered_texts _ _).trans ((if_neg (ne_true_of_eq_false a)).trans (if_neg (ne_true_of_eq_false c))).symm)
   ·exact Kx Nc (JF _ _ _) Pe (OV _ _) (meets_str_split_not_found j Vd t f a h c) (fin [(j,t)] _ ((if_neg (ne_true_of_eq_false a)).trans (if_pos c)).symm)
 ·exact Kx Nc (JF _ _ _) Pe (OV _ _) (meets_str_split_cannot_occur j Vd t f a) (fin [(j,t)] _ (if_pos a).symm)
def B5(g b:List Nat):cg (g++a::b) a=cg b a:=by
 unfold cg;simp only[List.reverse_append,MB,jB];by_cases h:a∈b.reverse
 · have :∀(r t:List Nat),a∈r->(r++t).takeWhile (· !=a)=r.takeWhile (· !=a):=by
     intro r t;induction r with
     |nil=>intro h;cases h|cons d r f=>
       intro h;by_cases q:d=a;·obtain rfl:=q.symm;simp
       ·simp[q,f ((aP.mp h).resolve_left λ e=>q e.symm)]
   rw[this _ _ h]
 · have :∀(r t:List Nat),a∉r->(r++([a]++t)).takeWhile (· !=a)=r:=by
     intro r t;induction r with
     |nil=>intro _;simp|cons d r f=>
       intro h;have q:d≠a:=λ e=>h (e▸.head _);simp[q];simpa using f λ q=>h (.tail _ q)
   rw[this _ _ h,nL h]
def B6(h:a∉Wc):cg Wc a=Wc.length:=by
 unfold cg;simp only[nL (λ q=>h (MT.mp q)),NZ]
theorem u2(c:Nat):∀(p:Str)(l:List Str),(∀q∈p::l,c∉q.cps.toList)->(Cp (PU ⟨#[c]⟩ (p::l))).count c=l.length/\cg (Cp (PU ⟨#[c]⟩ (p::l))) c=((p::l).getLast (λ h=>nomatch h)).length
 |p,[],h=>by
  have a:=h p (.head _);show(Cp p).count c=0/\cg (Cp p) c=p.length;exact⟨JL.mpr a,by rw[B6 a];rfl⟩|p,q::l,h=>by
  have a:=h p (.head _);refine am (u2 c q l λ r b=>h r (.tail _ b)) λ d f=>?_;have e:Cp (PU ⟨#[c]⟩ (p::q::l))=Cp p++c::Cp (PU ⟨#[c]⟩ (q::l)):=by
   show((p.cps++#[c])++(PU ⟨#[c]⟩ (q::l)).cps).toList=_;simp
  simp only[e,B5,f];refine⟨?_,rfl⟩;simp only[KC,Rd,d,JL.mpr a];simp
def B7(WK:Str)(c:Nat):∃p l,Pc WK ⟨#[c]⟩=p::l/\(Cp WK).count c=l.length/\cg (Cp WK) c=((p::l).getLast (λ h=>nomatch h)).length:=by
 have a:=split_pos WK ⟨#[c]⟩;have b:=StrLaws.split_free WK c;have d:=StrLaws.join_split WK ⟨#[c]⟩;rcases e:Pc WK ⟨#[c]⟩with _|⟨p,l⟩;·rw[e]at a;cases a
 · rw[e]at b d;have :=u2 c p l b;rw[d]at this;exact dw p l rfl this
def Ev.h7(h:Ev u g i z (I C)):Ev u g i (.UnaryOp .USub z v) (I (-C)):=λ X w A b f s E R=>wpAny_UnaryOp (h.use b R (Kp.refl s) λ l j d _ c _=>by
  refine ai d.int ?_;rintro t rfl;exact neg_int ⟨.mkInt,c.trans Kp.toks⟩)
def B8(x:Str):aR++x=x:=Str.ext' (by show(#[]:Array Nat)++x.cps=x.cps;simp)
def u3:cu 303 302 (bB [34]) (a0 [34]) [nm "src",nm "end"]:=.mk' (λ P=>by lia) (λ P=>by lia) (λ P=>⟨by lia,by lia,by lia,by lia,by lia,by lia⟩) (by decide) (by rfl) (by rfl) ⟨rfl,rfl⟩ rfl rfl rfl
def B9:aR++fj++ac " (at "=ac "Escaped character is not a Unicode scalar value (at ":=by decide
def B'(g:j.length<=1000000)(d:a<=j.length):Fn (b+1,true) (.ref 303) [S j,I a] (S (eI j a fj)):=by
 refine Fn.of u3 (λ P doc T z=>by
     refine aj λ v=>?_;refine cP (d9 z) ?_;rintro O Q rfl;refine v ?_;lia) rfl ?_;have z:(Cp j).length=j.length:=by rfl
 have u:((Cp j).take a).count 10<=1000000:=an (NH) (by simp;exact j4 fx (j4 d g));have t:cg ((Cp j).take a) 10<=1000000:=an (qH _ _) (by simp;exact j4 fx (j4 d g));have A:=A7 j d;have B:(⟨((Cp j).take a).toArray⟩:Str).length<=1000000:=by simp[Ou];exact j4 fx (j4 d g)
 refine aj λ v=>bS (B7 ⟨((Cp j).take a).toArray⟩ 10) λ q l D m s=>v ?_;have C:Cp (⟨((Cp j).take a).toArray⟩:Str)=(Cp j).take a:=by simp
 rw[C]at m s;refine ag.cons (St.assign (V:=Lt (q::l)) ?_ (by rfl)) (ag.cons (St.gL (V:=S (fi j a)) ?_ .str (by rfl)) (ag.last (St.ret ?_) trivial))
 · refine D▸?_;have E:(⟨((Cp j).take a).toArray⟩:Str).length+2<=a9:=by
     have :(1000002:Nat)<=a9:=by decide
     exact iA B (aE true)
   refine Ev.lj Nc F.type_str_split (Vd:=⟨((Cp j).take a).toArray⟩) (Fn.B4 (Vd:=⟨#[10]⟩) (by rfl) E) ?_ (.cons .str .nil);refine A▸?_;exact Ev.ny Ev.nm .none (.some Ev.nm) (by refine A.symm▸?_;exact an B (by decide))
 · have M:∀{G H J L N:Pos},Tr (b,true) (a0 [34]) (seen ((nm "ahead",Lt (q::l))::[nm "src",nm "end"].zip [S j,I a]) []) (.Compare (.Name (nm "end") G) [.Eq] [.Call (.Name (nm "len") H) [.Name (nm "src") J] [] L] N) (bF (j.length<=a)):=by
     intros;refine Tr.eq (Tr.cmp aD.jS Ev.nm (Ev.cA (Fn.hZ (j:=j) (c6 g (aE true))) (Ev.bl dY) (.cons Ev.nm .nil))) ?_;by_cases h:j.length<=a;·rw[decide_eq_true h,show(a:Int)=j.length by exact r7 (oF d) (oF h)];simp
     · rw[decide_eq_false h];exact beq_eq_false_iff_ne.mpr (λ q=>h (j7 (Oh.mp q)))
   have e:S (fi j a)=if bF (j.length<=a)=true then S (ac "end of document")else S (ac "line "++Ps (((q::l).map tl).length:Int)++ac ", column "++Ps ((cg ((Cp j).take a) 10:Nat)+1:Int)):=by
     unfold fi;by_cases h:j.length<=a;·rw[if_pos h,if_pos (decide_eq_true h)]
     · rw[if_neg h,if_neg (by simpa using h)];show S (aR++ac "line "++_++_++_)=_;rw[B8,m];simp
   simp only[e];have o:=Ni (n:=(((q::l).map tl).length:Int)) (by simp;exact jk) (by simp;exact jj (r8 m u) (aE true));have c:(ac "line ").length=5:=by decide
   have f:(ac ", column ").length=9:=by decide
   have r:(100:Nat)<=a9:=by decide
   refine Ev.ite M (λ _=>.str) λ _=>?_;refine Ev.bJ (bb.iO (by simp only[IL,c,f];exact an (IU (gp (bX o 5) 9) (Ni (n:=((cg ((Cp j).take a) 10:Nat)+1:Int)) (jk) (jj t (aE true)))) (e3 r rfl))) (Ev.bJ (bb.iO (by simp only[IL,c,f];exact an (gp (bX o 5) 9) (e3 r rfl))) (Ev.bJ (bb.iO (by simp only[IL,c,f];exact e4 gx o (aE true))) .str ?_) .str) ?_
   · refine Ev.gG (Fn.tZ (nJ (by simp;exact my (m▸u) rfl))) (Ev.bl qk) (.cons ?_ .nil);exact Ev.cA (Fn.lh (by simp;exact yl (r8 m u) (aE true))) (Ev.bl dY) (.cons Ev.nm .nil)
   · refine Ev.gG (Fn.tZ (nJ (my t rfl))) (Ev.bl qk) (.cons (Ev.bJ bb.fc ?_ .int) .nil);simp only[s];refine Ev.cA (Fn.hZ (by refine s▸?_;exact c6 t (aE true))) (Ev.bl dY) (.cons ?_ .nil);refine Ev.Ai (Vm:=(q::l).map .str) (C:=-1) Ev.nm (Ev.h7 .int) (by decide) (by simp;exact yU) (by decide) ?_;rw[show((-1:Int)+((q::l).map tl).length).toNat=l.length by simp;exact yV,a',show l.length=(q::l).length-1 by simp,<-List.getLast?_eq_getElem?,List.getLast?_eq_some_getLast (by exact λ h=>by cases h)];rfl
 · have e:eI j a fj=ac "Escaped character is not a Unicode scalar value (at "++fi j a++ac ")":=by
     show aR++fj++ac " (at "++fi j a++ac ")"=_;rw[B9]
   have w:=qM g d;have c:(ac "Escaped character is not a Unicode scalar value (at ").length<=100:=by decide
   have f:(ac ")").length=1:=by decide
   have r:(200:Nat)<=a9:=by decide
   rw[e];exact Ev.bJ (bb.iO (by simp only[IL,f];exact e4 (r1 c w) (e3 c (aE true)) (aE true))) (Ev.bJ (bb.iO (e4 c w (aE true))) .str Ev.nm) .str
def Ca{ba:b7}{b:List Mi}(c:E.blockKind=.function)(d:E.kindOf j=some .local)(e:(v.line==J.line)=true)(f:(g.names.any λ(n,k)=>n==j&&(k==.local||k==.cell))=ap):ME (.ListComp ba b g J) (some (.Name j v)) a E=jq true:=by
 unfold ME;show(jq (E.blockKind==.function&&E.kindOf j==some .local&&v.line==J.line&&!(g.names.any λ(n,k)=>n==j&&(k==.local||k==.cell))):Sem Bool)=jq true;simp only[c,d,e,f];rfl
def St.qP{ba T H:b7}(WN:List Str)(a:List Vb)(G:Vb->PV)(p:Vb->List (Str×PV))(c:Vb->Bool)(f:Vb->bP)(V:hf WN VI g=true)(WL:g.names.lookup j=some .local)(W2:(J.line==v.line)=true)(W8:(VI.names.any λ(n,u)=>n==j&&(u==.local||u==.cell))=ap)(Xd:bg u g i H T (a.map G))(W4:∀A,(p A).map (·.1)=WN)(WZ:∀A∈a,BindsTo T (G A) (p A))(W1:∀A∈a,eG u (bQ VI g) (p A++cj VI i) Vr (c A))(W0:∀A∈a,c A=true->Ev u (bQ VI g) (p A++cj VI i) ba (.d (f A)))(W7:a.length<=a9)(W6:autoParam (∀l A,Ad H l A=jq A) bc):St A u g i D (.Assign [.Name j J] (.ListComp ba [⟨T,H,Vr,0⟩] VI v) Vg) (.next ((j,Li ((a.filter c).map f))::i) (bu j D)):=λ X w WR WY l WQ s E m Xf O F=>by
 rw[exec_Assign_Name_used _ _ _ _ (Ca (by have :=F.eD;unfold TS;refine this.symm▸?_;first|rfl|simp) (by rw[F.cB];exact WL) W2 W8)];refine al (Iq (al ?_));refine al (aG (tU a G p c f (dJ.of V).1 Xd WZ (λ A _ y q e=>(dJ.of V).2 y (W4 A▸jM e)) W1 W0 W7 W6 WY F.er (some (Oo (.Name j J) l)) (Vf:=λ _ N=>c' A X w WR g l WQ O s .next N (.next ((j,Li ((a.filter c).map f))::i) (bu j D))) ?_) (λ _ N W5=>ah (ah W5)) λ _ _ e=>e);intro Xe C N W9 W3 B Xg Xh r Xb kp;refine ak (Ns.c9 F.ns) λ Xj WW _=>?_;have U:=W3 _ _ WW;have Y:∀b,b=C->WQ.heap.objs.size<=b/\314<=b:=λ b q=>by obtain rfl:=q.symm;exact⟨an F.fresh (bn U),an F.locals (bn U)⟩
 have WO:∀{h:a7}{Xa:Str->Option ab},h.Ns C Xa->∀b o,b=C->h.get? b=some o->¬bw o:=λ n b o q e=>by
  obtain rfl:=q.symm;refine ak (Ns.c9 n) λ Xi WV d=>?_;cases aO e WV;exact eJ d
 have WP:¬aL X l O C:=λ q=>by refine ai (F.er.ex C q) λ o e=>?_;exact bN B e
 have WM:¬gI l C:=λ q=>WP (.inl (.inr q));refine LZ ((F.wide kp (VE:=(·=C)) (λ b q=>by obtain rfl:=q.symm;exact B) (λ b q=>by obtain rfl:=q.symm;refine ak (Ns.c9 r) λ o e _=>?_;exact⟨o,e⟩) (λ b q=>(Y b q).1) (WO r)).store (.inl WL) (Xb.mono λ b q=>qs q) λ Xc W' WU WS L=>⟨W9,r.at' λ o e=>L C o WM e,λ h' WK=>?_⟩);have WT:=WS.nr (s:=h') (a:=Xc.toks) Y (λ b q=>by obtain rfl:=q.symm;exact WP) (WO (r.at' λ o e=>L C o WM e)) (λ b o M e=>WK.extBut b o M e) (λ t=>⟨(F.bi t).tab,(F.bi t).fa⟩);refine⟨rfl,W',WU,O,WT,λ b o M e=>?_,λ b q=>.inl q,λ _ q=>q,F.hO⟩;exact WK.extBut b o (λ q=>by obtain rfl:=q.symm;exact bN B e) (L b o (λ q=>M (.inl q)) (kp.keep b o e))
def lB(n k:Nat):Le n (k:Int)=min k n:=by
 unfold Le;rw[if_neg (JO.mpr (IH k))];refine aH (QO k n) (λ h=>?_) λ h=>?_;·rw[Te (JZ.mpr h),IX h,Pl (IH _)];rfl
 ·rw[Int.min_eq_right (JZ.mpr h),KU h,Pl (IH _)];rfl
def qQ(l:List Vb)(k:Nat)(h:k<=l.length):eE l (some (k:Int)) none=l.drop k:=by
 unfold eE;have :Le l.length (k:Int)=k:=(lB _ _).trans (IX h);simp only[Tx,this];rw[lu (by simp)]
def Cb(l:List Vb)(k:Nat)(h:k<=l.length):eE l none (some (k:Int))=l.take k:=by
 unfold eE;have :Le l.length (k:Int)=k:=(lB _ _).trans (IX h);simp only[Tx,this];rfl
def qR(n:Nat):dK 0 1 n=(a1 n).map λ(i:Nat)=>(i:Int):=by
 unfold dK;refine Ix λ i _=>by simp only[UJ,Int.zero_add]
def Cc(n:Nat):dK ((n:Int)-1) (-1) n=(a1 n).map λ(i:Nat)=>((n-1-i:Nat):Int):=by
 unfold dK;refine Ix λ i a=>?_;have :=cI.mp a;exact yS this
noncomputable def da(a b:List Int):List Int:=(((a1 a.length).map λ i=>a.length-1-i).filter λ k=>bF (b.count (a.getD k 0)<(a.drop k).count (a.getD k 0))).map λ k=>a.getD k 0
noncomputable def df(b a:List Int):List Int:=((a1 a.length).filter λ k=>bF (b.count (a.getD k 0)<(a.take (k+1)).count (a.getD k 0))).map λ k=>a.getD k 0
def u4:cu 308 307 (bB [35]) (a0 [35]) [nm "one",nm "two"]:=.mk' (λ P=>by lia) (λ P=>by lia) (λ P=>⟨by lia,by lia,by lia,by lia,by lia,by lia⟩) (by decide) (by rfl) (by rfl) ⟨rfl,rfl⟩ rfl rfl rfl
def Cd(h:a<B.length):(B.map Pn)[((a:Nat):Int).toNat]?=some (.int (B.getD a 0)):=by simp only[b4,a',ay h,av,ay h];rfl
def Fn.j0(h:B.length<2^63):Fn u (.builtin "len") [Ls B] (I B.length):=by
 have :=Fn.lh (u:=u) (Vm:=B.map .int) (by simpa using h);rwa[be]at this
def Ev.gO(d:Ev u g i z (Ls B))(e:Ev u g i Vl (I (a:Int)))(h:a<B.length)(f:a<2^62)(j:autoParam (∀o c,Mj Vl ap (.ref o) (.int (a:Int) c)=Pw [.ref o,.int (a:Int) c] (NN (.ref o) (.int (a:Int) c))) ir):Ev u g i (.Subscript z Vl v) (I (B.getD a 0)):=Ev.dI d e (dh) (hI f (aE true)) (Cd h) j
def Ev.Ce(b:Ev u g i z (Ls B))(d:Ev u g i Vl (I (a:Int)))(c:a<=B.length)(e:B.length<=a9):Ev u g i (.Subscript z (.Slice (some Vl) none none v) J) (Ls (B.drop a)):=by
 have :=Ev.slice (v:=v) (J:=J) b (.some d) .none (by simpa using e);rw[qQ _ a (by simpa using c),<-Qc]at this;exact this
def Ev.u5(b:Ev u g i z (Ls B))(d:Ev u g i Vl (I (a:Int)))(c:a<=B.length)(e:B.length<=a9):Ev u g i (.Subscript z (.Slice none (some Vl) none v) J) (Ls (B.take a)):=by
 have :=Ev.slice (v:=v) (J:=J) b .none (.some d) (by simpa using e);rw[Cb _ a (by simpa using c),<-Oa]at this;exact this
def Cf(c:-(2^62)<=C)(d:C<2^62)(e:-(2^62)<=Vq)(f:Vq<2^62):Jo C Vq (-1)=true:=PySem.W.small_down c d e f
def u6(h:a<=1000):Jo ((a:Int)-1) (-1) (-1)=true/\Ic ((a:Int)-1) (-1) (-1)=a:=by
 refine⟨Cf (yR rfl) (Ko (Int.sub_le_self _ (by decide)) (fC h rfl)) (by decide) (by decide),?_⟩;unfold Ic;rw[if_neg (by decide)];split;·simp only[show(- -1:Int)=1 by decide,QW];exact(Mt _ _).trans (by rw[Int.sub_neg];exact Mt _ _)
 ·rename_i q;exact Me dh (Int.le_add_of_sub_right_le (JO.mp q))
def Cg(f:B.length<=100)(g:VL.length<=100):Fn (a+1,true) (.ref 308) [Ls B,Ls VL] (Tu [.list ((da B VL).map .int),.list ((df B VL).map .int)]):=by
 have q:(1000:Nat)<=a9:=by decide
 refine Fn.of u4 (λ P doc r o=>by
     refine cP (d9 o) ?_;rintro p b rfl;lia) rfl (ag.cons (VN:=(nm "told",Ls (da B VL))::[nm "one",nm "two"].zip [Ls B,Ls VL]) (V0:=[]) ?_ (ag.last (St.ret (Ev.tuple (Vm:=[.list ((da B VL).map .int),.list ((df B VL).map .int)]) (f:=by show 2<=a9;decide) (.cons Ev.nm (.cons ?_ .nil)))) trivial))
 · have e:Ls (da B VL)=Li (((((a1 B.length).map λ i=>B.length-1-i)).filter λ a=>bF (VL.count (B.getD a 0)<(B.drop a).count (B.getD a 0))).map λ a=>.int (B.getD a 0)):=by unfold da Ls;rw[ec];rfl
   rw[e];refine St.qP [nm "k"] ((a1 B.length).map λ i=>B.length-1-i) (λ(i:Nat)=>I (i:Int)) (λ i=>[(nm "k",I (i:Int))]) _ _ (by rfl) (by rfl) (by rfl) (by rfl) ?_ (λ _=>rfl) (λ _ _=>.name) (λ i h=>?_) (λ i h _=>?_) (by simp;exact a2 f (aE true))
   · refine(ec).symm▸?_;have m:(a1 B.length).map ((λ(i:Nat)=>I (i:Int))∘λ i=>B.length-1-i)=(dK ((B.length:Int)-1) (-1) B.length).map λ i=>I i:=by simp only[Cc,ec];rfl
     simp only[m];exact bg.tY rfl (Ev.bl h0) (Ev.bJ bb.sub (Ev.cA (Fn.j0 (B:=B) (c6 f (aE true))) (Ev.bl dY) (.cons Ev.nm .nil)) .int) (Ev.h7 .int) (Ev.h7 .int) (by decide) (u6 (a2 f (aE true))).1 (u6 (a2 f (aE true))).2 (by decide)
   all_goals
     have c:i<B.length:=by
       refine ak (hp.mp h) ?_;rintro j n rfl;have :=cI.mp n;exact hF this
   ·exact .one (Tr.eq (Tr.cmp aD.gt (Ev.jK JI Ks Fn.jL (Ev.Ce (B:=B) (a:=i) Ev.nm Ev.nm (j5 c) (a2 f (aE true))) (.cons (Ev.gO (B:=B) (a:=i) Ev.nm Ev.nm c (e5 c f (aE true))) .nil)) (Ev.jK JI Ks Fn.jL (Vm:=VL.map .int) Ev.nm (.cons (Ev.gO (B:=B) (a:=i) Ev.nm Ev.nm c (e5 c f (aE true))) .nil))) (decide_eq_decide.mpr Mn))
   ·exact Ev.gO (B:=B) (a:=i) Ev.nm Ev.nm c (e5 c f (aE true))
 · have e:(.d (.list ((df B VL).map .int)):PV)=Li (((a1 VL.length).filter λ a=>bF (B.count (VL.getD a 0)<(VL.take (a+1)).count (VL.getD a 0))).map λ a=>.int (VL.getD a 0)):=by unfold df;rw[ec];rfl
   simp only[e];refine Ev.fe [nm "k"] (a1 VL.length) (λ(i:Nat)=>I (i:Int)) (λ i=>[(nm "k",I (i:Int))]) _ _ (by rfl) ?_ (λ _=>rfl) (λ _ _=>.name) (λ i h=>?_) (λ i h _=>?_) (by simp;exact a2 g (aE true))
   · have m:(a1 VL.length).map (λ(i:Nat)=>I (i:Int))=(dK 0 1 ((VL.length:Int)).toNat).map λ i=>I i:=by simp only[b4,qR,ec];rfl
     simp only[m];exact bg.tX rfl (Ev.bl h0) (Ev.cA (Fn.j0 (B:=VL) (c6 g (aE true))) (Ev.bl dY) (.cons Ev.nm .nil)) (dh) (fC g (aE true))
   all_goals have c:=cI.mp h
   ·exact .one (Tr.eq (Tr.cmp aD.gt (Ev.jK JI Ks Fn.jL (Ev.u5 (B:=VL) (a:=i+1) Ev.nm (Ev.bJ bb.fc Ev.nm .int) (hz c) (a2 g (aE true))) (.cons (Ev.gO (B:=VL) (a:=i) Ev.nm Ev.nm c (e5 c g (aE true))) .nil)) (Ev.jK JI Ks Fn.jL (Vm:=B.map .int) Ev.nm (.cons (Ev.gO (B:=VL) (a:=i) Ev.nm Ev.nm c (e5 c g (aE true))) .nil))) (decide_eq_decide.mpr Mn))
   ·exact Ev.gO (B:=VL) (a:=i) Ev.nm Ev.nm c (e5 c g (aE true))
noncomputable def ck:List Str->List Str->Bool
 |[],[]=>ap|[],_::_=>true|_::_,[]=>ap|x::a,y::b=>if x==y then ck a b else bF (x.cps.toList<y.cps.toList)
def h8(h:Ke Vc G):Vc.length=G.length:=by induction h with
 |nil=>rfl|cons _ _ _ a=>simp[a]
def nN(h:Ke Vc G):∀(j:Nat)(x:Str),G[j]?=some x->∃t,Vc.toArray[j]?=some (I2 x t):=by induction h with
 |nil=>intro j x h;simp at h|cons y u r a=>
  intro j x h;rcases j with _|j;·simp at h;subst h;exact⟨u,by rfl⟩
  ·simpa using a j x (by simpa using h)
def Ch(h:Vf (.bool (j.cps.toList<Vd.cps.toList)) q):aA (au Vj c) o (M3 .Lt (.str j Vt) (.str Vd Wo)) Vf y q:=lt_str h
def Ci(h:Vf (.bool (Vd.cps.toList<j.cps.toList)) q):aA (au Vj c) o (M3 .Gt (.str j Vt) (.str Vd Wo)) Vf y q:=R5 h
def Cj{o p:Array ab}(O:∀(j:Nat)(x:Str),G[j]?=some x->∃t,o[j]?=some (I2 x t))(T:∀(j:Nat)(x:Str),VJ[j]?=some x->∃t,p[j]?=some (I2 x t))(L:o.size=G.length)(M:p.size=VJ.length)(k:Nat):∀i:Nat,min G.length VJ.length-i=k->i<=min G.length VJ.length->SQ (Builtin.«list.__eq__.loop» ⟨[.ref h,.ref Q,JG i,JG 0],[]⟩) (λ A R s=>s.heap.get? h=some {cls:=.type "list",data:=.seq o a}/\s.heap.get? Q=some {cls:=.type "list",data:=.seq p b}/\R (.ok (.ret (.bool (ck (G.drop i) (VJ.drop i))))) s):=by induction k with
 |zero=>
   intro i e D J w A R s c;obtain⟨Y,g,d,WL,os⟩:=s;refine a4 c λ m f c=>?_;wp_walk using bK m,bK f;have V:o[((i:Nat):Int).toNat]?=none\/p[((i:Nat):Int).toNat]?=none:=by
     rw[b4];refine aH (QO G.length VJ.length) (λ q=>?_) λ q=>?_;·exact .inl (H' (j4 (j6 L) (jl e q)))
     ·exact .inr (H' (j4 (j6 M) (jm e q)))
   have fin:(ck (G.drop i) (VJ.drop i))=bF (o.size<p.size):=by
     rw[L,M];refine ez (LB G.length VJ.length) (λ q=>?_) (λ q=>?_) λ q=>?_;·rw[Ia (l:=G) (i:=i) (jl e (j5 q)),ht (l:=VJ) (i:=i) (c5 (rZ D) q)];simp[ck];exact q
     ·rw[Ia (l:=G) (i:=i) (jl e (j6 q)),Ia (l:=VJ) (i:=i) (jm e (j7 q))];simp[ck];exact j7 q
     ·rw[Ia (l:=VJ) (i:=i) (jm e (j5 q)),ht (l:=G) (i:=i) (c5 (oE D) q)];simp[ck];exact j5 q
   rw[fin]at c;cases N:o[((i:Nat):Int).toNat]? with
   |none=>
     wp_walk using bK m,bK f;exact c|some v=>
     rw[V.resolve_left (by rw[N];exact λ c=>by cases c)];wp_walk using bK m,bK f;exact c
 |succ k WK=>
   intro i e D J w A R s c;obtain⟨Y,g,d,WL,os⟩:=s;refine a4 c λ m f c=>?_;wp_walk using bK m,bK f;have E:i<G.length:=bA (iv e) fx;have H:i<VJ.length:=bA (iv e) hG;refine ai (O i _ (ay E)) λ t r=>?_;refine ai (T i _ (ay H)) λ u z=>?_;have r:o[((i:Nat):Int).toNat]?=some (I2 G[i] t):=by rw[b4];exact r
   have z:p[((i:Nat):Int).toNat]?=some (I2 VJ[i] u):=by rw[b4];exact z
   have U:((i:Int)+1)=((i+1:Nat):Int):=by push_cast;rfl
   rw[ht E,ht H]at c;rw[r,z];generalize G[i]=x at c r;generalize VJ[i]=y at c z;refine af (TM _ _ _ _ J w _ _ ?_);unfold ck at c;rcases B:x==y with _|_
   · have C:(y==x)=ap:=by
       have :=beq_eq_false_iff_ne.mp B;exact beq_eq_false_iff_ne.mpr λ q=>this q.symm
     first|rw[C]at c|skip
     first|rw[B]at c|skip
     wp_walk using bK m,bK f;rw[r,z];refine af (Ch ?_);wp_walk;exact c
   · have C:(y==x)=true:=by rw[pV B];exact beq_self_eq_true _
     first|rw[C]at c|skip
     first|rw[B]at c|skip
     wp_walk;rw[U];exact⟨I0 Iy _,hN KY (by
       rw[fH Iy _];exact WK (i+1) (hB e) (hz (mh E H)) J w A R _ ⟨m,f,c⟩)⟩
def Ck(a:q.heap.PlainList h Vc.toArray)(e:q.heap.PlainList Q WF.toArray)(i:Ke Vc G)(j:Ke WF VJ)(k:o.units<O3)(f:Vf (.bool (ck G VJ)) q):aA (au P0 c) o (T5 .Lt (.ref h) (.ref Q)) Vf y q:=by
 refine aj λ t=>ai a λ n a=>ai e λ m e=>t ?_;show aA (au P0 c) o (M3 .Lt (.ref h) (.ref Q)) Vf y q;refine Qq ⟨_,a,rfl⟩ ⟨_,e,rfl⟩ Ua (Kx Ua ⟨_,a,rfl⟩ F.entry_list_lt (F.args_list_lt_2 _ _) (S:=λ o R q=>q.heap.get? h=some {cls:=.type "list",data:=.seq Vc.toArray n}/\q.heap.get? Q=some {cls:=.type "list",data:=.seq WF.toArray m}/\R (.ok (.ret (.bool (ck G VJ)))) q) ?_ ⟨a,e,?_⟩) k
 · intro p c o R q f;obtain⟨v,g,d,x,os⟩:=q;refine a4 f λ a e f=>?_;have u:=PM;wp_walk using bK a,bK e;exact⟨I0 Iy _,hN KY (by
     rw[fH Iy _];exact Cj (G:=G) (VJ:=VJ) (nN i) (nN j) (h8 i) (h8 j) _ 0 rfl (dk _) p c o R _ ⟨a,e,f⟩)⟩
 ·exact⟨(by intro r;cases r),f⟩
def Cm{o p:Array ab}(O:∀(j:Nat)(x:Str),G[j]?=some x->∃t,o[j]?=some (I2 x t))(T:∀(j:Nat)(x:Str),VJ[j]?=some x->∃t,p[j]?=some (I2 x t))(L:o.size=G.length)(M:p.size=VJ.length)(k:Nat):∀i:Nat,min G.length VJ.length-i=k->i<=min G.length VJ.length->SQ (Builtin.«list.__eq__.loop» ⟨[.ref h,.ref Q,JG i,JG 4],[]⟩) (λ A R s=>s.heap.get? h=some {cls:=.type "list",data:=.seq o a}/\s.heap.get? Q=some {cls:=.type "list",data:=.seq p b}/\R (.ok (.ret (.bool (ck (VJ.drop i) (G.drop i))))) s):=by induction k with
 |zero=>
   intro i e D J w A R s c;obtain⟨Y,g,d,WL,os⟩:=s;refine a4 c λ m f c=>?_;wp_walk using bK m,bK f;have V:o[((i:Nat):Int).toNat]?=none\/p[((i:Nat):Int).toNat]?=none:=by
     rw[b4];refine aH (QO G.length VJ.length) (λ q=>?_) λ q=>?_;·exact .inl (H' (j4 (j6 L) (jl e q)))
     ·exact .inr (H' (j4 (j6 M) (jm e q)))
   have fin:(ck (VJ.drop i) (G.drop i))=bF (o.size>p.size):=by
     rw[L,M];refine ez (LB G.length VJ.length) (λ q=>?_) (λ q=>?_) λ q=>?_;·rw[Ia (l:=G) (i:=i) (jl e (j5 q)),ht (l:=VJ) (i:=i) (c5 (rZ D) q)];simp[ck];exact j5 q
     ·rw[Ia (l:=G) (i:=i) (jl e (j6 q)),Ia (l:=VJ) (i:=i) (jm e (j7 q))];simp[ck];exact j6 q
     ·rw[Ia (l:=VJ) (i:=i) (jm e (j5 q)),ht (l:=G) (i:=i) (c5 (oE D) q)];simp[ck];exact q
   rw[fin]at c;cases N:o[((i:Nat):Int).toNat]? with
   |none=>
     wp_walk using bK m,bK f;exact c|some v=>
     rw[V.resolve_left (by rw[N];exact λ c=>by cases c)];wp_walk using bK m,bK f;exact c
 |succ k WK=>
   intro i e D J w A R s c;obtain⟨Y,g,d,WL,os⟩:=s;refine a4 c λ m f c=>?_;wp_walk using bK m,bK f;have E:i<G.length:=bA (iv e) fx;have H:i<VJ.length:=bA (iv e) hG;refine ai (O i _ (ay E)) λ t r=>?_;refine ai (T i _ (ay H)) λ u z=>?_;have r:o[((i:Nat):Int).toNat]?=some (I2 G[i] t):=by rw[b4];exact r
   have z:p[((i:Nat):Int).toNat]?=some (I2 VJ[i] u):=by rw[b4];exact z
   have U:((i:Int)+1)=((i+1:Nat):Int):=by push_cast;rfl
   rw[ht E,ht H]at c;rw[r,z];generalize G[i]=x at c r;generalize VJ[i]=y at c z;refine af (TM _ _ _ _ J w _ _ ?_);unfold ck at c;rcases B:x==y with _|_
   · have C:(y==x)=ap:=by
       have :=beq_eq_false_iff_ne.mp B;exact beq_eq_false_iff_ne.mpr λ q=>this q.symm
     first|rw[C]at c|skip
     first|rw[B]at c|skip
     wp_walk using bK m,bK f;rw[r,z];refine af (Ci ?_);wp_walk;exact c
   · have C:(y==x)=true:=by rw[pV B];exact beq_self_eq_true _
     first|rw[C]at c|skip
     first|rw[B]at c|skip
     wp_walk;rw[U];exact⟨I0 Iy _,hN KY (by
       rw[fH Iy _];exact WK (i+1) (hB e) (hz (mh E H)) J w A R _ ⟨m,f,c⟩)⟩
def Cn(a:q.heap.PlainList h Vc.toArray)(e:q.heap.PlainList Q WF.toArray)(i:Ke Vc G)(j:Ke WF VJ)(k:o.units<O3)(f:Vf (.bool (ck VJ G)) q):aA (au P0 c) o (T5 .Gt (.ref h) (.ref Q)) Vf y q:=by
 refine aj λ t=>ai a λ n a=>ai e λ m e=>t ?_;show aA (au P0 c) o (M3 .Gt (.ref h) (.ref Q)) Vf y q;refine Qq ⟨_,a,rfl⟩ ⟨_,e,rfl⟩ Ub (Kx Ub ⟨_,a,rfl⟩ F.entry_list_gt (F.args_list_gt_2 _ _) (S:=λ o R q=>q.heap.get? h=some {cls:=.type "list",data:=.seq Vc.toArray n}/\q.heap.get? Q=some {cls:=.type "list",data:=.seq WF.toArray m}/\R (.ok (.ret (.bool (ck VJ G)))) q) ?_ ⟨a,e,?_⟩) k
 · intro p c o R q f;obtain⟨v,g,d,x,os⟩:=q;refine a4 f λ a e f=>?_;have u:=PM;wp_walk using bK a,bK e;exact⟨I0 Iy _,hN KY (by
     rw[fH Iy _];exact Cm (G:=G) (VJ:=VJ) (nN i) (nN j) (h8 i) (h8 j) _ 0 rfl (dk _) p c o R _ ⟨a,e,f⟩)⟩
 ·exact⟨(by intro r;cases r),f⟩
def aD.Co:aD .Lt (Lt G) (Lt VJ) (ck G VJ):=λ X w A d s v u E p j i=>by
 refine aj λ k=>?_;refine bI j.list λ a x n c q e g=>?_;obtain rfl:=c;refine bI i.list λ b t o c r f h=>?_;obtain rfl:=c;exact k (Ck e f (hY g) (hY h) (fy d) ⟨rfl,Kp.refl _⟩)
def aD.Cq:aD .Gt (Lt G) (Lt VJ) (ck VJ G):=λ X w A d s v u E p j i=>by
 refine aj λ k=>?_;refine bI j.list λ a x n c q e g=>?_;obtain rfl:=c;refine bI i.list λ b t o c r f h=>?_;obtain rfl:=c;exact k (Cn e f (hY g) (hY h) (fy d) ⟨rfl,Kp.refl _⟩)
def Cr:Fn (a+1,M) (.ref 198) [Lt G,Lt VJ] (I (eX (ck VJ G) (ck G VJ))):=Fn.of (Q:=197) (Vp:=bB [26]) (g:=a0 [26]) (G:=[ac "x",ac "y"]) (.mk' (λ P=>by lia) (λ P=>by lia) (λ P=>⟨by lia,by lia,by lia,by lia,by lia,by lia⟩) (by decide) (by rfl) (by rfl) ⟨rfl,rfl⟩ rfl rfl rfl) (λ P doc d b=>by
   refine cP (d9 b) ?_;rintro v u rfl;lia) rfl (by
   refine ag.cons St.doc (ag.last (St.ret (Ev.bJ bb.qi ?_ ?_)) trivial);·exact Ev.cmp aD.Cq Ev.nm Ev.nm
   ·exact Ev.cmp aD.Co Ev.nm Ev.nm)
def h9(k:Lv)(WM:ab)(L:List (ae×Obj))(b:List PV)(r:PV):Prop:=∀(X:ae->Prop)(WK:ar)(A:aq),Rm k A->∀(s:aa)(vs:List ab)(E:ab->aa->Prop),aC WK s.heap->Ex X s.heap->fg A X s.heap->(∀p∈L,¬X p.1/\s.heap.get? p.1=some p.2)->aU X s.heap vs b->aA (au P0 WK) A (I1 WM vs) (λ v a=>RV X a.heap v r/\Kq true A s a/\aC WK a.heap) E s
def eh(q:PV)(x:Str)(j:List PV):Prop:=∀(X:ae->Prop)(WL:ar)(A B:aq),A.handled=none->∀(i:Pos)(f s:aa)(E Q:ab->aa->Prop)(WK:ab),Ex X s.heap->RV X s.heap WK q->Kp f s->(∀e a c d g St h N,Kp f a->Kp a c->(∀b,N b↔X b\/a.heap.get? b=none)->dc N WL A e (.Name x i) j d g St h->St 0 c.heap->(∀b,d b->b<c.heap.objs.size)->(∀b,g b->a.heap.objs.size<=b)->(∀b,d b->¬X b)->Q e c)->aA (au P0 WL) B (Ly WK) Q E s
def eh.list:eh (Li Vm) j (Vm.map .d):=λ X w A B c o p s E Q v a i kp b=>by
 refine aj λ k=>?_;refine bI i.list λ n q m g e f h=>?_;obtain rfl:=g;exact k (tW c kp a e f h b)
def eh.gg(e:Jo C Vq Wa=true)(f:Ic C Vq Wa=a):eh (.gg C Vq Wa) j ((dK C Wa a).map λ i=>I i):=λ X w A B h q y s E Q v d m kp g=>by
 refine aj λ o=>?_;refine o5 m λ r t u z l p k=>?_;obtain rfl:=l;exact o (nf h kp d k e f g)
def St.Cs(n:A.t=true)(WZ:∃o B,(h,o)∈VM/\o.data=.func B)(WW:h9 u (.ref h) VM Vi V)(WY:Ev u g i (.Name j v) (.kept (.ref h) VM))(WK:a6 u g i (z::Vr) Vi)(W1:ce g Vd=true):St A u g i D (.Assign [.Name Vd J] (.Call (.Name j v) (z::Vr) [] Vg) VA) (.next ((Vd,V)::i) (bu Vd D)):=λ X w c G d W9 s E m Xa O F=>by
 refine Jf (dr (WY.use G F.er (Kp.refl s) λ M H f _ W3 WS=>?_)) rfl;obtain⟨rfl,f⟩:=f;have l:=WK.plain (E:=d) (v:=Vg);refine aW WZ λ o B W0 WX=>?_;refine di WK.cut λ _ _ W5 WT b WL=>?_;obtain rfl:=W5;have U:=a6.use G (z:=Vg) (E:=E) (.cons WT b WL) (s:=H) (Q:=λ N t=>(t.heap.get? h=some o/\o.data=.func B)/\aA (au P0 w) c (I1 (.ref h) N) (λ M H=>aA (au P0 w) c (OD d Vd M) (λ _ t=>c' A X w c g d W9 O s .next t (.next ((Vd,V)::i) (bu Vd D))) E H) E t) WS W3 λ N WP W8 WM WN Y=>⟨⟨WM.keep _ _ ((f _ W0).2),WX⟩,by
   have T:=F.kp WN;refine aG (WW (aL X d O) w c G WP N E Y.left Y.ex (T.lA n) (λ p l=>⟨(f p l).1,WM.keep _ _ (f p l).2⟩) W8) (λ M W' W6=>(a4 W6 λ W7 K WR=>?_)) λ _ _ A=>A;have fr:aZ A c X d O WP O W':=⟨λ b o WO z=>K.ext.keep b o (λ _=>⟨λ q=>WO (.inr (.inr ⟨n,.inl q⟩)),λ q=>WO (.inr (.inr ⟨n,.inr q⟩))⟩) z,λ b C=>.inl C,λ _ C=>C,F.hO⟩;exact(T.kt n K WR).store (dL W1) W7 λ Xb W4 WU WQ W2=>⟨rfl,W4,WU,O,WQ,(aZ.bR F.hO WN).trans (fr.trans (.dn F.hO W2))⟩⟩;simp only[WL]at U l⊢;exact rS (b1 U)
def Ct(P:a3):a5 P (nm "_initial_missing")=some (.ref 126):=by lia
def Cu(P:a3):a5 P (nm "iter")=none/\cR P (nm "iter")=some (.builtin "iter"):=⟨by lia,by lia⟩
def aC.Cv(L:aC c s):∃o,s.get? 126=some o/\o.cls=.type "object":=by
 refine aj λ b=>ak (L.objs (126,tp c.params) (ct (i:=82) (by lia)) rfl) λ x e q=>?_;refine b (bj x e ?_);have a:∀o,(gf o).cls=o.cls:=λ o=>by
  obtain⟨_,_,d,_⟩:=o;cases d<;>rfl
 exact(a x).symm.trans (congrArg Obj.cls q)
def iY:cu 134 133 (bB [21]) (a0 [21]) [nm "function",nm "sequence",nm "initial"]:=.mk' (λ P=>by lia) (λ P=>by lia) (λ P=>⟨by lia,by lia,by lia,by lia,by lia,by lia⟩) (by decide) (by rfl) (by rfl) ⟨rfl,rfl⟩ rfl rfl rfl
noncomputable def u7:Pos:=jr ((cE ((bB [21]).getD 3 b2)).e 0)
noncomputable abbrev u8(q:PV)(b:List bP)(a:ae)(L:List (ae×Obj)):List (Str×PV):=[nm "function",nm "sequence",nm "initial"].zip [.kept (.ref a) L,q,Li b]
def Cw(h:i.lookup (nm "initial")=some (Li Vm)):Tr u (a0 [21]) i (.Compare (.Name (nm "initial") v) [.Is] [.Name (nm "_initial_missing") J] Vg) ap:=λ X w A c B s E R=>JX ((Ev.nm h).use c R (Kp.refl s) λ L G p _ j e=>(Ev.gl Ct).use c e j λ t H r g k f=>by
  refine aj λ x=>?_;obtain rfl:t=.ref 126:=r;refine bI ((p.keeps g.keep).list) λ z M y l C m D=>?_;obtain rfl:=l;obtain⟨n,b⟩:=m;refine ak f.left.Cv λ o d a=>x ?_;refine al (wpAny_isSame_ref_other (λ q=>?_) b d (λ q=>by injection q with q;exact absurd q (by decide)) (ah (zF ⟨rfl,k⟩)));subst q;rw[d]at b;obtain rfl:=ax b;injection a with a;exact absurd a (by decide))
def Cy(f:Rm u o)(x:Ev u g i (.Name j v) (.raw (.builtin VF)))(k:Ev u g i z V)(R:bq w c g E q.heap i)(h:∀b a,RV w a.heap b V->Kp q a->bq w c g E a.heap i->aA (au P0 c) o (I1 (.builtin VF) [b]) Vf y a)(d:autoParam (∀m E,bD (z::m) E=(ap,He z E)::bD m E) bc):aA (au P0 c) o (He (.Call (.Name j v) [z] [] J) E) Vf y q:=by
 refine dr (x.use f R (Kp.refl q) λ b L D _ B p=>?_);obtain rfl:b=.builtin VF:=D;have l:=(a6.cons k .nil d).plain (E:=E) (v:=J);have U:=a6.use f (z:=J) (E:=y) (.cons k .nil d) (s:=L) (Q:=λ n H=>aA (au P0 c) o (I1 (.builtin VF) n) Vf y H) p B λ n a G _ C t=>by
  refine ak G.one ?_;rintro M rfl r;exact h _ a r C t
 rw[d]at U l⊢;exact Ip l (b1 U)
def Cz{l:Nat->List bP}(Xc:A.t=true)(Xa:eh V (nm "element") Vi)(W9:∀i p,Vi[i]?=some p->h9 (a,true) (.ref h) VM [Li (l i),p] (Li (l (i+1))))(W':∃o fd,(h,o)∈VM/\o.data=.func fd):ag A (a,true) (a0 [21]) (u8 V (l 0) h VM) [] ((bB [21]).drop 1) (.ret (Li (l Vi.length))):=λ X w n d g G s E m Xr O F=>by
 refine ii (Jf (Cy (V:=V) d (Ev.bl Cu) Ev.nm F.er λ v Xl r Xe W2=>Q7 (by decide+kernel) (by decide+kernel) kdk_entry_iter (kdk_args_iter _) ?_) rfl);unfold Builtin.«iter»;refine af (m:=someArgs "iter" 1 2 _) (cx (a:=[v]) (by first|rfl|kernel_rfl!) ?_);refine af (Xa (aL X g O) w n _ (d.calm rfl) u7 s Xl _ _ v W2.ex r Xe λ Y WO Xm W7 J S Xq N WM WX WR Fd U Xt B WU=>(ah ⟨_,rfl,?_⟩));have WY:Kp s Xm:=WM.trans WX;have WW:G.heap.objs.size<=WO.heap.objs.size/\314<=WO.heap.objs.size:=by
   refine ak (Ns.c9 (F.ns.keeps WM.keep)) λ o e _=>?_;have :=az e;exact⟨bn (bz F.fresh this),bn (bz F.locals this)⟩
 have WS:∀b,J b->G.heap.objs.size<=b/\314<=b:=λ b V=>⟨an WW.1 (B b V),an WW.2 (B b V)⟩;have WT:∀b,J b->s.heap.get? b=none:=λ b V=>by
   rcases e:s.heap.get? b with _|o;·rfl
   ·exact absurd (az (WM.keep b o e)) (b'.mpr (B b V))
 have Xd:∀b,J b->N b:=λ b V=>(WR b).mpr (.inr (cW (B b V)));have WZ:∀b,W7 b->¬gI g b:=λ b V Xi=>WU b V (.inl (.inr Xi));refine(F.wide WY WT (λ b V=>Fd.there 0 _ U b (Fd.sub b V)) (λ b V=>(WS b V).1) (λ b o V e=>Fd.hV 0 _ U b o V e)).store (.inl rfl) (V:=.raw Y) rfl λ Xw Xu Xs Q WK=>?_;refine ii (Pt ((Cw (by rfl)).use d Q.reads (Kp.refl _) λ Xx j _ _=>?_));refine ii (Jf ((Ev.nm (V:=Li (l 0)) (by rfl) (by rfl)).use d (Q.kp j).er (Kp.refl _) λ Xz Xy Xj C _ _=>((Q.kp j).kp C).store (.inl rfl) Xj λ Xn Xf W3 WP WL=>?_) rfl);refine J2 ?_;have Xb:S 0 Xn.heap:=Fd.frame _ _ _ (Fd.frame _ _ _ U λ b o V e=>WK b o (WZ b V) e) λ b o V e=>WL b o (WZ b V) (C.keep b o (j.keep b o e));let M:Nat->List (Str×PV):=λ i=>[(nm "value",Li (l i)),(nm "function",.kept (.ref h) VM)];let u:Nat->List (Str×PV):=λ i=>match Vi[i]? with|some p=>[(nm "element",p)]|none=>[];refine ii (T0 ((Ev.nm (V:=.raw Y) (by rfl) (by rfl)).use d WP.er (Kp.refl _) λ Xp H Xk D _ _=>?_) (by intro _;rfl));obtain rfl:Xp=Y:=Xk;have WV:S 0 H.heap:=Fd.frame _ _ _ Xb λ b o _ e=>D.keep b o e;refine Fd.self 0 H _ _ WV ?_;have WQ:FB A (cX X J) w n (a0 [21]) g G (M 0) [] Xf W3 O H:=(WP.kp D).weaken ⟨rfl,rfl,trivial⟩;have W8:=((aZ.bR F.hO WY).trans ((aZ.dn F.hO WK).trans ((aZ.bR F.hO j).trans ((aZ.bR F.hO C).trans (.dn F.hO WL))))).trans (.bR F.hO D);have z:∀i p,Vi[i]?=some p->u i=[(nm "element",p)]:=λ i p c=>by show(match Vi[i]? with|some p=>[(nm "element",p)]|none=>[])=_;rw[c]
 refine Mz (uq (z:=.Name (nm "element") u7) (y:=NP (au P0 w) n g E) Vi M (λ _=>[]) u (λ i=>.next ((nm "value",Li (l (i+1)))::(u i++M i)) []) (λ i p c=>?_) (λ i y p c=>?_) (λ i T=>?_) (λ i T=>?_) d (s:=s) (W6:=WO) WQ W8 (λ b o e=>?_) WR Xd Fd WV WS WT WU (λ t=>⟨(F.bi t).tab,(F.bi t).fa⟩) λ _ _ V=>V) (λ r Xo c=>?_);·simp only[z i p c];exact .name
 ·cases e:Vi[i]? with
   | none => have :u i=[]:=by show(match Vi[i]? with|some p=>[(nm "element",p)]|none=>[])=_;rw[e]
             rw[this]at c;cases c|some Xh=>
     rw[z i Xh e]at c;rw[(JU (aI.mp (c))).1];rfl
 · have e:=ay T;rw[z i _ e];exact ag.cons (St.Cs Xc W' (W9 i _ e) Ev.nm (.cons Ev.nm (.cons Ev.nm .nil)) (by rfl)) ag.nil
 · have e:=ay T;rw[z i _ e];exact⟨⟨rfl,rfl,trivial⟩,rfl⟩
 · obtain⟨WN,W5⟩:∃WN,H.heap.get? b=some WN:=by
     by_cases V:gI g b;·exact WQ.er.ex b (.inl (.inr V))
     ·exact⟨o,D.keep b o (WL b o V (C.keep b o (j.keep b o (WK b o V (WX.keep b o e)))))⟩
   exact⟨WN,W5⟩
 ·cases r with
   |error e=>exact c|ok f=>
     obtain⟨rfl,Xg,W4,W1,W0,_⟩:=c;exact aG ((ag.last (St.ret (Ev.nm (V:=Li (l Vi.length)) (by rfl) (by rfl))) trivial:ag A (a,true) (a0 [21]) (M Vi.length) [] ((bB [21]).drop 4) (.ret (Li (l Vi.length)))) X w n d g G Xo E Xg W4 W1 W0) (λ f Xv c=>c) λ _ _ c=>c
noncomputable def qS(a:ab):It:=iI [21] (ac "reduce") (ac "reduce") 3 [] (.ref 127) .none a (.str (ac "cpy313.functools") 495) none (.ref 133) .none 0
def u9(P:a3):cf P 134=qS .none:=by lia
def CA(P:a3)(a:ab):{cf P 134 with doc:=a}=qS a:=by rw[u9];rfl
def aC.CB(L:aC c s):s.get? 127=some (tn c.params):=L.eC 83 (by lia) rfl λ x e=>by
 obtain⟨b,d,a,f⟩:=x;cases a<;>first|exact e|cases e
def CC(L:aC c q.heap)(e a b d:ab):PySem.BindsTo q (qS e) ⟨[a,b,d],[]⟩ ([nm "function",nm "sequence",nm "initial"].zip [a,b,d]):=Uh rfl L.CB rfl rfl rfl
def CD{l:Nat->List bP}(WK:eh V (nm "element") Vi)(M:∀i p,Vi[i]?=some p->h9 (a,true) (.ref h) VM [Li (l i),p] (Li (l (i+1))))(O:∃o C,(h,o)∈VM/\o.data=.func C):ef (a+1,true) (.ref 134) [.kept (.ref h) VM,V,Li (l 0)] (Li (l Vi.length)):=λ X w A G s vs E b r T c=>by
 refine aj λ WN=>aW (b.fn (iY.fn w.params) iY.tabs.1) λ o doc Y N=>mB (iY.ok w.params) λ d t u y z B=>?_;refine bI c.three λ WT WU WV WL WO WP WQ=>?_;obtain rfl:=WL;refine WN ?_;refine ui (A:=⟨true,.ref 133,ac "reduce"++ac ".<locals>."⟩) (Wv:=⟨[_,_,_],[]⟩) (Wp:={cf w.params 134 with doc:=doc}) iY.toScOk Y N (by refine d.symm▸?_;exact b.code (iY.code w.params) iY.tabs.2) t u y z B G b r c rfl (λ Q E D=>by rw[CA];exact CC b doc _ _ _ _ _ _ _ D) d.symm (λ _=>by rw[u9];rfl) (λ _=>T) λ n WM m j U J F=>?_;exact aG ((ag.cons St.doc (Cz rfl WK M O):ag ⟨true,.ref 133,ac "reduce"++ac ".<locals>."⟩ (a,true) (a0 [21]) (u8 V (l 0) h VM) [] (bB [21]) (.ret (Li (l Vi.length)))) X w _ J n s WM _ m j [] F) (λ f WR H=>by obtain⟨v,e,c,kq,g,_⟩:=H;subst e;exact b3 (c.mono λ _ V=>.inl V) (kq.outer U) g) λ _ _ x=>x
inductive CE(X:ae->Prop)(l:OL)(s:aa)(v:ab)(c:aa):Prop|mk(a:ae)(d:List ab)(e:v=.ref a)(lt:∀b o,s.heap.get? b=some o->b<a)(f:c.heap.PlainList a d.toArray)(g:RO (λ b=>X b\/b=a) c.heap d l)(k:Kp s c)
def ei(k:Lv)(a:aw)(b:List (Str×PV))(e:b7)(l:OL):Prop:=∀(X:ae->Prop)(WM:ar)(A:aq),Rm k A->∀(WL:Env)(WK:aa)(E:ab->aa->Prop),bq X WM a WL WK.heap b->aA (au P0 WM) A (He e WL) (CE X l WK) E WK
def ei.nil(c:VX=.p []\/VX=.m []):ei u g i (.List [] v) VX:=λ X w A a h s E R=>wpAny_List ((a6.nil:a6 u g i [] []).use a R (Kp.refl s) λ j d r _ u f=>by
  obtain rfl:=r.none;refine⟨by decide,d.heap.objs.size,[],rfl,λ b o e=>az (u.keep b o e),⟨_,aF _ rfl⟩,?_,u.trans Kp.push⟩;rcases c with rfl|rfl;·exact⟨_,.nil⟩
  ·exact .nil)
def FB.qT(F:FB A w c o g E q i D Ve Vn Y H)(kp:Kp H VH)(WN:g.names.lookup j=some .local)(G:∀b d,H.heap.get? b=some d->b<h)(WO:VH.heap.PlainList h Vc.toArray)(L:RO (λ b=>aL w E Y b\/b=h) VH.heap Vc VX)(WM:∀k r,FB A w c o g E q (i.filter λ f=>f.1 !=j) ((j,VX)::bu j D) r Vn (h::Y) k->(KX (gI E) VH.heap k.heap)->aZ A o w E Y H (h::Y) k->VO () k):aA (au P0 c) o (OD E j (.ref h)) VO y VH:=by
 have t:∀b d,H.heap.get? b=some d->b≠h:=λ b d e=>br (G b d e);have C:∀b,aL w E (h::Y) b↔aL w E Y b\/b=h:=λ b=>by
   constructor
   · rintro(f|f);·exact .inl (.inl f)
     · refine aH (aP.mp f) (λ f=>?_) λ f=>?_;·exact .inr f
       ·exact .inl (.inr f)
   · rintro((f|f)|f);·exact .inl f
     ·exact .inr (.tail _ f)
     ·exact .inr (f▸.head _)
 rw[(funext λ b=>propext (C b).symm)]at L;have M:∀b d,¬aL w E Y b->H.heap.get? b=some d->¬aL w E (h::Y) b/\VH.heap.get? b=some d:=λ b d u e=>⟨λ f=>((C b).mp f).elim u (t b d e),kp.keep b d e⟩;refine ak (Ns.c9 F.ns) λ WR N _=>?_;refine(F.kp kp).ud WN (an F.fresh (bn (G _ _ N))) (λ f=>by refine ai (F.er.ex h f) λ d e=>?_;exact t h d e rfl) WO L (λ v p e=>(F.er.vars v p e).shift M (λ d=>kp.keep _ d) λ _ _ _ d=>kp.keep _ d) (λ v VX T=>?_) λ k r B J=>WM k r B J ⟨λ b d u e=>J b d (λ f=>u (.inl f)) (kp.keep b d e),λ b n=>?_,λ b n=>.tail _ n,B.hO⟩
 · obtain⟨b,WP,WQ,U,V,WK,WL⟩:=F.own v VX T;exact kO b WP U V (WK.at λ d e=>kp.keep _ d e) (WL.shift M)
 · rcases aP.mp n with rfl|n
   · refine .inr ?_;rcases e:H.heap.get? b with _|d;·rfl
     ·exact(t b d e rfl).elim
   ·exact .inl n
def St.own(h:ei u g i z VX)(t:g.names.lookup j=some .local)(r:autoParam (∀b,ME z (some (.Name j v)) J.line b=jq ap) cN):St A u g i D (.Assign [.Name j v] z J) (.next (i.filter λ q=>q.1 !=j) ((j,VX)::bu j D)):=λ X w c o b M s E m f O F=>Jf (aG (h _ w c o b s E F.er) (λ N H C=>by
  obtain⟨a,Q,z,p,B,G,kp⟩:=C;subst z;exact F.qT kp t p B G λ L y d _ n=>⟨rfl,y,f,_,d,n⟩) λ _ _ A=>A) (r b)
def St.u'(WO:u.2=true)(WU:Ev u g i z V)(WV:ei u g i Vl VX)(WS:ce g j=true)(WT:g.names.lookup Vd=some .local)(WR:∀c:Env,c.scope=g->J8 [.Tuple [.Name j v,.Name Vd J] a Vg] (.Tuple [z,Vl] b VA) c=jq (some [j,Vd]))(WP:autoParam (∀h c,bD (z::h) c=(ap,He z c)::bD h c) bc)(WQ:autoParam (∀h c,bD (Vl::h) c=(ap,He Vl c)::bD h c) bc):St A u g i D (.Assign [.Tuple [.Name j v,.Name Vd J] a Vg] (.Tuple [z,Vl] b VA) VT) (.next ((j,V)::i.filter λ q=>q.1 !=Vd) (bu j ((Vd,VX)::bu Vd D))):=λ X w Y t c W7 s E m W5 O F=>by
 refine Oy (names:=[j,Vd]) (OT (IM (WU.use t F.er (Kp.refl s) λ r C W3 T _ WL=>(IM (aG (WV (aL X c O) w Y t c C E WL) (λ W9 U W0=>?_) λ _ _ A=>A) (WQ _ _))) (WP _ _))) rfl (WR c F.er.scope);obtain⟨n,vs,e,M,WZ,W1,kp⟩:=W0;subst e;refine Lu ⟨by show 2<=a9;decide,?_⟩;refine PI (items:=#[r,.ref n]) (t.calm WO) ⟨_,aF _ rfl,rfl,_,rfl⟩ λ H L=>?_;have Q:Kp C {U with heap:=H}:=kp.re λ d o e=>by
   have f:=ao {cls:=.type "tuple",dict:=none,data:=.seq #[r,hk n],slots:=#[]} (kp.keep d o e);exact L d o (br (az f)) f
 have N:KO U.heap H:=λ d o e=>by
   have f:=ao {cls:=.type "tuple",dict:=none,data:=.seq #[r,hk n],slots:=#[]} e;exact L d o (br (az f)) f
 refine Ij (OM (FB.qT (H:=C) (F.kp T) Q WT M (WZ.at λ o e=>N _ o e) (W1.b0 λ d o _ e=>N d o e) λ W4 W6 G WW WN=>?_));have W2:RV (aL X c (n::O)) W4.heap r V:=W3.shift λ d o B e=>⟨λ q=>?_,WW d o (λ q=>B (.inl (.inr q))) (Q.keep d o e)⟩;·refine Ij (OM (G.store (dL WS) W2 λ W8 WY WM WK WX=>J6 ⟨rfl,WY,WM,_,WK,(aZ.bR F.hO T).trans (WN.trans (.dn G.hO WX))⟩))
 · rcases q with q|q;·exact B (.inl q)
   · rcases aP.mp q with rfl|q;·exact absurd (M _ _ e) (Iw _)
     ·exact B (.inr q)
def CF{c a b d:Bool}{X:Sem (Option (List Str))}(h:c=ap)(f:a=ap)(e:G=[j,Vd])(k:[j,Vd].eraseDups.length=2)(g:b=ap)(i:d=ap):(if c=true then jq none else if a=true then jq none else if(G.length !=2||G.eraseDups.length !=G.length)=true then jq none else if b=true then jq none else if d=true then X else jq (some G))=(jq (some [j,Vd]):Sem (Option (List Str))):=by
 subst e h f g i;have q:([j,Vd].length !=2||[j,Vd].eraseDups.length !=[j,Vd].length)=ap:=by rw[k];rfl
 exact if_neg (q▸Jn)
def CG{f:Vb->Option Wr}{a b:Vb}{c d:Wr}(h:f a=some c)(g:f b=some d):[a,b].filterMap f=[c,d]:=by rw[Qd h,Qd g];rfl
def CH(g:E.blockKind=.function)(k:E.kindOf j=some .local)(l:E.kindOf Vd=some .local)(h:(J.line==v.line)=true)(i:[j,Vd].eraseDups.length=2)(c:([z,Vl].any λ e=>O2 (λ _=>Bool) e (λ _ _=>true) λ _=>ap)=ap)(d:[z,Vl].all (foldedForSure 8)=ap)(f:[z,Vl].all (U1 8)=ap):J8 [.Tuple [.Name j v,.Name Vd J] a Vg] (.Tuple [z,Vl] b VA) E=jq (some [j,Vd]):=CF (by rw[g];rfl) c (CG (if_pos (show(E.kindOf j==some .local&&v.line==v.line)=true by rw[k];exact beq_self_eq_true v.line)) (if_pos (show(E.kindOf Vd==some .local&&J.line==v.line)=true by rw[l];exact h))) i d f
def nO(k:g.kind=.function)(n:g.names.lookup j=some .local)(o:g.names.lookup Vd=some .local)(l:(J.line==v.line)=true)(m:[j,Vd].eraseDups.length=2)(d:([z,Vl].any λ e=>O2 (λ _=>Bool) e (λ _ _=>true) λ _=>ap)=ap)(f:[z,Vl].all (foldedForSure 8)=ap)(i:[z,Vl].all (U1 8)=ap):∀c:Env,c.scope=g->J8 [.Tuple [.Name j v,.Name Vd J] a Vg] (.Tuple [z,Vl] b VA) c=jq (some [j,Vd]):=λ c h=>by
 subst h;exact CH (by unfold TS;refine k.symm▸?_;first|rfl|simp) n o l m d f i
noncomputable def lC:Str:=ac "0123456789abcdef"
noncomputable def lD:Str:=ac "0123456789ABCDEF"
noncomputable def fk(n:Int):Str:=if n%2==1 then lC else lD
noncomputable def qU:List Str:=[ac " ",ac "\n",ac " # it's\n#\n",ac "\t\n\n"]
noncomputable def hm(n:Int)(j:Nat):Str:=⟨#[(fk n).cps.getD (n/16^j%16).toNat 0]⟩
noncomputable def hn(n:Int):Str:=Txt.join aR [hm n 3,hm n 2,hm n 1,hm n 0]
noncomputable def cJ(k:Nat)(n:Int):Str:=qU.getD (((k:Int)+n/65536)%4).toNat aR
noncomputable def bG(l:List Int):Nat->Str×List Nat
 |0=>(aR,[])|k+1=>(((bG l k).1++cJ k (l.getD k 0))++hn (l.getD k 0),(bG l k).2++[((bG l k).1++cJ k (l.getD k 0)).length])
def qV(n:Int):(hn n).length=4:=rfl
def va(k:Nat)(n:Int):(cJ k n).length<=10:=by
 unfold cJ;have h:(((k:Int)+n/65536)%4).toNat<4:=oV;generalize(((k:Int)+n/65536)%4).toNat=i at h;rcases mA h with rfl|rfl|rfl|rfl<;>decide
theorem ia(l:List Int):∀k,(bG l k).1.length<=14*k/\(bG l k).2.length=k
 |0=>⟨aB 0,rfl⟩|k+1=>by
   refine am (ia l k) λ a b=>?_;have :=va k (l.getD k 0);constructor
   · show(((bG l k).1++cJ k (l.getD k 0))++hn (l.getD k 0)).length<=_;simp only[IL,IL];have q:=IU (IU a this) (Ja (qV (l.getD k 0)));exact q
   · show((bG l k).2++[_]).length=_;simp[b]
def vb:cu 284 283 (bB [31]) (a0 [31]) [nm "numbers"]:=.mk' (λ P=>by lia) (λ P=>by lia) (λ P=>⟨by lia,by lia,by lia,by lia,by lia,by lia⟩) (by decide) (by rfl) (by rfl) ⟨rfl,rfl⟩ rfl rfl rfl
noncomputable def eZ(l:List Nat):List bP:=l.map λ(n:Nat)=>.int (n:Int)
def CI(f:B.length<=100):Fn (a+1,true) (.ref 284) [Ls B] (Tu [.str (bG B B.length).1,.list (eZ (bG B B.length).2)]):=by
 have v:(2000:Nat)<=a9:=by decide
 refine Fn.of vb (λ P doc L f=>by
     refine ai (k2 f) ?_;rintro J rfl;lia) rfl ?_;let t:Nat->List (Str×PV):=λ i=>[(nm "src",S (bG B i).1),(nm "numbers",Ls B)];let H:Nat->List (Str×OL):=λ i=>[(nm "places",.p (eZ (bG B i).2))];refine ag.cons (St.u' (VX:=.p []) rfl .str (ei.nil (.inl rfl)) (by rfl) (by rfl) (nO (by rfl) (by rfl) (by rfl) (by rfl) (by decide) (by rfl) (by rfl) (by rfl))) (ag.weaken (VN:=t 0) ?_ ⟨rfl,rfl,trivial⟩);let s:List PV:=(dK 0 1 (B.length:Int).toNat).map λ i=>I i;have r:s.length=B.length:=by show(Td _ _).length=_;simp[dK]
 refine ag.cons (St.nt s t H (λ i=>[(nm "k",I (i:Int))]) (λ i=>.next ((nm "src",S (bG B (i+1)).1)::(nm "src",S ((bG B i).1++cJ i (B.getD i 0)))::(nm "letters",S (fk (B.getD i 0)))::([(nm "k",I (i:Int))]++t i)) [(nm "places",.p (eZ (bG B i).2++[.int (((bG B i).1++cJ i (B.getD i 0)).length:Nat)]))]) ?_ (λ i p h=>?_) (λ i y q h=>?_) (λ i d=>?_) (λ i d=>⟨⟨rfl,rfl,trivial⟩,?_⟩)) ?_;·exact bg.tX rfl (Ev.bl h0) (Ev.cA (Fn.j0 (B:=B) (c6 f (aE true))) (Ev.bl dY) (.cons Ev.nm .nil)) (dh) (fC f (aE true))
 · have :p=I (i:Int):=by
     have e:s=(a1 B.length).map λ(i:Nat)=>I (i:Int):=by show(Td _ _)=_;simp only[b4,qR,ec];rfl
     rw[e,a']at h;refine ak (bh.mp h) λ j C D=>?_;have :=a8.mp C;refine ai this λ m u=>?_;simp at u;simp only[<-D,<-u]
   refine this.symm▸?_;exact .name
 · refine am (by simpa using h:y=nm "k"/\q=I (i:Int)) ?_;rintro rfl G;obtain rfl:=G;rfl
 · simp only[r]at d;have o:=(ia B i).1;have g:=va i (B.getD i 0);have E:(fk (B.getD i 0)).length=16:=by unfold fk;split<;>decide
   refine ag.cons (St.assign (V:=S (fk (B.getD i 0))) ?_ (by rfl)) (ag.cons (St.assign (V:=S ((bG B i).1++cJ i (B.getD i 0))) ?_ (by rfl)) (ag.cons (St.append (j:=nm "places") (l:=.p (eZ (bG B i).2)) (V:=I (((bG B i).1++cJ i (B.getD i 0)).length:Nat)) (by rfl) (.inl ?_) (by rfl) ?_) (ag.cons (St.assign (V:=S (bG B (i+1)).1) ?_ (by rfl)) ag.nil)))
   · have e:S (fk (B.getD i 0))=if(B.getD i 0%2==1)=true then S lC else S lD:=by unfold fk;split<;>rfl
     simp only[e];exact Ev.ite (Tr.cmp aD.jS (Ev.bJ (bb.iM (by decide)) (Ev.gO (B:=B) (a:=i) Ev.nm Ev.nm d (e5 d f (aE true))) .int) .int) (λ _=>.str) (λ _=>.str)
   · refine Ev.bJ (bb.iO (by rw[<-IL,IL];exact j4 (oW o d f g) (e3 v rfl))) Ev.nm ?_;refine Ev.dI (Vm:=qU.map .str) (C:=((i:Int)+B.getD i 0/65536)%4) (Ev.list (Vm:=qU.map .str) (e:=by decide) (.cons .str (.cons .str (.cons .str (.cons .str .nil))))) (Ev.bJ (bb.iM (by decide)) (Ev.bJ bb.fc Ev.nm (Ev.bJ (bb.fdiv (by decide) (by decide)) (Ev.gO (B:=B) (a:=i) Ev.nm Ev.nm d (e5 d f (aE true))) .int)) .int) (Jz _ (by decide)) (LI (Jp _ (by decide)) (by decide)) ?_;unfold cJ;have h:(((i:Int)+B.getD i 0/65536)%4).toNat<4:=oV;generalize(((i:Int)+B.getD i 0/65536)%4).toNat=j at h;rcases mA h with rfl|rfl|rfl|rfl<;>rfl
   ·exact Ev.cA (Fn.hZ (by rw[IL];exact c6 (oW o d f g) rfl)) (Ev.bl dY) (.cons Ev.nm .nil)
   · show(eZ (bG B i).2).length<=a9;unfold eZ;simp only[be,(ia B i).2];exact j4 (j5 d) (a2 f (aE true))
   · show Ev _ _ _ _ (S (((bG B i).1++cJ i (B.getD i 0))++hn (B.getD i 0)));refine Ev.bJ (bb.iO (by simp only[IL,qV];exact j4 (gp (oW o d f g) 4) (e3 v rfl))) Ev.nm ?_;refine Ev.lj F.slot_str_join F.type_str_join (Vd:=aR) (Fn.join (G:=[hm (B.getD i 0) 3,hm (B.getD i 0) 2,hm (B.getD i 0) 1,hm (B.getD i 0) 0]) (by decide) (by simp only[uW,Kg,MJ,OP,y3,L4];show 1+(1+(1+(1+0)))+4<=1048576;decide)) .str (.cons ?_ .nil);refine Ev.fe [nm "j"] [3,2,1,0] (λ(j:Nat)=>I (j:Int)) (λ j=>[(nm "j",I (j:Int))]) (λ _=>true) (λ j=>.str (hm (B.getD i 0) j)) (by rfl) ?_ (λ _=>rfl) (λ _ _=>.name) (λ _ _=>.nil) (λ j m _=>?_) (by decide);·exact bg.tY (C:=3) (Vq:=-1) (Wa:=-1) (a:=4) rfl (Ev.bl h0) .int (Ev.h7 .int) (Ev.h7 .int) (by decide) (by decide) (by decide) (by decide)
     · have w:j<4:=by simp at m;rcases m with rfl|rfl|rfl|rfl<;>decide
       have A:0<(16:Int)^((j:Int)).toNat/\(16:Int)^((j:Int)).toNat<1000000000:=by rcases mA w with rfl|rfl|rfl|rfl<;>decide
       refine Ev.m9 (j:=fk (B.getD i 0)) (C:=B.getD i 0/16^j%16) Ev.nm ?_ (Jz _ (by decide)) (LI (Jp _ (by decide)) (by decide)) ?_
       · refine Ev.bJ (bb.iM (by decide)) ?_ .int;have :=bb.fdiv (C:=B.getD i 0) (Vq:=(16:Int)^((j:Int)).toNat) A.1 A.2;simp only[b4]at this;refine Ev.bJ this (Ev.gO (B:=B) (a:=i) Ev.nm Ev.nm d (e5 d f (aE true))) ?_;have :=bb.Ah (C:=16) (Vq:=(j:Int)) (dh) (gw (hI w (aE true))) (by decide);simp only[b4]at this;exact Ev.bJ this .int Ev.nm
       · have z:(B.getD i 0/16^j%16).toNat<(fk (B.getD i 0)).cps.size:=by
           have :(fk (B.getD i 0)).cps.size=16:=E;exact this▸sC
         simp only[hq z,e0,hq z];rfl
 · rw[r]at d;show[(nm "places",OL.p (eZ (bG B i).2++[.int (((bG B i).1++cJ i (B.getD i 0)).length:Nat)]))]=[(nm "places",OL.p (eZ ((bG B i).2++[((bG B i).1++cJ i (B.getD i 0)).length])))];unfold eZ;rw[fs];rfl
 · rw[r];refine ag.last (St.ret (Ev.tuple (Vm:=[.str (bG B B.length).1,.list (eZ (bG B B.length).2)]) (f:=by show 2<=a9;decide) (.cons Ev.nm (.cons Ev.nm .nil)))) trivial
def CJ(k:o.frames=some (E::WG))(m:q.heap.FunFrames s (E::WG))(f:E.frame=some h)(d:q.heap.get? Q=some O)(l:s.StaysIn q.heap)(j:s.get? Q=none)(c:O.data=.fields Vz)(b:Vz[1]?=some .none)(i:Vz[0]?=some U)(g:∀a,Heap.NotedW s (E::WG) Q O.cls U (JG h) q.heap a->VO () {q with heap:=a}):aA VK o (Nq (.ref Q) E) VO y q:=by
 unfold Nq;rw[f];refine al (Jk d c b (bT (by decide) ?_));exact wpAny_entryW k m f d l j c (eB.mp b).1 i g
def FB.land(r:A.t=true)(F:FB A w c o g E q i D Ve Vn Y H)(z:o.frames=some (E::WG))(kp:Kp H VH)(WK:VH.heap.get? h=some O)(WL:H.heap.get? h=none)(WZ:O.data=.fields Vz)(WV:Vz[1]?=some .none)(WU:Vz[0]?=some U)(W9:¬bw O)(WY:∀B C,M6 B (E::WG) h O.cls U C->VH.heap.UpToSlots C->(∀n,M6 B (E::WG) h O.cls U n->VH.heap.UpToSlots n->FB A w c o g E q i D Ve Vn Y {VH with heap:=n}/\aZ A o w E Y H Y {VH with heap:=n})->VO () {VH with heap:=C}):aA (au P0 c) o (Nq (.ref h) E) (λ _ Xb=>aA (au P0 c) o (T2 (.ref h) none) VO y Xb) y VH:=by
 have T:=F.kp kp;obtain⟨Xg,Xh,J,Xi,Xj⟩:=T.bi r;let B:=iX (λ b=>b=h\/FA o b) VH.heap;have V:B.get? h=none:=jX (.inl rfl);refine ak (id J) λ l' W0 ok=>?_;have W1:l'=E::WG:=by cases aO z W0;rfl
 subst W1;have WX:aC c B:=T.er.left.move λ b j a k=>gk.mpr ⟨λ p=>by
   rcases p with p|p
   · obtain rfl:=p.symm;rcases a with a|a;·exact ai (F.er.left.pZ a) λ j h=>bN WL h
     ·cases aO WK k;exact W9 a
   · refine aH a (λ a=>?_) λ a=>?_;·exact fb.qN J a p
     · obtain⟨_,Xf,WQ,d⟩:=J.fa p;cases aO k WQ;exact eJ d a,k⟩;have eU:∀b j,H.heap.get? b=some j->¬FA o b->B.get? b=some j:=λ b j k G=>gk.mpr ⟨λ a=>by
   rcases a with rfl|a;·exact bN WL k
   ·exact G a,kp.keep b j k⟩;have mk:∀n,M6 B (E::WG) h O.cls U n->VH.heap.UpToSlots n->FB A w c o g E q i D Ve Vn Y {VH with heap:=n}/\aZ A o w E Y H Y {VH with heap:=n}:=λ n f u=>by
   have K:Kq true o H {VH with heap:=n}:=by
     refine aW kp λ WM Xc WS WP=>?_;subst WS;exact⟨n,Xc,rfl,λ b j G k=>f.1 b j (eU b j k (G rfl).2),λ b j fa d k=>(ai (u b _ (WP b j k) d) λ WO t=>⟨WO,t⟩)⟩
   refine⟨F.kt r K (WX.keeps f.1),λ b j WN k=>K.ext.keep b j (λ _=>⟨λ a=>WN (.inr (.inr ⟨r,.inl a⟩)),λ a=>WN (.inr (.inr ⟨r,.inr a⟩))⟩) k,λ b v=>.inl v,λ _ v=>v,F.hO⟩
 refine CJ z (cH.nM ok λ Xe W2 L WW=>jX (.inr ⟨_,z,Xe,W2,WW⟩)) F.frame WK (λ b j h=>(gk.mp h).2) V WZ WV WU λ WM N=>aj λ M=>iB N λ W5 W6 W7 W8=>M (wpAny_landsW (s:={VH with heap:=WM}) ⟨W5,V,W6,W7⟩ λ W3 WT Xd=>?_);exact WY B W3 WT (λ b j k d=>by
   refine aj λ M=>ai (W8 b j k d) λ WO t=>ai (Xd b _ t d) λ Xa WR=>M ?_;exact⟨Xa,WR⟩) mk
def FA.around(e:VW.frames=o.frames):FA VW=FA o:=by funext b;unfold FA;rw[e]
def aZ.around(e:VW.frames=o.frames)(f:aZ A o w E Y q V4 H):aZ A VW w E Y q V4 H:=by
 have fa:=FA.around e;refine⟨λ b g d=>f.keep b g λ c=>d ?_,f.own,f.sub,λ b a=>⟨(f.eV b a).1,λ t=>?_⟩⟩;·unfold h2 at c⊢;refine fa.symm▸?_;exact c
 · have :=(f.eV b a).2 t;unfold ff at this⊢;refine fa.symm▸?_;exact this
theorem c'.around(e:VW.frames=o.frames)(a:c' A w c o g E q Y H WB VH VY):c' A w c VW g E q Y H WB VH VY:=by
 have B:∀{d h},gK A w c o g E q Y H d h VH->gK A w c VW g E q Y H d h VH:=λ p=>by obtain⟨m,j,i,F,b⟩:=p;exact⟨m,j,i,F.around e,b.around e⟩
 cases VY with
 |next=>exact⟨a.1,B a.2⟩|cont=>exact⟨a.1,B a.2⟩|brk=>exact⟨a.1,B a.2⟩|ret=>obtain⟨v,l,r,k,L,n⟩:=a;exact⟨v,l,r,k.frames e,L,n⟩
def NewExc(g:String)(e:ae)(d c:aa):Prop:=Kp d c/\d.heap.get? e=none/\∃a b f,c.heap.get? e=some a/\a.cls=.type g/\a.data=.fields b/\b[1]?=some .none/\b[0]?=some f/\¬bw a
def vc(x:Cx)(X:ae->Prop)(w:ar)(A:aq)(h:aw)(c:Env)(i:aa)(O:List ae)(s:aa)(d:String)(j:List (Str×PV))(k:List (Str×OL))(e:ae)(g:aa):Prop:=∃m f b a,FB x X w A h c i j k m f b a/\aZ x A X c O s b a/\NewExc d e a g
def nP(x:Cx)(k:Lv)(b:aw)(g:List (Str×PV))(i:List (Str×OL))(st:Il)(d:String)(h:List (Str×PV))(j:List (Str×OL)):Prop:=∀(X:ae->Prop)(WL:ar)(A:aq),Rm k A->∀(WK:Env)(c s:aa)(Q:PF->aa->Prop)(E:ab->aa->Prop)m f O,FB x X WL A b WK c g i m f O s->(∀e a,vc x X WL A b WK c O s d h j e a->E (.ref e) a)->aA (au P0 WL) A (exec st WK) Q E s
def nQ(x:Cx)(k:Lv)(b:aw)(g:List (Str×PV))(i:List (Str×OL))(WM:List Il)(d:String)(h:List (Str×PV))(j:List (Str×OL)):Prop:=∀(X:ae->Prop)(WL:ar)(A:aq),Rm k A->∀(WK:Env)(c s:aa)(Q:PF->aa->Prop)(E:ab->aa->Prop)m f O,FB x X WL A b WK c g i m f O s->(∀e a,vc x X WL A b WK c O s d h j e a->E (.ref e) a)->aA (au P0 WL) A (RF WM WK) Q E s
def nQ.first(h:nP A u g i D V1 VF VN V0):nQ A u g i D (V1::Vp) VF VN V0:=λ X w a d c f s Q E m b O F e=>ii (h X w a d c f s _ E m b O F e)
def St.CK(z:A.t=true)(h:nQ A (a,true) g i D Vp VF VN V0)(y:∀P,a5 P (ac VF)=none/\cR P (ac VF)=some (.type VF))(j:cG g (ac VF)=true)(WR:Kk (.type VF) (.type "BaseException")=jq true)(WU:Kk (.type ((RM VF).elim "type" λ A=>A.metatype)) (.type "tuple")=jq ap)(WW:Kk (.type VF) (.type VF)=jq true)(WV:ag A (a,ap) g VN V0 (V1::Wg) VY):St A (a,true) g i D (.Try Vp [.ExceptHandler (some (.Name (ac VF) v)) none (V1::Wg) J] [] [] Vg) VY:=λ X w d o u C s E m U O F=>jF λ Q fin=>by
 refine aj λ t=>?_;obtain⟨W',Xa,Xb,⟨l,WS⟩,Xc⟩:=F.bi z;refine t ?_;unfold cG at j;simp only[kn,IR]at j;refine Np (h X w d o u C s _ _ m U O F λ e W6 R=>(aj λ t=>?_));obtain⟨WZ,V,N,W7,L,WK,kp,WT,W5,vs,W4,WQ,WO,WP,WN,WM,W0⟩:=R;refine t (L.land z WS kp WQ WT WP WN WM W0 λ B WX k G mk=>?_);have H:Rm (a,ap) (d.mark (some (.ref e))):=⟨o.depth,o.units,λ q=>by cases q⟩;refine RW (X:=VF) (T:=VF) (b:=true) WR WU WW (L5 (aG (p' (FB.around (o:=d) (VW:=d.mark (some (.ref e))) rfl (mk WX k G).1).er (nk j.1) (y _).1 (y _).2) (λ c W8 W2=>?_) λ _ _ A=>A) j.2);obtain⟨p,r⟩:=W2;subst p r;refine b3 rfl ?_ ?_
 · obtain⟨W1,p,r⟩:=k.there;exact bj W1 p (r.trans WO)
 · rw[if_pos rfl];refine lands_againW k λ WY Y W3=>?_;obtain⟨M,WL⟩:=mk WY Y (G.trans W3);exact aG (WV X w _ H u C _ _ WZ V N (FB.around (o:=d) (VW:=d.mark (some (.ref e))) rfl M)) (λ f W9 q=>(fin _ _ ((c'.around (o:=d.mark (some (.ref e))) (VW:=d) rfl q).after (WK.trans WL)))) λ _ _ A=>A
def nR(h:Ke Vc G):∀j(a:j<Vc.length)(b:j<G.length),∃t,Vc[j]=I2 G[j] t:=by induction h with
 |nil=>intro j a;simp at a|cons y u r c=>
  intro j a b;rcases j with _|j;·exact⟨u,rfl⟩
  ·exact c j (by simpa using a) (by simpa using b)
def vd(h:Ke Vc G):∀j,Ke (Vc.eraseIdx j) (G.eraseIdx j):=by induction h with
 |nil=>intro j;simp;exact .nil|cons y u r a=>
  intro j;rcases j with _|j;·exact r
  ·exact StrsAre.cons y u (a j)
def CL(D:q.heap.PlainList h Vc.toArray)(b:Ke Vc G)(L:j∈G)(J:Vc.length<=a9)(z:∀d,d.PlainList h (Vc.eraseIdx (G.idxOf j)).toArray->Jq h q.heap d->Vf .none {q with heap:=d}):aA (au P0 c) o (I1 (.builtin "list.remove") [.ref h,.str j Vt]) Vf y q:=by
 refine ai D λ n g=>?_;have r:=h8 b;have m:G.idxOf j<G.length:=List.idxOf_lt_length_of_mem L;have f:G.idxOf j<Vc.length:=eO r m;refine Kx LQ ⟨_,g,rfl⟩ Ss (R9 _ _) (MeetsSeq.list_remove h Vc.toArray n (.str j Vt) (isStrOf j) (λ O M=>eq_isStrOf j Vt b O (by simpa using M)) (G.idxOf j) (by simpa using f) ?_ (λ i C H=>?_) (by simpa using J)) ⟨g,?_⟩
 · refine ai (nR b _ f m) λ u e=>?_;simp only[NF,e];rw[List.getElem_idxOf];exact beq_self_eq_true _
 · have k:i<Vc.length:=C;refine ai (nR b i k (je r k)) λ u e=>?_;simp only[NF,e];exact List.not_of_lt_findIdx (p:=(·==j)) (xs:=G) H
 · have B:Vc.toArray.eraseIdxIfInBounds (G.idxOf j)=(Vc.eraseIdx (G.idxOf j)).toArray:=by
     unfold P2;rw[dif_pos (by exact f)];simp
   have v:wx (λ N=>N.eraseIdxIfInBounds (G.idxOf j)) {cls:=.type "list",data:=.seq Vc.toArray n}={cls:=.type "list",data:=.seq (Vc.eraseIdx (G.idxOf j)).toArray (if(Vc.eraseIdx (G.idxOf j)).toArray.size==Vc.toArray.size then n else n+1)}:=by refine B▸?_;rfl
   refine z _ ⟨(if(Vc.eraseIdx (G.idxOf j)).toArray.size==Vc.toArray.size then n else n+1),?_⟩ (gR ..);rw[cQ _ g (by rw[v];rfl),v]
def CM(r:q.heap.PlainList h Vc.toArray)(b:Ke Vc G)(v:j∉G)(m:o.handled=none)(k:∀d C e,Heap.NewExc q.heap d e "ValueError"->y (.ref e) {q with heap:=d,toks:=C}):aA (au P0 c) o (I1 (.builtin "list.remove") [.ref h,.str j Vt]) Vf y q:=by
 refine ai r λ n g=>?_;refine Kx LQ ⟨_,g,rfl⟩ Ss (R9 _ _) (MeetsSeq.list_remove_none h Vc.toArray n (.str j Vt) (isStrOf j) (λ D z=>eq_isStrOf j Vt b D (by simpa using z)) (λ i p=>?_)) ⟨g,m,k⟩;have f:i<Vc.length:=p;refine ai (nR b i f (je (h8 b) f)) λ u e=>?_;simp only[NF,e];exact beq_eq_false_iff_ne.mpr λ B=>v (B▸IK _)
def RO.strs(r:RO w s Vc (.p (G.map .str))):Ke Vc G:=let⟨a,r⟩:=r;hY r
def RO.iZ(r:Ke Vc G):RO w s Vc (.p (G.map .str)):=by
 refine⟨[],?_⟩;induction r with
 |nil=>exact .nil|cons y u r a=>exact .cons (as:=[]) (.str y u) a
def St.qW(q:D.lookup j=some (.p (G.map .str)))(WK:Ev u g i z (S Vd))(WP:Vd∈G)(WO:G.length<=a9)(Y:autoParam ((j==("__debug__":Str))=ap) ew)(c:autoParam (∀C b,bD (z::C) b=(ap,He z b)::bD C b) bc)(V:autoParam (∀b,J9 (.Name j v) (ac "remove") b (He (.Name j v) b)=He (.Name j v) b) cN)(WL:autoParam ((J.endLine==Vg.line)=true) bc):St A u g i D (.Expr (.Call (.Attribute (.Name j v) (ac "remove") J) [z] [] Vg) VA) (.next i (b8 j (.p ((G.eraseIdx (G.idxOf Vd)).map .str)) D)):=λ X w h T b WT s E m M O F=>by
 refine O' ?_ (by unfold On;rw[F.er.scope,F.er.kind];rfl);have n:(L7 Vg (bD [z] b)).any (·.1)=ap:=by rw[c];rfl
 refine JC (V b) (by rw[c];rfl) WL (h3 F q Y λ a vs WM WZ B WR=>?_);refine am (PlainList.ln B rfl) λ WU WV=>⟨"list","list.remove",Jt,LQ,PG,WU,WV,?_⟩;rw[c]at n⊢;refine Ip n (b1 ?_);have U:=a6.use T (z:=Vg) (E:=E) (.cons WK .nil c) (s:=s) (e:=s) (Q:=λ H d=>aA (au P0 w) h (I1 (.builtin "list.remove") ([.ref a]++H)) (λ WW d=>match WW with|.ref _=>False|_=>c' A X w h g b WT O s .next d (.next i (b8 j (.p ((G.eraseIdx (G.idxOf Vd)).map .str)) D))) E d) F.er (Kp.refl s) λ H d WS kp _ _=>by
  refine ak WS.one ?_;rintro W0 rfl r;refine ai r.str ?_;rintro t rfl;have f:=WR.strs;exact CL (B.at λ o z=>kp.keep _ _ z) f WP (dS (h8 f) WO) λ h' WQ WN=>am ((F.kp kp).lm (a:=d.toks) q WM (Vc:=vs.eraseIdx (G.idxOf Vd)) WQ WN (RO.iZ (vd f _))) λ L N=>⟨rfl,m,M,O,L,(aZ.bR F.hO kp).trans N⟩
 rw[c]at U;exact U
def nP.qW(WM:u.2=true)(WR:D.lookup j=some (.p (G.map .str)))(WO:Ev u g i z (S Vd))(WQ:Vd∉G)(WN:autoParam ((j==("__debug__":Str))=ap) ew)(c:autoParam (∀L b,bD (z::L) b=(ap,He z b)::bD L b) bc)(WL:autoParam (∀b,J9 (.Name j v) (ac "remove") b (He (.Name j v) b)=He (.Name j v) b) cN)(WP:autoParam ((J.endLine==Vg.line)=true) bc):nP A u g i D (.Expr (.Call (.Attribute (.Name j v) (ac "remove") J) [z] [] Vg) VA) "ValueError" i D:=λ X w N f b W3 s Q E m T O F WK=>by
 refine O' ?_ (by unfold On;rw[F.er.scope,F.er.kind];rfl);have n:(L7 Vg (bD [z] b)).any (·.1)=ap:=by rw[c];rfl
 refine JC (WL b) (by rw[c];rfl) WP (h3 F WR WN λ a vs W2 W1 B WU=>?_);refine am (PlainList.ln B rfl) λ WX WY=>o9 ("list") ("list.remove") Jt LQ PG WX WY ?_;rw[c]at n⊢;refine Ip n (b1 ?_);have U:=a6.use f (z:=Vg) (E:=E) (.cons WO .nil c) (s:=s) (e:=s) (Q:=λ M d=>aA (au P0 w) N (I1 (.builtin "list.remove") ([.ref a]++M)) (λ W0 d=>match W0 with|.ref _=>False|_=>Q .next d) E d) F.er (Kp.refl s) λ M d WV kp _ _=>by
  refine ak WV.one ?_;rintro W5 rfl r;refine ai r.str ?_;rintro t rfl;exact CM (B.at λ o z=>kp.keep _ _ z) WU.strs WQ (f.calm WM) λ Y WZ V ne=>WK V _ ⟨m,T,O,d,F.kp kp,.bR F.hO kp,⟨Y,WZ,rfl,ne.keeps⟩,ne.new,(bS ne.there λ ob WW WT C H=>(sL ob _ WW WT C H rfl rfl (bw.hX C (by decide) H λ q t=>λ h=>by cases h)))⟩
 rw[c]at U;exact U
def Tr.ve(d:Ev u g i z (Li Vm))(h:Vm.length<2^62)(e:autoParam (∀b,isTrue z b (He z b)=(do let v<-He z b;NJ z.pos;Mh [v] (truthy v))) cN):Tr u g i z (!Vm.isEmpty):=λ X w A c b s E R=>R' (d.use c R (Kp.refl _) λ v y p _ j _=>by
  refine bI p.list λ t q r n x m o=>?_;obtain rfl:=n;have f:=cy o;refine wpAny_truthy_list m.isList (by simp;exact by rw[f];exact hI h rfl) ⟨?_,j.trans Kp.toks⟩;cases q<;>cases Vm<;>simp_all) (e b)
def St.CN(C:D.lookup j=some (.p ((G++[Wn]).map .str)))(WO:ce g Vd=true)(WN:G.length+1<=a9)(Y:autoParam ((j==("__debug__":Str))=ap) ew)(V:autoParam (∀d,J9 (.Name j v) (ac "pop") d (He (.Name j v) d)=He (.Name j v) d) cN)(WL:autoParam ((Vg.endLine==VA.line)=true) bc):St A u g i D (.Assign [.Name Vd J] (.Call (.Attribute (.Name j v) (ac "pop") Vg) [] [] VA) VT) (.next ((Vd,S Wn)::i) (bu Vd (b8 j (.p (G.map .str)) D))):=λ X w WU WW d WZ s E m WV O F=>by
 refine Jf (JC (V d) rfl WL (h3 F C Y λ a b WM WX H WQ=>(am (PlainList.ln H rfl) λ WR WS=>o9 ("list") ("list.pop") Jt PySem.F.slot_list_pop PySem.F.type_list_pop WR WS ?_))) rfl;have f:=WQ.strs;have c:=h8 f;simp only[eH,y3,L4]at c;refine aj λ WT=>ai (nR f G.length (bA iy (j7 c)) (by simp)) λ t e=>?_;have e:b[G.length]'(bA iy (j7 c))=I2 Wn t:=by simpa using e
 refine ai H λ n r=>WT ?_;have B:b.toArray.size-1=G.length:=by simp;exact hB c
 refine PySem.P.pop_list (y:=.str Wn t) r (by simp only[B,No,ay (bA iy (j7 c)),e]) ?_ (by simp;exact dS c WN);refine B.symm▸?_;have WK:b.toArray.eraseIdxIfInBounds G.length=(b.eraseIdx G.length).toArray:=by
  unfold P2;rw[dif_pos (by simp;exact bA iy (j7 c))];simp
 have o:wx (λ h=>h.eraseIdxIfInBounds G.length) {cls:=.type "list",data:=.seq b.toArray n}={cls:=.type "list",data:=.seq (b.eraseIdx G.length).toArray (if(b.eraseIdx G.length).toArray.size==b.toArray.size then n else n+1)}:=by refine WK▸?_;rfl
 have L:=vd f G.length;have T:(G++[Wn]).eraseIdx G.length=G:=by rw[List.eraseIdx_append_of_length_le (aB _)];simp
 simp only[T]at L;refine am (F.lm (a:=s.toks) (s:=s.heap.update a (wx λ h=>h.eraseIdxIfInBounds G.length)) C WM (Vc:=b.eraseIdx G.length) ⟨(if(b.eraseIdx G.length).toArray.size==b.toArray.size then n else n+1),by rw[cQ _ r (by rw[o];rfl),o]⟩ (gR ..) (RO.iZ L)) λ M U=>?_;exact M.store (dL WO) .mkStr λ WY WP Q N q=>⟨rfl,WP,Q,O,N,U.trans (.dn F.hO q)⟩
noncomputable def bf(WK as:List Str):Nat->List Str×List Str
 |0=>([],as)|WL+1=>if WK.getD (WK.length-1-WL) aR∈(bf WK as WL).2 then((bf WK as WL).1,(bf WK as WL).2.eraseIdx ((bf WK as WL).2.idxOf (WK.getD (WK.length-1-WL) aR)))else((bf WK as WL).1++[WK.getD (WK.length-1-WL) aR],(bf WK as WL).2)
theorem vf(WL as:List Str):∀WK,(bf WL as WK).1.length<=WK/\(bf WL as WK).2.length<=as.length
 |0=>⟨aB _,aB _⟩|WK+1=>by
   refine am (vf WL as WK) λ a b=>?_;by_cases q:WL.getD (WL.length-1-WK) aR∈(bf WL as WK).2
   · rw[show bf WL as (WK+1)=_ from if_pos q];refine⟨JY a,an (List.length_eraseIdx_le _ _) b⟩
   · rw[show bf WL as (WK+1)=_ from if_neg q];exact⟨by simp;exact a,b⟩
def vg{a b:List Str}{i:Nat}(c:a.getD (a.length-1-i) aR∈(bf a b i).2):bf a b (i+1)=((bf a b i).1,(bf a b i).2.eraseIdx ((bf a b i).2.idxOf (a.getD (a.length-1-i) aR))):=if_pos c
def vh{a b:List Str}{i:Nat}(c:a.getD (a.length-1-i) aR∉(bf a b i).2):bf a b (i+1)=((bf a b i).1++[a.getD (a.length-1-i) aR],(bf a b i).2):=if_neg c
def CO(P:a3):a5 P (ac "ValueError")=none/\cR P (ac "ValueError")=some (.type "ValueError"):=⟨by lia,by lia⟩
def vi(b:a<G.length):G.take (G.length-a)=G.take (G.length-(a+1))++[G.getD (G.length-1-a) aR]:=by
 have c:G.length-(a+1)<G.length:=hH (gZ b) g0;simp only[(yb b),OO c];congr 2;simp only[av,show G.length-1-a=G.length-(a+1)from by rw[MI,IC 1],ay c];rfl
def CP(m:A.t=true)(f:G.length<=1000)(h:VJ.length<=1000):ag A (a,true) (a0 [25]) [] [(nm "expected",.p (G.map .str)),(nm "actual",.p (VJ.map .str))] (bB [25]) (.ret (Tu [Ld (bf G VJ G.length).1,Ld (bf G VJ G.length).2])):=by
 have j:(2000:Nat)<=a9:=by decide
 let b:Nat->List (Str×OL):=λ i=>[(nm "missing",.p ((bf G VJ i).1.map .str)),(nm "expected",.p ((G.take (G.length-i)).map .str)),(nm "actual",.p ((bf G VJ i).2.map .str))];have g:[(nm "missing",OL.p []),(nm "expected",OL.p (G.map tl)),(nm "actual",OL.p (VJ.map tl))]=b 0:=by
   show _=[(nm "missing",OL.p ([].map tl)),(nm "expected",OL.p ((G.take (G.length-0)).map tl)),(nm "actual",OL.p (VJ.map tl))];simp only[KR,IJ];rfl
 refine ag.cons St.doc (ag.cons (VN:=[]) (V0:=b 0) ?_ (ag.cons (St.lq G.length (λ _=>[]) b (λ i=>.next [(nm "item",S (G.getD (G.length-1-i) aR))] (b (i+1))) (λ i c=>?_) (λ i c=>?_) (λ i c=>⟨trivial,rfl⟩) (.inl ⟨?_,rfl⟩)) (ag.last (St.ret (Ev.tuple (Vm:=[Ld (bf G VJ G.length).1,Ld (bf G VJ G.length).2]) (f:=by show 2<=a9;decide) (.cons Ev.nm (.cons Ev.nm .nil)))) trivial)))
 · simp only[<-g];exact St.own (ei.nil (.inl rfl)) (by rfl)
 · refine Tr.eq (Tr.ve (Vm:=(G.take (G.length-i)).map .str) Ev.nm (by simp;exact c5 ji (c6 f (aE true)))) ?_;rw[vi c];simp
 · have n:b i=[(nm "missing",.p ((bf G VJ i).1.map .str)),(nm "expected",.p ((G.take (G.length-(i+1))++[G.getD (G.length-1-i) aR]).map .str)),(nm "actual",.p ((bf G VJ i).2.map .str))]:=by
     show[(nm "missing",_),(nm "expected",OL.p ((G.take (G.length-i)).map tl)),(nm "actual",_)]=_;rw[vi c]
   refine n.symm▸(am (vf G VJ i) λ o q=>?_);refine ag.cons (St.CN (G:=G.take (G.length-(i+1))) (by rfl) (by rfl) (by simp;exact an (H8 (an (Nf _ _) f)) (e3 j rfl))) (ag.cons ?_ ag.nil);by_cases d:G.getD (G.length-1-i) aR∈(bf G VJ i).2
   · have e:b (i+1)=[(nm "missing",.p ((bf G VJ i).1.map .str)),(nm "expected",.p ((G.take (G.length-(i+1))).map .str)),(nm "actual",.p (((bf G VJ i).2.eraseIdx ((bf G VJ i).2.idxOf (G.getD (G.length-1-i) aR))).map .str))]:=by
       show[(nm "missing",OL.p ((bf G VJ (i+1)).1.map tl)),(nm "expected",_),(nm "actual",OL.p ((bf G VJ (i+1)).2.map tl))]=_;rw[vg d]
     rw[e];exact St.iU (ag.cons (St.qW (G:=(bf G VJ i).2) (by rfl) Ev.nm d (jo h q (aE true))) ag.nil)
   · have e:b (i+1)=[(nm "missing",.p ((bf G VJ i).1.map .str++[.str (G.getD (G.length-1-i) aR)])),(nm "expected",.p ((G.take (G.length-(i+1))).map .str)),(nm "actual",.p ((bf G VJ i).2.map .str))]:=by
       show[(nm "missing",OL.p ((bf G VJ (i+1)).1.map tl)),(nm "expected",_),(nm "actual",OL.p ((bf G VJ (i+1)).2.map tl))]=_;rw[vh d,fs];rfl
     rw[e];refine St.CK (VF:="ValueError") m (nQ.first (nP.qW (G:=(bf G VJ i).2) rfl (by rfl) Ev.nm d)) CO (by rfl) (by rw[kF];lia) (by rw[kF];lia) (by rw[kF];lia) (ag.cons (St.append (j:=nm "missing") (l:=.p ((bf G VJ i).1.map .str)) (V:=S (G.getD (G.length-1-i) aR)) (by rfl) (.inl Ev.nm) (by rfl) ?_) ag.nil);show((bf G VJ i).1.map tl).length<=a9;simp;exact j4 o (j4 (j5 c) (a2 f (aE true)))
 · refine Tr.eq (Tr.ve (Vm:=(G.take (G.length-G.length)).map .str) Ev.nm (by simp)) ?_;rw[Nd];rfl
noncomputable def fN(n:Nat)(h:a7):a7:=⟨h.objs.extract 0 n,h.life⟩
def CQ:(fN a s).get? b=some O↔b<a/\s.get? b=some O:=by
 have e:(s.objs.extract 0 a)[b]?=if b<a then s.objs[b]? else none:=by
   rw[Array.getElem?_extract];by_cases q:b<a
   · by_cases c:b<s.objs.size;·rw[if_pos (by exact mh q c),if_pos q,Ik]
     ·rw[if_neg (show¬b<min a s.objs.size-0 from λ x=>c (aJ x (KS _ _))),if_pos q,H' (j8 c)]
   ·rw[if_neg (show¬b<min a s.objs.size-0 from λ x=>q (aJ x (Nk _ _))),if_neg q]
 unfold Heap.get? fN;refine e.symm▸?_;by_cases q:b<a;·rw[if_pos q];simp[q]
 ·rw[if_neg q];simp[q]
def j1:(fN a s).get? h=some O↔h<a/\s.get? h=some O:=CQ
def CR(b:a<=s.objs.size):(fN a s).objs.size=a:=by unfold fN;simp;exact mo b
def FB.CS{l l':OL}(WK:A.t=true)(F:FB A w c o g E q i [] Ve Vn [] H)(WW:i.lookup j=some (.raw (.ref h)))(WX:i.lookup Vd=some (.raw (.ref Q)))(WL:g.names.lookup j=some .local)(WM:g.names.lookup Vd=some .local)(Xc:j≠Vd)(WT:h≠Q)(WZ:314<=Vo)(O:Vo<=h)(Xg:Vo<=Q)(Xh:¬w h)(Xi:¬w Q)(W4:q.heap.PlainList h Vc.toArray)(W5:q.heap.PlainList Q WF.toArray)(Xp:∀Y t,RO Y t Vc l)(Xq:∀Y t,RO Y t WF l'):FB A w c o g E {H with heap:=fN Vo H.heap} [] [(j,l),(Vd,l')] Ve Vn [h,Q] H:=by
 obtain⟨Xr,Xs,W6,Xt,Xu⟩:=F.bi WK;have WO:h<q.heap.objs.size:=by refine ai W4 λ _ e=>?_;exact az e
 have W2:∀f,¬w f->f<q.heap.objs.size->¬Ow w E f:=λ f Xk G k=>by
   refine ez k (λ k=>?_) (λ k=>?_) λ WR=>?_;·exact Xk k
   ·exact absurd F.fresh (IQ.mpr (k▸G))
   ·exact ai WR λ Xj k=>absurd (an F.fresh (bn (F.above Xj f (mem_of_lookup k)))) (IQ.mpr G)
 have W0:=W2 h Xh WO;have ob:=W2 Q Xi (by refine ai W5 λ _ e=>?_;exact az e);have keep:KX (Ow w E) q.heap H.heap:=λ f r WP e=>F.rel.ext.keep f r (λ _=>F.eU WK WP) e;have U:H.heap.PlainList h Vc.toArray:=W4.at λ r e=>keep h r W0 e;have WQ:H.heap.PlainList Q WF.toArray:=W5.at λ r e=>keep Q r ob e;have J:(fN Vo H.heap).objs.size=Vo:=CR (an O (bn (by refine ai U λ _ e=>?_;exact az e)));have raw:∀{v:Str}{f:ae},i.lookup v=some (.raw (.ref f))->g.names.lookup v=some .local->Ve v=some (.ref f):=λ{v f}Xb Xd=>by
   have V:=F.er.vars v _ Xb;have cB:=F.cB v;simp only[Xd]at cB;unfold cc at V;rw[cB]at V;obtain⟨Xf,u,Xn,D,Xo⟩:=V;have :Xf=Ve:=Xn.eq_nsMap.trans F.ns.eq_nsMap.symm;subst this;rw[D];exact congrArg some Xo
 have W3:∀f r,w f->¬bC f->f<q.heap.objs.size->H.heap.get? f=some r->¬bw r:=λ f r C T G e=>by
   refine ak (Xu f C T G) λ Xl W8 WP=>?_;by_cases WV:FA o f
   · obtain⟨_,Xx,W9,d⟩:=W6.fa WV;cases aO e W9;exact eJ d
   · have :=F.rel.ext.keep f Xl (λ _=>⟨T,WV⟩) W8;cases aO e this;exact WP
 have R:=F.er;have Xw:∀f,aL w E [] f->aL w E [h,Q] f:=λ f k=>k.elim .inl λ k=>by cases k
 have W7:∀f,aL w E [h,Q] f->aL w E [] f\/f=h\/f=Q:=λ f k=>by
   refine aH k (λ k=>?_) λ k=>?_;·exact .inl (.inl k)
   ·simp only[aP,uR,or_false]at k;exact .inr k
 refine⟨⟨H.heap,H.toks,rfl,λ f r _ e=>(j1.mp e).2,λ f r _ _ e=>⟨r.slots,(j1.mp e).2⟩⟩,F.ns,by rw[J];exact an (an O (bn WO)) F.fresh,by simp only[J];exact WZ,F.cell,F.cells,F.above,⟨R.left,R.scope,R.glob,R.blt,R.kind,λ f k=>?_,(λ v p e=>by cases e),R.cells⟩,λ f B=>?_,λ v L t=>?_,λ f B=>?_,?_,λ v Xv L Xe f W' Xa M N=>?_,F.code,F.frame,F.qual,λ _=>⟨Xr,Xs,W6,Xt,λ f C T G=>?_⟩,λ _ f r C B e=>?_⟩
 · refine ez (W7 f k) (λ k=>?_) ?_ λ WR=>?_;·exact R.ex f k
   · rintro rfl;refine ai U λ _ e=>?_;exact⟨_,e⟩
   · obtain rfl:=WR;refine ai WQ λ _ e=>?_;exact⟨_,e⟩
 · show(fN Vo H.heap).objs.size<=f/\_;rw[J];simp only[aP,uR,or_false]at B;rcases B with rfl|rfl;·exact⟨O,W0⟩
   ·exact⟨Xg,ob⟩
 · rw[aN]at t;by_cases k:v=j
   · subst k;rw[beq_self_eq_true]at t;obtain rfl:=ax t;exact⟨h,Vc,by simp only[F.cB];exact WL,raw WW WL,.head _,U,Xp _ _⟩
   · rw[beq_eq_false_iff_ne.mpr k,aN]at t;by_cases D:v=Vd
     · subst D;rw[beq_self_eq_true]at t;obtain rfl:=ax t;exact⟨Q,WF,by rw[F.cB];exact WM,raw WX WM,.tail _ (.head _),WQ,Xq _ _⟩
     ·rw[beq_eq_false_iff_ne.mpr D]at t;exact aQ t
 · simp only[aP,uR,or_false]at B;rcases B with rfl|rfl;·exact⟨_,U⟩
   ·exact⟨_,WQ⟩
 ·simpa using Xc
 · have two:∀v(L:OL),([(j,l),(Vd,l')]:List (Str×OL)).lookup v=some L->v=j\/v=Vd:=λ v L t=>by
     rw[aN]at t;by_cases k:v=j;·exact .inl k
     · rw[beq_eq_false_iff_ne.mpr k,aN]at t;by_cases D:v=Vd;·exact .inr D
       ·rw[beq_eq_false_iff_ne.mpr D]at t;exact aQ t
   have WS:=raw WW WL;have WU:=raw WX WM;rcases two v L W' with rfl|rfl<;>rcases two Xv Xe Xa with rfl|rfl;·rfl
   ·rw[WS]at M;rw[WU]at N;exact(WT (RK (ax (M.trans N.symm)))).elim
   ·rw[WU]at M;rw[WS]at N;exact(WT (RK (ax (N.trans M.symm)))).elim
   ·rfl
 · have WY:f<Vo:=by
     have :f<(fN Vo H.heap).objs.size:=G;rwa[J]at this
   exact ai (R.ex f (.inl (.inl C))) λ r e=>⟨r,j1.mpr ⟨WY,e⟩,W3 f r C T (aJ WY (an O (bn WO))) e⟩
 · by_cases k:q.heap.objs.size<=f;·exact F.xc WK f r C k e
   · refine W3 f r C (λ Xm=>?_) (IQ.mp k) e;have :(fN Vo H.heap).objs.size<=f:=B;rw[J]at this;exact absurd (bC.lt Xm) (b'.mpr (an WZ this))
def vj:cu 191 190 (bB [25]) (a0 [25]) [nm "expected",nm "actual"]:=.mk' (λ P=>by lia) (λ P=>by lia) (λ P=>⟨by lia,by lia,by lia,by lia,by lia,by lia⟩) (by decide) (by rfl) (by rfl) ⟨rfl,rfl⟩ rfl rfl rfl
def CT(W2:G.length<=1000)(W3:VJ.length<=1000)(W4:Rm (a+1,true) o)(L:aC c H.heap)(ex:Ex w H.heap)(T:fg o w H.heap)(WR:aC c q.heap)(kp:Kp q H)(t:∀g j,q.heap.get? g=some j->g<h/\g<Q)(W6:h≠Q)(W9:¬w h)(W':¬w Q)(WL:H.heap.PlainList h Vc.toArray)(Xc:Ke Vc G)(Xa:H.heap.PlainList Q WF.toArray)(Xd:Ke WF VJ):aA (au P0 c) o (I1 (.ref 191) [.ref h,.ref Q]) (λ v r=>RV w r.heap v (Tu [Ld (bf G VJ G.length).1,Ld (bf G VJ G.length).2])/\Kq true o q r/\aC c r.heap) Vf H:=by
 refine aj λ M=>?_;obtain⟨Xi,WU⟩:∃j,q.heap.get? 313=some j:=by
   refine ak (WR.objs (313,mN c.params) (ct (i:=268) (by lia)) rfl) λ j e _=>?_;exact⟨j,e⟩
 refine am (t 313 _ WU) λ W0 W1=>M ?_;let n:ae:=if h<=Q then h else Q;have Y:n<=h:=by show(if h<=Q then h else Q)<=h;split<;>first|exact aB _|(rename_i u;exact bn (IQ.mp u))
 have W8:n<=Q:=by show(if h<=Q then h else Q)<=Q;split<;>first|assumption|exact aB _
 have D:∀g,g<h->g<Q->g<n:=λ g C J=>by show g<(if h<=Q then h else Q);split<;>assumption
 refine jO (A:=⟨true,.ref 190,ac "unorderable_list_difference"++ac ".<locals>."⟩) (Vi:=[.raw (.ref h),.raw (.ref Q)]) (Wv:=⟨[.ref h,.ref Q],[]⟩) vj W4 L ex (.cons rfl (.cons rfl .nil)) rfl (λ doc=>by lia) rfl (λ _=>by lia) (λ _=>T) λ WV B m WT W7 W5 F=>?_;refine aG (CP rfl W2 W3 w c _ W5 WV _ B _ m WT [h,Q] (F.CS (j:=nm "expected") (Vd:=nm "actual") (Vo:=n) (l:=.p (G.map .str)) (l':=.p (VJ.map .str)) rfl (by rfl) (by rfl) (by rfl) (by rfl) (by decide) W6 (D 313 W0 W1) Y W8 W9 W' WL Xa (λ _ _=>RO.iZ Xc) (λ _ _=>RO.iZ Xd))) (λ f r WP=>?_) λ _ _ x=>x;obtain⟨v,e,Xb,kq,WQ,_⟩:=WP;subst e;refine⟨Xb.mono λ _ u=>.inl u,?_,WQ⟩;have N:Kq true o H B:=Kq.outer W7 F.rel;have O:Kq true o {B with heap:=fN n B.heap} r:=Kq.outer (λ WS e=>by
   rcases u:(fN n B.heap).get? WS with _|j;·rfl
   · have C:=(j1.mp u).1;cases aO F.frame e;exact absurd (aJ C (an Y (bn (by refine ai WL λ _ e=>?_;exact az e)))) (b'.mpr F.fresh)) kq;have WN:=N.ext;have WO:=O.ext;have V:=kp.keep;refine aj λ M=>aW O λ U WM WZ _=>aW N λ Xh Xk WY _=>aW kp λ Xg Xj WX _=>M ?_;have G:r={q with heap:=U,toks:=WM}:=by simp only[WZ,WY,WX]
 refine⟨U,WM,G,λ g j WK e=>?_,λ g j f d e=>?_⟩
 · have :=WO.keep g j WK (j1.mpr ⟨D g (t g j e).1 (t g j e).2,WN.keep g j WK (V g j e)⟩);rw[G]at this;exact this
 · refine ai (WN.fr g j f d (V g j e)) λ Xe C=>ai (WO.fr g {j with slots:=Xe} f d (j1.mpr ⟨D g (t g j e).1 (t g j e).2,C⟩)) λ Xf J=>?_;rw[G]at J;exact⟨Xf,J⟩
theorem vk{a:Type}{y:Str}:∀{l:List (Str×a)},y∉l.map (·.1)->l.reverse.lookup y=none
 |[],_=>rfl|(n,u)::r,h=>by
  rw[MB,hd,vk λ q=>h (.tail _ q)];have :y≠n:=λ q=>h (q▸.head _);rw[aN,beq_eq_false_iff_ne.mpr this];rfl
theorem qX{b:Type}{y:Str}{v:b}:∀{l:List (Str×b)},(l.map (·.1)).Nodup->l.lookup y=some v->l.reverse.lookup y=some v
 |[],_,h=>aQ h|(n,u)::r,e,h=>by
   refine am (Jd.mp (show(n::r.map (·.1)).Nodup from e)) λ c d=>?_;rw[MB,hd];rw[aN]at h;refine gy (M:=y==n) (λ a=>?_) λ a=>?_;·rw[a]at h;rw[qX d h];rfl
   · obtain rfl:=pV a;rw[a]at h;rw[vk c];simpa using h
def vl(l:E.locals=q.heap.objs.size)(t:E.scope=g)(u:E.cells=V3)(Y:E.globals=FG)(WK:E.builtins=IT)(O:g.kind=.function)(H:∀x∈g.names,x.2≠.cell)(Q:∀n∈G,g.names.lookup n=some .local)(WO:G.Nodup)(N:∀n,g.names.lookup n=some .free->(V3.lookup n).isSome=true)(L:aC c q.heap)(D:Ex w q.heap)(WL:aU w q.heap Vc Vi)(WN:G.length=Vi.length)(J:∀n p,i.lookup n=some p->g.names.lookup n=some .free/\∃f v,V3.lookup n=some f/\q.heap.IsCell f (some v)/\RV w q.heap v p)(j:s.Ns q.heap.objs.size Ve)(T:∀y v,(G.zip Vc).lookup y=some v->Ve y=some v)(h:KO q.heap s):bq (λ b=>w b\/b=E.locals) c g E s (G.zip Vi++i):=by
 have z:∀y,E.kindOf y=g.names.lookup y:=λ y=>by unfold KJ;rw[t]
 rw[<-l]at j;have shift:∀{v:ab}{p:PV},RV w q.heap v p->RV (λ b=>w b\/b=E.locals) s v p:=λ r=>r.shift λ b o V e=>⟨λ a=>a.elim V (λ a=>(by rw[a,l,(cW (aB _))]at e;exact aQ e)),h b o e⟩;refine⟨L.keeps h,t,Y,WK,O,λ b a=>?_,λ y p e=>?_,λ y a=>?_⟩
 · rcases a with a|a;·refine ai (D b a) λ o e=>?_;exact⟨o,h b o e⟩
   ·subst a;refine ak (Ns.c9 j) λ o e _=>?_;exact⟨o,e⟩
 · unfold cc;rw[z];rw[hd]at e;refine ey (x:=(G.zip Vi).lookup y) (λ d=>?_) λ WP d=>?_
   · rw[d]at e;refine aj λ k=>?_;obtain⟨M,f,v,A,B,C⟩:=J y p (by simpa using e);refine k ?_;rw[M];exact⟨f,v,by rw[u];exact A,B.keeps h,shift C⟩
   · rw[d]at e;obtain rfl:=ax e;refine aj λ k=>ak (WL.zip d) λ v U WM=>k ?_;rw[Q y (L3 (eF d)).1];exact⟨_,v,j,T y v U,shift WM⟩
 · rw[z]at a;rw[u];rcases a with a|a;·exact(H _ (eF a) rfl).elim
   ·exact N y a
def vm(WV:q.heap.get? h=some O)(WS:O.data=.func Wp)(WR:q.heap.CodeRec Wp.code Wp.qualname)(Y:Wp.body=.expr z)(f3:Wp.closure=V3)(j:Wp.scope=g)(f5:Wp.globals=FG)(f6:Wp.builtins=IT)(WQ:g.isCoroutine=ap)(WU:g.isGenerator=ap)(B:g.kind=.function)(u:∀x∈g.names,x.2≠.cell)(D:∀n∈G,g.names.lookup n=some .local)(H:G.Nodup)(WT:∀n,g.names.lookup n=some .free->(V3.lookup n).isSome=true)(t:Rm (a+1,M) o)(L:aC c q.heap)(V:Ex w q.heap)(N:aU w q.heap Vc Vi)(C:G.length=Vi.length)(WO:J4 Wp ⟨Vc,[]⟩=jq (G.zip Vc))(WP:∀n p,i.lookup n=some p->g.names.lookup n=some .free/\∃r v,V3.lookup n=some r/\q.heap.IsCell r (some v)/\RV w q.heap v p)(WN:∀d f T m,d.frame=some d.locals->d.scope=g->q.heap.objs.size<=d.locals->Rm (a,M) (o.deeper d)->bq (λ b=>w b\/b=d.locals) c g d f (G.zip Vi++i)->Kp q {q with heap:=f,toks:=T}->f.Ns d.locals m->aA (au P0 c) (o.deeper d) (He z d) y (λ e WZ=>aA (au P0 c) (o.deeper d) (OE d e) (λ _ l=>Vf e l) (λ U l=>Vf U l) WZ) {q with heap:=f,toks:=T}):aA (au P0 c) o (I1 (.ref h) Vc) y Vf q:=by
 refine Je (kla_callFunE (by have :=t.depth;exact c5 dG (fy this)) WV WS (by rw[j];exact WQ) (by rw[j];exact WU) Y WR ?_);rw[WO,f3,j,f5,f6];refine ah (Ok u (λ x WY=>D x.1 (L3 WY).1) (λ f J WW=>?_) B);have keep:KO q.heap f:=λ b O e=>WW.extBut b O (br (az e)) (ao _ e);refine⟨L.noLimit.keeps keep,kla_codeExpr ?_⟩;refine WN _ f _ _ rfl rfl (aB _) (t.deeper _) (vl rfl rfl rfl rfl rfl B u D H WT L V N C WP J (λ W0 v WX=>qX (by rw[LW (oL C N.len)];exact H) WX) keep) ⟨f,_,rfl,keep⟩ J
structure ho(a:It)(q:Str)(c:Ji)(body:b7)(d:aw)(b:List (Str×ae)):Prop where
 params:a.params=c
 body:a.body=.expr body
 scope:a.scope=d
 mY:a.closure=b
 glob:a.globals=FG
 blt:a.builtins=IT
 qual:a.qualname=q
 dflt:a.defaults=.none
 kw:a.kwdefaults=.none
structure vn(a:aw)(b:List Str)(c:List (Str×ae)):Prop where
 co:a.isCoroutine=ap
 gen:a.isGenerator=ap
 kind:a.kind=.function
 cell:∀x∈a.names,x.2≠.cell
 loc:∀n∈b,a.names.lookup n=some .local
 nodup:b.Nodup
 free:∀n,a.names.lookup n=some .free->(c.lookup n).isSome=true
def h9.CU{Y W9:List PV}(Xo:O.data=.func Wp)(D:ho Wp j V8 (.Call (.Name Vd v) (z::Vr) [] J) g V3)(Xm:Wp.code=.ref Vo)(Xu:VQ.data=.fields Vz)(Xw:Vz[1]?=some (.str j Vt))(S:vn g G V3)(Xt:G.length=Y.length)(Xl:∀Wp,ho Wp j V8 (.Call (.Name Vd v) (z::Vr) [] J) g V3->∀WT,WT.length=Y.length->J4 Wp ⟨WT,[]⟩=jq (G.zip WT))(Xn:∀(X:ae->Prop)(WO:a7),(∀p∈VM,¬X p.1/\WO.get? p.1=some p.2)->∀n p,VN.lookup n=some p->g.names.lookup n=some .free/\∃WX H,V3.lookup n=some WX/\WO.IsCell WX (some H)/\RV X WO H p)(Xr:∀w,fI w Vu)(Xk:ef (a,M) (.ref Vu) W9 V)(Xq:Ev (a,M) g (G.zip Y++VN) (.Name Vd v) (.raw (.ref Vu)))(W2:a6 (a,M) g (G.zip Y++VN) (z::Vr) W9):h9 (a+1,M) (.ref h) ((h,O)::(Vo,VQ)::VM) Y V:=λ X w A Xj s vs E L ex T WQ WL=>by
 refine vm (i:=VN) (G:=G) (Vi:=Y) (WQ _ (.head _)).2 Xo ?_ D.body D.mY D.scope D.glob D.blt S.co S.gen S.kind S.cell S.loc S.nodup S.free Xj L ex WL Xt (Xl Wp D vs WL.len) (Xn X s.heap λ p WR=>WQ p (.tail _ (.tail _ WR))) λ t XU XZ m W7 XN W8 WP R kp ns=>?_
 · simp only[Xm,D.qual];exact⟨Vo,VQ,Vz,Vt,rfl,(WQ _ (.tail _ (.head _))).2,Xu,Xw⟩
 · refine dr (Xq.use WP R kp λ H XR XP Xz XA WV=>?_);obtain rfl:H=.ref Vu:=XP;have WR:=W2.plain (E:=t) (v:=J);refine aW (Xr w _ WV.left) λ of Xh Xv Xp=>?_;have W1:∀b,FA (A.deeper t) b->FA A b\/b=t.locals:=λ b WS=>by
     obtain⟨l,h,Vd,B,j⟩:=WS;have WN:A.frames.map (t::·)=some l:=h;refine ak (bh.mp WN) λ l' Xc M=>?_;subst M;rcases aP.mp B with rfl|B;·cases aO W7 j;exact .inr rfl
     ·exact .inl ⟨l',Xc,Vd,B,j⟩
   have Xi:∀b,FA A b->FA (A.deeper t) b:=λ b WS=>by obtain⟨l,h,Vd,B,j⟩:=WS;exact⟨t::l,by show A.frames.map _=_;rw[h];rfl,Vd,.tail _ B,j⟩
   refine di W2.cut λ _ _ XO WN b W3=>?_;obtain rfl:=XO;have U:=a6.use WP (z:=J) (.cons WN b W3) (s:=XR) (e:=s) (E:=λ z u=>aA (au P0 w) (A.deeper t) (OE t z) (λ _ C=>E z C) (λ N C=>E N C) u) (Q:=λ vs u=>(u.heap.get? Vu=some of/\of.data=.func Xh)/\aA (au P0 w) (A.deeper t) (I1 (.ref Vu) vs) (λ H u=>RV X u.heap H V/\Kq true A s u/\aC w u.heap) (λ z u=>aA (au P0 w) (A.deeper t) (OE t z) (λ _ C=>E z C) (λ N C=>E N C) u) u) WV XA λ XT W' XQ W5 WK WW=>⟨⟨W5.keep _ _ Xv,Xp⟩,by
       have Xx:∀b O,s.heap.get? b=some O->b≠t.locals:=λ b O z=>br (aJ (az z) W8);refine ak (Ns.c9 ((ns.keeps Xz.keep).keeps W5.keep)) λ XF WZ WY=>?_;obtain⟨XW,Xe⟩:∃O,s.heap.get? 313=some O:=by
         refine ak (L.objs (313,mN w.params) (ct (i:=268) (by lia)) rfl) λ O z _=>?_;exact⟨O,z⟩
       have Xd:314<=t.locals:=an (az Xe) W8;have Xb:fg (A.deeper t) (λ b=>X b\/b=t.locals) W'.heap:=by
         refine⟨λ b j=>.inl (T.tab b j),λ b j=>(W1 b j).elim (λ j=>.inl (T.fa b j)) .inr,?_,λ b O j XD z=>?_⟩
         · refine ak T.fr λ l Xs ok=>?_;refine⟨t::l,by show A.frames.map _=_;rw[Xs];rfl,λ Vd B=>?_⟩;rcases aP.mp B with rfl|B;·exact⟨(λ j=>(by rw[XN,S.kind]at j;cases j)),_,XF,W7,Xd,WZ,WY⟩
           · obtain⟨p1,WM,O,p2,p3,p4,p5⟩:=ok Vd B;exact⟨p1,WM,O,p2,p3,WK.keep _ _ p4,p5⟩
         · rcases j with j|j
           · refine ai (ex b j) λ XE N=>?_;have :=WK.keep b XE N;cases aO z this;exact T.code b O j XD N
           · subst j;cases aO WZ z;exact eJ WY
       refine aG (Xk _ w _ WP W' XT _ WW.left WW.ex Xb XQ) (λ H XY⟨WL,K,WM⟩=>⟨WL.mono λ b j=>.inl j,?_,WM⟩) λ _ _ x=>x;have Xa:=K.ext;have W4:=WK.keep;refine aW K λ Xy XS Xg _=>aW WK λ XV X0 Xf _=>?_;subst Xf Xg;refine⟨Xy,XS,rfl,λ b O W6 z=>Xa.keep b O (λ _=>⟨(W6 rfl).1,λ j=>(W1 b j).elim (W6 rfl).2 (Xx b O z)⟩) (W4 b O z),λ b O Vu d z=>Xa.fr b O (Xi b Vu) d (W4 b O z)⟩⟩;simp only[W3]at U WR⊢;exact rS (b1 U)
def qY(o:Obj):Prop:=(∃b n,o.data=.seq b n)\/∃a n,o.data=.dict a n
def fP(h:a7)(P:a7->Prop):Prop:=∃L:List (ae×Obj),(∀q∈L,qY q.2/\h.get? q.1=some q.2)/\∀a:a7,(∀q∈L,a.get? q.1=some q.2)->P a
def fP.all{P:a7->Prop}(k:∀a,P a):fP s P:=⟨[],λ _ q=>absurd q uR,λ _ _=>k _⟩
def fP.and{P Q R:a7->Prop}(a:fP s P)(b:fP s Q)(k:∀c,P c->Q c->R c):fP s R:=by exact ak a λ L f g=>ak b λ M d e=>bj (L++M) (λ q m=>(k9.mp m).elim (f q) (d q)) (λ c m=>k c (g c λ q n=>m q (Im _ n)) (e c λ q n=>m q (iq _ n)))
def fP.at{P Q:a7->Prop}(e:s.get? h=some O)(d:qY O)(b:fP s P)(k:∀c,c.get? h=some O->P c->Q c):fP s Q:=.and ⟨[(h,O)],λ q m=>aI.mp m▸⟨d,e⟩,λ c m=>m _ (.head _)⟩ b k
def vo(r:QM s U VG Y):fP s λ f=>QM f U VG Y:=Reads.rec (motive_1:=λ U VG Y _=>fP s λ f=>QM f U VG Y) (motive_2:=λ U VG Y _=>fP s λ f=>ga f U VG Y) (.all λ _=>.none) (λ b=>.all λ _=>.bool b) (λ i t=>.all λ _=>.int i t) (λ x t=>.all λ _=>.str x t) (λ g j a _ c=>.at g (.inl ⟨_,_,a⟩) c λ _ e q=>.list e j a q) (λ g j a _ c=>.at g (.inl ⟨_,_,a⟩) c λ _ e q=>.tuple e j a q) (λ g j a _ _ c k=>.at g (.inr ⟨_,_,a⟩) (.and c k λ _=>QC) λ _ e q=>.dict e j a q.1 q.2) (.all λ _=>.nil) (λ _ _ c k=>.and c k λ _=>.cons) r
def RV.CV(r:RV VE s U (.d VG))(e:∀b o,w b->s.get? b=some o->qY o->VE b):RV w s U (.d VG):=by exact aj λ i=>ai r λ a r=>ak (vo r) λ L f g=>i ⟨a,g _ λ q m=>dW.mpr ⟨λ c=>dH (f q m).2 (e _ _ c (dm (f q m).2) (f q m).1),e' (f q m).2,dm (f q m).2⟩⟩
def gm(X:ae->Prop)(a:Env)(O:List ae)(b:ae):Prop:=aL X a O b/\¬∃n,a.cells.lookup n=some b
def FB.nS(d:A.t=true)(F:FB A w c o g E q i D Ve Vn Y H):fg o (gm w E Y) H.heap:=by
 have T:=F.lA d;exact⟨λ b a=>⟨T.tab b a,λ⟨n,e⟩=>((F.no d e).1 a)⟩,λ b a=>⟨T.fa b a,λ⟨n,e⟩=>(F.no d e).2 a⟩,T.fr,λ b h a f e=>T.code b h a.1 f e⟩
def FB.qZ(F:FB A w c o g E q i D Ve Vn Y H):Ex (gm w E Y) H.heap:=λ b a=>F.er.ex b a.1
def FB.CW(F:FB A w c o g E q i D Ve Vn Y H)(r:RV (gm w E Y) H.heap U (.d VG)):RV (aL w E Y) H.heap U (.d VG):=r.CV λ b t j e a=>⟨j,λ⟨n,l⟩=>by
  refine ak (F.cell n b l) λ u h f=>?_;cases aO e h;rcases a with⟨y,k,a⟩|⟨p,k,a⟩<;>(rw[a]at f;cases f)⟩
noncomputable def bH:Cx:=⟨true,.ref 312,ac "law"++ac ".<locals>."⟩
def FB.lam(F:FB bH w c o g E H i D Ve Vn Y VH)(W1:Pa V8 E=([],[]))(WQ:NO VI E=jq V3)(W0:∀a x k r n p t B,B.heap.get? a=some x->x.data=.func k->ho k eS V8 z VI V3->k.code=.ref r->B.heap.get? r=some n->n.data=.fields p->p[1]?=some (.str eS t)->¬aL w E Y a->¬aL w E Y r->Kq true o VH B->aC c B.heap->Vf (.ref a) B):aA (au P0 c) o (He (.Lambda V8 z VI v) E) Vf y VH:=by
 refine kla_eval W1 ?_;rw[show(E.qual++(("<lambda>":String):Str))=eS from(by rw[F.qual rfl];decide)];have L:=F.er.left;refine ci L.g9 λ V N WM WO=>?_;have fin:∀(d:a7)(h:Nat)(k:It)(j:ae)(l:Kq true o VH {VH with heap:=d,toks:=h})(M:aC c d)(U:VH.heap.objs.size<=d.objs.size)(WS:ho k eS V8 z VI V3)(WP:k.code=.ref j)(WR:d.CodeRec (.ref j) eS)(WU:¬aL w E Y j),Vf (.ref d.objs.size) {VH with heap:=d.push {cls:=.type "function",data:=.func k},toks:=h}:=λ d h k j l M U WS WP WR WU=>by
   refine du WR λ r n p t WK C G J=>?_;cases WK;have W4:Kp {VH with heap:=d,toks:=h} {VH with heap:=d.push {cls:=.type "function",data:=.func k},toks:=h}:=⟨_,_,rfl,λ b x e=>ao _ e⟩;exact W0 _ _ k j n p t _ (aF _ rfl) rfl WS WP (ao _ C) G J (F.er.ex.fresh U) WU (l.trans W4.kq) (M.keeps λ b x e=>ao _ e)
 rcases WL:MF v V.toList with _|W5
 · refine kla_makeFunction (mg:=a5 c.params) (c:=312) (P:=310) (ps:=V) WQ F.er.glob L.mg F.code L.qG N WM WL (by decide) (L.nG (by decide)) λ r WZ d h u WT W2 WV W3=>?_;have l:Kq true o VH {VH with heap:=d,toks:=h}:=Kq.tab (h:=310) rfl (λ b f=>((F.bi rfl).dA.fa f).1) u;have M:aC c d:=L.grow rfl u (nI (by decide) L.g9.is u L.g8) (uQ ⟨V,N,WM,WO⟩ N u WV W3) (uP (by decide) (by decide) L.g9.is u L.g');exact fin d h _ r l M (bn (bz WT W2)) ⟨rfl,rfl,rfl,rfl,rfl,rfl,rfl,rfl,rfl⟩ rfl WV (F.er.ex.fresh WT)
 · refine aj λ WN=>du (WO _ _ WL) λ j n p t WK C G J=>?_;subst WK;refine WN (kla_makeFunctionHit (mg:=a5 c.params) (c:=312) (P:=310) (ps:=V) WQ F.er.glob L.mg F.code L.qG N WM WL (L.nG (by decide)) λ WZ d h l U=>?_);exact aj λ WN=>ci (qJ L (h:=j) (j:=eS) ⟨j,n,p,t,rfl,C,G,J⟩) λ x WW WX WY=>WN (fin d h _ j ⟨d,h,rfl,.of_keeps l⟩ (L.keeps l) U ⟨rfl,rfl,rfl,rfl,rfl,rfl,rfl,rfl,rfl⟩ rfl ⟨j,n,p,t,rfl,l _ _ C,G,J⟩ (F.qI rfl WW WX WY))
def CX(P:a3):a5 P (ac "max")=none/\cR P (ac "max")=some (.builtin "max"):=⟨by lia,by lia⟩
def Fn.CY(G:u.2=true)(n:C∈B)(D:∀a,a∈B->a<=C):Fn u (.builtin "max") [Ls B] (I C):=λ X w A z s V E L ex r=>by
 refine aj λ Y=>?_;refine ak r.one ?_;rintro WN rfl q;refine bI q.list ?_;rintro a V as rfl WM O Q;have g:=nh Q;refine ai g.allInts.items λ b e=>Y ?_;have c:B=b.toList.map (·.1):=by rw[<-g.numsOf,<-nums_intItems,<-e]
 have o:0<b.size:=by have d:=Qz n;simp only[c,be,aX]at d;exact d
 have m:=O.isList;simp only[e]at m;refine max_intList (z.calm G) m o λ v p T J H=>?_;refine ai (intItems_at J) ?_;rintro t rfl;refine am (argBest_gt (SG b) (b.size-1)) λ x y=>?_;have N:SG b (argBest (λ i j=>bF (SG b i>SG b j)) (b.size-1))∈B:=by rw[c,numAt_eq];exact getD_mem (by simp only[be,aX];exact je (r2 o) (dt x))
 have U:∀a∈B,a<=SG b (argBest (λ i j=>bF (SG b i>SG b j)) (b.size-1)):=λ a f=>by
  rw[c]at f;refine ak (mem_getD f) ?_;rintro j h rfl;simp only[be,aX]at h;rw[<-numAt_eq];exact y j (jn h)
 exact⟨by rw[<-(Me (D _ N) (U _ n))];exact .mkInt,⟨p,T,rfl,H⟩⟩
def CZ(P:a3):a5 P (ac "type")=none/\cR P (ac "type")=some (.type "type"):=⟨by lia,by lia⟩
def Fn.C0:Fn u (.type "type") [I C] (.raw (.type "int")):=λ X w A d s e E L c r=>by
 refine aj λ b=>?_;refine ak r.one λ f a q=>?_;obtain rfl:=a;refine ai q.int ?_;rintro t rfl;exact b (call_type_of (typeIs_int _ _ _) (by decide) ⟨rfl,Kp.refl _⟩)
def aD.C1:aD .IsNot (.raw (.type VF)) (.raw (.type VF)) ap:=λ X w A f s a b E e c d=>by
 obtain rfl:a=.type VF:=c;obtain rfl:b=.type VF:=d;show aA (au P0 w) A (do return T8 (!(<-UZ (.type VF) (.type VF)))) _ _ _;unfold UZ;simp only[beq_self_eq_true,if_true];exact al (ah (ah ⟨rfl,Kp.refl _⟩))
def C2(h:a7)(e:ae):Prop:=∃a b,h.get? e=some a/\a.data=.fields b/\b[2]?=some .none
def Hd(A:aq)(h:a7):Prop:=A.handled=none\/∃e,A.handled=some (.ref e)/\C2 h e
def C2.keeps(k:KO s Vk):C2 s h->C2 Vk h:=λ c=>by refine aW c λ o d a b=>?_;exact dw o d (k _ _ a) b
def Hd.keeps(k:KO s Vk):Hd o s->Hd o Vk:=λ H=>H.imp_right λ c=>by refine ak c λ e a b=>?_;exact bj e a (b.keeps k)
def j2(b:String)(A:aq)(e:ae)(s a:aa):Prop:=NewExc b e s a/\(A.handled=none->C2 a.heap e)
def lE(k:Lv)(c:aw)(d:List (Str×PV))(e:b7)(b:String):Prop:=∀(X:ae->Prop)(WM:ar)(A:aq),Rm k A->∀(WL:Env)(s:aa)(Q E:ab->aa->Prop),Hd A s.heap->bq X WM c WL s.heap d->(∀e a,j2 b A e s a->E (.ref e) a)->aA (au P0 WM) A (He e WL) Q E s
def lF(k:Lv)(c:aw)(d:List (Str×PV))(e:b7)(b:String):Prop:=∀(X:ae->Prop)(WM:ar)(A:aq),Rm k A->∀(WL:Env)(s:aa)(Q:Bool->aa->Prop)(E:ab->aa->Prop),Hd A s.heap->bq X WM c WL s.heap d->(∀e a,j2 b A e s a->E (.ref e) a)->aA (au P0 WM) A (isTrue e WL (He e WL)) Q E s
noncomputable def nU(b:String)(a c:ab):Obj:={cls:=.type b,dict:=none,data:=.fields #[a,.none,c,.none,.bool ap,.none]}
def C3(a:VF≠"code"):¬bw (nU VF U V7):=bw.hX (VF:=VF) (Vz:=#[U,.none,V7,.none,.bool ap,.none]) rfl a rfl λ q t=>λ h=>by cases h
def j2.of(k:Kp q H)(i:KO H.heap s)(n:H.heap.get? h=none)(d:s.get? h=some (nU VF U V7))(g:o.handled=none->V7=.none)(f:VF≠"code"):j2 VF o h q {H with heap:=s,toks:=a}:=by
 refine⟨⟨k.trans ⟨s,a,rfl,i⟩,?_,_,_,U,d,rfl,rfl,rfl,rfl,C3 f⟩,λ b=>⟨_,_,d,rfl,by rw[g b];rfl⟩⟩;rcases b:q.heap.get? h with _|j;·rfl
 · have :=k.keep h j b;exact bN n this
def C4:KE Kj "proto.unchain"=some Builtin.«proto.unchain»:=entryFor_of_fast (by lia)
def C5(d:C2 q.heap Q)(a:Vf .none q):aA (au P0 c) o (runValue (.builtin "proto.unchain" ⟨[.ref h,.ref Q,.ref Q,.bool ap],[]⟩)) Vf y q:=by
 refine aj λ i=>bS d λ j k g f b=>i (Oj (hN C4 ?_));unfold Builtin.«proto.unchain»;refine al (Jk g f b (eP (by rfl) ?_));exact ah a
def nV{g p:String}{Q:Vb->aa->Prop}(n:PlainExc g)(f:Hd o q.heap)(h:∀k G e v d,(KO q.heap k)->q.heap.get? e=none->k.get? e=some (nU g v d)->(o.handled=none->d=.none)->y (.ref e) {q with heap:=k,toks:=G}):aA (au P0 c) o (Ut g p:Sem Vb) Q y q:=by
 unfold Ut;refine af (wpAny_mkText (af ?_));unfold UV US;refine af (Ie ?_);refine af (m:=L0 _ _) (cx (a:=I7) (by simp only[L0,n.first];rfl) ?_);simp only[n.own];refine Ie ?_;unfold UR;refine af (Rg ?_);have j:∀(r u:Obj)b x,q.heap.get? b=some x->((q.heap.push r).push u).get? b=some x:=λ r u b x i=>ao _ (ao _ i);rcases f with f|⟨d,f,l⟩
 · rw[f];first
     |refine Oi ?_|refine af (ah (Oi ?_))
   exact h _ _ _ (.ref q.heap.objs.size) .none (j _ _) (Q5 (by simp)) (aF _ rfl) (λ _=>rfl)
 · refine f.symm▸(aj λ H=>(aW (id l) λ J _ B _=>H ?_));have z:∀t:Nat,q.heap.objs.size<=t->(hk d !=hk t)=true:=λ t C=>by
     have :d≠t:=br (aJ (az B) C);simpa using this
   refine eP (z _ (by simp)) ?_;refine af (aK (C5 (l.keeps (j _ _)) (af (Ki (o:={cls:=.type g,dict:=none,data:=.fields #[.ref q.heap.objs.size,.none,.none,.none,.bool ap,.none]}) (aF _ rfl) rfl (by simp) (Oi ?_)))));refine h _ _ _ (.ref q.heap.objs.size) (.ref d) (λ b x i=>?_) (Q5 (by simp)) (cQ _ (aF _ rfl) rfl) (λ D=>by cases f.symm.trans D);have :=j {cls:=.type "tuple",dict:=none,data:=.seq [I2 (ac p) 0].toArray 0} {cls:=.type g,dict:=none,data:=.fields #[.ref q.heap.objs.size,.none,.none,.none,.bool ap,.none]} b x i;rw[JE _ _ (IA (aJ (az i) (by simp)))];exact j _ _ b x i
def C6(p:Hd o q.heap)(d:q.heap.IsList h Vz)(g:(Vz.size:Int)<=C)(m:C<2^63)(b:∀f v e n i,(KO q.heap f)->q.heap.get? e=none->f.get? e=some (nU "IndexError" n i)->(o.handled=none->i=.none)->y (.ref e) {q with heap:=f,toks:=v}):aA (au P0 c) o (NN (.ref h) (.int C Vt)) Vf y q:=by
 refine aj λ x=>?_;obtain⟨B,u,z,ne,r⟩:=id d;refine x ?_;unfold NN;try with_reducible refine aK ?_
 first|refine al (ah ?_)|skip
 refine al (TB d.typeIs (by decide) ?_);refine al (JB (name:=ac "__getitem__") d.typeIs JD (IN JD d.typeIs entry_list_getitem ?_ (args_list_getitem _ _)));show aA _ _ (N6 (.int C Vt)>>=_) _ _ q;refine al (RC (fitsIndex_both (J0 (kM rfl) g) m) ?_);clear m;refine ai (⟨C.toNat,by simp;exact(Int.max_eq_left (J0 (IH _) g)).symm⟩:∃j:Nat,C=Ll j) ?_;rintro j rfl;refine al (al (Ur u r (ah ((H' (by have :(Vz.size:Int)<=(j:Int):=g;exact r3 this)).symm▸?_))));have a:Hd o.in1 q.heap:=p;first
  |exact al (Ju (nV Mv a b))|exact al (Ju (al (nV Mv a b)))|exact al (al (Ju (nV Mv a b)))|exact Ju (nV Mv a b)
def lE.vq(q:Ev u g i z (Li Vm))(r:Ev u g i Vl (I (a:Int)))(n:Vm.length<=a)(x:(a:Int)<2^63)(y:autoParam (∀o d,Mj Vl ap (.ref o) (.int (a:Int) d)=Pw [.ref o,.int (a:Int) d] (NN (.ref o) (.int (a:Int) d))) ir):lE u g i (.Subscript z Vl v) "IndexError":=λ X w A f WL s Q E H R p=>Ma (q.use f R (Kp.refl s) λ WR WO T _ C m=>r.use f m C λ d WP U B j _=>by
  refine aj λ V=>?_;refine bI ((T.keeps B.keep).list) λ o vs as N WN D O=>?_;obtain rfl:=N;have h:=D.isList;refine ai U.int ?_;rintro t rfl;refine V ?_;refine Nw h.typeIs JD.lookup (C6 (H.keeps j.keep) h (by simp;exact dS (cy O) n) x λ h' WQ e Y c G J L M=>p e _ (j2.of j G J L M (by decide))) (y _ _))
def lF.cmp(f:lE u g i z VF)(h:autoParam (Lm Wx Vl=ap) gX):lF u g i (.Compare z [Wx] [Vl] v) VF:=λ X w A d c s Q E H R e=>JX (f X w A d c s _ E H R e) h
def Sp(B:a7)(l:List Env)(e:ae)(c b d:ab)(h a:a7):Prop:=B.StaysIn a/\a.FunFrames B l/\a.TracedAtW B e c b d/\h.UpToSlots a/\(C2 h e->C2 a e)
def lG{r p D:ab}(L:s.StaysIn q.heap)(N:q.heap.FunFrames s WG)(O:q.heap.TracedAtW s h r p D)(H:∀t,Sp s WG h r p (Wb.elim .none λ g=>JG g) q.heap t->VO () {q with heap:=t}):aA VK o (T2 (.ref h) Wb) VO y q:=by
 refine aj λ WM=>?_;obtain⟨U,n,T,WN,C,x,J,w,u,nT,ne,k,j,G⟩:=O;refine WM ?_;have i:∀b,b≠T->(q.heap.update T (MN (·.setIfInBounds 3 (Wb.elim I7 λ g=>JG g)))).get? b=q.heap.get? b:=λ b a=>JE _ _ (J' a);have z:∀b c,q.heap.get? b=some c->(∀n,c.data≠.fields n)->b≠T:=λ b c a d m=>by rw[m,k]at a;obtain rfl:=ax a;exact d C j
 have v:3<C.size:=(eB.mp G).1;unfold T2;refine al (Jk x w u (eP (show(hk T !=I7)=true from by rfl) ?_));refine Ki k j v (H _ ⟨λ b c a=>(i b λ m=>by rw[m,nT]at a;exact aQ a).trans (L b c a),N.of_keeps λ b c a d=>⟨c,(i b (z b c a d)).trans a,rfl⟩,⟨U,n,T,_,_,(i h (J' ne)).trans x,J,w,u,nT,ne,cQ _ k (Nt (Lf j _)),Lf j _,by simp[v]⟩,λ b c a d=>⟨c.slots,(i b (z b c a d)).trans a⟩,λ⟨c,WL,V,Y,WK⟩=>?_⟩);exact kN c WL ((i h (J' ne)).trans V) Y WK
def C7(WN:o.frames=some (E::WG))(n:q.heap.FunFrames s (E::WG))(z:E.frame=some h)(m:q.heap.get? Q=some O)(WO:s.StaysIn q.heap)(WM:s.get? Q=none)(j:O.data=.fields Vz)(w:Vz[1]?=some .none)(Y:Vz[0]?=some U)(WK:∀v,Sp s (E::WG) Q O.cls U (JG h) q.heap v->VO () {q with heap:=v}):aA VK o (Nq (.ref Q) E) VO y q:=by
 have G:1<Vz.size:=(eB.mp w).1;have WQ:Q∉(E::WG).filterMap (·.frame):=λ u=>by
   obtain⟨_,a,WP,d⟩:=n.mem u;cases aO m WP;exact d Vz j
 unfold Nq;rw[z];refine af (Jk m j w (bT (by decide) ?_));refine af (wpAny_frameOf_fun WN n z λ g p=>af (wpAny_entryPlaceOf λ N D=>?_));unfold EntryCells.newEntry T4;refine af (Ie ?_ (D.sizeOk5 _ _ _ _ _));have t:g.get? Q=some O:=(p.2.1 Q WQ).trans m;have H:s.StaysIn g:=λ b a i=>(p.2.1 b λ u=>bN ((n.mem u).1) i).trans (WO b a i);generalize C:({cls:=.type "traceback",dict:=none,data:=.fields ([I7,.ref h,.none,JG h,.none]++(if N.isEmpty then List.replicate 6 I7 else N)).toArray}:Obj)=k;have ne:g.objs.size≠Q:=IA (az t);refine Ki (ao k t) j G (WK _ ?_);have keep:∀b a,b≠Q->g.get? b=some a->((g.push k).update Q (MN (·.setIfInBounds 1 (.ref g.objs.size)))).get? b=some a:=λ b a WL c=>(JE _ _ (J' WL)).trans (ao k c);have J:∀b a,q.heap.get? b=some a->(∀Vz,a.data≠.fields Vz)->b≠Q:=λ b a c d f=>by rw[f,m]at c;obtain rfl:=ax c;exact d Vz j
 have r:=Lf j (·.setIfInBounds 1 (hk g.objs.size));have x:=cQ (MN (·.setIfInBounds 1 (hk g.objs.size))) (ao k t) (Nt r);refine⟨λ b a i=>keep b a (λ f=>by rw[f,WM]at i;exact aQ i) (H b a i),n.of_keeps λ b a c d=>?_,⟨_,_,g.objs.size,k,_,x,⟨Sq _ _,?_⟩,r,by simp[G],H.fresh,ne,(JE (g.push k) (MN (·.setIfInBounds 1 (hk g.objs.size))) (J' ne)).trans (aF g (by obtain rfl:=C.symm;rfl)),by subst C;rfl,?_⟩,λ b a c d=>?_,λ⟨a,WT,WR,T,WS⟩=>⟨_,_,x,r,?_⟩⟩;·exact ai (p.2.2 b a c) λ V f=>⟨_,keep b _ (J b a c d) f,rfl⟩
 ·rw[LJ (by decide)];exact Y
 ·first|(simp;done)|(rcases D with rfl|⟨_,_,_,_,_,_,_,rfl⟩<;>simp)
 ·exact ai (p.2.2 b a c) λ V f=>⟨V,keep b _ (J b a c d) f⟩
 · cases aO m WR;rw[j]at T;cases T;rw[LJ (by decide)];exact WS
inductive ej(x:Cx)(X:ae->Prop)(w:ar)(A:aq)(i:aw)(a:Env)(j:aa)(O:List ae)(s:aa)(cls:String)(c:Bool)(k:List (Str×PV))(n:List (Str×OL))(e:ae)(b:aa):Prop|mk(m h:Str->Option ab)(f:List ae)(B:a7)(g:ab)(l:List Env)(o:A.frames=some (a::l))(p:Heap.HeldW B (a::l) e (.type cls) g a.locals b.heap)(q:c=true->C2 b.heap e)(r:¬bC e)(t:∀d,B.StaysIn d->b.heap.UpToSlots d->FB x X w A i a j k n m h f {b with heap:=d}/\aZ x A X a O s f {b with heap:=d})
def dZ(x:Cx)(k:Lv)(b:aw)(h:List (Str×PV))(j:List (Str×OL))(WM:List Il)(f:String)(c:Bool)(i:List (Str×PV))(l:List (Str×OL)):Prop:=∀(X:ae->Prop)(WL:ar)(A:aq),Rm k A->(c=true->A.handled=none)->∀(WK:Env)(d s:aa)(Q:PF->aa->Prop)(E:ab->aa->Prop)m g O,FB x X WL A b WK d h j m g O s->Hd A s.heap->(∀e,A.handled=some (.ref e)->¬bC e)->(∀e a,ej x X WL A b WK d O s f c i l e a->E (.ref e) a)->aA (au P0 WL) A (RF WM WK) Q E s
def fQ(x:Cx)(k:Lv)(b:aw)(h:List (Str×PV))(j:List (Str×OL))(st:Il)(f:String)(c:Bool)(i:List (Str×PV))(l:List (Str×OL)):Prop:=∀(X:ae->Prop)(WL:ar)(A:aq),Rm k A->(c=true->A.handled=none)->∀(WK:Env)(d s:aa)(Q:PF->aa->Prop)(E:ab->aa->Prop)m g O,FB x X WL A b WK d h j m g O s->Hd A s.heap->(∀e,A.handled=some (.ref e)->¬bC e)->(∀e a,ej x X WL A b WK d O s f c i l e a->E (.ref e) a)->aA (au P0 WL) A (exec st WK) Q E s
def ej.after{d s f b:aa}(a:aZ A o w E Y s V4 f)(H:ej A w c o g E d V4 f VF M i D h b):ej A w c o g E d Y s VF M i D h b:=by
 obtain⟨m,n,j,B,k,l,q,r,t,u,v⟩:=H;exact⟨m,n,j,B,k,l,q,r,t,u,λ p y z=>(v p y z).imp id a.trans⟩
def Hd.C8(F:FB A w c o g E q i D Ve Vn Y H)(f:aZ A o w E Y H V4 VH)(b:Hd o H.heap)(v:∀e,o.handled=some (.ref e)->¬bC e):Hd o VH.heap:=by
 refine aH b (λ b=>?_) λ z=>?_;·exact .inl b
 · obtain⟨e,b,r,l,j,h,t⟩:=z;refine .inr ⟨e,b,r,l,f.keep e r (λ a=>?_) j,h,t⟩;rcases a with a|a|⟨u,a|a⟩
   · rcases a with rfl|⟨n,a⟩
     · refine ak (Ns.c9 F.ns) λ p k n=>?_;cases aO j k;exact n l h
     · refine ak (F.cell n e a) λ p k d=>?_;cases aO j k;rw[h]at d;cases d
   ·exact ai (F.gJ e a) λ B y=>uV y j l h
   ·exact v e b a
   · obtain⟨_,p,k,n⟩:=(F.bi u).dA.fa a;cases aO j k;exact n l h
def dZ.first(h:fQ A u g i D V1 VF M VN V0):dZ A u g i D (V1::Vp) VF M VN V0:=λ X w a e j d n s Q E m b O F H l f=>ii (h X w a e j d n s _ E m b O F H l f)
def dZ.cons{o:List (Str×PV)}{p:List (Str×OL)}(h:St A u g i D V1 (.next o p))(C:dZ A u g o p Vp VF M VN V0):dZ A u g i D (V1::Vp) VF M VN V0:=λ X w b j B d n s Q E m v O F H l z=>ii (aG (h X w b j d n s E m v O F) (λ f L J=>by
  obtain⟨e,G,y,t,q,a⟩:=J;subst e;exact C X w b j B d n L Q E G y t q (H.C8 F a l) l λ e N r=>z e N (r.after a)) λ _ _ A=>A)
def fQ.vt(p:Tr u g (seen i D) z ap)(n:dZ A u g i D Wg VF M VN V0):fQ A u g i D (.If z Vp Wg v) VF M VN V0:=λ X w f d o j B s Q E m h O F H q l=>Pt (p.use d F.reads (Kp.refl _) λ C kp _ _=>n X w f d o j B C Q E m h O (F.kp kp) (H.keeps kp.keep) q λ e y r=>l e y (r.after (.bR F.hO kp)))
def FB.held(v:A.t=true)(W0:M=true->o.handled=none)(F:FB A w c o g E q i D Ve Vn Y H)(N:j2 VF o h H VH)(WW:∀WO,ej A w c o g E q Y H VF M i D h WO->y (.ref h) WO):Px (au P0 c) o E (NP (au P0 c) o E y) (.ref h) VH:=by
 refine aj λ Q=>?_;refine am N λ Xl W1=>?_;obtain⟨kp,z,Xs,vs,WQ,WK,W2,W3,WV,WU,Xc⟩:=Xl;have U:=F.kp kp;obtain⟨Xt,Xu,J,⟨l,t⟩,Xv⟩:=U.bi v;let B:=iX (λ b=>b=h\/FA o b) VH.heap;have V:B.get? h=none:=jX (.inl rfl);refine ak (id J) λ l' W4 ok=>?_;have W5:l'=E::l:=by cases aO t W4;rfl
 subst W5;refine Q ?_;have WX:VH.heap.FunFrames B (E::l):=cH.nM ok λ Xp W6 L WY=>jX (.inr ⟨_,t,Xp,W6,WY⟩);have WZ:aC c B:=U.er.left.move λ b j a k=>gk.mpr ⟨λ p=>by
   rcases p with p|p
   · obtain rfl:=p.symm;rcases a with a|a;·exact ai (F.er.left.pZ a) λ j h=>bN z h
     ·cases aO WK k;exact Xc a
   · refine aH a (λ a=>?_) λ a=>?_;·exact fb.qN J a p
     · obtain⟨_,Xr,WR,d⟩:=J.fa p;cases aO k WR;exact eJ d a,k⟩;have eU:∀b j,H.heap.get? b=some j->¬FA o b->B.get? b=some j:=λ b j k G=>gk.mpr ⟨λ a=>by
   rcases a with rfl|a;·exact bN z k
   ·exact G a,kp.keep b j k⟩;have mk:∀n,B.StaysIn n->VH.heap.UpToSlots n->FB A w c o g E q i D Ve Vn Y {VH with heap:=n}/\aZ A o w E Y H Y {VH with heap:=n}:=λ n f u=>by
   have K:Kq true o H {VH with heap:=n}:=by
     refine aW kp λ C Xo WT WP=>?_;subst WT;exact⟨n,Xo,rfl,λ b j G k=>f b j (eU b j k (G rfl).2),λ b j fa d k=>(ai (u b _ (WP b j k) d) λ Xn WS=>⟨Xn,WS⟩)⟩
   refine⟨F.kt v K (WZ.keeps f),λ b j WM k=>K.ext.keep b j (λ _=>⟨λ a=>WM (.inr (.inr ⟨v,.inl a⟩)),λ a=>WM (.inr (.inr ⟨v,.inr a⟩))⟩) k,λ b r=>.inl r,λ _ r=>r,F.hO⟩
 refine C7 t WX F.frame WK (λ b j h=>(gk.mp h).2) V W3 WV WU λ C Xm=>d6 Xm λ W9 W' WL Xa Xb=>?_;unfold NP;refine aj λ Q=>o7 (id WL) λ _ _ T _ _ Xi _ Xj Xk _=>Q (af (Jk (s:={VH with heap:=C}) Xi Xj Xk ?_));rw[if_neg (λ r=>by cases r),F.frame];refine lG (q:={VH with heap:=C}) W9 W' WL λ Xq⟨p1,p2,p3,p4,p5⟩=>WW _ ⟨Ve,Vn,Y,B,WQ,l,t,⟨p1,V,p2,?_⟩,λ a=>p5 (Xb (W1 (W0 a))),?_,λ W7 f u=>mk W7 f (Xa.trans (p4.trans u))⟩;·rw[W2]at p3;exact p3
 · intro a;exact ai (F.er.left.tabs a) λ j a=>bN z a
def ej.again(f:E.frame=some E.locals)(a:ej A w c o g E q Y H VF M i D h VH)(b:VO () VH):aA (au P0 c) VW (Nq (.ref h) E) VO y VH:=by
 obtain⟨m,n,j,B,k,l,p,d,_⟩:=a;exact wpAny_noteFrame_againW f d.2.2.2 b
theorem ej.around(a:VW.frames=o.frames):ej A w c o g E q Y H VF M i D h VH->ej A w c VW g E q Y H VF M i D h VH|⟨m,p,k,B,n,l,r,t,u,v,d⟩=>⟨m,p,k,B,n,l,a.trans r,t,u,v,λ b f j=>⟨(d b f j).1.around a,(d b f j).2.around a⟩⟩
def ej.iT(J:E.frame=some E.locals)(L:VW.frames=o.frames)(j:ej A w c o g E q Y H VF M i D h VH)(G:∀d,ej A w c VW g E q Y H VF M i D h d->y (.ref h) d):NP (au P0 c) VW E y (.ref h) VH:=by
 refine aj λ a=>?_;obtain⟨m,p,k,B,n,l,t,⟨Q,U,V,b⟩,v,z,C⟩:=j;refine a ?_;unfold NP;refine aj λ a=>o7 (id b) λ _ _ T _ _ WL _ WM WN _=>a (af (Jk WL WM WN ?_));rw[if_neg (λ r=>by cases r),J];refine lG Q V b λ WU WO=>by refine d6 WO λ WP WQ WR WS WT=>?_;exact G _ (ej.around L ⟨m,p,k,B,n,l,t,⟨WP,U,WQ,WR⟩,λ WK=>WT (v WK),z,λ N f u=>C N f (WS.trans u)⟩)
def fQ.vu(l:A.t=true)(h:lF u g (seen i D) z VF):fQ A u g i D (.While z Vp [] v) VF M i D:=λ X w a d j b q s Q E m o O F H p f=>by
 refine wpAny_While (TH (λ _ n=>n=s) ?_ 0 rfl);rintro _ _ rfl;exact h _ w a d b _ _ _ H F.reads λ e r N=>F.held l j N (f e)
def fQ.C9{j k o:List (Str×PV)}{p r t:List (Str×OL)}{D f:String}(Y:dZ A (a,true) g j p Vp D true k r)(WK:dZ A (a,ap) g k r (V1::Wg) f ap o t):fQ A (a,true) g j p (.Try Vp [] [] (V1::Wg) v) f ap o t:=λ X w b c _ h i s Q E m G O F H WN V=>by
 refine TE (Y X w b c (λ _=>c.calm rfl) h i s _ _ m G O F H WN λ e W1 R=>(R.again F.frame ⟨ref_ne_byPass e,R.again F.frame (aj λ WV=>?_)⟩));obtain⟨WM,J,z,B,WW,l,WX,⟨p1,p2,p3,p4⟩,N,T,U⟩:=R;refine WV (lG p1 p3 p4 λ WL WR=>(d6 WR λ WS WZ W0 WT WU=>am (U WL WS WT) λ y M=>?_));have u:Rm (a,ap) (b.mark (some (.ref e))):=⟨c.depth,c.units,λ q=>by cases q⟩;refine WK X w (b.mark (some (.ref e))) u (λ q=>by cases q) h i _ _ _ WM J z (FB.around (o:=b) (VW:=b.mark (some (.ref e))) rfl y) (.inr ⟨e,rfl,WU (N rfl)⟩) (λ L q=>by cases q;exact T) λ L W2 d=>?_;exact d.again F.frame (ej.iT (o:=b.mark (some (.ref e))) (VW:=b) F.frame rfl d λ W3 C=>V _ _ (C.after M))
def St.C'(h:dZ A (a,true) g i D Vp VF ap VN V0)(u:∀P,a5 P (ac VF)=none/\cR P (ac VF)=some (.type VF))(o:cG g (ac VF)=true)(WK:Kk (.type VF) (.type "BaseException")=jq true)(WL:Kk (.type ((RM VF).elim "type" λ A=>A.metatype)) (.type "tuple")=jq ap)(WN:Kk (.type VF) (.type VF)=jq true)(WM:ag A (a,ap) g VN V0 (V1::Wg) VY):St A (a,true) g i D (.Try Vp [.ExceptHandler (some (.Name (ac VF) v)) none (V1::Wg) J] [] [] Vg) VY:=λ X w d k p H s E m U O F=>jF λ Q fin=>by
 have t:d.handled=none:=k.calm rfl;unfold cG at o;simp only[kn,IR]at o;refine Np (h X w d k (λ q=>by cases q) p H s _ _ m U O F (.inl t) (λ e q=>bN t q) λ e WW R=>?_);refine R.again F.frame (aj λ WZ=>?_);obtain⟨WP,V,N,B,W0,l,W1,⟨p1,p2,p3,p4⟩,W2,W3,r⟩:=R;refine WZ (lG p1 p3 p4 λ y j=>(d6 j λ z WV C G W5=>?_));have L:Rm (a,ap) (d.mark (some (.ref e))):=⟨k.depth,k.units,λ q=>by cases q⟩;refine RW (X:=VF) (T:=VF) (b:=true) WK WL WN (L5 (aG (p' (FB.around (o:=d) (VW:=d.mark (some (.ref e))) rfl (r y z G).1).er (nk o.1) (u _).1 (u _).2) (λ c W6 j=>(am j λ WT WU=>?_)) λ _ _ A=>A) o.2);subst WT WU;refine b3 rfl C.there ?_;rw[if_pos rfl];exact lG (q:={WW with heap:=y}) z WV C λ WO j=>d6 j λ WX W8 W9 WY W'=>am (r WO WX (G.trans WY)) λ M Y=>aG (WM X w _ L p H _ _ WP V N (FB.around (o:=d) (VW:=d.mark (some (.ref e))) rfl M)) (λ f W7 q=>(fin _ _ ((c'.around (o:=d.mark (some (.ref e))) (VW:=d) rfl q).after Y))) λ _ _ A=>A
def St.vv{l h:List bP}(N:D.lookup j=some (.p l))(WV:Ev u g i z (Li h))(WY:l.length+h.length<=a9)(WU:autoParam ((j==("__debug__":Str))=ap) ew)(t:autoParam (∀WK c,bD (z::WK) c=(ap,He z c)::bD WK c) bc)(WT:autoParam (∀c,J9 (.Name j v) (ac "extend") c (He (.Name j v) c)=He (.Name j v) c) cN)(WW:autoParam ((J.endLine==Vg.line)=true) bc):St A u g i D (.Expr (.Call (.Attribute (.Name j v) (ac "extend") J) [z] [] Vg) VA) (.next i (b8 j (.p (l++h)) D)):=λ X w H WQ c W9 s E m WO O F=>by
 refine O' ?_ (by unfold On;rw[F.er.scope,F.er.kind];rfl);have L:(L7 Vg (bD [z] c)).any (·.1)=ap:=by rw[t];rfl
 refine JC (WT c) (by rw[t];rfl) WW (h3 F N WU λ a B WX WR V W6=>?_);refine am (PlainList.ln V rfl) λ W' Xa=>⟨"list","list.extend",Jt,PH,PySem.F.type_list_extend,W',Xa,?_⟩;rw[t]at L⊢;refine Ip L (b1 ?_);have U:=a6.use WQ (z:=Vg) (E:=E) (.cons WV .nil t) (s:=s) (e:=s) (Q:=λ WM d=>aA (au P0 w) H (I1 (.builtin "list.extend") ([.ref a]++WM)) (λ Xb d=>match Xb with|.ref _=>False|_=>c' A X w H g c W9 O s .next d (.next i (b8 j (.p (l++h)) D))) E d) F.er (Kp.refl s) λ WM d W8 kp _ _=>by
  refine ak W8.one λ Xe W2 r=>?_;obtain rfl:=W2;refine bI r.list λ b f as W3 T W4 Y=>?_;obtain rfl:=W3;obtain⟨W0,WS⟩:=W4;have WL:RO (aL X c O) d.heap B (.p l):=W6.b0 λ b o _ z=>kp.keep b o z;refine ai (V.at λ o z=>kp.keep _ _ z) λ n C=>?_;have l2:=cy Y;have G:B.toArray.size+f.toArray.size<=a9:=by simp only[I8,WL.len,l2];exact WY
  refine Kx PH ⟨_,C,rfl⟩ PySem.F.entry_list_extend (PySem.F.args_list_extend_2 _ _) (AutoSeq1.list_extend_list_list_0 a B.toArray n b f.toArray W0 (extend_door G) (an (dx _ _) G) (JY G)) ⟨C,WS,?_⟩;have M:=gR d.heap a (wx λ A=>A++f.toArray);refine ai WL λ Xd W5=>?_;have W7:RO (aL X c O) (d.heap.update a (wx λ A=>A++f.toArray)) (B++f) (.p (l++h)):=RO.b0 (λ b o T z=>M.extBut b o (λ q=>T (.inr (q▸WR))) z) (m7 W5 Y);have W1:(d.heap.update a (wx λ A=>A++f.toArray)).PlainList a (B++f).toArray:=⟨_,by rw[cQ _ C (by rw[mapSeq_app];rfl),mapSeq_app,List.append_toArray]⟩;exact am ((F.kp kp).lm (a:=d.toks) N WX W1 M W7) λ WN fr=>⟨rfl,m,WO,O,WN,(aZ.bR F.hO kp).trans fr⟩
 rw[t]at U;exact U
def St.vw(h:Ev u g (seen i D) z V)(c:eW V)(r:ce g j=true)(t:ce g Vd=true)(o:autoParam (∀a,(K3 [.Name j v,.Name Vd J] a).map (·.2)=[Oo (.Name j v) a,Oo (.Name Vd J) a]) cN)(q:autoParam (∀a,J8 [.Name j v,.Name Vd J] z a=jq none) cN):St A u g i D (.Assign [.Name j v,.Name Vd J] z Vg) (.next ((Vd,V)::(j,V)::i) (bu Vd (bu j D))):=λ X w H n a T s E m L O F=>wpAny_Assign_two (h.use n F.reads (Kp.refl s) λ WK Q d u _ _=>by
  refine LZ ((F.kp u).store (dL r) (c.any d) λ U N M b C=>?_);exact LZ (b.store (dL t) (c.any d) λ Y B l f G=>⟨rfl,B,l,O,f,(aZ.bR F.hO u).trans ((aZ.dn F.hO C).trans (.dn b.hO G))⟩)) (o a) (q a)
noncomputable def bY(l:List Str)(u:Str)(i:Nat):Nat:=i+((l.drop i).takeWhile (·==u)).length
def q0(c:b<((G.drop a).takeWhile (·==j)).length):a+b<G.length/\G.getD (a+b) aR=j:=by
 have d:(G.drop a).takeWhile (·==j)<+:G.drop a:=List.takeWhile_prefix _;have h:((G.drop a).takeWhile (·==j))[b]=j:=by
  have :=List.all_takeWhile (l:=G.drop a) (p:=(·==j));have :=(H7.mp this) _ (IK c);exact pV this
 have e:b<(G.drop a).length:=bA c d.length_le;have f:=d.getElem c;simp only[MU]at e;have g:a+b<G.length:=iz e;refine⟨g,?_⟩;rw[av,ay g];simp only[OR]at f;exact f.symm.trans h
def vx{l:List Str}{u:Str}{i:Nat}(d:bY l u i<l.length):l.getD (bY l u i) aR≠u:=by
 intro e;unfold bY at d e;have :∀(m:List Str)(h:(m.takeWhile (·==u)).length<m.length),(m[(m.takeWhile (·==u)).length]'h==u)=ap:=by
   intro m;induction m with
   |nil=>intro h;simp at h|cons a r j=>
     intro h;refine gy (M:=a==u) (λ b=>?_) λ b=>?_;·simp only[Md,b];exact b
     · simp only[Md,b,if_true,y3]at h⊢;exact j (by simpa using h)
 have g:((l.drop i).takeWhile (·==u)).length<(l.drop i).length:=by simp only[MU];exact sb d
 have c:=this _ g;rw[OR]at c;rw[av,ay d]at e;have f:l[i+((l.drop i).takeWhile (·==u)).length]=u:=e;rw[f,beq_self_eq_true]at c;cases c
def Db(h:a<G.length):(G.map tl)[((a:Nat):Int).toNat]?=some (.str (G.getD a aR)):=by simp only[b4,a',av,ay h];rfl
def Ev.lH(d:Ev u g i z (Lt G))(e:Ev u g i Vl (I (a:Int)))(h:a<G.length)(f:a<2^62)(j:autoParam (∀o c,Mj Vl ap (.ref o) (.int (a:Int) c)=Pw [.ref o,.int (a:Int) c] (NN (.ref o) (.int (a:Int) c))) ir):Ev u g i (.Subscript z Vl v) (S (G.getD a aR)):=Ev.dI (Vm:=G.map .str) d e (dh) (hI f (aE true)) (Db h) j
def vy(a b:Str):KD (.str a) (.str b)=(a==b):=by first|rfl|(unfold KD;rfl)
def St.run{d:Str}{q r s w z p6 p7 p8 p9:Pos}(J:∀a,(seen ((Vd,I a)::i) D).lookup j=some (Lt G))(C:∀a,(seen ((Vd,I a)::i) D).lookup Wn=some (S d))(T:∀a,(seen ((Vd,I a)::i) D).lookup Vd=some (I a))(V:dX g j=true)(WK:dX g Vd=true)(Y:dX g Wn=true)(WR:ce g Vd=true)(U:bu Vd D=D)(E:(Vd==("__classdict__":Str))=ap)(O:∀B n,Sub ((Vd,I n)::i) ((Vd,I n)::(Vd,I B)::i))(N:∀y∈G,cs y=true)(Q:cs d=true)(o:bY G d a<G.length)(H:G.length<=1000):St A u g ((Vd,I (a:Int))::i) D (.While (.Compare (.Subscript (.Name j q) (.Name Vd r) s) [.Eq] [.Name Wn w] z) [.AugAssign (.Name Vd p6) .Add (.Constant (.int 1) b p7) p8] [] p9) (.next ((Vd,I (bY G d a:Nat))::i) D):=by
 have p:∀f,f<G.length->Tr u g (seen ((Vd,I (f:Nat))::i) D) (.Compare (.Subscript (.Name j q) (.Name Vd r) s) [.Eq] [.Name Wn w] z) (G.getD f aR==d):=λ f h=>by
   have M:G.getD f aR∈G:=by simp only[av,ay h];exact IK h
   exact Tr.eq (Tr.cmp (aD.eq (cz.str (N _ M)) (cz.str Q)) (Ev.lH (Ev.nm (J _) V) (Ev.nm (T _) WK) h (e5 h H (aE true))) (Ev.nm (C _) Y)) (vy _ _)
 refine St.lq (VY:=.next ((Vd,I (bY G d a:Nat))::i) D) ((G.drop a).takeWhile (·==d)).length (λ t=>(Vd,I ((a+t:Nat):Int))::i) (λ _=>D) (λ t=>.next ((Vd,I (((a+t:Nat):Int)+1))::(Vd,I ((a+t:Nat):Int))::i) (bu Vd D)) (λ t m=>?_) (λ t m=>?_) (λ t m=>?_) (.inl ⟨?_,rfl⟩);·exact am (q0 m) λ WP WQ=>Tr.eq (p _ WP) (by rw[WQ,beq_self_eq_true])
 ·exact ag.cons (St.fL (by simp[aN]) .int WR E) ag.nil
 · exact ⟨by have :=O ((a+t:Nat):Int) ((a+(t+1):Nat):Int);have e:((a+t:Nat):Int)+1=((a+(t+1):Nat):Int):=rfl;refine e.symm▸?_;exact this,U⟩
 ·exact Tr.eq (p _ o) (beq_eq_false_iff_ne.mpr (vx o))
noncomputable abbrev cY(a b:Str):Bool:=bF (a.cps.toList<b.cps.toList)
abbrev nW:=Nat×Nat×List Str×List Str
noncomputable def fR(b a:List Str)(q:nW):nW:=if cY (b.getD q.1 aR) (a.getD q.2.1 aR)then(bY b (b.getD q.1 aR) (q.1+1),q.2.1,q.2.2.1++[b.getD q.1 aR],q.2.2.2)else if cY (a.getD q.2.1 aR) (b.getD q.1 aR)then(q.1,bY a (a.getD q.2.1 aR) (q.2.1+1),q.2.2.1,q.2.2.2++[a.getD q.2.1 aR])else(bY b (b.getD q.1 aR) (q.1+1),bY a (a.getD q.2.1 aR) (q.2.1+1),q.2.2.1,q.2.2.2)
noncomputable def dN(b a:List Str)(q:nW):Bool:=q.1+1==b.length&&q.2.1+1==a.length
noncomputable def aM(WL as:List Str):Nat->nW
 |0=>(0,0,[],[])|t+1=>if dN WL as (aM WL as t)then aM WL as t else fR WL as (aM WL as t)
structure cS(a:List Str)(z:Str):Prop where
 last:∃E,a=E++[z]/\∀y∈E,cY y z=true
 ok:∀y∈a,cs y=true
 len:a.length<=500
def j'(a:Str):cY a a=ap:=decide_eq_false (NE _)
def vz(h:cY j Vd=true):cY Vd j=ap:=decide_eq_false λ q=>NE _ (List.lt_trans (of_decide_eq_true h) q)
def q1(h:cY j Vd=ap)(c:cY Vd j=ap):j=Vd:=by
 have :j.cps.toList=Vd.cps.toList:=List.le_antisymm (NC.mp (of_decide_eq_false c)) (NC.mp (of_decide_eq_false h));obtain⟨⟨j⟩⟩:=j;obtain⟨⟨Vd⟩⟩:=Vd;simp only at this;rw[this]
def cS.at(H:cS G j):1<=G.length/\G.getD (G.length-1) aR=j/\∀i,i+1<G.length->cY (G.getD i aR) j=true:=by
 refine ak H.last ?_;rintro E rfl h;refine b3 (by simp) (by simp) (λ i b=>?_);have a:i<E.length:=by simpa using b
 have e:(E++[j]).getD i aR=E[i]:=by simp only[av,GZ a,ay a];rfl
 exact e.symm▸(h _ (IK a))
def cS.skip(H:cS G j)(b:a<G.length)(c:cY Vd j=true):bY G Vd a<G.length:=by
 refine a4 H.at λ g d h=>MY λ q=>?_;have f:G.length-1-a<((G.drop a).takeWhile (·==Vd)).length:=by unfold bY at q;exact se (mq q b) (jn b)
 refine am (q0 f) λ _ e=>?_;rw[show a+(G.length-1-a)=G.length-1 by exact fz (jn b),d]at e;rw[<-e,j']at c;cases c
theorem ka{b a:List Str}{z:Str}(H:cS b z)(m:cS a z):∀t,(aM b a t).1<b.length/\(aM b a t).2.1<a.length/\(aM b a t).2.2.1.length<=(aM b a t).1/\(aM b a t).2.2.2.length<=(aM b a t).2.1/\(dN b a (aM b a t)=ap->t<=(aM b a t).1+(aM b a t).2.1)
 |0=>⟨H.at.1,m.at.1,aB 0,aB 0,λ _=>dk _⟩|t+1=>by
   refine aj λ w=>d6 (ka H m t) λ l f n o B=>w ?_;unfold aM;rcases c:dN b a (aM b a t)with _|_
   · rw[if_neg (λ h=>by cases h)];have s:=B c;generalize aM b a t=q at*;refine aj λ w=>?_;obtain⟨i,j,M,U⟩:=q;simp only at l f n o s;refine a4 H.at λ _ A r=>a4 m.at λ _ y p=>w ?_;unfold dN at c;simp only[Bool.and_eq_false_iff,beq_eq_false_iff_ne]at c;have u:i+1=b.length->b.getD i aR=z:=λ q=>by simp only[<-A];congr 1;exact jf q
     have v:j+1=a.length->a.getD j aR=z:=λ q=>by simp only[<-y];congr 1;exact jf q
     unfold fR;simp only;cases g:cY (b.getD i aR) (a.getD j aR)with
     |true=>
       have d:i+1<b.length:=by
         refine Ir l λ q=>?_;rw[u q]at g;by_cases e:j+1=a.length;·rw[v e,j']at g;cases g
         ·rw[vz (p j (oJ f e))]at g;cases g
       have :=H.skip d (r i d);rw[if_pos rfl];refine g1 this f ?_ o (λ _=>?_);·simp only[eH,y3,L4];unfold bY;exact sq n
       · show t+1<=bY b _ (i+1)+j;unfold bY;exact yy s|false=>
       rw[if_neg (λ h=>by cases h)];cases k:cY (a.getD j aR) (b.getD i aR)with
       |true=>
         have e:j+1<a.length:=by
           refine Ir f λ q=>?_;rw[v q]at k;by_cases d:i+1=b.length;·rw[u d,j']at k;cases k
           ·rw[vz (r i (oJ l d))]at k;cases k
         have :=m.skip e (p j e);rw[if_pos rfl];refine g1 l this n ?_ (λ _=>?_);·simp only[eH,y3,L4];unfold bY;exact sq o
         · show t+1<=i+bY a _ (j+1);unfold bY;exact yz s|false=>
         have x:=q1 g k;have d:i+1<b.length:=by
           refine Ir l λ q=>?_;rcases c with c|c;·exact c q
           · have :=p j (oJ f c);rw[<-x,u q,j']at this;cases this
         have e:j+1<a.length:=by
           refine Ir f λ q=>?_;have :=r i d;rw[x,v q,j']at this;cases this
         rw[if_neg (λ h=>by cases h)];refine g1 (H.skip d (r i d)) (m.skip e (p j e)) ?_ ?_ (λ _=>?_);·simp only;unfold bY;exact j4 (ix n) dG
         ·simp only;unfold bY;exact j4 (ix o) dG
         · show t+1<=bY b _ (i+1)+bY a _ (j+1);unfold bY;exact yx s
   ·rw[if_pos rfl];exact g1 l f n o (λ q=>by rw[c]at q;cases q)
def Dc(H:cS G j)(c:cS VJ j)(b:dN G VJ (aM G VJ a)=ap):aM G VJ (a+1)=fR G VJ (aM G VJ a):=by
 show(if dN G VJ (aM G VJ a)then aM G VJ a else fR G VJ (aM G VJ a))=_;rw[b,if_neg (λ h=>by cases h)]
theorem vA(b a:List Str){N:Nat}(h:dN b a (aM b a N)=true):∀t,aM b a (N+t)=aM b a N
 |0=>rfl|t+1=>by
  show(if dN b a (aM b a (N+t))then aM b a (N+t)else _)=_;rw[(vA b a h t),h,if_pos rfl]
def Dd(H:cS G j)(g:cS VJ j):∃N,dN G VJ (aM G VJ N)=true/\(∀t,t<N->dN G VJ (aM G VJ t)=ap)/\aM G VJ (G.length+VJ.length)=aM G VJ N:=by
 have i:∃N,N<=G.length+VJ.length/\dN G VJ (aM G VJ N)=true:=by
   refine bj (G.length+VJ.length) (aB _) ?_;rcases d:dN G VJ (aM G VJ (G.length+VJ.length))with _|_
   · refine d6 (ka H g (G.length+VJ.length)) λ a b _ _ c=>?_;have :=c d;exact sE a b this
   ·rfl
 have s:∀(p:Nat->Bool)(n:Nat),p n=true->∃m,m<=n/\p m=true/\∀t,t<m->p t=ap:=by
   intro p n;induction n using Nat.strongRecOn with|_ n r=>
     intro o;by_cases f:∃t,t<n/\p t=true;·exact ak f λ t e k=>ci (r t e k) λ m a b c=>dU m (by exact j4 a (j5 e)) b c
     ·exact⟨n,aB _,o,λ t q=>by
         rcases h:p t with _|_;·rfl
         ·exact(f ⟨t,q,h⟩).elim⟩
 refine aj λ u=>ak i λ N l d=>ci (s (λ t=>dN G VJ (aM G VJ t)) N d) λ m a b c=>u (dU m b c ?_);have :=vA G VJ b (G.length+VJ.length-m);rw[show m+(G.length+VJ.length-m)=G.length+VJ.length by exact fz (j4 a l)]at this;exact this
def De(P:a3):a5 P (ac "IndexError")=none/\cR P (ac "IndexError")=some (.type "IndexError"):=⟨by lia,by lia⟩
def vB:cu 184 183 (bB [24]) (a0 [24]) [nm "expected",nm "actual"]:=cu.mk' (λ P=>by lia) (λ P=>by lia) (λ P=>⟨by lia,by lia,by lia,by lia,by lia,by lia⟩) (by decide) (by lia) (by lia) ⟨by rfl,by rfl⟩ (by lia) (by lia) (by lia)
def St.Df{j l n:List (Str×PV)}{o p q:List (Str×OL)}(H:ag A u g j o Vp (.next l p))(J:ag A u g l p (V1::Wg) (.next n q)):St A u g j o (.Try Vp [] [] (V1::Wg) v) (.next n q):=λ X w c h d i s E m B O F=>TE (aG (H X w c h d i s _ m B O F) (λ f N⟨e,L,C,y,r,a⟩=>by
  subst e;refine J2 (aG (J X w c h d i N _ L C y r) (λ Q T⟨G,M,D,z,t,b⟩=>?_) λ _ _ A=>A);subst G;exact⟨rfl,M,D,z,t,a.trans b⟩) λ _ _ A=>A)
noncomputable abbrev fm(b a:List Str)(i j:Nat):List (Str×PV):=[(nm "i",I (i:Int)),(nm "j",I (j:Int)),(nm "expected",Lt b),(nm "actual",Lt a)]
noncomputable abbrev dO(M U:List Str):List (Str×OL):=[(nm "unexpected",.p (U.map .str)),(nm "missing",.p (M.map .str))]
noncomputable def nX:Il:=(cE ((bB [24]).getD 4 b2)).body.getD 0 b2
noncomputable def lI:List Il:=(cE nX).body
def vC(H:cS G j)(b:a<G.length):cs (G.getD a aR)=true:=H.ok _ (by simp only[av,ay b];exact IK b)
def Dg{k:Lv}(H:cS G j)(n:cS VJ j){M U:List Str}(r:a<G.length)(t:x<VJ.length)(E:M.length<=500)(J:U.length<=500)(f:(fR G VJ (a,x,M,U)).1<G.length)(g:(fR G VJ (a,x,M,U)).2.1<VJ.length):∃m,ag A k (a0 [24]) (fm G VJ a x) (dO M U) lI (.next m (dO (fR G VJ (a,x,M,U)).2.2.1 (fR G VJ (a,x,M,U)).2.2.2))/\Sub (fm G VJ (fR G VJ (a,x,M,U)).1 (fR G VJ (a,x,M,U)).2.1) m:=by
 have O:(2000:Nat)<=a9:=by decide
 have v:=H.len;have w:=n.len;have C:=vC H r;have B:=vC n t;unfold fR at f g⊢;simp only at f g⊢;generalize N:G.getD a aR=e at*;generalize L:VJ.getD x aR=d at*;have start:∀{m:List (Str×PV)}{D:List (Str×OL)},(St A k (a0 [24]) ((nm "a",S d)::(nm "e",S e)::fm G VJ a x) (dO M U) (match lI with|[_,_,s]=>s|_=>b2) (.next m D))->ag A k (a0 [24]) (fm G VJ a x) (dO M U) lI (.next m D):=λ h=>by refine ag.cons (St.assign (V:=S e) (by refine N▸?_;exact Ev.lH Ev.nm Ev.nm r (e5 r v (aE true))) (by rfl)) (ag.cons (St.assign (V:=S d) (by refine L▸?_;exact Ev.lH Ev.nm Ev.nm t (e5 t w (aE true))) (by rfl)) (ag.cons h ag.nil))
 rcases c1:cY e d with _|_
 · rw[c1,if_neg (λ h=>by cases h)]at f g;rw[if_neg (λ h=>by cases h)];cases c2:cY d e with
   |true=>
     rw[c2,if_pos rfl]at f g;rw[if_pos rfl];refine bj ((nm "j",I (bY VJ d (x+1):Nat))::(nm "a",S d)::(nm "e",S e)::[(nm "i",I (a:Int)),(nm "expected",Lt G),(nm "actual",Lt VJ)]) (start (St.ite (M:=ap) (Tr.eq (Tr.cmp aD.jG Ev.nm Ev.nm) c1) (λ q=>by cases q) (λ _=>ag.cons (St.ite (M:=true) (Tr.eq (Tr.cmp aD.k' Ev.nm Ev.nm) c2) (λ _=>?_) (λ q=>by cases q)) ag.nil))) ⟨rfl,rfl,rfl,rfl,trivial⟩;have o:dO M (U++[d])=[(nm "unexpected",.p (U.map .str++[.str d])),(nm "missing",.p (M.map .str))]:=by unfold dO;rw[fs];rfl
     simp only[o];refine ag.cons (St.append (j:=nm "unexpected") (l:=.p (U.map .str)) (V:=S d) (by rfl) (.inl Ev.nm) (by rfl) (by show(U.map tl).length<=a9;simp;exact a2 J (aE true))) (ag.cons (St.fL (C:=(x:Int)) (Vq:=1) (by rfl) .int (by rfl)) ?_);refine ag.weaken (VN:=(nm "j",I ((x+1:Nat):Int))::(nm "a",S d)::(nm "e",S e)::[(nm "i",I (a:Int)),(nm "expected",Lt G),(nm "actual",Lt VJ)]) (ag.cons (St.run (G:=VJ) (d:=d) (λ _=>by rfl) (λ _=>by rfl) (λ _=>by rfl) (by rfl) (by rfl) (by rfl) (by rfl) (by rfl) (by rfl) (λ _ _=>⟨rfl,rfl,rfl,rfl,rfl,rfl,trivial⟩) n.ok B g (a2 w (aE true))) ag.nil) ⟨by rw[Kv];rfl,rfl,rfl,rfl,rfl,rfl,trivial⟩|false=>
     rw[c2,if_neg (λ h=>by cases h)]at f g;rw[if_neg (λ h=>by cases h)];have Q:=q1 c1 c2;refine bj ((nm "j",I (bY VJ d (x+1):Nat))::(nm "i",I (bY G e (a+1):Nat))::(nm "a",S d)::(nm "e",S e)::[(nm "expected",Lt G),(nm "actual",Lt VJ)]) (start (St.ite (M:=ap) (Tr.eq (Tr.cmp aD.jG Ev.nm Ev.nm) c1) (λ q=>by cases q) (λ _=>ag.cons (St.ite (M:=ap) (Tr.eq (Tr.cmp aD.k' Ev.nm Ev.nm) c2) (λ q=>by cases q) (λ _=>?_)) ag.nil))) ⟨rfl,rfl,rfl,rfl,trivial⟩;refine ag.cons (St.fL (C:=(a:Int)) (Vq:=1) (by rfl) .int (by rfl)) (ag.weaken (VN:=(nm "i",I ((a+1:Nat):Int))::(nm "a",S d)::(nm "e",S e)::[(nm "j",I (x:Int)),(nm "expected",Lt G),(nm "actual",Lt VJ)]) (ag.cons (St.Df (ag.cons (St.run (G:=G) (d:=e) (λ _=>by rfl) (λ _=>by rfl) (λ _=>by rfl) (by rfl) (by rfl) (by rfl) (by rfl) (by rfl) (by rfl) (λ _ _=>⟨rfl,rfl,rfl,rfl,rfl,rfl,trivial⟩) H.ok C f (a2 v (aE true))) ag.nil) (ag.cons (St.fL (C:=(x:Int)) (Vq:=1) (by rfl) .int (by rfl)) ?_)) ag.nil) ⟨by rw[Kv];rfl,rfl,rfl,rfl,rfl,rfl,trivial⟩);exact ag.weaken (VN:=(nm "j",I ((x+1:Nat):Int))::(nm "i",I (bY G e (a+1):Nat))::(nm "a",S d)::(nm "e",S e)::[(nm "expected",Lt G),(nm "actual",Lt VJ)]) (ag.cons (St.run (G:=VJ) (d:=d) (λ _=>by rfl) (λ _=>by rfl) (λ _=>by rfl) (by rfl) (by rfl) (by rfl) (by rfl) (by rfl) (by rfl) (λ _ _=>⟨rfl,rfl,rfl,rfl,rfl,rfl,trivial⟩) n.ok B g (a2 w (aE true))) ag.nil) ⟨by rw[Kv];rfl,rfl,rfl,rfl,rfl,rfl,trivial⟩
 · rw[c1,if_pos rfl]at f g;rw[if_pos rfl];refine bj ((nm "i",I (bY G e (a+1):Nat))::(nm "a",S d)::(nm "e",S e)::[(nm "j",I (x:Int)),(nm "expected",Lt G),(nm "actual",Lt VJ)]) (start (St.ite (M:=true) (Tr.eq (Tr.cmp aD.jG Ev.nm Ev.nm) c1) (λ _=>?_) (λ q=>by cases q))) ⟨rfl,rfl,rfl,rfl,trivial⟩;have o:dO (M++[e]) U=[(nm "unexpected",.p (U.map .str)),(nm "missing",.p (M.map .str++[.str e]))]:=by unfold dO;rw[fs];rfl
   simp only[o];refine ag.cons (St.append (j:=nm "missing") (l:=.p (M.map .str)) (V:=S e) (by rfl) (.inl Ev.nm) (by rfl) (by show(M.map tl).length<=a9;simp;exact a2 E (aE true))) (ag.cons (St.fL (C:=(a:Int)) (Vq:=1) (by rfl) .int (by rfl)) ?_);refine ag.weaken (VN:=(nm "i",I ((a+1:Nat):Int))::(nm "a",S d)::(nm "e",S e)::[(nm "j",I (x:Int)),(nm "expected",Lt G),(nm "actual",Lt VJ)]) (ag.cons (St.run (G:=G) (d:=e) (λ _=>by rfl) (λ _=>by rfl) (λ _=>by rfl) (by rfl) (by rfl) (by rfl) (by rfl) (by rfl) (by rfl) (λ _ _=>⟨rfl,rfl,rfl,rfl,rfl,rfl,trivial⟩) H.ok C f (a2 v (aE true))) ag.nil) ⟨by simp only[Kv];rfl,rfl,rfl,rfl,rfl,rfl,trivial⟩
def Dh(h:A.t=true)(H:cS G j)(g:cS VJ j){M U:List Str}(c:Vs+1=G.length)(d:V5+1=VJ.length)(r:M.length<=500)(s:U.length<=500):∃v,ag A (x,true) (a0 [24]) (fm G VJ Vs V5) (dO M U) [nX] (.brk v (dO M U)):=by
 have w:(2000:Nat)<=a9:=by decide
 have e:=H.len;have f:=g.len;have q:G.getD Vs aR=j:=by rw[<-H.at.2.1];congr 1;exact jf c
 have m:VJ.getD V5 aR=j:=by rw[<-g.at.2.1];congr 1;exact jf d
 have k:=j' j;have o:dO M U=[(nm "unexpected",.p (U.map .str++[])),(nm "missing",.p (M.map .str++[]))]:=by simp
 refine⟨(nm "j",I ((V5:Int)+1))::(nm "i",I ((Vs:Int)+1))::(nm "a",S j)::(nm "e",S j)::fm G VJ Vs V5,ag.last (St.C' (VF:="IndexError") (VN:=(nm "j",I ((V5:Int)+1))::(nm "i",I ((Vs:Int)+1))::(nm "a",S j)::(nm "e",S j)::fm G VJ Vs V5) (V0:=dO M U) ?_ De (by rfl) (by rw[kF];lia) (by rw[kF];lia) (by rw[kF];lia) ?_) trivial⟩
 · refine dZ.cons (St.assign (V:=S j) (by refine q▸?_;exact Ev.lH Ev.nm Ev.nm (kK c) (bA (kK c) (a2 e (aE true)))) (by rfl)) (dZ.cons (St.assign (V:=S j) (by refine m▸?_;exact Ev.lH Ev.nm Ev.nm (kK d) (bA (kK d) (a2 f (aE true)))) (by rfl)) (dZ.first (fQ.vt (Tr.eq (Tr.cmp aD.jG Ev.nm Ev.nm) k) (dZ.first (fQ.vt (Tr.eq (Tr.cmp aD.k' Ev.nm Ev.nm) k) (dZ.cons (St.fL (C:=(Vs:Int)) (Vq:=1) (by rfl) .int (by rfl)) (dZ.first (fQ.C9 (D:="IndexError") (dZ.first (fQ.vu h ?_)) (dZ.cons (St.fL (C:=(V5:Int)) (Vq:=1) (by rfl) .int (by rfl)) (dZ.first (fQ.vu h ?_)))))))))));·exact lF.cmp (lE.vq (Vm:=G.map .str) (a:=Vs+1) Ev.nm Ev.nm (by simp;exact j7 c) (fC (dS c e) rfl))
   ·exact lF.cmp (lE.vq (Vm:=VJ.map .str) (a:=V5+1) Ev.nm Ev.nm (by simp;exact j7 d) (fC (dS d f) rfl))
 · have t:eE (G.map tl) (some ((Vs:Int)+1)) none=[]:=by rw[show(Vs:Int)+1=((Vs+1:Nat):Int)from rfl,qQ _ _ (by simp;exact j6 c)];simp;exact j7 c
   have u:eE (VJ.map tl) (some ((V5:Int)+1)) none=[]:=by rw[show(V5:Int)+1=((V5+1:Nat):Int)from rfl,qQ _ _ (by simp;exact j6 d)];simp;exact j7 d
   refine ag.cons (St.vv (j:=nm "missing") (l:=M.map .str) (h:=[]) (by rfl) (by rw[<-t];exact Ev.slice Ev.nm (.some Ev.nm) .none (by simp;exact a2 e (aE true))) (by simp;exact a2 r (aE true))) (ag.cons (St.vv (j:=nm "unexpected") (l:=U.map .str) (h:=[]) (by rfl) (by rw[<-u];exact Ev.slice Ev.nm (.some Ev.nm) .none (by simp;exact a2 f (aE true))) (by simp;exact a2 s (aE true))) (ag.last ?_ trivial));rw[o];exact St.brk
def Di:∃h p,nX=.Try lI [h] [] [] p:=⟨_,_,rfl⟩
def Dj(J:A.t=true)(H:cS G j)(c:cS VJ j):ag A (a,true) (a0 [24]) ([nm "expected",nm "actual"].zip [Lt G,Lt VJ]) [] (bB [24]) (.ret (Tu [Ld (aM G VJ (G.length+VJ.length)).2.2.1,Ld (aM G VJ (G.length+VJ.length)).2.2.2])):=by
 refine aj λ h=>ci (Dd H c) λ N i C D=>h ?_;have o:=H.len;have r:=c.len;refine D.symm▸?_;have g:(aM G VJ N).1+1=G.length/\(aM G VJ N).2.1+1=VJ.length:=by
   unfold dN at i;simpa only[kn,beq_iff_eq]using i
 have Q:∀t,t<N->∃f,ag A (a,true) (a0 [24]) (fm G VJ (aM G VJ t).1 (aM G VJ t).2.1) (dO (aM G VJ t).2.2.1 (aM G VJ t).2.2.2) lI (.next f (dO (aM G VJ (t+1)).2.2.1 (aM G VJ (t+1)).2.2.2))/\Sub (fm G VJ (aM G VJ (t+1)).1 (aM G VJ (t+1)).2.1) f:=λ t d=>by
   refine d6 (ka H c t) λ v w L O _=>a4 (ka H c (t+1)) λ s u _=>?_;rw[Dc H c (C t d)]at s u⊢;exact Dg H c v w (j4 L (j4 (j5 v) o)) (j4 O (j4 (j5 w) r)) s u
 refine aj λ h=>d6 (ka H c N) λ m1 m2 m3 m4 _=>ai (Dh (A:=A) (x:=a) J H c g.1 g.2 (M:=(aM G VJ N).2.2.1) (U:=(aM G VJ N).2.2.2) (j4 (ix m3) (dS g.left o)) (j4 (ix m4) (dS g.right r))) λ T E=>cP Di λ V Y e=>h ?_;have m:∀t,∃f:List (Str×PV),t<N->(ag A (a,true) (a0 [24]) (fm G VJ (aM G VJ t).1 (aM G VJ t).2.1) (dO (aM G VJ t).2.2.1 (aM G VJ t).2.2.2) [nX] (.next f (dO (aM G VJ (t+1)).2.2.1 (aM G VJ (t+1)).2.2.2))/\Sub (fm G VJ (aM G VJ (t+1)).1 (aM G VJ (t+1)).2.1) f):=λ t=>by
   by_cases d:t<N
   · refine ak (Q t d) λ f B b=>⟨f,λ _=>⟨?_,b⟩⟩;rw[e];exact ag.cons (St.iU B) ag.nil
   ·exact⟨[],λ q=>(d q).elim⟩
 let y:=λ t=>Oc (m t);have k:=λ t=>Kd (m t);refine ag.cons St.doc (ag.cons (St.vw (V:=I 0) .int .int (by rfl) (by rfl)) (ag.cons (St.own (VX:=.p []) (ei.nil (.inl rfl)) (by rfl)) (ag.cons (St.own (VX:=.p []) (ei.nil (.inl rfl)) (by rfl)) (ag.weaken (VN:=fm G VJ 0 0) (ag.cons (St.lq (VY:=.next T (dO (aM G VJ N).2.2.1 (aM G VJ N).2.2.2)) N (λ t=>fm G VJ (aM G VJ t).1 (aM G VJ t).2.1) (λ t=>dO (aM G VJ t).2.2.1 (aM G VJ t).2.2.2) (λ t=>.next (y t) (dO (aM G VJ (t+1)).2.2.1 (aM G VJ (t+1)).2.2.2)) (λ t _=>Tr.true) (λ t d=>(k t d).1) (λ t d=>⟨(k t d).2,rfl⟩) (.inr ⟨_,Tr.true,E,rfl⟩)) (ag.last (St.ret (Ev.tuple (Vm:=[Ld _,Ld _]) (f:=by show 2<=a9;decide) (.cons Ev.nm (.cons Ev.nm .nil)))) trivial)) ⟨rfl,rfl,rfl,rfl,trivial⟩))))
def Dk(H:cS G j)(c:cS VJ j):ef (a+1,true) (.ref 184) [Lt G,Lt VJ] (Tu [Ld (aM G VJ (G.length+VJ.length)).2.2.1,Ld (aM G VJ (G.length+VJ.length)).2.2.2]):=ef.of (j:=ac "sorted_list_difference"++ac ".<locals>.") vB (λ P doc f d=>by
  refine cP (d9 d) ?_;rintro e b rfl;lia) rfl (λ P=>by lia) (Dj rfl H c)
def ag.lJ(o:D.lookup j=some VX)(h:∀a,ag A u g ((j,.raw (.ref a))::i) D Vp VY):ag A u g i D Vp VY:=λ X w c n f t s E m d O F=>by
 obtain⟨a,G,q,r,v,B,C⟩:=F.own j VX o;refine h a X w c n f t s E m d O {F with er:={F.er with vars:=λ z p e=>?_}};rw[aN]at e;refine gy (M:=z==j) (λ b=>?_) λ b=>?_;·rw[b]at e;exact F.er.vars z p e
 · rw[b]at e;obtain rfl:=ax e;obtain rfl:=pV b;unfold cc;exact q.symm▸⟨m,_,F.ns,r,rfl⟩
def RO.nY{X:ae->Prop}{h:a7}{c:List ab}{l:List bP}(r:RO X h c (.p l)):RO X h c (.m (l.map .d)):=by
 obtain⟨e,r⟩:=r;induction l generalizing c e with
 |nil=>rw[(gi r).1];exact aU.nil|cons d l f=>
  obtain⟨_,_,_,_,rfl,_,a,b⟩:=eT r;exact aU.cons ⟨_,a⟩ (f _ b)
def ag.nY(r:D.lookup j=some (.p Vm))(h:ag A u g i (b8 j (.m (Vm.map .d)) D) Vp VY):ag A u g i D Vp VY:=λ X w t H G Y s E m v O F=>by
 have iT:∀z c,(b8 j (.m (Vm.map .d)) D).lookup z=some c->∃V,D.lookup z=some V:=λ z c h=>by
   refine aH (jP h) (λ o=>?_) λ q=>?_
   · obtain⟨rfl,_⟩:=o;exact⟨_,r⟩
   · obtain⟨_,h⟩:=q;exact⟨_,h⟩
 refine h X w t H G Y s E m v O {F with own:=λ z c e=>?_,nodup:=by simp only[qq];exact F.nodup,apart:=λ z WL c WM b f n B C=>?_}
 · refine aH (jP e) (λ o=>?_) λ q=>?_
   · obtain⟨rfl,rfl⟩:=o;obtain⟨a,vs,J,L,M,N,Q⟩:=F.own z _ r;exact⟨a,vs,J,L,M,N,Q.nY⟩
   · obtain⟨_,e⟩:=q;exact F.own z c e
 ·exact ai (iT _ _ f) λ T f=>ai (iT _ _ n) λ U n=>F.apart z WL T U b f n B C
def vD(a:Array ab)(n j:Nat)(v:ab):wx (λ x=>x.setIfInBounds j v) {cls:=.type "list",dict:=none,data:=.seq a n,slots:=#[]}={cls:=.type "list",dict:=none,data:=.seq (a.setIfInBounds j v) (if(a.setIfInBounds j v).size==a.size then n else n+1),slots:=#[]}:=rfl
def Dm(g:q.heap.PlainList h Vc.toArray)(e:0<=C)(f:C<2^63)(r:C<Vc.length)(m:∀a,a.PlainList h (Vc.set C.toNat U).toArray->Jq h q.heap a->VO () {q with heap:=a}):aA (au P0 c) o (setItem (.ref h) (.int C Vt) U) VO y q:=by
 refine ai (id g) λ n d=>?_;have b:=g.isList;unfold setItem;try with_reducible refine aK ?_
 first|refine al (ah ?_)|skip
 refine al (TB b.typeIs (by decide) ?_);refine al (JB (name:=ac "__setitem__") b.typeIs TF (IN TF b.typeIs entry_list_setitem ?_ (args_list_setitem _ _ _)));show aA _ _ (N6 (.int C Vt)>>=_) _ _ q;refine al (RC (fitsIndex_of e f) ?_);clear f;refine ai (M0 e) ?_;rintro j rfl;have p:j<Vc.toArray.size:=by simp;exact kI r
 have u:Vc.toArray[j]?=some Vc.toArray[j]:=hq p;refine al (al (Ur d rfl (ah (u.symm▸?_))));have fin:VO () {q with heap:=q.heap.update h (wx (·.setIfInBounds j U))}:=by
  have i:=cQ (wx (·.setIfInBounds j U)) d (by simp only[vD];rfl);rw[vD,show Vc.toArray.setIfInBounds j U=(Vc.set j U).toArray by simp]at i;exact m _ ⟨_,i⟩ (gR ..)
 refine al (wpAny_setSeqItemAt d rfl ?_);first
  |exact al (ah (ah ⟨.none,rfl,ah fin⟩))|exact ah ⟨.none,rfl,ah fin⟩
def vE:UW (.type "object")=jq [.type "object"]:=by rw[mroOf_type];lia
def Do:Tk (.type "object") "__new__"=jq (some (.builtin "object.__new__")):=by rw[I4,FF];lia
def vF:Pj (.type "object")=jq (some "object.__new__"):=madeBy_type vE Do (by decide+kernel)
def Dp:Rp "object" "__init__" "object.__init__":=.of (owner:="object") (n:="__init__") (by rw[I4,FF];lia) (by decide+kernel) (by decide+kernel) (by decide+kernel) (.inl (by decide+kernel)) (by rw[kF];lia)
def Dq:TypeCalled "object" "object.__new__" "object.__init__":=⟨by decide+kernel,by decide+kernel,⟨_,_,vE⟩,vF,by decide+kernel,by rw[kF];lia,Dp⟩
def Dr:P' "object.__new__" (.type "object")=jq ():=by
 unfold P';have e:Po (.type "object")=jq (.type "object"):=by first|rfl|lia
 refine e.symm▸?_;rw[pure_bind,vF];first|rfl|lia|(simp;rfl)
def Ds:isType (.type "object")=jq true:=by first|rfl|lia
def Dt:SQ (Builtin.«object.__new__» ⟨[.type "object"],[]⟩) (λ _ R s=>R (.ok (.ret (.ref s.heap.objs.size))) {s with heap:=s.heap.push {cls:=.type "object",dict:=none,data:=.plain}}):=by
 refine Nu λ e w A R s h=>?_;have a:=Dr;obtain⟨c,g,d,f,os⟩:=s;have b:=Ds;repeat(any_goals(first|assumption|wp_step))
 exact bj _ rfl h
def Du(v:ab):SQ (Builtin.«object.__init__» ⟨[v],[]⟩) (λ _ R s=>R (.ok (.ret .none)) s):=by exact Nu λ a w A R s h=>ah ⟨_,rfl,h⟩
def Dv(h:Vf (.ref q.heap.objs.size) {q with heap:=q.heap.push {cls:=.type "object",dict:=none,data:=.plain}}):aA (au P0 c) o (I1 (.type "object") []) Vf y q:=callType_meets (Q₁:=λ v e=>v=.ref q.heap.objs.size/\e={q with heap:=q.heap.push {cls:=.type "object",dict:=none,data:=.plain}}) Dq (by lia) (by lia) F.entry_object_new F.entry_object_init Dt ⟨rfl,rfl⟩ λ f g d=>by
  obtain⟨a,b⟩:=d;subst a b;exact⟨⟨_,aF _ rfl,rfl⟩,by unfold L8;lia,_,Du _,rfl,h⟩
def Dw(P:a3):a5 P (ac "object")=none/\cR P (ac "object")=some (.type "object"):=⟨by lia,by lia⟩
def ag.bare(r:Ev u g i (.Name Vd v) (.raw (.type "object")))(B:ce g j=true)(h:∀a,ag A u g ((j,.bare a)::i) (bu j D) Vp VY)(t:autoParam (∀b,ME (.Call (.Name Vd v) [] [] Vg) (some (.Name j J)) VA.line b=jq ap) cN):ag A u g i D (.Assign [.Name j J] (.Call (.Name Vd v) [] [] Vg) VA::Vp) VY:=λ X w l d b L s E m T O F=>by
 refine ii (Jf (dr (r.use d F.er (Kp.refl s) λ N c H _ e Q=>?_)) (t b));obtain rfl:N=.type "object":=H;refine IY rfl (UD (Dv ?_));have kp:Kp s {c with heap:=c.heap.push {cls:=.type "object",dict:=none,data:=.plain}}:=e.trans Kp.push;refine(F.kp kp).store (dL B) (V:=.bare c.heap.objs.size) ⟨rfl,(F.kp e).er.ex.fresh (aB _),aF _ rfl⟩ λ M C o n G=>?_;refine aG (h _ X w l d b L M E C o O n) (λ f U q=>q.after ((aZ.bR F.hO kp).trans (.dn F.hO G))) λ _ _ A=>A
noncomputable def kb:LM:={name:=ac "Mismatch",bases:=[.type "tuple"],mro:=[.ref 269,.type "tuple",.type "object"],ns:=268,qualname:=ac "Mismatch",hasDict:=ap,slotNames:=[],subclasses:=[],abstract:=ap,collection:=none,hasDel:=ap}
def nZ(P:a3):clsIn (cn P) 269=some kb:=by lia
def Dx(P:a3):findCls (cn P) (.ref 269) (.type "type") (ac "__new__")=some (.get (.builtin "staticmethod.__get__") (.ref 270) .none (.ref 269)):=by lia
def Dy(P:a3):readsIn (cn P) 269 (.type "type")=true:=by lia
def q2(P:a3):Pb (cn P) (.ref 269) (ac "__init__")=some (some (.builtin "object.__init__")):=by lia
def vG(P:a3):OF (cn P) (.ref 269) (ac "__call__")=some (some (.builtin "type.__call__")):=by lia
def Dz(P:a3):recIn (cn P) 270 "staticmethod"=some [.ref 216]:=by lia
def DA:Jx VK s (PR (.type "tuple")) none:=LV (by lia)
def DB(P:a3):findCls (cn P) (.type "tuple") (.type "type") (ac "__new__")=some (.val (.builtin "tuple.__new__")):=by lia
def vH:Jx VK s (Na (.type "tuple")) (.type "type"):=LV (by lia)
def q3(X:(cn Vv).In s):Jx VK s (Pj (.ref 269)) none:=by
 intro A Q E a k q;unfold Pj;refine af ((((P7 X (nZ Vv)).andThen .now:Jx VK s (UW (.ref 269)) kb.mro)) A _ E a k ?_);unfold kb;rw[Ku];exact af (af (af (af (wpAny_loadPart (k _ _ (X 269 _ rfl)) (ah (ah (ah (ah q))))))))
def DC:Jx VK s (Uf [.type "tuple"]) (.type "tuple"):=LV (by first|rfl|lia)
def vI(X:(cn Vv).In s):Jx VK s (Po (.ref 269)) (.type "tuple"):=by
 intro A Q E a k q;unfold Po;refine af ((((P7 X (nZ Vv)).andThen .now:Jx VK s (UW (.ref 269)) kb.mro)) A _ E a k ?_);unfold kb;dsimp only;rw[Ku];refine af (af (af (q3 X A _ E a k (bT (by decide) ?_))));refine af (P7 X (nZ Vv) A _ E a k (af (DC A _ E a k (ah ?_))));dsimp only;rw[Ku];refine af (af (cx Qh.made (eP (by decide) ?_)));exact ah (ah (ah q))
noncomputable abbrev vJ(b:Array ab)(a:ae):Obj:={cls:=.ref 269,dict:=some a,data:=.seq b}
def DD(t:ae)(l:Array ab)(x:l.size<=10):SQ (Builtin.«tuple.__new__» ⟨[.ref 269,.ref t],[]⟩) (λ A R s=>A.handled=none/\(cn Vv).In s.heap/\s.heap.IsTuple t l/\∀p a n,(KO s.heap p)->s.heap.get? a=none->p.get? a=some (vJ l n)->R (.ok (.ret (.ref a))) {s with heap:=p}):=by
 refine Nu λ j w A R s C=>iB C λ U X m h=>aj λ D=>?_;obtain⟨i,g,d,r,os⟩:=s;dsimp only at X m h;obtain⟨V,m,y,nT,z⟩:=m;refine D ?_;have G:Jx (au j w) i (isType (.ref 269)) true:=(Lo (X 269 _ rfl)).andThen .now;have H:=Op (M:=au j w) X (jC Vv).1;have J:Jx (au j w) i (P' "tuple.__new__" (.ref 269)) ():=(vI X).andThen (by exact(Qh.made).symm▸(LV (by lia)));have L:=K8 (M:=au j w) X (q2 Vv);have O:(100:Nat)<=a9:=by decide
 have fin:∀c:a7,(KO i c)->aA (au j w) A.in1 (do
   let n<-alloc {cls:=.type "dict",data:=.dict #[]}let v<-UT (.ref 269) (.seq l.toList.toArray) (some n)ret v) (λ f q=>∃v,f=.done (.ret v)/\R (.ok (.ret v)) q) (λ e q=>R (.error e) q) ⟨c,g,d,r,os⟩:=λ c k=>by
  refine al (P4 (al ?_));unfold UT newObjAsIs classHasDel;dsimp only;refine bT (by simp;exact a2 x (aE true)) ?_;refine al (P4 (al (al (ML (ao _ (ao _ (k _ _ (X 269 _ rfl)))) (ah ?_)))));refine ah (ah ⟨_,rfl,(h _ _ c.objs.size (λ b o e=>ao _ (ao _ (k b o e))) ?_ (aF _ rfl))⟩);rcases e:i.get? (c.push {cls:=.type "dict",data:=.dict #[]}).objs.size with _|o;·rfl
  ·exact absurd (az (k _ _ e)) (by simp)
 have u:∀(Q:List ab->aa->Prop)E,(∀c:a7,(KO i c)->Q l.toList ⟨c,g,d,r,os⟩)->aA (au j w) A.in1 (RZ (.ref t)) Q E ⟨i,g,d,r,os⟩:=λ Q E B=>wpAny_collect_seq t (T:="tuple") (.inr rfl) m y z B (a2 x (aE true));unfold Builtin.«tuple.__new__»;dsimp only;generalize RZ (.ref t)=N at u⊢;repeat lk
 exact u _ _ λ c k=>fin c k
def DE:cu 216 215 (bB [27,4]) (a0 [27,4]) [nm "_cls",nm "actual",nm "expected",nm "value"]:=cu.mk' (λ P=>by lia) (λ P=>by lia) (λ P=>⟨by lia,by lia,by lia,by lia,by lia,by lia⟩) (by decide) (by lia) (by lia) ⟨by rfl,by rfl⟩ (by lia) (by lia) (by lia)
def DF(P:a3):a5 P (ac "tuple")=none/\cR P (ac "tuple")=some (.type "tuple"):=⟨by lia,by lia⟩
def DG:Manifest.signature? "tuple.__new__"=some ⟨.constructor,"tuple","tuple",.cls,[{name:="iterable",kind:=.posOnly,required:=ap}]⟩:=by lia
def DH:builtinKind "tuple.__new__"=some .builtinFn:=by decide+kernel
def DI:splitId "tuple.__new__"=some ("tuple","__new__"):=by decide+kernel
def DJ(X:(cn Vv).In s)(t:ae):Jx VK s (PS "tuple.__new__" ⟨[.ref 269,.ref t],[]⟩) ():=by
 intro A Q E c k q;have X:=X.keeps k;obtain⟨a,g,d,l,os⟩:=c;dsimp only at X;have e:Jx VK a (isType (.ref 269)) true:=(Lo (X 269 _ rfl)).andThen .now;have f:=Op (M:=VK) X (jC Vv).1;have i:=vI (VK:=VK) X;have j:Jx VK a (Pj (.type "tuple")) (some "tuple.__new__"):=LV Qh.made;have b:Bind.checkArgs "tuple.__new__" ⟨.constructor,"tuple","tuple",.cls,[{name:="iterable",kind:=.posOnly,required:=ap}]⟩ ⟨[.ref 269,.ref t],[]⟩=jq ():=by lia
 simp only[PS,DH,DI,DG];rw[b];repeat(first|rw[bne_self_eq_false,cT,if_false]|lk)
 exact q
def DK(k:Vz.size<=10)(i:o.handled=none)(X:(cn c.params).In q.heap)(j:q.heap.IsTuple h Vz)(g:∀b a f,(KO q.heap b)->q.heap.get? a=none->b.get? a=some (vJ Vz f)->Vf (.ref a) {q with heap:=b}):aA (au P0 c) o (I1 (.builtin "tuple.__new__") [.ref 269,.ref h]) Vf y q:=by exact Je (Ig PySem.F.plain_tuple_new F.entry_tuple_new (DJ X h _ _ _ _ (λ _ _ e=>e) (DD (Vv:=c.params) h Vz k P0 c o (λ r d=>match r with|.ok (.ret v)=>Vf v d|.ok _=>False|.error e=>y e d) q ⟨i,X,j,g⟩)))
def Ev.DL(Y:u.2=true)(WO:Ev u g i z (.raw (.type "tuple")))(WR:Ev u g i Vl (.raw (.ref 269)))(WS:Ev u g i Wd (Tu Vm))(WL:Vm.length<=10)(h:autoParam (∀f c,bD (Vl::f) c=(ap,He Vl c)::bD f c) bc)(x:autoParam (∀f c,bD (Wd::f) c=(ap,He Wd c)::bD f c) bc)(V:autoParam (∀c,J9 z (ac "__new__") c (He z c)=He z c) cN)(WM:autoParam ((v.endLine==J.line)=true) bc):Ev u g i (.Call (.Attribute z (ac "__new__") v) [Vl,Wd] [] J) (.inst (.ref 269) Vm):=λ X w A t c s E R=>by
 simp only[arm_eval_Call,V];refine al (WO.use t R (Kp.refl s) λ y d WY _ WT B=>?_);obtain rfl:y=.type "tuple":=WY;have p:=B.left.cn;refine al (Iq ?_);have C:(L7 J (bD [Vl,Wd] c)).any (·.1)=ap:=by rw[h,x];rfl
 have WK:methodCallForm ([Vl,Wd].length+([]:List Keyword).length) (L7 J (bD [Vl,Wd] c)) (backToKw J (keywordEach [] c))=true:=by rw[h,x];rfl
 have WP:methodCallPos true z c v J=jq J:=by unfold methodCallPos;simp[WM]
 have W0:Jx (au P0 w) d.heap (PQ (.type "tuple") "__getattribute__") (some (.builtin "type.__getattribute__")):=vH.andThen (K8 p (by lia));have W1:∀{Q:ab->aa->Prop},Q (.builtin "tuple.__new__") {d with toks:=d.toks+1}->aA (au P0 w) A (Qt (.type "tuple") (ac "__new__") ap) Q E d:=λ q=>cls_open p DA vH (by lia) (looks_hook (r:=none) p (by lia)) (by lia) (DB w.params) (ah (by show aA _ _ (handedOut _) _ _ _;rw[handedOut_of (by lia)];exact ah q));unfold methodCall;refine WK.symm▸(al (aK ?_));unfold calleeOf getMethod;refine al (W0 A _ E d (λ _ _ e=>e) (eP canon_tga (al (W1 (ah (al (cx WP ?_)))))));have U:=a6.use t (z:=J) (E:=E) (.cons WR (.cons WS .nil x) h) (s:={d with toks:=d.toks+1}) (e:=s) (Q:=λ m j=>aA (au P0 w) A (I1 (.builtin "tuple.__new__") m) (λ y j=>RV X j.heap y (.inst (.ref 269) Vm)/\Kp s j) E j) B (WT.trans Kp.toks) λ m L WZ _ G n=>by
  refine bS WZ.two λ W4 W5 WU WW WX=>?_;obtain rfl:=WU;obtain rfl:=WW;refine bI WX.tuple λ T m M WV W3 WQ H=>?_;obtain rfl:=WV;have n:bq X w g c L.heap i:=R.keeps G.keep;refine DK (by simp;exact dS (cy H) WL) (t.calm Y) n.left.cn WQ λ N a W2 D WN O=>?_;refine⟨⟨a,_,_,m,M,rfl,(λ q=>by refine ai (n.ex a q) λ z e=>?_;exact bN WN e),O,rfl,rfl,vr (λ b z e=>dW.mpr ⟨dH e,e' e,D b z (dm e)⟩) H⟩,G.trans ⟨N,L.toks,rfl,D⟩⟩
 rw[h]at U C⊢;exact Ip C (b1 U)
def DM{e b c:bP}:Fn (a+1,true) (.ref 216) [.raw (.ref 269),.d e,.d b,.d c] (.inst (.ref 269) [e,b,c]):=Fn.of DE (λ P doc i f=>by
  refine aj λ h=>?_;obtain⟨e,b,c,d,g⟩:=z7 f;obtain rfl:=g;refine h ?_;lia) rfl (ag.cons St.doc (ag.last (St.ret (Ev.DL rfl (Ev.bl DF) Ev.nm (Ev.tuple (Vm:=[e,b,c]) (f:=by show 3<=a9;decide) (.cons Ev.nm (.cons Ev.nm (.cons Ev.nm .nil)))) (by simp))) trivial))
def DN(a b c d:ab):L8 "object.__init__" ⟨[a,b,c,d],[]⟩:=by unfold L8;lia
def DO{e f i:ab}(X:(cn c.params).In q.heap)(b:q.heap.get? h=some O)(k:O.cls=.ref 269)(j:Vf .none q):aA (au P0 c) o (I1 (.builtin "object.__init__") [.ref h,e,f,i]) Vf y q:=by
 obtain⟨a,g,d,r,os⟩:=q;dsimp only at X b;have l:Jx (au P0 c) a (Na (.ref h)) (.ref 269):=k▸(Lo b).andThen .now;have m:Jx (au P0 c) a (NL (.ref h) (.type "object")) true:=l.andThen (Op X (jC c.params).2.1);have n:=K8 (M:=au P0 c) X (q2 c.params);have p:=q3 (VK:=au P0 c) X;refine Je (Ig oi_plain entry_oi (@Tn (au P0 c) _ _ _ "object.__init__" "object" "__init__" (.ref h) [e,f,i] [] _ oi_kind oi_split m (DN _ _ _ _) ?_));unfold Builtin.«object.__init__»;repeat(first|rw[bne_self_eq_false,cT,if_false]|lk)
 exact j
def DP{l b m:bP}(z:Rm (a+2,true) o)(L:aC c q.heap)(H:Ex w q.heap)(WU:aU w q.heap Vc [.d l,.d b,.d m]):aA (au P0 c) o (I1 (.ref 269) Vc) (λ v i=>RV w i.heap v (.inst (.ref 269) [l,b,m])/\Kp q i) y q:=by
 refine aj λ WY=>?_;refine bI WU.three ?_;rintro p r t rfl N O T;have f:=L.cn;have J:q.heap.get? 269=some (mO c.params):=f 269 _ rfl;have V:Jx (au P0 c) q.heap (PQ (.ref 269) "__call__") (some (.builtin "type.__call__")):=Uv f (vG _);have WK:Jx (au P0 c) q.heap (NL (.ref 269) (.type "type")) true:=looks_instIn f (jC _).2.2.2;obtain⟨h,g,d,j,os⟩:=q;refine WY ?_;dsimp only at L H N O T f J V WK;have W2:Jx (au P0 c) h (UW (.ref 269)) kb.mro:=(P7 f (nZ c.params)).andThen .now;have W1:=q3 (VK:=au P0 c) f;have G:Rm (a+1,true) (o.under (.builtin "type.__call__" ⟨[.ref 269,p,r,t],[]⟩)):=⟨by have :=z.depth;show o.depth+1+_+_<_;exact oS this,by have :=z.units;show o.units+1+_+_<_;exact mx this rfl,z.calm⟩;refine Je (Ms (nd_load J ?_));show aA _ _ (Q1 (.ref 269) _) _ _ _;unfold Q1;refine af (V.at ?_);dsimp only;rw[tc_bind];refine af (ah (af (ah (ah (a:=PySem.Fin.again (.call (.builtin "type.__call__") ⟨[.ref 269,p,r,t],[]⟩)) (QC rfl (codeAny_call_builtin_at (Lb _ (by decide+kernel)) entry_typeCall (Tn tc_kind tc_split WK (tc_args _ _ _) ?_)))))));generalize o.under (.builtin "type.__call__" ⟨[.ref 269,p,r,t],[]⟩)=D at G⊢;unfold Builtin.«type.__call__»;have Y:∀{Q:ab->aa->Prop}{y},Q (.ref 216) ⟨h,g,d,j+1,os⟩->aA (au P0 c) D (Qt (.ref 269) "__new__" ap) Q y ⟨h,g,d,j,os⟩:=λ WQ=>cls_bind (s:=⟨h,g,d,j,os⟩) f (Dy c.params) (Dx c.params) (Je (sm_get (s:=⟨h,g,d,j+1,os⟩) f (Dz c.params) (handed_on (by lia) WQ)));dsimp only;generalize WN:Qt (.ref 269) "__new__"=WZ;rw[WN]at Y;repeat lk
 refine Y (af (aK (aG ((DM (a:=a) (e:=l) (b:=b) (c:=m)) w c D G ⟨h,g,d,j+1,os⟩ [.ref 269,p,r,t] y L H (.cons rfl (.cons N (.cons O (.cons T .nil))))) (λ W0 i WR=>(am WR λ WT kp=>?_)) λ _ _ x=>x)));obtain⟨x,WP,n,WX,as,rfl,WO,C,B,WM,WS⟩:=WT;have u:=f.keeps kp.keep;have U:Jx (au P0 c) i.heap (Na (.ref x)) (.ref 269):=B▸(Lo C).andThen .now;have WV:Jx (au P0 c) i.heap (NL (.ref x) (.ref 269)) true:=U.andThen (Op u (jC _).2.2.1);have WW:Jx (au P0 c) i.heap (PQ (.ref x) "__init__") (some (.builtin "object.__init__")):=U.andThen (K8 u (q2 _));have fin:RV w i.heap (.ref x) (.inst (.ref 269) [l,b,m])/\Kp ⟨h,g,d,j,os⟩ i:=⟨⟨x,WP,n,WX,as,rfl,WO,C,B,WM,WS⟩,(Kp.toks (q:=⟨h,g,d,j,os⟩)).trans kp⟩;refine af (WV _ _ _ _ (λ _ _ e=>e) (bT (by decide) ?_));refine af (aK ?_);unfold R1;refine af (WW _ _ _ _ (λ _ _ e=>e) (aK (af (cx (oi_bind (.ref x)) (af (DO u C B (ah (bT (by decide) ?_))))))));exact ah fin
def vK(P:a3):a5 P (ac "_Mismatch")=some (.ref 269):=by lia
def Ev.vL{n b c:bP}(L:Ev (a+2,true) g i (.Name j v) (.raw (.ref 269)))(r:a6 (a+2,true) g i [z,Vl,Wd] [.d n,.d b,.d c]):Ev (a+2,true) g i (.Call (.Name j v) [z,Vl,Wd] [] J) (.inst (.ref 269) [n,b,c]):=λ X w A o q s E R=>by
 refine dr (L.use o R (Kp.refl s) λ l WP WN _ O B=>?_);obtain rfl:l=.ref 269:=WN;have t:=r.plain (E:=q) (v:=J);refine di r.cut λ _ _ G C D u=>?_;refine am (List.cons.inj G) λ WK WL=>?_;obtain rfl:=WK;obtain rfl:=WL;have U:=a6.use o (z:=J) (E:=E) (.cons C D u) (s:=WP) (Q:=λ y h=>bq X w g q h.heap i/\aA (au P0 w) A (I1 (.ref 269) y) (λ l h=>RV X h.heap l (.inst (.ref 269) [n,b,c])/\Kp s h) E h) B O λ y WQ WO _ T f=>⟨f,aG (DP o f.left f.ex WO) (λ l WR WM=>by refine am WM λ V Y=>?_;exact⟨V,T.trans Y⟩) λ _ _ j=>j⟩;rw[u]at U t⊢;unfold callWith;refine af (aK (b1 (aG U (λ WS WQ M=>(af (Iq (am M λ f H=>?_)))) λ _ _ j=>j)));have p:=f.left.cn;rw[t];refine af (m:=keeperOf (.ref 269)) (af (ML (p 269 _ rfl) (af ((Uv p (vG _)) _ _ _ _ (λ _ _ e=>e) (ah ?_)))));rw[if_pos (by decide)];exact af (aG H (λ l WR N=>af (aK (SE (ah N)))) λ _ _ j=>j)
def aU.at{X:ae->Prop}{h:a7}{c:List ab}{b:List PV}(r:aU X h c b){i:Nat}{p:PV}(e:b[i]?=some p):∃v,c[i]?=some v/\RV X h v p:=by induction r generalizing i with
 |nil=>exact aQ e|cons a _ d=>
  rcases i with _|i;·obtain rfl:=ax e;exact bj _ rfl a
  ·exact d e
inductive vM(x:Cx)(X:ae->Prop)(w:ar)(A:aq)(m:aw)(f:Env)(o s:aa)(O:List ae)(WM:Nat->List (Str×PV))(WN:Nat->List (Str×OL))(WL:ae->Prop)(e g a:ae)(n j:Nat)(c:aa):Prop|mk(WK:Nat)(k h:Str->Option ab)(d:List ae)(F:FB x (cX X WL) w A m f o (WM WK) (WN WK) k h d c)(p:aZ x A X f O s d c)(q:∃l,IsEnum c.heap e g WK l)(r:c.heap.IsListIter g a WK)(u:WK<=n)(v:j=n+1-WK)(t:∀b,WL b->¬aL X f d b)
def St.q4{y W9 W' Xz:Str}(ls:Nat->List PV)(Xr:Nat->PV)(G:Nat->List (Str×PV))(WK:Nat->List (Str×OL))(XB:Nat->Go)(Yc:u.2=true)(Xj:Ev u g (G 0) (.Name Xz v) (.raw (.type "enumerate")))(Yq:Ev u g (G 0) (.Name y J) (.raw (.ref h)))(Yo:ce g W9=true)(Xn:ce g W'=true)(X9:∀i,i<=b->(G i).lookup y=some (.raw (.ref h)))(Yj:∀i,i<=b->(WK i).lookup y=some (.m (ls i)))(Yl:∀i,i<=b->(ls i).length=b)(Yn:∀i,i<b->(ls i)[i]?=some (Xr i))(Yb:∀i,i<b->ag A u g ((W',Xr i)::(W9,I i)::G i) (bu W' (bu W9 (WK i))) Vp (XB i))(Yf:∀i,i<b->fM (XB i) (G (i+1)) (WK (i+1))):St A u g (G 0) (WK 0) (.For (.Tuple [.Name W9 Vg,.Name W' VA] a VT) (.Call (.Name Xz v) [.Name y J] [] Wq) Vp [] Wu) (.next (G b) (WK b)):=λ X w L Xf z WN s E m Xy O F=>jF λ Q fin=>by
 have XF:=Xf.calm Yc;refine T0 (lf Xj (.cons Yq .nil) Xf F.er λ vs M YG Xp YK=>?_) (by intro _;rfl);refine aj λ WU=>?_;refine ak YG.one λ YW YC YD=>?_;obtain rfl:=YC;obtain rfl:=YD;have WZ:=F.kp Xp;have lJ:∀{X':ae->Prop}{i WY WW N B},i<=b->FB A X' w L g z WN (G i) (WK i) WY WW N B->∃vs,h∈N/\B.heap.PlainList h vs.toArray/\aU (aL X' z N) B.heap vs (ls i):=λ WL WS=>by
   obtain⟨c,vs,Ys,XM,Yt,Yu,Yv⟩:=WS.own y _ (Yj _ WL);have V:=WS.er.vars y _ (X9 _ WL);unfold cc at V;rw[Ys]at V;obtain⟨YP,Xa,Xb,Xc,X4⟩:=V;obtain rfl:=X4;rw[WS.ns.agree Xb y,Xc]at XM;cases XM;exact⟨vs,Yt,Yu,Yv⟩
 refine ci (lJ (dk _) WZ) λ YV YO YB YS=>WU ?_;have XH:=YB.isList;refine S6 XH λ h' WV W4 XJ Yi=>TD WV (aj λ WU=>ak (id XH) λ YR Ym _=>(WU ?_));have Y:h<M.heap.objs.size:=az Ym;generalize Yd:M.heap.objs.size+1=e at WV;generalize Xk:M.heap.objs.size=C at WV W4 Y;have WX:C<e:=by rw[<-Yd,<-Xk];exact H9 _
 have Ya:h≠C:=br Y;let r:ae->Prop:=λ c=>c=e\/c=C;have Xs:WN.heap.objs.size<=C/\314<=C:=by
   refine ak (Ns.c9 WZ.ns) λ o d _=>?_;have :=az d;rw[Xk]at this;exact⟨bn (bz F.fresh this),bn (bz F.locals this)⟩
 have Xh:∀c,r c->WN.heap.objs.size<=c/\314<=c:=λ c q=>by
   rcases q with rfl|rfl;·exact⟨an Xs.1 (bn WX),an Xs.2 (bn WX)⟩
   ·exact Xs
 have XD:∀c,r c->M.heap.get? c=none:=λ c q=>cW (by rw[Xk];rcases q with rfl|rfl;exact bn WX;exact aB _);have XP:∀c o,M.heap.get? c=some o->¬r c:=λ c o e q=>bN (XD c q) e;have W8:∀{U:a7}{i:Nat},(∃WQ,IsEnum U e C i WQ)->U.IsListIter C h i->∀c o,r c->U.get? c=some o->¬bw o:=λ Xi WL c o q XA=>by
   rcases q with rfl|rfl
   · refine ai Xi λ WQ d=>?_;cases XA.symm.trans d;exact bw.hX rfl (by decide) rfl λ q t=>λ U=>by cases U
   ·exact jJ WL o XA
 have Xm:∀{U:a7}{i:Nat},(∃WQ,IsEnum U e C i WQ)->U.IsListIter C h i->∀c,r c->∃o,U.get? c=some o:=λ Xi WL c q=>by
   rcases q with rfl|rfl;·refine ai Xi λ WQ d=>?_;exact⟨_,d⟩
   ·refine ak WL λ o d _=>?_;exact⟨o,d⟩
 have XO:Kp M {M with heap:=h'}:=⟨h',M.toks,rfl,Yi⟩;have W5:A.t=true->(∀c,bC c->X c)/\(∀c,FA L c->Ow X z c/\c<=z.locals):=λ t=>⟨(F.bi t).tab,(F.bi t).fa⟩;have XY:FB A (cX X r) w L g z WN (G 0) (WK 0) m Xy O {M with heap:=h'}:=WZ.wide XO XD (Xm ⟨_,WV⟩ W4) (λ c q=>(Xh c q).1) (W8 ⟨_,WV⟩ W4);have X8:∀c,r c->¬aL X z O c:=λ c q l=>by exact ai (WZ.er.ex c l) λ o d=>XP c o d q
 have Yw:∀{Xv Xw:List ae}{M XV:aa},aZ A L (cX X r) z Xv M Xw XV->aZ A L X z Xv M Xw XV:=λ f=>⟨f.keep,f.own,f.sub,λ c XE=>⟨λ q=>(f.eV c XE).1 (jQ q),(f.eV c XE).2⟩⟩;refine S5 (λ j B=>vM A X w L g z WN s O G WK r e C h b j B) ?_ (b+1) ⟨0,m,Xy,O,XY,.bR F.hO (Xp.trans XO),⟨_,WV⟩,W4,dk _,rfl,X8⟩;intro j B H;obtain⟨i,WY,WW,N,WS,fr,W1,W2,WL,Yh,WP⟩:=H;subst Yh;refine ci (lJ WL WS) λ vs YN XR XU=>?_;have Yk:vs.length=b:=by rw[XU.len,Yl i WL]
 have W:=(RH (prog:=P0) (w:=w) XF e C h (IA WX) (br (LC Y WX)) Ya vs.toArray).toU;have XQ:∀c o,s.heap.get? c=some o->¬r c:=λ c o e=>XP c o (Xp.keep c o e);have Xq:∀c,c∈[e,C]↔r c:=λ c=>by simp[r]
 by_cases Y:i<b
 · refine W.item i B _ _ (by simp;exact eO Yk Y) ⟨W1,W2,XR.isList⟩ λ T YU W6 WR Xn X7 XI Xl=>?_;refine aj λ WU=>?_;obtain⟨t,Xa,Yp,rfl⟩:=Xn;refine WU (W.go _ _ _ i T {B with heap:=W6,toks:=WR} _ _ XI λ WT YH XG=>?_);have a:KX r B.heap WT:=λ c o D d=>XG c o (λ q=>D ((Xq c).mp q)) (Xl c o (λ q=>D ((Xq c).mp q)) d);refine aj λ WU=>?_;obtain⟨Xg,W3,YM⟩:=YH;refine WU ?_;have W0:FB A (cX X r) w L g z WN (G i) (WK i) WY WW N {B with heap:=WT,toks:=WR}:=WS.uo Xh WP (W8 W1 W2) a (Xm Xg W3) (λ t c f=>((W5 t).2 c f).1) (W8 Xg W3);have X5:aZ A L X z O s N {B with heap:=WT,toks:=WR}:=⟨λ c o D e=>a c o (XQ c o e) (fr.keep c o D e),fr.own,fr.sub,fr.eV⟩;have Yz:∀c,r c->¬h2 A L z N c:=λ c q l=>by
     rcases l with l|l|⟨t,l|l⟩;·exact WP c q (.inl (.inr l))
     ·exact WP c q (.inr l)
     ·exact WP c q (.inl (.inl ((W5 t).1 c l)))
     ·exact WP c q (.inl ((W5 t).2 c l).1)
   have YF:RV (aL (cX X r) z N) WT Xa (Xr i):=by
     obtain⟨YJ,Xb,Xc⟩:=XU.at (Yn i Y);have :YJ=Xa:=by
       have :vs[i]?=some Xa:=by simpa using Yp
       cases aO Xb this;rfl
     cases this;exact Xc.shift λ c o D d=>⟨D,a c o (λ q=>D (.inl (.inl (.inr q)))) d⟩
   refine Th XF (X7.at λ o d=>XG T o (W.apart i T _ XI) d) rfl rfl λ XK Ye=>?_;have Xo:Kp {B with heap:=WT,toks:=WR} {B with heap:=XK,toks:=WR}:=⟨XK,WR,rfl,λ c o d=>Ye c o (br (az d)) d⟩;have Xt:=W0.kp Xo;refine Ij (ON (Xt.store (dL Yo) (V:=I i) .mkInt λ YT YQ YL Xu XT=>?_));refine Ij (ON (Xu.store (dL Xn) (YF.shift λ c o D d=>⟨D,XT c o (λ q=>D (.inl (.inr q))) (Xo.keep c o d)⟩) λ YI Yx X2 XZ YE=>J6 ?_));refine aG (Yb i Y (cX X r) w L Xf z WN YI _ Yx X2 N XZ) (λ f XW Yr=>?_) λ _ _ U=>U;obtain⟨Xj,Yy,X3,X1,X0,X6⟩:=(Yf i Y).qt Yr;suffices YA:∃j,j<b+1-i/\vM A X w L g z WN s O G WK r e C h b j XW from by rcases Xj with rfl|rfl<;>exact YA
   have Xd:=((aZ.bR W0.hO Xo).trans ((aZ.dn Xt.hO XT).trans (.dn Xu.hO YE))).trans X6;have XN:∀c o,r c->WT.get? c=some o->XW.heap.get? c=some o:=λ c o q d=>Xd.keep c o (Yz c q) d;refine ai Xg λ WQ XC=>⟨b+1-(i+1),jb Y,i+1,Yy,X3,X1,X0,X5.trans (Yw Xd),⟨WQ,XN e _ (.inl rfl) XC⟩,W3.at λ o d=>XN C o (.inr rfl) d,Y,rfl,λ c q l=>?_⟩;refine aH l (λ l=>?_) λ l=>?_;·exact WP c q (.inl l)
   · refine aH (Xd.own c l) (λ l=>?_) λ l=>?_;·exact WP c q (.inr l)
     · refine ai (Xm ⟨WQ,XC⟩ W3 c q) λ o d=>?_;have XS:WT.get? c=none:=l;rw[d]at XS;exact c7 XS
 · have Yg:i=b:=gu WL Y;subst Yg;have XJ:vs.toArray.size=i:=by assumption
   refine W.done B _ _ (by rw[XJ];exact⟨W1,W2,XR.isList⟩) λ W6 WR Xl=>?_;have a:KX r B.heap W6:=λ c o D d=>Xl c o (λ q=>D ((Xq c).mp q)) d;have W0:FB A X w L g z WN (G i) (WK i) WY WW N {B with heap:=W6,toks:=WR}:=WS.nr Xh WP (W8 W1 W2) a W5;exact J2 (fin _ _ ⟨rfl,WY,WW,N,W0,⟨λ c o D e=>a c o (XQ c o e) (fr.keep c o D e),fr.own,fr.sub,fr.eV⟩⟩)
def vN:Rp "object" (cmpInfo .Eq).2.1 "object.__eq__":=F.cmp_object.eq
def vO:Rp "str" (cmpInfo .Eq).2.2 "str.__eq__":=.of (owner:="str") (n:="__eq__") (by rw[I4,FF];lia) (by decide+kernel) (by decide+kernel) (by decide+kernel) (by first|exact .inl (by decide+kernel)|exact .inr (by decide+kernel)) (by rw[kF];lia)
def DQ:Kk (.type "str") (.type "object")=jq true:=by rw[kF];lia
def DR:SQ (Builtin.«str.__eq__» ⟨[.str j Vt,.ref h],[]⟩) (λ _ R s=>s.heap.get? h=some {cls:=.type "object",dict:=none,data:=.plain}/\R (.ok (.ret .notImplemented)) s):=by
 refine Nu λ i w A R s e=>?_;obtain⟨b,c⟩:=e;obtain⟨f,g,d,k,os⟩:=s;wp_walk using wpAny_loadPart' b,LX ⟨_,b,rfl⟩;all_goals exact bj _ rfl c
def DS:SQ (Builtin.«object.__eq__» ⟨[.ref h,.str j Vt],[]⟩) (λ _ R s=>R (.ok (.ret .notImplemented)) s):=by
 refine Nu λ c w A R s b=>?_;have e:UZ (.ref h) (.str j Vt)=jq ap:=by rw[isSame_plain (by rfl)];rfl
 unfold Builtin.«object.__eq__»;refine al (ah (al (cx e (bT (by decide) ?_))));exact ah ⟨_,rfl,b⟩
def aD.DT:aD .Eq (.bare h) (S j) ap:=λ X w A k s v u E p n l=>by
 refine a4 n ?_;rintro rfl q i;refine ai l.str ?_;rintro t rfl;have b:s.TypeIs (.ref h) "object":=⟨_,i,rfl⟩;have c:s.TypeIs (.str j t) "str":=JF s j t;show aA _ A (M3 .Eq _ _) _ E s;refine aj λ o=>?_;rcases g:cmpInfo CmpOp.Eq with⟨y,f,r⟩;refine o ?_;have d:=vN;have e:=vO;rw[g]at d e;rw[M3,g,b.oneThing_none];try with_reducible refine aK ?_
 refine af (wpAny_cRoomFor_or (.inr (fy k)) (af (LX b (af (LX c (eP (by decide) ?_))))));refine af (cx DQ ?_);simp only[if_true,Bool.not_true,cT,if_false];refine af (m:=tryCompare (.str j t) _ (.ref h)) (Q0 c e (Kx vO c F.entry_str_eq (F.args_str_eq_2 _ _) DR ⟨i,rfl,(af (m:=tryCompare (.ref h) _ (.str j t)) (Q0 b d (Kx vN b F.entry_object_eq (F.args_object_eq_2 _ _) DS ⟨rfl,?_⟩)))⟩));refine af (Ju (af (cx (show UZ (.ref h) (.str j t)=jq ap by rw[isSame_plain (by rfl)];rfl) (ah ⟨rfl,Kp.refl _⟩))))
def aD.vP:aD .Is (S j) (.bare h) ap:=λ X w A f s v u E d c b=>by
 refine ai c.str ?_;rintro t rfl;refine a4 b ?_;rintro rfl g e;refine wpAny_is_plain (by rfl) ⟨rfl,Kp.refl _⟩
def aD.vQ:aD .Is (.bare h) (.bare h) true:=λ X w A g s v u E e d c=>by
 refine a4 d λ b i f=>?_;obtain rfl:=b;refine a4 c λ b _ _=>?_;obtain rfl:=b;exact wpAny_is_ref_self ⟨rfl,Kp.refl _⟩
def ei.vR(H:Ev u g i (.Name j v) (.raw (.type "list")))(G:Ev u g i z (Li Vm))(M:Vm.length<=a9)(L:autoParam (∀m c,bD (z::m) c=(ap,He z c)::bD m c) bc):ei u g i (.Call (.Name j v) [z] [] J) (.p Vm):=λ X w A C c s E R=>by
 refine lf H (.cons G .nil L) C R λ vs r V f WL=>aj λ WK=>?_;refine ak V.one λ WO O U=>?_;obtain rfl:=O;refine bI U.list λ a Y t Q WM T h=>?_;obtain rfl:=Q;refine ai T λ n N=>?_;refine WK ?_;refine call_list_seq (hsz:=by simp;exact dS (cy h) M) a (.inl rfl) N rfl rfl λ B x d D=>?_;refine⟨r.heap.objs.size,Y,rfl,λ b o z=>az (f.keep b o z),⟨x,D⟩,⟨t,vr (λ b o z=>dW.mpr ⟨λ q=>?_,e' z,d b o (dm z)⟩) h⟩,f.trans ⟨B,r.toks,rfl,d⟩⟩;rcases q with q|q;·exact dH z q
 · subst q;exact absurd (az (dm z)) (Iw _)
def St.DU(WV:u.2=true)(W4:ei u g i z (.p (G.map .str)))(W5:ei u g i Vl (.p (VJ.map .str)))(W1:g.names.lookup j=some .local)(W3:g.names.lookup Vd=some .local)(W2:(Vd==j)=ap)(W0:∀c:Env,c.scope=g->J8 [.Tuple [.Name j v,.Name Vd J] a Vg] (.Tuple [z,Vl] b VA) c=jq (some [j,Vd]))(WY:autoParam (∀r c,bD (z::r) c=(ap,He z c)::bD r c) bc)(WZ:autoParam (∀r c,bD (Vl::r) c=(ap,He Vl c)::bD r c) bc):St A u g i [] (.Assign [.Tuple [.Name j v,.Name Vd J] a Vg] (.Tuple [z,Vl] b VA) VT) (.next [] [(j,.p (G.map .str)),(Vd,.p (VJ.map .str))]):=λ X w D H c WR s E m Y O F=>by
 refine Oy (names:=[j,Vd]) (OT (IM (aG (W4 (aL X c O) w D H c s E F.er) (λ Xo Q N=>?_) λ _ _ A=>A) (WY _ _))) rfl (W0 c F.er.scope);obtain⟨f,Xk,WU,L,C,Xg,B⟩:=N;subst WU;refine IM (aG (W5 (aL X c O) w D H c Q E (F.er.keeps B.keep)) (λ Xm WS N=>?_) λ _ _ A=>A) (WZ _ _);obtain⟨l,vs,e,WM,Xc,Xf,kp⟩:=N;subst e;refine Lu ⟨by show 2<=a9;decide,?_⟩;refine PI (items:=#[.ref f,.ref l]) (H.calm WV) ⟨_,aF _ rfl,rfl,_,rfl⟩ λ h' WW=>?_;have WN:KO WS.heap h':=λ d o e=>by
   have h:=ao {cls:=.type "tuple",dict:=none,data:=.seq #[.ref f,hk l],slots:=#[]} e;exact WW d o (br (az h)) h
 have WO:Kp Q {WS with heap:=h'}:=kp.re λ d o e=>WN d o (kp.keep d o e);refine ai C λ Xb C=>?_;have t:WR.heap.objs.size<=f/\¬aL X c O f:=by exact ak (Ns.c9 F.ns) λ o h _=>dv (bn (bz F.fresh (L _ _ h))) (λ q=>(ai (F.er.ex f q) λ o h=>Iw _ (L _ _ h)))
 refine Ij (OM (FB.qT (H:=Q) ((F.kp B).weaken (VN:=[]) trivial) WO W3 WM (Xc.at λ o e=>WN _ o e) (RO.iZ (RO.strs Xf)) λ Xh Xl T W' WK=>?_));have Xd:Xh.heap.PlainList f Xk.toArray:=⟨Xb,W' _ _ (λ q=>t.2 (.inl (.inr q))) (WO.keep _ _ C)⟩;have WX:¬aL X c (l::O) f:=λ q=>by
   refine aH q (λ q=>?_) λ q=>?_;·exact t.2 (.inl q)
   · rcases aP.mp q with q|q;·exact(br (WM f _ C)) q
     ·exact t.2 (.inr q)
 refine Ij (OM (T.ud W1 t.1 WX Xd (VX:=.p (G.map .str)) (RO.iZ (RO.strs Xg)) (λ _ _ e=>aQ e) (λ WT l' e=>?_) λ Xi WP U Xe=>J6 ?_))
 · obtain⟨d,Xj,_,W6,W7,W8,W9⟩:=T.own WT l' e;refine kO d Xj W6 W7 W8 ?_;rw[aN]at e;refine gy (M:=WT==Vd) (λ M=>?_) λ M=>?_;·rw[M]at e;exact aQ e
   ·rw[M]at e;obtain rfl:=ax e;exact RO.iZ (RO.strs W9)
 · refine⟨rfl,WP,Y,f::l::O,?_,?_⟩
   · have e:bu j [(Vd,OL.p (VJ.map .str))]=[(Vd,OL.p (VJ.map .str))]:=by unfold bu;simp[bne,W2]
     have V:FB A X w D g c WR [] ((j,.p (G.map .str))::bu j [(Vd,OL.p (VJ.map .str))]) WP Y (f::l::O) Xi:=U;rw[e]at V;exact V
   · refine⟨λ d o WQ e=>Xe d o (λ q=>WQ (.inl q)) (WK.keep d o WQ (B.keep d o e)),λ d n=>?_,λ d n=>.tail _ (.tail _ n),U.hO⟩;rcases aP.mp n with rfl|n
     · refine .inr ?_;rcases e:s.heap.get? d with _|o;·rfl
       ·exact absurd (L _ _ e) (Iw _)
     · refine aH (WK.own d n) (λ q=>?_) λ q=>?_;·exact .inl q
       · refine .inr ?_;cases e:s.heap.get? d with
         |none=>rfl|some o=>rw[B.keep d o e]at q;exact c7 q
def St.DV(T:u.2=true)(WO:Ev u g (seen i D) z V)(WP:Ev u g (seen i D) Vl VS)(L:eW V)(M:eW VS)(WM:ce g j=true)(WN:ce g Vd=true)(WL:∀c:Env,c.scope=g->J8 [.Tuple [.Name j v,.Name Vd J] a Vg] (.Tuple [z,Vl] b VA) c=jq (some [j,Vd]))(Y:autoParam (∀d c,bD (z::d) c=(ap,He z c)::bD d c) bc)(WK:autoParam (∀d c,bD (Vl::d) c=(ap,He Vl c)::bD d c) bc):St A u g i D (.Assign [.Tuple [.Name j v,.Name Vd J] a Vg] (.Tuple [z,Vl] b VA) VT) (.next ((j,V)::(Vd,VS)::i) (bu j (bu Vd D))):=λ X w WX f c W2 s E m WZ O F=>by
 refine Oy (names:=[j,Vd]) (OT (IM (WO.use f F.reads (Kp.refl s) λ B W3 WU WQ _ H=>(IM (WP.use f H WQ λ C WW WV _ t WY=>?_) (WK _ _))) (Y _ _))) rfl (WL c F.er.scope);refine Lu ⟨by show 2<=a9;decide,?_⟩;refine PI (items:=#[B,C]) (f.calm T) ⟨_,aF _ rfl,rfl,_,rfl⟩ λ Q U=>?_;have r:Kp s {WW with heap:=Q}:=t.re λ l o e=>by
  have n:=ao {cls:=.type "tuple",dict:=none,data:=.seq #[B,C],slots:=#[]} (t.keep l o e);exact U l o (br (az n)) n
 refine Ij (OM ((F.kp r).store (dL WN) (M.any WV) λ W4 W1 W0 h WS=>?_));refine Ij (OM (h.store (dL WM) (L.any WU) λ W5 WR N G WT=>J6 ⟨rfl,WR,N,_,G,(aZ.bR F.hO r).trans ((aZ.dn F.hO WS).trans (.dn h.hO WT))⟩))
noncomputable def lK:PV->Str->Bool
 |.d (.str x),u=>x==u|_,_=>ap
def n0:PV->Prop
 |.d (.str x)=>cs x=true|.bare _=>True|_=>False
def aD.bM(b:n0 V)(c:cs j=true):aD .Eq V (S j) (lK V j):=by cases V with
 |d d=>cases d with
  |str x=>
   have h:=aD.eq (cz.str b) (cz.str c);rw[vy]at h;exact h|_=>exact Uo b
 |bare a=>exact aD.DT|_=>exact Uo b
def St.vS(WV:D.lookup j=some (.m Vi))(WQ:Ev u g i z (I (a:Int)))(WM:Ev u g i Vl (S Vd))(WP:Vi[a]?=some V)(WR:n0 V)(WT:cs Vd=true)(WO:a<2^62)(WK:lK V Vd=true->ag A u g i D Vp VY)(WL:lK V Vd=ap->ag A u g i D Wg VY)(WN:autoParam ((j==("__debug__":Str))=ap) ew)(WS:autoParam (∀o Vd,Mj z ap (.ref o) (.int (a:Int) Vd)=Pw [.ref o,.int (a:Int) Vd] (NN (.ref o) (.int (a:Int) Vd))) ir)(G:autoParam (Lm .Eq Vl=ap) gX):St A u g i D (.If (.Compare (.Subscript (.Name j v) z J) [.Eq] [Vl] Vg) Vp Wg VA) VY:=λ X w h d n Q s E m C O F=>by
 refine Pt (JX (Ma (h3 F WV WN λ ad vs G W6 WX WZ=>(WQ.use d F.er (Kp.refl s) λ B W8 W1 _ L U=>?_))) G);obtain⟨t,rfl⟩:=W1.int;obtain⟨B,WU,W0⟩:=aU.at WZ WP;have N:=WX.at λ o e=>L.keep _ _ e;refine Nw N.isList.typeIs JD.lookup (Tf (x:=B) N.isList (dh) (hI WO (aE true)) (by simp only[b4];simpa using WU) ?_) (WS _ _);refine WM.use d U L λ W5 W4 W2 W7 M Y=>aG (aD.bM WR WT (aL X n O) w h d.gC W4 B W5 E Y.ex (W0.keeps M.keep) W2) (λ r T WY=>?_) λ _ _ A=>A;obtain⟨e,WW⟩:=WY;subst e;refine zF ?_;have kp:=M.trans WW;rcases H:lK V Vd with _|_;·exact aG (WL H X w h d n Q T E m C O (F.kp kp)) (λ f W3 q=>q.after (.bR F.hO kp)) λ _ _ A=>A
 ·exact aG (WK H X w h d n Q T E m C O (F.kp kp)) (λ f W3 q=>q.after (.bR F.hO kp)) λ _ _ A=>A
theorem aU.set{X:ae->Prop}{h:a7}{v:ab}{p:PV}(r:RV X h v p):∀{d:List ab}{c:List PV}(i:Nat),aU X h d c->aU X h (d.set i v) (c.set i p):=λ i z=>by induction z generalizing i with
 |nil=>exact .nil|cons a b e=>
  rcases i with _|i;·exact .cons r b
  ·exact .cons a (e i)
def St.setItem(n:D.lookup j=some (.m Vi))(WL:Ev u g i Vl V)(WO:Ev u g i z (I (a:Int)))(WN:a<Vi.length)(WM:a<2^62)(WK:autoParam ((j==("__debug__":Str))=ap) ew)(WR:autoParam (∀c,ME Vl (some (.Subscript (.Name j v) z J)) Vg.line c=jq ap) cN):St A u g i D (.Assign [.Subscript (.Name j v) z J] Vl Vg) (.next i (b8 j (.m (Vi.set a V)) D)):=λ X w WZ f c W1 s E m Q O F=>by
 refine wpAny_Assign_Subscript (WL.use f F.er (Kp.refl s) λ WY W2 WW _ r N=>?_) (WR c);refine h3 (F.kp r) n WK λ ad L WQ Y WT WU=>WO.use f N r λ W3 H WX d B W0=>?_;refine ai WX.int ?_;rintro t rfl;have G:aU (aL X c O) H.heap L Vi:=aU.keeps d.keep WU;have WP:=aU.len G;refine Dm (WT.at λ o Vl=>d.keep _ _ Vl) (dh) (hI WM (aE true)) (iw (eO WP WN)) λ U C h=>?_;simp only[b4]at C;have WV:RO (aL X c O) U (L.set a WY) (.m (Vi.set a V)):=RO.b0 (λ b o WS Vl=>h.extBut b o (λ q=>WS (.inr (q▸Y))) Vl) (aU.set (WW.keeps d.keep) a G:RO _ _ _ (.m _));exact am ((F.kp B).lm (a:=H.toks) n WQ C h WV) λ M T=>⟨rfl,m,Q,O,M,(aZ.bR F.hO B).trans T⟩
def bg.DW(p:u.2=true)(y:Ev u g i (.Name Vd v) (.raw (.type "range")))(q:Ev u g i z (I C))(r:Ev u g i Vl (I Vq))(D:Jo C Vq 1=true)(B:Ic C Vq 1=a)(G:autoParam (∀d c,bD (z::d) c=(ap,He z c)::bD d c) bc)(H:autoParam (∀d c,bD (Vl::d) c=(ap,He Vl c)::bD d c) bc):bg u g i (.Call (.Name Vd v) [z,Vl] [] J) (.Name j Vg) ((dK C 1 a).map λ L=>I L):=λ X w A f c s E Q R m=>by
 refine lf y (.cons q (.cons r .nil H) G) f R λ Y T O h l=>aj λ U=>?_;refine bS O.two ?_;rintro WK WL rfl M N;refine ai M.int ?_;rintro t rfl;refine ai N.int ?_;rintro V rfl;exact U (call_range_2 (nf (f.calm p) (h.re (a:=T.toks+1) λ Vq o e=>ao _ (h.keep Vq o e)) (l.ex.keeps λ Vq o e=>ao _ e) (OH ..) D B m))
noncomputable def bM(a:ae):Option Str->PV|none=>.bare a|some x=>S x
noncomputable def bv(u:Str)(l:List (Option Str))(a t:Nat):List (Option Str):=l.mapIdx λ j o=>if bF (a<=j)&&bF (j<a+t)&&(o==some u)then none else o
noncomputable def cL(WK:Str)(l:List (Option Str))(a t:Nat):Nat:=((l.drop a).take t).count (some WK)
def i0(WN:Str)(l:List (Option Str))(lo t:Nat):(bv WN l lo t).length=l.length:=by simp[bv]
def ib(WN:Str)(l:List (Option Str))(lo t j:Nat):(bv WN l lo t)[j]?=l[j]?.map λ o=>if bF (lo<=j)&&bF (j<lo+t)&&(o==some WN)then none else o:=by simp[bv]
def vT(u:Str)(l:List (Option Str))(a:Nat):bv u l a 0=l:=by
 refine KA λ j=>?_;rw[ib];have :(bF (a<=j)&&bF (j<a+0))=ap:=by
  by_cases h:a<=j;·simp[h]
  ·simp[h]
 refine this.symm▸?_;cases l[j]?<;>simp
def vU(h:a+b<Wh.length):bv j Wh a (b+1)=if Wh.getD (a+b) none==some j then(bv j Wh a b).set (a+b) none else bv j Wh a b:=by
 have e:Wh[a+b]?=some (Wh.getD (a+b) none):=by rw[av,ay h];rfl
 generalize Wh.getD (a+b) none=o at e;refine KA λ c=>?_;simp only[ib];by_cases d:c=a+b
 · subst d;have i:(bF (a<=a+b)&&bF (a+b<a+(b+1)))=true:=by simp
   have k:(bF (a<=a+b)&&bF (a+b<a+b))=ap:=by simp
   simp only[e,i];rcases f:o==some j with _|_
   · simp only[ID,f,NI,cT,if_false];simp only[ib,e,k];rfl
   · have n:a+b<(bv j Wh a b).length:=by simp only[i0];exact h
     simp[n];intro q;exact absurd (pV f) q
 · have g:(bF (a<=c)&&bF (c<a+(b+1)))=(bF (a<=c)&&bF (c<a+b)):=by
     by_cases m:a<=c
     · have :(c<a+(b+1))↔(c<a+b):=⟨λ q=>jd q d,kJ⟩;simp only[this]
     ·simp[m]
   refine g.symm▸?_;split;·rw[List.getElem?_set_ne (J' d),ib]
   ·rw[ib]
def vV(h:a+b<Wh.length):(bv j Wh a b)[a+b]?=some (Wh.getD (a+b) none):=by
 simp only[ib,av,ay h];simp
def vW(h:a+b<Wh.length):cL j Wh a (b+1)=cL j Wh a b+(if Wh.getD (a+b) none==some j then 1 else 0):=by
 unfold cL;have c:b<(Wh.drop a).length:=by simp;exact sb h
 simp only[OO c,KC,NG];have e:(Wh.drop a)[b]=Wh.getD (a+b) none:=by simp only[av,ay h,OR];rfl
 rw[e]
def vX(h:(D.map (·.1)).all (λ n=>n !=j)=true):bu j D=D:=by
 unfold bu;exact K2.mpr λ q a=>(H7.mp h) _ (K1 a)
def DX(WK:Str)(l a:OL)(Ω:List (Str×OL)):b8 WK a (b8 WK l Ω)=b8 WK a Ω:=by
 unfold b8;simp only[ec];refine Ix λ q _=>?_;rw[Sj];cases b:q.1==WK<;>simp[b]
theorem vY{y:Str}(l:OL):∀{d:List (Str×OL)}{c:OL},d.lookup y=some c->(b8 y l d).lookup y=some l
 |[],_,h=>aQ h|(n,b)::r,c,h=>by
   simp only[aN]at h;show((if n==y then(n,l)else(n,b))::b8 y l r).lookup y=some l;rcases a:y==n with _|_
   · rw[a]at h;have e:(n==y)=ap:=by rw[beq_eq_false_iff_ne]at a⊢;exact J' a
     rw[e,if_neg (λ h=>by cases h),aN,a];exact vY l h
   ·obtain rfl:=pV a;simp
theorem vZ{y:Str}{l:OL}:∀{c:List (Str×OL)},ee c->c.lookup y=some l->b8 y l c=c
 |[],_,h=>by cases h|(n,b)::r,m,h=>by
   refine am (Jd.mp m) λ j k=>?_;simp only[aN]at h;show(if n==y then(n,l)else(n,b))::b8 y l r=_;rcases a:y==n with _|_
   · rw[a]at h;have d:(n==y)=ap:=by rw[beq_eq_false_iff_ne]at a⊢;exact J' a
     rw[d,if_neg (λ h=>by cases h),vZ k h]
   · rw[a]at h;cases h;obtain rfl:=pV a;rw[beq_self_eq_true,if_pos rfl];congr 1;unfold b8;have :∀q∈r,(if q.1==y then(q.1,l)else q)=q:=λ q i=>by
       rw[if_neg];intro e;have :=K1 (f:=(·.1)) i;simp only[pV e]at this;exact j this
     rw[Ix (g:=id) this,List.map_id]
def v0(WL:ae)(WK:Option Str)(u:Str):lK (bM WL WK) u=(WK==some u):=by
 rcases WK with _|x;·rfl
 ·show(x==u)=(some x==some u);rfl
def DY(h:a<=b)(c:b<=1000):Jo (a:Int) (b:Int) 1=true/\Ic (a:Int) (b:Int) 1=((b-a:Nat):Int):=by
 constructor;·exact RD (kM rfl) (fC (j4 h c) rfl) (kM rfl) (fC c (aE true))
 · unfold Ic;rw[if_pos (by decide)];split;·rw[QW];exact(Mt _ _).trans (Og h).symm
   ·rename_i q;rw[Nat.sub_eq_zero_of_le (S2 λ x=>q (iw x))];rfl
def St.ic{y v c f N rg V O:Str}{np vp p1 p2 p3 p4 p5 p6 p7 p8 p9 WZ W0 W1 W2 W3 W4 W5 W6 W7:Pos}(Xj:u.2=true)(Xo:b<=x)(B:x=Wh.length)(G:x<=1000)(WV:D.lookup y=some (.m (Wh.map (bM h))))(Xz:ee D)(Xq:∀z,some z∈Wh->cs z=true)(WU:cs j=true)(XD:∀r,Ev u g ((f,I r)::i) (.Name rg np) (.raw (.type "range")))(Xw:∀r,Ev u g ((f,I r)::i) (.Name V p1) (I (b:Int)))(Xv:∀r,Ev u g ((f,I r)::i) (.Name O p2) (I (x:Int)))(WX:∀p w r,Ev u g ((v,I w)::(f,I r)::i) (.Name v p) (I w))(Xy:∀p w r L,Ev u g ((f,I L)::(v,I w)::(f,I r)::i) (.Name v p) (I w))(WW:∀p w r,Ev u g ((v,I w)::(f,I r)::i) (.Name c p) (S j))(Xx:∀p w r L,Ev u g ((f,I L)::(v,I w)::(f,I r)::i) (.Name N p) (.bare h))(Xl:(f==v)=ap)(XF:ce g v=true)(XE:ce g f=true)(Xg:(D.map (·.1)).all (λ q=>q !=v)=true)(Xf:(D.map (·.1)).all (λ q=>q !=f)=true)(Xk:(f==("__classdict__":Str))=ap)(T:(y==("__debug__":Str))=ap)(Xs:∀E WO r,Sub ((f,I WO)::i) ((f,I WO)::(v,I r)::(f,I E)::i))(Xt:∀E r,Sub ((f,I E)::i) ((v,I r)::(f,I E)::i)):St A u g ((f,I 0)::i) D (.For (.Name v vp) (.Call (.Name rg np) [.Name V p1,.Name O p2] [] p3) [.If (.Compare (.Subscript (.Name y p4) (.Name v p5) p6) [.Eq] [.Name c p7] p8) [.AugAssign (.Name f p9) .Add (.Constant (.int 1) a WZ) W0,.Assign [.Subscript (.Name y W1) (.Name v W2) W3] (.Name N W4) W5] [] W7] [] W6) (.next ((f,I (cL j Wh b (x-b):Nat))::i) (b8 y (.m ((bv j Wh b (x-b)).map (bM h))) D)):=by
 refine am (DY Xo G) λ XB XC=>?_;let J:Nat->List (Str×PV):=λ d=>(f,I (cL j Wh b d:Nat))::i;let s:Nat->List (Str×OL):=λ d=>b8 y (.m ((bv j Wh b d).map (bM h))) D;let C:List PV:=(dK b 1 (x-b)).map λ Xu=>I Xu;have H:C.length=x-b:=by simp[C,dK]
 have Xr:∀d,d<x-b->C[d]?=some (I ((b+d:Nat):Int)):=λ d t=>by
   simp only[C,dK,ec,a',Rv t,ID,Sj];simp only[UJ,Kv]
 have WP:J 0=(f,I 0)::i:=by rfl
 have Xi:s 0=D:=by
   show b8 y (.m ((bv j Wh b 0).map (bM h))) D=D;rw[vT,vZ Xz WV]
 have WY:∀d,(s d).map (·.1)=D.map (·.1):=λ d=>qq _ _ _;have Y:=St.nt (A:=A) (u:=u) (g:=g) (Vl:=.Call (.Name rg np) [.Name V p1,.Name O p2] [] p3) (z:=.Name v vp) (v:=W6) (Vp:=[.If (.Compare (.Subscript (.Name y p4) (.Name v p5) p6) [.Eq] [.Name c p7] p8) [.AugAssign (.Name f p9) .Add (.Constant (.int 1) a WZ) W0,.Assign [.Subscript (.Name y W1) (.Name v W2) W3] (.Name N W4) W5] [] W7]) C J s (λ d=>[(v,I ((b+d:Nat):Int))]) (λ d=>if Wh.getD (b+d) none==some j then .next ((f,I ((cL j Wh b d:Nat)+1))::(v,I ((b+d:Nat):Int))::J d) (b8 y (.m (((bv j Wh b d).map (bM h)).set (b+d) (.bare h))) (s d))else .next ((v,I ((b+d:Nat):Int))::J d) (s d)) (by refine WP.symm▸?_;exact bg.DW Xj (XD 0) (Xw 0) (Xv 0) XB XC) (λ d p t=>by
     have :d<x-b:=by
       have :=(a8.mp t).1;exact je H this
     rw[Xr d this]at t;cases t;exact .name) (λ d z q U=>by
     refine am (by simpa using U:z=v/\_) λ XA _=>?_;obtain rfl:=XA;exact XF) (λ d t=>?_) (λ d t=>?_)
 · rw[H]at Y;simp only[WP,Xi]at Y;exact Y
 · rw[H]at t;have o:b+d<Wh.length:=bA (iz t) (j6 B);have Xm:h4 [(v,I ((b+d:Nat):Int))] (s d)=s d:=(vX (D:=s d) (by rw[WY];exact Xg):bu v (s d)=s d);refine Xm.symm▸?_;have Q:(s d).lookup y=some (.m ((bv j Wh b d).map (bM h))):=vY _ WV;have WS:((bv j Wh b d).map (bM h))[b+d]?=some (bM h (Wh.getD (b+d) none)):=by simp only[a',vV o];rfl
   have Xp:∀z,Wh.getD (b+d) none=some z->some z∈Wh:=λ z e=>by
     rw[av,ay o]at e;have Xh:Wh[b+d]=some z:=e;refine Xh▸?_;exact IK o
   have WR:n0 (bM h (Wh.getD (b+d) none)):=by
     rcases U:Wh.getD (b+d) none with _|z;·trivial
     ·exact Xq z (Xp z U)
   have WT:=v0 h (Wh.getD (b+d) none) j;have Xn:b+d<((bv j Wh b d).map (bM h)).length:=by simp[i0];exact o
   rcases M:Wh.getD (b+d) none==some j with _|_
   · rw[if_neg (λ o=>by cases o)];exact ag.cons (St.vS Q (WX _ _ _) (WW _ _ _) WS WR WU (bA (eO B o) (a2 G (aE true))) (λ q=>by rw[WT,M]at q;cases q) (λ _=>ag.nil) T) ag.nil
   · rw[if_pos rfl];have WQ:bu f (s d)=s d:=vX (by rw[WY];exact Xf);refine ag.cons (St.vS Q (WX _ _ _) (WW _ _ _) WS WR WU (bA (eO B o) (a2 G (aE true))) (λ _=>?_) (λ q=>by rw[WT,M]at q;cases q) T) ag.nil;refine ag.cons (St.fL (C:=(cL j Wh b d:Nat)) (Vq:=1) ?_ .int XE Xk) (ag.cons (St.setItem (a:=b+d) (by rw[WQ];exact Q) (Xx _ _ _ _) (Xy _ _ _ _) Xn (bA (eO B o) (a2 G (aE true))) T) ?_)
     · show((v,I ((b+d:Nat):Int))::(f,I (cL j Wh b d:Nat))::i).lookup f=_;rw[aN,Xl,aN,beq_self_eq_true]
     ·rw[WQ];exact ag.nil
 · rw[H]at t;have o:b+d<Wh.length:=bA (iz t) (j6 B);show fM (if _ then _ else _) ((f,I (cL j Wh b (d+1):Nat))::i) (b8 y (.m ((bv j Wh b (d+1)).map (bM h))) D);rw[vU o,vW o];cases M:Wh.getD (b+d) none==some j with
   |true=>
     rw[if_pos rfl,if_pos rfl,if_pos rfl];refine⟨by have :=Xs (cL j Wh b d:Nat) ((cL j Wh b d:Nat)+1) ((b+d:Nat):Int);rwa[Kv],?_⟩;rw[DX,TX];rfl|false=>
     rw[if_neg (λ o=>by cases o),if_neg (λ o=>by cases o),if_neg (λ o=>by cases o)];exact⟨Xt _ _,rfl⟩
abbrev d':=Nat×Nat×Str
noncomputable def n1(r:d'):List bP:=[.int (r.1:Int),.int (r.2.1:Int),.str r.2.2]
noncomputable abbrev ek(r:d'):PV:=.inst (.ref 269) (n1 r)
noncomputable def c1(i:Nat)(q:List (Option Str)×List (Option Str)×List d'):List (Option Str)×List (Option Str)×List d':=match q.1.getD i none with
 |none=>q|some e=>(bv e q.1 i (q.1.length-i),bv e q.2.1 0 q.2.1.length,if cL e q.1 i (q.1.length-i)==cL e q.2.1 0 q.2.1.length then q.2.2 else q.2.2++[(cL e q.1 i (q.1.length-i),cL e q.2.1 0 q.2.1.length,e)])
noncomputable def c2(i:Nat)(q:List (Option Str)×List d'):List (Option Str)×List d':=match q.1.getD i none with
 |none=>q|some e=>(bv e q.1 i (q.1.length-i),q.2++[(0,cL e q.1 i (q.1.length-i),e)])
noncomputable def ch(xs ys:List Str):Nat->List (Option Str)×List (Option Str)×List d'
 |0=>(xs.map some,ys.map some,[])|WK+1=>c1 WK (ch xs ys WK)
noncomputable def d0(WL:List (Option Str)×List d'):Nat->List (Option Str)×List d'
 |0=>WL|WK+1=>c2 WK (d0 WL WK)
noncomputable def ie(a b:List Str):List d':=(d0 (ch a b a.length).2 b.length).2
def fS(l:List (Option Str)):Prop:=∀z,some z∈l->cs z=true
def fS.bv{l:List (Option Str)}(h:fS l)(u:Str)(d t:Nat):fS (bv u l d t):=λ z c=>by
 refine ai (Io c) λ j a=>?_;rw[ib]at a;refine ak (bh.mp a) λ o b e=>?_;split at e;·exact aQ e
 ·subst e;exact h z (ct b)
theorem lL{a b:List Str}(j:∀z∈a,cs z=true)(k:∀z∈b,cs z=true):∀i,(ch a b i).1.length=a.length/\(ch a b i).2.1.length=b.length/\fS (ch a b i).1/\fS (ch a b i).2.1/\(ch a b i).2.2.length<=i
 |0=>⟨by simp[ch],by simp[ch],λ z d=>j z (by simpa[ch]using d),λ z d=>k z (by simpa[ch]using d),aB 0⟩|i+1=>by
   refine aj λ l=>d6 (lL j k i) λ e f g h c=>l ?_;unfold ch c1;split;·exact g1 e f g h (JY c)
   · refine g1 (by rw[i0];exact e) (by rw[i0];exact f) (g.bv _ _ _) (h.bv _ _ _) ?_;split;·exact JY c
     ·simp;exact c
theorem n2{q:List (Option Str)×List d'}(h:fS q.1):∀i,(d0 q i).1.length=q.1.length/\fS (d0 q i).1/\(d0 q i).2.length<=q.2.length+i
 |0=>⟨rfl,h,aB _⟩|i+1=>by
  refine a4 (n2 h i) λ a b c=>?_;unfold d0 c2;split;·exact b3 a b (j5 (dt c))
  ·exact b3 (by rw[i0];exact a) (b.bv _ _ _) (by simp;exact hz (dt c))
def DZ(a b:Int):KD (.int a) (.int b)=(a==b):=by first|rfl|(unfold KD;rfl)
def St.D0{d:List (List bP)}(H:D.lookup j=some (.m (d.map λ l=>.inst U l)))(G:autoParam ((j==("__debug__":Str))=ap) ew):St A u g i D (.Return (some (.Name j v)) J) (.ret (.insts U d)):=λ X w WP WS WR WU s E m WQ O F=>M2 (h3 F H G λ a vs WT C M f=>by
  refine⟨_,rfl,⟨a,vs,rfl,(F.new a C).2,M,by simpa using(aU.len f),λ L WV r t z=>?_⟩,F.rel,F.er.left,m,F.ns⟩;refine aj λ WO=>?_;refine ak (aU.at f (i:=L) (p:=.inst U r) (by simp only[a',z];rfl)) λ WW B WL=>?_;cases aO t B;obtain⟨b,o,n,WN,h,N,Q,T,V,Y,WK⟩:=WL;exact WO (⟨b,o,n,WN,h,N,λ q=>Q (.inl q),T,V,Y,vr (λ b o e=>dW.mpr ⟨λ q=>dH e (.inl q),e' e,dm e⟩) WK⟩))
def v1:cu 279 278 (bB [29]) (a0 [29]) [nm "actual",nm "expected"]:=cu.mk' (λ P=>by lia) (λ P=>by lia) (λ P=>⟨by lia,by lia,by lia,by lia,by lia,by lia⟩) (by decide) (by lia) (by lia) ⟨by rfl,by rfl⟩ (by lia) (by lia) (by lia)
noncomputable abbrev cC(a b c:ae)(M N:Nat):List (Str×PV):=[(nm "t",.raw (.ref c)),(nm "s",.raw (.ref b)),(nm "NULL",.bare a),(nm "m",I (M:Int)),(nm "n",I (N:Int))]
noncomputable abbrev b9(WK:ae)(R:List d')(s t:List (Option Str)):List (Str×OL):=[(nm "result",.m (R.map ek)),(nm "s",.m (s.map (bM WK))),(nm "t",.m (t.map (bM WK)))]
noncomputable def kc:List Il:=(cE ((bB [29]).getD 5 b2)).body
noncomputable def v2:List Il:=(cE ((bB [29]).getD 6 b2)).body
noncomputable def v3:Il:=kc.getD 3 b2
def D1{i c:Nat}{R:List d'}{s t:List (Option Str)}(J:t.length<=1000)(L:fS t)(r:cs j=true):St A (Vs,true) (a0 [29]) ((nm "cnt_t",I 0)::(nm "cnt_s",I (c:Int))::(nm "elem",S j)::(nm "i",I (i:Int))::cC h Q Vo a x) (b9 h R s t) v3 (.next ((nm "cnt_t",I (cL j t 0 t.length:Nat))::(nm "cnt_s",I (c:Int))::(nm "elem",S j)::(nm "i",I (i:Int))::cC h Q Vo a x) (b9 h R s (bv j t 0 t.length))):=by
 let E:=(nm "cnt_s",I (c:Int))::(nm "elem",S j)::(nm "i",I (i:Int))::cC h Q Vo a x;let k:Nat->List (Str×PV):=λ d=>(nm "cnt_t",I (cL j t 0 d:Nat))::E;let o:Nat->List (Str×OL):=λ d=>b9 h R s (bv j t 0 d);have D:St A (Vs,true) (a0 [29]) (k 0) (o 0) v3 (.next (k t.length) (o t.length)):=St.q4 (y:=nm "t") (W9:=nm "j") (W':=nm "other_elem") (h:=Vo) (λ d=>(bv j t 0 d).map (bM h)) (λ d=>bM h (t.getD d none)) k o (λ d=>if t.getD d none==some j then .next ((nm "cnt_t",I ((cL j t 0 d:Nat)+1))::(nm "other_elem",bM h (t.getD d none))::(nm "j",I (d:Int))::k d) (b9 h R s ((bv j t 0 d).set d none))else .next ((nm "other_elem",bM h (t.getD d none))::(nm "j",I (d:Int))::k d) (o d)) rfl (Ev.bl nl) Ev.nm (by rfl) (by rfl) (λ _ _=>by rfl) (λ _ _=>by rfl) (λ d _=>by simp[i0]) (λ d g=>?_) (λ d g=>?_) (λ d g=>?_)
 · have G:o 0=b9 h R s t:=by show b9 h R s (bv j t 0 0)=_;rw[vT]
   rw[G]at D;exact D
 · have :=vV (j:=j) (Wh:=t) (a:=0) (b:=d) (iz g);rw[Ik]at this;simp only[a',this];rfl
 · have f:0+d<t.length:=iz g;have w:n0 (bM h (t.getD d none)):=by
     rcases C:t.getD d none with _|z;·trivial
     · rw[av,ay g]at C;exact L z (C▸IK g)
   have B:=v0 h (t.getD d none) j;rcases p:t.getD d none==some j with _|_
   · rw[if_neg (λ f=>by cases f)];exact ag.cons (St.ite (M:=ap) (Tr.eq (Tr.cmp (aD.bM w r) Ev.nm Ev.nm) (by rw[B,p])) (λ q=>by cases q) (λ _=>ag.nil)) ag.nil
   · rw[if_pos rfl];refine ag.cons (St.ite (M:=true) (Tr.eq (Tr.cmp (aD.bM w r) Ev.nm Ev.nm) (by rw[B,p])) (λ _=>?_) (λ q=>by cases q)) ag.nil;have H:b9 h R s ((bv j t 0 d).set d none)=[(nm "result",.m (R.map ek)),(nm "s",.m (s.map (bM h))),(nm "t",.m (((bv j t 0 d).map (bM h)).set d (.bare h)))]:=by unfold b9;rw[TX];rfl
     rw[H];exact ag.cons (St.fL (C:=(cL j t 0 d:Nat)) (Vq:=1) (by rfl) .int (by rfl)) (ag.cons (St.setItem (j:=nm "t") (Vi:=(bv j t 0 d).map (bM h)) (a:=d) (by rfl) Ev.nm Ev.nm (by simp[i0];exact g) (bA g (j4 J bE))) ag.nil)
 · have f:0+d<t.length:=iz g;show fM (if _ then _ else _) ((nm "cnt_t",I (cL j t 0 (d+1):Nat))::E) (b9 h R s (bv j t 0 (d+1)));rw[vU f,vW f,Ik];cases p:t.getD d none==some j with
   |true=>
     rw[if_pos rfl,if_pos rfl,if_pos rfl];exact⟨⟨by simp only[Kv];rfl,rfl,rfl,rfl,rfl,rfl,rfl,rfl,rfl,trivial⟩,rfl⟩|false=>
     rw[if_neg (λ f=>by cases f),if_neg (λ f=>by cases f),if_neg (λ f=>by cases f)];exact⟨⟨rfl,rfl,rfl,rfl,rfl,rfl,rfl,rfl,rfl,trivial⟩,rfl⟩
def v4(h:fS Wh)(b:Wh.getD a none=some j):cs j=true/\a<Wh.length:=by
 rw[av]at b;refine ey (x:=Wh[a]?) (λ q=>?_) λ o q=>?_;·rw[q]at b;exact aQ b
 · rw[q]at b;have c:o=some j:=b;subst c;exact⟨h j (ct q),(a8.mp q).1⟩
def v5{R:List d'}{s t:List (Option Str)}:ee (b9 h R s t):=by show[nm "result",nm "s",nm "t"].Nodup;decide
def D2{s t:List (Option Str)}{R:List d'}(C:s.length=a)(D:a<=1000)(E:t.length<=1000)(w:fS s)(T:fS t)(G:R.length<=1000):∃g,ag A (x+2,true) (a0 [29]) ((nm "elem",bM h (s.getD Vs none))::(nm "i",I (Vs:Int))::cC h Q Vo a b) (b9 h R s t) kc g/\fM g (cC h Q Vo a b) (b9 h (c1 Vs (s,t,R)).2.2 (c1 Vs (s,t,R)).1 (c1 Vs (s,t,R)).2.1):=by
 subst C;have W2:(2000:Nat)<=a9:=by decide
 unfold c1;simp only;rcases L:s.getD Vs none with _|e;·exact⟨.cont ((nm "elem",.bare h)::(nm "i",I (Vs:Int))::cC h Q Vo s.length b) (b9 h R s t),ag.last (St.ite (M:=true) (Tr.cmp aD.vQ Ev.nm Ev.nm) (λ _=>ag.last St.cont trivial) (λ q=>by cases q)) trivial,⟨rfl,rfl,rfl,rfl,rfl,trivial⟩,rfl⟩
 · simp only;refine am (v4 w L) λ z O=>?_;generalize H:cL e s Vs (s.length-Vs)=d;generalize J:cL e t 0 t.length=f;have ic:=λ V vp Y p2 p3 p4 p5 p6 p7 p8 p9 WK WL WM WN WO WP WQ WR WS U=>St.ic (A:=A) (u:=(x+2,true)) (g:=a0 [29]) (y:=nm "s") (v:=nm "j") (c:=nm "elem") (f:=nm "cnt_s") (N:=nm "NULL") (rg:=nm "range") (V:=nm "i") (O:=nm "m") (np:=V) (vp:=vp) (p1:=Y) (p2:=p2) (p3:=p3) (p4:=p4) (p5:=p5) (p6:=p6) (p7:=p7) (p8:=p8) (p9:=p9) (WZ:=WK) (W0:=WL) (W1:=WM) (W2:=WN) (W3:=WO) (W4:=WP) (W5:=WQ) (W6:=WR) (W7:=WS) (a:=U) (Wh:=s) (b:=Vs) (x:=s.length) (h:=h) (j:=e) (i:=(nm "cnt_t",I 0)::(nm "elem",S e)::(nm "i",I (Vs:Int))::cC h Q Vo s.length b) (D:=b9 h R s t) rfl (j5 O) rfl D (by rfl) v5 w z (λ _=>Ev.bl h0) (λ _=>Ev.nm) (λ _=>Ev.nm) (λ _ _ _=>Ev.nm) (λ _ _ _ _=>Ev.nm) (λ _ _ _=>Ev.nm) (λ _ _ _ _=>Ev.nm) (by rfl) (by rfl) (by rfl) (by rfl) (by rfl) (by rfl) (by rfl) (λ _ _ _=>⟨rfl,rfl,rfl,rfl,rfl,rfl,rfl,rfl,rfl,trivial⟩) (λ _ _=>⟨rfl,rfl,rfl,rfl,rfl,rfl,rfl,rfl,rfl,trivial⟩);rw[H]at ic;have ng:=D1 (A:=A) (Vs:=x+2) (h:=h) (Q:=Q) (Vo:=Vo) (a:=s.length) (x:=b) (j:=e) (i:=Vs) (c:=d) (R:=R) (s:=bv e s Vs (s.length-Vs)) (t:=t) E T z;rw[J]at ng;have j:Tr (x+2,true) (a0 [29]) (seen ((nm "cnt_t",I (f:Int))::(nm "cnt_s",I (d:Int))::(nm "elem",S e)::(nm "i",I (Vs:Int))::cC h Q Vo s.length b) (b9 h R (bv e s Vs (s.length-Vs)) (bv e t 0 t.length))) ((cE (kc.getD 4 b2)).e 0) (!(d==f)):=Tr.eq (Tr.cmp (aD.ne cz.int cz.int) Ev.nm Ev.nm) (by simp only[DZ];congr 1;exact Pr.mpr (by simp only[beq_iff_eq];exact Oh));have start:∀{g:Go},ag A (x+2,true) (a0 [29]) ((nm "cnt_t",I (f:Int))::(nm "cnt_s",I (d:Int))::(nm "elem",S e)::(nm "i",I (Vs:Int))::cC h Q Vo s.length b) (b9 h R (bv e s Vs (s.length-Vs)) (bv e t 0 t.length)) (kc.drop 4) g->ag A (x+2,true) (a0 [29]) ((nm "elem",S e)::(nm "i",I (Vs:Int))::cC h Q Vo s.length b) (b9 h R s t) kc g:=λ o=>ag.cons (St.ite (M:=ap) (d:=.next _ _) (Tr.cmp aD.vP Ev.nm Ev.nm) (λ q=>by cases q) (λ _=>ag.nil)) (ag.cons (St.vw (V:=I 0) .int .int (by rfl) (by rfl)) (ag.weaken (VN:=(nm "cnt_s",I 0)::(nm "cnt_t",I 0)::(nm "elem",S e)::(nm "i",I (Vs:Int))::cC h Q Vo s.length b) (ag.cons (ic _ _ _ _ _ _ _ _ _ _ _ _ _ _ _ _ _ _ _ _ _) (ag.weaken (VN:=(nm "cnt_t",I 0)::(nm "cnt_s",I (d:Int))::(nm "elem",S e)::(nm "i",I (Vs:Int))::cC h Q Vo s.length b) (ag.cons ng o) ⟨rfl,rfl,rfl,rfl,rfl,rfl,rfl,rfl,rfl,trivial⟩)) ⟨rfl,rfl,rfl,rfl,rfl,rfl,rfl,rfl,rfl,trivial⟩));cases r:d==f with
   |true=>
     rw[if_pos rfl];rw[r]at j;exact⟨.next ((nm "cnt_t",I (f:Int))::(nm "cnt_s",I (d:Int))::(nm "elem",S e)::(nm "i",I (Vs:Int))::cC h Q Vo s.length b) _,start (ag.cons (St.ite (M:=ap) j (λ q=>by cases q) (λ _=>ag.nil)) ag.nil),⟨rfl,rfl,rfl,rfl,rfl,trivial⟩,rfl⟩|false=>
     rw[if_neg (λ o=>by cases o)];rw[r]at j;have B:b9 h (R++[(d,f,e)]) (bv e s Vs (s.length-Vs)) (bv e t 0 t.length)=[(nm "result",.m (R.map ek++[ek (d,f,e)])),(nm "s",.m ((bv e s Vs (s.length-Vs)).map (bM h))),(nm "t",.m ((bv e t 0 t.length).map (bM h)))]:=by unfold b9;refine(fs).symm▸?_;rfl
     refine B.symm▸?_;exact⟨.next ((nm "diff",ek (d,f,e))::(nm "cnt_t",I (f:Int))::(nm "cnt_s",I (d:Int))::(nm "elem",S e)::(nm "i",I (Vs:Int))::cC h Q Vo s.length b) _,start (ag.cons (St.ite (M:=true) j (λ _=>ag.cons (St.assign (V:=ek (d,f,e)) (Ev.vL (Ev.gl vK) (.cons Ev.nm (.cons Ev.nm (.cons Ev.nm .nil)))) (by rfl)) (ag.cons (St.append (j:=nm "result") (l:=.m (R.map ek)) (V:=ek (d,f,e)) (by rfl) (.inl Ev.nm) (by rfl) (by show(R.map ek).length<=a9;simp;exact a2 G (aE true))) ag.nil)) (λ q=>by cases q)) ag.nil),⟨rfl,rfl,rfl,rfl,rfl,trivial⟩,rfl⟩
def D3{s t:List (Option Str)}{R:List d'}(o:t.length=b)(r:b<=1000)(f:fS t)(w:R.length<=2000):∃g,ag A (x+2,true) (a0 [29]) ((nm "elem",bM h (t.getD Vs none))::(nm "i",I (Vs:Int))::cC h Q Vo a b) (b9 h R s t) v2 g/\fM g (cC h Q Vo a b) (b9 h (c2 Vs (t,R)).2 s (c2 Vs (t,R)).1):=by
 subst o;have WV:(3000:Nat)<=a9:=by decide
 unfold c2;simp only;rcases B:t.getD Vs none with _|e;·exact⟨.cont ((nm "elem",.bare h)::(nm "i",I (Vs:Int))::cC h Q Vo a t.length) (b9 h R s t),ag.last (St.ite (M:=true) (Tr.cmp aD.vQ Ev.nm Ev.nm) (λ _=>ag.last St.cont trivial) (λ q=>by cases q)) trivial,⟨rfl,rfl,rfl,rfl,rfl,trivial⟩,rfl⟩
 · simp only;refine am (v4 f B) λ G C=>?_;generalize z:cL e t Vs (t.length-Vs)=d;have ic:=λ E vp H p2 p3 p4 p5 p6 p7 p8 p9 J L O T U V Y WK WL D=>St.ic (A:=A) (u:=(x+2,true)) (g:=a0 [29]) (y:=nm "t") (v:=nm "j") (c:=nm "elem") (f:=nm "cnt_t") (N:=nm "NULL") (rg:=nm "range") (V:=nm "i") (O:=nm "n") (np:=E) (vp:=vp) (p1:=H) (p2:=p2) (p3:=p3) (p4:=p4) (p5:=p5) (p6:=p6) (p7:=p7) (p8:=p8) (p9:=p9) (WZ:=J) (W0:=L) (W1:=O) (W2:=T) (W3:=U) (W4:=V) (W5:=Y) (W6:=WK) (W7:=WL) (a:=D) (Wh:=t) (b:=Vs) (x:=t.length) (h:=h) (j:=e) (i:=(nm "elem",S e)::(nm "i",I (Vs:Int))::cC h Q Vo a t.length) (D:=b9 h R s t) rfl (j5 C) rfl r (by rfl) v5 f G (λ _=>Ev.bl h0 (by rfl)) (λ _=>Ev.nm) (λ _=>Ev.nm) (λ _ _ _=>Ev.nm) (λ _ _ _ _=>Ev.nm) (λ _ _ _=>Ev.nm) (λ _ _ _ _=>Ev.nm) (by rfl) (by rfl) (by rfl) (by rfl) (by rfl) (by rfl) (by rfl) (λ _ _ _=>⟨rfl,rfl,rfl,rfl,rfl,rfl,rfl,rfl,trivial⟩) (λ _ _=>⟨rfl,rfl,rfl,rfl,rfl,rfl,rfl,rfl,trivial⟩);rw[z]at ic;have j:b9 h (R++[(0,d,e)]) s (bv e t Vs (t.length-Vs))=[(nm "result",.m (R.map ek++[ek (0,d,e)])),(nm "s",.m (s.map (bM h))),(nm "t",.m ((bv e t Vs (t.length-Vs)).map (bM h)))]:=by unfold b9;refine(fs).symm▸?_;rfl
   refine j.symm▸?_;refine⟨.next ((nm "diff",ek (0,d,e))::(nm "cnt_t",I (d:Int))::(nm "elem",S e)::(nm "i",I (Vs:Int))::cC h Q Vo a t.length) _,ag.cons (St.ite (M:=ap) (d:=.next _ _) (Tr.cmp aD.vP Ev.nm Ev.nm) (λ q=>by cases q) (λ _=>ag.nil)) (ag.cons (St.assign (V:=I 0) .int (by rfl)) (ag.cons (ic _ _ _ _ _ _ _ _ _ _ _ _ _ _ _ _ _ _ _ _ _) (ag.cons (St.assign (V:=ek (0,d,e)) (Ev.vL (Ev.gl vK) (.cons .int (.cons Ev.nm (.cons Ev.nm .nil)))) (by rfl)) (ag.cons (St.append (j:=nm "result") (l:=.m (R.map ek)) (V:=ek (0,d,e)) (by rfl) (.inl Ev.nm) (by rfl) (by show(R.map ek).length<=a9;simp;exact a2 w (aE true))) ag.nil)))),⟨rfl,rfl,rfl,rfl,rfl,trivial⟩,rfl⟩
def D4(j:∀z∈G,cs z=true)(k:∀z∈VJ,cs z=true)(f:G.length<=500)(h:VJ.length<=500):ag A (a+2,true) (a0 [29]) ([nm "actual",nm "expected"].zip [Lt G,Lt VJ]) [] (bB [29]) (.ret (.insts (.ref 269) ((ie G VJ).map n1))):=by
 have V:(3000:Nat)<=a9:=by decide
 refine ag.cons St.doc (ag.cons (St.DU (j:=nm "s") (Vd:=nm "t") (G:=G) (VJ:=VJ) rfl (ei.vR (Ev.bl t6) Ev.nm (by simp;exact a2 f (aE true))) (ei.vR (Ev.bl t6) Ev.nm (by simp;exact a2 h (aE true))) (by rfl) (by rfl) (by rfl) (nO (by rfl) (by rfl) (by rfl) (by rfl) (by rfl) (by rfl) (by rfl) (by rfl))) (ag.cons (St.DV (V:=I (G.map tl).length) (VS:=I (VJ.map tl).length) rfl (Ev.cA (Fn.lh (by simp;exact bA (dt f) bE)) (Ev.bl dY) (.cons Ev.nm .nil)) (Ev.cA (Fn.lh (by simp;exact bA (dt h) bE)) (Ev.bl dY) (.cons Ev.nm .nil)) .int .int (by rfl) (by rfl) (nO (by rfl) (by rfl) (by rfl) (by rfl) (by rfl) (by rfl) (by rfl) (by rfl))) (ag.bare (Ev.bl Dw) (by rfl) λ b=>ag.cons (St.own (VX:=.m []) (ei.nil (.inr rfl)) (by rfl)) (ag.lJ (j:=nm "s") (by rfl) λ d=>ag.lJ (j:=nm "t") (by rfl) λ e=>ag.nY (j:=nm "s") (Vm:=G.map .str) (by rfl) (ag.nY (j:=nm "t") (Vm:=VJ.map .str) (by rfl) ?_)))));have E:∀{l:List Str},(l.map tl).map PV.d=(l.map some).map (bM b):=λ{l}=>by simp only[ec,ec];rfl
 rw[be,be,E,E];have t:∀i,∃g:Go,i<G.length->ag A (a+2,true) (a0 [29]) ((nm "elem",bM b ((ch G VJ i).1.getD i none))::(nm "i",I (i:Int))::cC b d e G.length VJ.length) (b9 b (ch G VJ i).2.2 (ch G VJ i).1 (ch G VJ i).2.1) kc g/\fM g (cC b d e G.length VJ.length) (b9 b (ch G VJ (i+1)).2.2 (ch G VJ (i+1)).1 (ch G VJ (i+1)).2.1):=λ i=>by
   by_cases c:i<G.length
   · refine d6 (lL j k i) λ B C D Q T=>ai (D2 (A:=A) (x:=a) (Vs:=i) (h:=b) (Q:=d) (Vo:=e) (b:=VJ.length) (R:=(ch G VJ i).2.2) B (j4 f bE) (j4 (j6 C) (a2 h (aE true))) D Q (j4 T (j4 (j5 c) (a2 f (aE true))))) λ g p=>?_;exact⟨g,λ _=>p⟩
   ·exact⟨.ret (I 0),λ q=>(c q).elim⟩
 refine aj λ U=>d6 (lL j k G.length) λ L o O r H=>U ?_;generalize J:ch G VJ G.length=q at L o O r H;have w:∀i,∃g:Go,i<VJ.length->ag A (a+2,true) (a0 [29]) ((nm "elem",bM b ((d0 q.2 i).1.getD i none))::(nm "i",I (i:Int))::cC b d e G.length VJ.length) (b9 b (d0 q.2 i).2 q.1 (d0 q.2 i).1) v2 g/\fM g (cC b d e G.length VJ.length) (b9 b (d0 q.2 (i+1)).2 q.1 (d0 q.2 (i+1)).1):=λ i=>by
   by_cases c:i<VJ.length
   · refine a4 (n2 (q:=q.2) r i) λ B C D=>ai (D3 (A:=A) (x:=a) (Vs:=i) (h:=b) (Q:=d) (Vo:=e) (a:=G.length) (s:=q.1) (R:=(d0 q.2 i).2) (B.trans o) (j4 h bE) C (an D (an (IU (an H f) (bn (aJ c h))) (by decide)))) λ g p=>?_;exact⟨g,λ _=>p⟩
   ·exact⟨.ret (I 0),λ q=>(c q).elim⟩
 refine ag.weaken (VN:=cC b d e G.length VJ.length) (ag.cons (St.q4 (b:=G.length) (y:=nm "s") (W9:=nm "i") (W':=nm "elem") (h:=d) (λ i=>(ch G VJ i).1.map (bM b)) (λ i=>bM b ((ch G VJ i).1.getD i none)) (λ _=>cC b d e G.length VJ.length) (λ i=>b9 b (ch G VJ i).2.2 (ch G VJ i).1 (ch G VJ i).2.1) (λ i=>Oc (t i)) rfl (Ev.bl nl) Ev.nm (by rfl) (by rfl) (λ _ _=>by rfl) (λ _ _=>by rfl) (λ i _=>by rw[be];exact(lL j k i).1) (λ i c=>?_) (λ i c=>(Kd (t i) c).1) (λ i c=>(Kd (t i) c).2)) ?_) ⟨rfl,rfl,rfl,rfl,rfl,trivial⟩;·rw[a',av,ay (by rw[(lL j k i).1];exact c)];rfl
 · show ag A _ _ (cC b d e G.length VJ.length) (b9 b (ch G VJ G.length).2.2 (ch G VJ G.length).1 (ch G VJ G.length).2.1) _ _;unfold ie;refine J.symm▸?_;refine ag.cons (St.q4 (b:=VJ.length) (y:=nm "t") (W9:=nm "i") (W':=nm "elem") (h:=e) (λ i=>(d0 q.2 i).1.map (bM b)) (λ i=>bM b ((d0 q.2 i).1.getD i none)) (λ _=>cC b d e G.length VJ.length) (λ i=>b9 b (d0 q.2 i).2 q.1 (d0 q.2 i).1) (λ i=>Oc (w i)) rfl (Ev.bl nl) Ev.nm (by rfl) (by rfl) (λ _ _=>by rfl) (λ _ _=>by rfl) (λ i _=>by rw[be];exact(n2 r i).1.trans o) (λ i c=>?_) (λ i c=>(Kd (w i) c).1) (λ i c=>(Kd (w i) c).2)) (ag.last (St.D0 ?_) trivial);·rw[a',av,ay (by rw[(n2 r i).1,o];exact c)];rfl
   ·rw[ec];rfl
def D5(f:∀z∈G,cs z=true)(g:∀z∈VJ,cs z=true)(c:G.length<=500)(d:VJ.length<=500):Fn (a+3,true) (.ref 279) [Lt G,Lt VJ] (.insts (.ref 269) ((ie G VJ).map n1)):=Fn.of v1 (λ P doc i e=>by
  refine cP (d9 e) ?_;rintro h b rfl;lia) rfl (D4 f g c d)
def dc.D6{I:ae}{P:Nat->ab->Prop}{St:Nat->a7->Prop}(W:U2 P0 c o I Y V4 a P St)(t:a=Vi.length)(x:∀b,¬w b->∃d,s.get? b=some d)(y:∀i p v g,Vi[i]?=some p->P i v->(KX w s g)->iP w g v p z)(C:∀b∈V4,s.get? b=none)(J:∀i h,St i h->∀b∈Y,∃d,h.get? b=some d)(H:∀i h,St i h->∀b∈V4,∀d,h.get? b=some d->¬bw d)(D:∀i v(f:aa)(Q:Unit->aa->Prop)(E:ab->aa->Prop),St i f.heap->Q () f->aA (au P0 c) o (Jl z (.ref I) v) Q E f)(G:o.handled=none):dc w c o (.ref I) z Vi (λ b=>¬w b\/b∈Y) (·∈V4) (λ i h=>St i h/\(KX w s h)) (λ i _ h=>St (i+1) h/\(KX w s h))where
 sub b j:=.inr (W.sub b j);frame i h g st l:=⟨W.frame i h g st.1 λ b j d e=>l b d (.inr j) e,λ b d m e=>l b d (.inl m) (st.2 b d m e)⟩;next i p f Q E u st k:=by
  refine W.item i f Q E (by refine t.symm▸?_;exact(a8.mp u).1) st.1 λ v g r B M l=>?_;have keep:KX w s g:=λ b d m e=>l b d (λ q=>bN (C b q) e) (st.2 b d m e);exact k v g r (y i p v g u B keep) ⟨M,keep⟩ l
 go i v p f Q E st L k:=D (i+1) v f Q E st.1 (k f.heap st L λ _ _ _ e=>e);done f Q E st k:=W.done f Q E (t▸st.1) λ g r l=>k g r l;self i f Q E st k:=W.self i f Q E st.1 k;calm _:=G;hV i h st b d j e:=H i h st.1 b j d e;there i h st b j:=j.elim (λ m=>let⟨d,e⟩:=x b m;⟨d,st.2 b d m e⟩) λ j=>J i h st.1 b j
def D7{I l:ae}(e:q.heap.IsListIter I l a)(h:VO () q):aA (au P0 c) o (Jl z (.ref I) U) VO y q:=by
 refine ci e λ k f b d=>?_;cases z with
 |Tuple|List=>cases U with
  |ref j=>
   unfold Jl;refine af (ML f ?_);rw[b,d];refine bT (by simp only[kn];rintro⟨g,_⟩;revert g;decide) ?_;exact ah h|_=>exact ah h
 |_=>exact ah h
def v6(r:o.handled=none)(U:Kp q H)(G:Ex w H.heap)(V:¬w h)(WK:H.heap.PlainList h Vc.toArray)(WL:Vc.length=Vi.length)(J:∀(i:Nat)(p:PV)(v:ab)(g:a7),Vi[i]?=some p->Vc[i]?=some v->(KX w H.heap g)->iP (λ b=>w b\/H.heap.get? b=none) g v p z)(L:∀u H j k C St D N,Kp q H->Kp H j->(∀b,N b↔w b\/H.heap.get? b=none)->dc N c o u z Vi k C St D->St 0 j.heap->(∀b,k b->b<j.heap.objs.size)->(∀b,C b->H.heap.objs.size<=b)->(∀b,k b->¬w b)->Vf u j):aA (au P0 c) VW (Ly (.ref h)) Vf y H:=by
 have n:=WK.isList;refine M1 n (ak (id n) λ WN M WM=>?_);have t:h<H.heap.objs.size:=az M;have m:∀b,(w b\/H.heap.get? b=none)↔w b\/H.heap.get? b=none:=λ _=>N1;refine L (.ref H.heap.objs.size) H _ _ _ _ _ (λ b=>w b\/H.heap.get? b=none) U Kp.push m (dc.D6 (s:=H.heap) (Pz (r) H.heap.objs.size h (br t) Vc.toArray) (by assumption) (hW m) (λ i p v g O T keep=>?_) (λ b a=>?_) (λ i l st b a=>?_) (λ i l st b a d e=>jJ ((show b=H.heap.objs.size by exact aI.mp (a))▸st.1) d e) (λ i v q Vf y st l=>D7 st.1 l) r) ⟨⟨⟨_,aF _ rfl,rfl,rfl⟩,n.push _⟩,λ b d _ e=>ao _ e⟩ (λ b a=>?_) (λ b a=>?_) (jI m G λ b a=>?_)
 · refine J i p v g O (by simpa using T) λ b d Y e=>keep b d (λ f=>?_) e;refine aH f (λ f=>?_) λ f=>?_;·exact Y f
   ·rw[e]at f;exact c7 f
 · obtain rfl:b=H.heap.objs.size:=aI.mp (a);exact cW (aB _)
 · refine aH (aP.mp a) ?_ λ a=>?_
   · rintro rfl;exact ak st.1 λ d e _=>⟨d,e⟩
   · obtain rfl:b=h:=aI.mp (a);exact ak st.2 λ d e _=>⟨d,e⟩
 · show b<(H.heap.push _).objs.size;simp only[IE];rcases a with a|a
   · refine ey (x:=H.heap.get? b) (λ e=>?_) λ d e=>?_;·exact(a (.inr e)).elim
     ·exact gb (az e)
   · rcases aP.mp a with rfl|a;·exact H9 _
     · obtain rfl:b=h:=aI.mp (a);exact gb t
 · obtain rfl:b=H.heap.objs.size:=aI.mp (a);exact aB _
 · rcases aP.mp a with rfl|a;·exact .inl (cW (aB _))
   · obtain rfl:b=h:=aI.mp (a);exact .inr V
def bg.insts{t:List (List bP)}(L:u.2=true)(h:Ev u g i z (.insts (.ref 269) t)):bg u g i z (.Tuple Vr a v) (t.map λ l=>.inst (.ref 269) l):=λ X w A j WS s E Q R J=>h.use j R (Kp.refl s) λ C B WO _ Y D=>by
  refine aj λ WQ=>?_;refine mD WO λ WR WU WM WK WL T H=>?_;obtain rfl:=WM;refine WQ (v6 (j.calm L) Y D.ex WK WL (by simp[T]) (λ V p C h' r U keep=>?_) J);rw[a']at r;refine ak (bh.mp r) ?_;rintro f O rfl;obtain⟨b,o,n,vs,G,rfl,y,m,M,N,WN⟩:=H V C f U O;have x:∀{c:ae}{d:Obj},¬X c->B.heap.get? c=some d->¬(X c\/B.heap.get? c=none):=λ n z q=>by
   refine aH q (λ q=>?_) λ q=>?_;·exact n q
   ·rw[z]at q;exact c7 q
  exact g2 b vs f G rfl (.inr rfl) (.inr ⟨o,n,x y m,keep b o y m,M,N⟩) (vr (λ c d z=>dW.mpr ⟨x (dH z) (dm z),e' z,keep c d (dH z) (dm z)⟩) WN)
def bg.D8{x:List (List bP)}(J:u.2=true)(h:Ev u g i z (Li (x.map .tuple))):bg u g i z (.Tuple Vr a v) (x.map λ l=>Tu l):=λ X w A r WV s E Q R H=>h.use r R (Kp.refl s) λ WR B WP _ V C=>by
  refine aj λ j=>?_;refine bI WP.list λ WT vs as f WK WL y=>?_;obtain rfl:=f;refine j ?_;refine v6 (r.calm J) V C.ex WK WL (by have :=cy y;simpa using this) (λ U p WR h' t O keep=>?_) H;rw[a']at t;refine aj λ j=>?_;refine ak (bh.mp t) ?_;rintro m L rfl;refine aW (hc y (i:=U) (d:=.tuple m) (by simp only[a',L];rfl)) λ WX bs G WN=>?_;cases aO O G;refine bI (RV.tuple ⟨_,WN⟩) λ T WQ D f nT WM WO=>?_;obtain rfl:=f;refine ak WM λ o M N=>?_;refine j ?_;have Y:∀{c:ae}{b:Obj},¬X c->B.heap.get? c=some b->¬(X c\/B.heap.get? c=none):=λ n z q=>by
   refine aH q (λ q=>?_) λ q=>?_;·exact n q
   ·rw[z]at q;exact c7 q
  exact g2 T WQ m D rfl (.inl rfl) (.inl ⟨o,keep T o nT M,N⟩) (vr (λ c b z=>dW.mpr ⟨Y (dH z) (dm z),e' z,keep c b (dH z) (dm z)⟩) WO)
def D9(x:s.IsTupleIter h Q a):∀o,s.get? h=some o->¬bw o:=λ o e=>by
 refine ci x λ f b c d=>?_;cases aO e b;exact bw.hX c (by decide) d λ q t=>λ s=>by cases s
def D'(WM:o.handled=none)(WO:Kp q H)(U:Ex w H.heap)(WP:¬w h)(t:H.heap.IsTuple h Vc.toArray)(J:ga (cb w H.heap) Vc Vm Y)(WK:∀G H n r L St M N,Kp q H->Kp H n->(∀b,N b↔w b\/H.heap.get? b=none)->dc N c o G (.Name j v) (Vm.map .d) r L St M->St 0 n.heap->(∀b,r b->b<n.heap.objs.size)->(∀b,L b->H.heap.objs.size<=b)->(∀b,r b->¬w b)->Vf G n):aA (au P0 c) VW (Ly (.ref h)) Vf y H:=by
 refine wpAny_pyIter_tuple t (ak (id t) λ WS WN WR=>?_);have z:h<H.heap.objs.size:=az WN;have m:∀b,(w b\/H.heap.get? b=none)↔w b\/H.heap.get? b=none:=λ _=>N1;have u:∀{b},b∈[H.heap.objs.size,h]->b=H.heap.objs.size\/b=h:=λ f=>by simpa using f
 refine WK (.ref H.heap.objs.size) H _ _ _ _ _ (λ b=>w b\/H.heap.get? b=none) WO Kp.push m (dc.qg (s:=H.heap) (Walks.tuple WM H.heap.objs.size h (br z) Vc.toArray) (by simp[cy J]) (hW m) (λ i p WT C D=>?_) (λ b f=>?_) (λ i V st b f=>?_) λ i V st b f g e=>D9 ((aI.mp f)▸st.1) g e) ⟨⟨⟨_,aF _ rfl,rfl,rfl⟩,t.push _⟩,λ b g _ e=>ao _ e⟩ (λ b f=>?_) (λ b f=>?_) (jI m U λ b f=>?_)
 · rw[a']at C;refine aj λ WQ=>?_;refine ak (bh.mp C) ?_;rintro d WL rfl;refine aW (hc J WL) λ WU O a b=>?_;cases aO a (by rw[No]at D;exact D);exact WQ (RV.lc m ⟨O,b⟩)
 · cases aI.mp f;exact cW (aB _)
 · refine aH (u f) ?_ λ k=>?_
   · rintro rfl;exact ak st.1 λ g e _=>⟨g,e⟩
   · obtain rfl:=k;exact ak st.2 λ g e _=>⟨g,e⟩
 · show b<(H.heap.push _).objs.size;simp only[IE];rcases f with f|f
   · refine ey (x:=H.heap.get? b) (λ e=>?_) λ g e=>?_;·exact(f (.inr e)).elim
     ·exact gb (az e)
   · refine aH (u f) ?_ λ k=>?_
     · rintro rfl;exact H9 _
     · obtain rfl:=k;exact gb z
 · cases aI.mp f;exact aB _
 · refine aH (u f) ?_ λ k=>?_
   · rintro rfl;exact .inl (cW (aB _))
   · obtain rfl:=k;exact .inr WP
def eh.tuple:eh (Tu Vm) j (Vm.map .d):=λ X w A B e m n s E Q v a h kp b=>by
 refine aj λ i=>?_;refine bI h.tuple λ T o k f nT c g=>?_;obtain rfl:=f;exact i (D' e kp a nT c g b)
def bg.v7(d:u.2=true)(h:Ev u g i z V)(f:eh V j Vi):bg u g i z (.Name j v) Vi:=λ X w A a p s E Q R c=>h.use a R (Kp.refl s) λ o n m _ l b=>f X w A A (a.calm d) v s n E Q o b.ex m l c
def cZ(x:Cx)(k:Lv)(c:aw)(f:List (Str×PV))(g:List (Str×OL))(e:b7)(p:PV):Prop:=∀(X:ae->Prop)(WM:ar)(A:aq),Rm k A->∀(WK:Env)(d s:aa)(E Q:ab->aa->Prop)m b WL,FB x X WM A c WK d f g m b WL s->(∀v a,FB x X WM A c WK d f g m b WL a->RV (aL X WK WL) a.heap v p->Kq x.t A s a->Q v a)->aA (au P0 WM) A (He e WK) Q E s
def lM(x:Cx)(k:Lv)(d:aw)(g:List (Str×PV))(h:List (Str×OL))(e:b7)(b:Bool):Prop:=∀(X:ae->Prop)(WL:ar)(A:aq),Rm k A->∀(WK:Env)(f s:aa)(E:ab->aa->Prop)(Q:Bool->aa->Prop)m c O,FB x X WL A d WK f g h m c O s->(∀a,FB x X WL A d WK f g h m c O a->Kq x.t A s a->Q b a)->aA (au P0 WL) A (isTrue e WK (He e WK)) Q E s
def RV.kq(T:M=true->∀b,¬w b->ff o b)(K:Kq M o q H)(r:RV w q.heap U V):RV w H.heap U V:=r.b0 λ b c a e=>K.ext.keep b c (λ h=>T h b a) e
def FB.Ea(F:FB A w c o g E q i D Ve Vn Y H):A.t=true->∀b,¬aL w E Y b->ff o b:=λ a b d=>F.eU a λ e=>d (.inl e)
def aZ.q5(hO:∀b∈Y,¬Ow w E b/\(A.t=true->ff o b))(K:Kq A.t o q H):aZ A o w E Y q Y H:=⟨λ b f d e=>K.ext.keep b f (λ c=>⟨λ a=>d (.inr (.inr ⟨c,.inl a⟩)),λ a=>d (.inr (.inr ⟨c,.inr a⟩))⟩) e,λ b h=>.inl h,λ _ h=>h,hO⟩
def cZ.gG(d:A.t=true)(WN:∀w,fI w h)(Y:ef u (.ref h) Vi V)(WM:Ev u g i (.Name j v) (.raw (.ref h)))(C:a6 u g i (z::Vr) Vi):cZ A u g i D (.Call (.Name j v) (z::Vr) [] J) V:=λ X w n c B W1 s E Q m W0 O F WK=>by
 refine dr (WM.use c F.er (Kp.refl s) λ f WX WV _ WR q=>?_);obtain rfl:f=.ref h:=WV;have WP:=C.plain (E:=B) (v:=J);refine aW (WN w _ q.left) λ o T WO WL=>?_;refine di C.cut λ _ _ WS N b G=>?_;obtain rfl:=WS;have U:=a6.use c (z:=J) (E:=E) (.cons N b G) (s:=WX) (Q:=λ l L=>(L.heap.get? h=some o/\o.data=.func T)/\aA (au P0 w) n (I1 (.ref h) l) Q E L) q WR λ l WY WW WQ H t=>⟨⟨WQ.keep _ _ WO,WL⟩,by
   have p:=F.kp H;refine aG (Y (aL X B O) w n c WY l E t.left t.ex (p.lA d) WW) (λ f WZ WT=>(a4 WT λ WU K M=>?_)) λ _ _ A=>A;exact WK f WZ (p.kt d K M) WU (by refine d.symm▸?_;exact H.kq.trans K)⟩;rw[G]at U WP⊢;exact rS (b1 U)
def cZ.comp{ba U:b7}(WP:List Str)(h:List Vb)(T:Vb->PV)(p:Vb->List (Str×PV))(c:Vb->Bool)(f:Vb->bP)(W3:u.2=true)(WN:hf WP VI g=true)(W9:cZ A u g i D U V)(Xe:eh V j (h.map T))(H:∀A,(p A).map (·.1)=WP)(W2:∀A∈h,BindsTo (.Name j J) (T A) (p A))(W':∀A∈h,eG u (bQ VI g) (p A++cj VI i) Vr (c A))(W7:∀A∈h,c A=true->Ev u (bQ VI g) (p A++cj VI i) ba (.d (f A)))(Xd:h.length<=a9)(Xb:autoParam (∀l A,Ad U l A=jq A) bc):cZ A u g i D (.ListComp ba [⟨.Name j J,U,Vr,0⟩] VI v) (Li ((h.filter c).map f)):=λ X w z B l WS s E Q m WW O F W1=>by
 have r:=(dJ.of WN).1;simp only[Rl];refine aj λ WL=>?_;refine ci (nc (E:=l) (g:=VI) λ n H=>F.er.cells n (by unfold KJ;refine(F.er.scope).symm▸?_;exact r.free n H)) λ cl W6 W4 W5=>?_;refine WL (M' (use:=none) rfl (Xb l) W6 r.kind r.names (W9 X w z B l WS s E _ m WW O F λ Xj WT a WK WV=>Xe (aL X l O) w z z (B.calm W3) J WT WT E _ Xj a.er.ex WK (Kp.refl _) λ Xr Xu Xv Xn Xw St Xl N Xg Xh W0 Fd Xc W8 Xf Xq=>(tT h T p c f r W2 (λ A _ y V e=>(dJ.of WN).2 y (H A▸jM e)) W' W7 Xd B a.er none W4 W5 Xg Xh W0 Fd Xc W8 Xf λ Xk C WR Xi Xa G Xo Xp L WK kp=>⟨Xi,L,λ h' M=>(aj λ WL=>(ak (Ns.c9 a.ns) λ Xt WY _=>WL ?_))⟩)));have WM:=Xa _ _ WY;have WO:∀b,b=C->WS.heap.objs.size<=b/\314<=b:=λ b V=>by obtain rfl:=V.symm;exact⟨an a.fresh (bn WM),an a.locals (bn WM)⟩
 have WQ:∀b o,b=C->WR.heap.get? b=some o->¬bw o:=λ b o V e=>by
  obtain rfl:=V.symm;refine ak (Ns.c9 L) λ Xs WX d=>?_;cases aO e WX;exact eJ d
 have WU:=(a.wide kp (VE:=(·=C)) (λ b V=>by obtain rfl:=V.symm;exact G) (λ b V=>by obtain rfl:=V.symm;refine ak (Ns.c9 L) λ o e _=>?_;exact⟨o,e⟩) (λ b V=>(WO b V).1) WQ).nr (s:=h') (a:=WR.toks) WO (λ b V=>by obtain rfl:=V.symm;exact λ V=>by refine ai (a.er.ex C V) λ o e=>?_;exact bN G e) WQ (λ b o Y e=>M.extBut b o Y e) λ t=>⟨(F.bi t).tab,(F.bi t).fa⟩;refine W1 _ _ WU ((WK.b0 λ b o Y e=>M.extBut b o (λ V=>Y (.inr V)) e).mono λ b V=>.inl V) ?_;exact WV.trans (Kp.kq (kp.re λ b o e=>M.extBut b o (λ V=>by obtain rfl:=V.symm;exact bN G e) (kp.keep b o e)))
def lM.cmp(C:aD Wx V VS M)(t:cZ A u g i D z V)(y:Ev u g i Vl VS)(B:autoParam (Lm Wx Vl=ap) gX):lM A u g i D (.Compare z [Wx] [Vl] v) M:=λ X w e c h L s E Q m n O F o=>JX (t X w e c h L s _ _ m n O F λ Y WL f H j=>y.use c f.er (Kp.refl _) λ U N J d WK l=>aG (C (aL X h O) w e c.gC N Y U _ l.ex (H.keeps d.keep) J) (λ _ T G=>by refine am G λ z Vl=>?_;exact z▸zF (o T (f.kp (d.trans Vl)) (j.trans (d.trans Vl).kq))) λ _ _ A=>A) B
def St.q6(h:cZ A u g i D z V)(q:ce g j=true)(o:autoParam (∀a,ME z (some (.Name j v)) J.line a=jq ap) cN):St A u g i D (.Assign [.Name j v] z J) (.next ((j,V)::i) (bu j D)):=λ X w b n a B s E m f O F=>Jf (h X w b n a B s E _ m f O F λ H C c y K=>c.store (dL q) y λ G t l d r=>⟨rfl,t,l,O,d,(aZ.q5 F.hO K).trans (.dn F.hO r)⟩) (o a)
def St.v8(h:lM A u g i D z M)(r:M=true->ag A u g i D Vp VY)(y:M=ap->ag A u g i D Wg VY):St A u g i D (.If z Vp Wg v) VY:=λ X w d l j n s E m e O F=>Pt (h X w d l j n s E _ m e O F λ p o K=>by cases M with
  |true=>exact aG (r rfl X w d l j n p E m e O o) (λ f B q=>q.after (.q5 F.hO K)) λ _ _ A=>A|false=>exact aG (y rfl X w d l j n p E m e O o) (λ f B q=>q.after (.q5 F.hO K)) λ _ _ A=>A)
def FB.Eb(F:FB A w c o g E q i D Ve Vn Y H)(M:i.lookup j=some (.d VG))(G:g.names.lookup j=some .cell):∃(h:ae)(v:ab)(u:List (ae×Obj)),E.cells.lookup j=some h/\(∀a∈u,¬gm w E Y a.1/\H.heap.get? a.1=some a.2)/\∀(t:ae->Prop)(k:a7),(∀a∈u,¬t a.1/\k.get? a.1=some a.2)->k.IsCell h (some v)/\RV t k v (.d VG):=by
 have V:=F.er.vars j _ M;unfold cc at V;simp only[F.cB,G]at V;refine aj λ N=>?_;obtain⟨h,v,e,⟨y,J,C⟩,z,r⟩:=V;refine ak (vo r) λ L f B=>N (sJ h v ((h,y)::L) e (λ a b=>(aH (aP.mp b) ?_ λ b=>?_)) (λ t k l=>⟨⟨y,(l _ (.head _)).2,C⟩,z,B _ λ a b=>dW.mpr ⟨(l a (.tail _ b)).1,e' (f a b).2,(l a (.tail _ b)).2⟩⟩))
 · rintro rfl;exact dv (λ a=>a.2 ⟨j,e⟩) J
 ·exact dv (λ p=>dH (f a b).2 p.1) (dm (f a b).2)
def fT(r:aw)(v:List (Str×PV))(x:List (Str×OL))(p:Ji)(k:b7)(i:aw)(C:ae->List (ae×Obj)->Prop):Prop:=∀(X:ae->Prop)(w:ar)(A:aq)(d:Env)(u s:aa)(m l:Str->Option ab)(O:List ae)(b:List (Str×ae)),FB bH X w A r d u v x m l O s->(∀n c,b.lookup n=some c->d.cells.lookup n=some c)->(∀n,(n,cM)∈i.names->∃c,b.lookup n=some c)->∃f:List (ae×Obj),(∀q∈f,¬gm X d O q.1/\s.heap.get? q.1=some q.2)/\∀a o e g h j t,o.data=.func e->ho e eS p k i b->e.code=.ref g->h.data=.fields j->j[1]?=some (.str eS t)->C a ((a,o)::(g,h)::f)
def fT.make{C:ae->List (ae×Obj)->Prop}(h:fT g i D V8 z VI C)(WO:∀n,(n,cM)∈VI.names->g.names.lookup n=some .cell)(WN:∀E,Pa V8 E=([],[]))(F:FB bH w c o g E q i D Ve Vn Y H)(WM:∀a L b,C a L->(∃f k,(a,f)∈L/\f.data=.func k)->FB bH w c o g E q i D Ve Vn Y b->RV (gm w E Y) b.heap (.ref a) (.kept (.ref a) L)->Kq true o H b->Vf (.ref a) b):aA (au P0 c) o (He (.Lambda V8 z VI v) E) Vf y H:=by
 refine aj λ WU=>?_;refine ci (nc (E:=E) (g:=VI) λ n WP=>F.er.cells n (.inl (by rw[F.cB];exact WO n WP))) λ B e WK WL=>?_;refine WU (F.lam (WN E) e λ a f k x WS vs t b J p M N T U V WQ WR K u=>?_);have l:=F.kt rfl K u;refine ak (h w c o E q b Ve Vn Y B l WK WL) λ WV r G=>WM a _ b (G a f k x WS vs t p M N U V) ⟨f,k,.head _,p⟩ l ⟨rfl,λ j d=>(aH (aP.mp d) ?_ λ d=>?_)⟩ K
 · rintro rfl;exact⟨λ j=>WQ j.1,J⟩
 · rcases aP.mp d with rfl|d;·exact⟨λ j=>WR j.1,T⟩
   ·exact r j d
def cZ.v9{lp np B:Pos}{l:Nat->List bP}(h:fT g i D V8 z VI λ M L=>∀u p,Vi[u]?=some p->h9 (a,true) (.ref M) L [Li (l u),p] (Li (l (u+1))))(WX:∀a,(a,cM)∈VI.names->g.names.lookup a=some .cell)(WV:∀c,Pa V8 c=([],[]))(WW:Ev (a+1,true) g i (.Name j np) (.raw (.ref 134)))(N:a6 (a+1,true) g i [Vl,Wd] [V,Li (l 0)])(WZ:eh V (nm "element") Vi):cZ bH (a+1,true) g i D (.Call (.Name j np) [.Lambda V8 z VI lp,Vl,Wd] [] B) (Li (l Vi.length)):=λ X w A r c W' s E Q m W8 O F WT=>by
 refine dr (WW.use r F.er (Kp.refl s) λ v W4 W3 _ Y WP=>(aj λ W7=>?_));obtain rfl:v=.ref 134:=W3;have T:∀WL c,bD (Pg V8 z VI lp::WL) c=(ap,He (.Lambda V8 z VI lp) c)::bD WL c:=by intros;rfl
 have W9:=N.plain (E:=c) (v:=B);have t:∀w,fI w 134:=de λ P=>⟨_,iY.fn P⟩;refine aW (t w _ WP.left) λ o fd WY WU=>W7 ?_;have U:aA (au P0 w) A (Qr (L7 B (bD [Pg V8 z VI lp,Vl,Wd] c))) (λ vs WM=>(WM.heap.get? 134=some o/\o.data=.func fd)/\aA (au P0 w) A (I1 (.ref 134) vs) Q E WM) E W4:=by
  refine IM (h.make WX WV (F.kp Y) λ M L Xa WS t G C J=>(a6.use r N G.er (Kp.refl _) λ vs W5 W2 d _ WQ=>?_)) (T _ _);have k:=G.kp d;refine⟨⟨d.keep _ _ (J.ext.keep 134 o (λ _=>⟨(by decide:¬c8 134=true),(λ f=>absurd ((F.bi rfl).dA.fa f).1 (by decide))⟩) WY),WU⟩,?_⟩;refine aG (CD WZ WS t (gm X c O) w A r W5 _ E WQ.left k.qZ (k.nS rfl) (.cons (C.keeps d.keep) (W2.shift λ b o W0 e=>⟨λ V=>W0 V.1,e⟩))) (λ v W6 W1=>(a4 W1 λ C K WO=>?_)) λ _ _ x=>x;have H:=k.kt rfl K WO;exact WT v W6 H (H.CW C) (((Kp.kq Y).trans J).trans ((Kp.kq d).trans K))
 rw[T]at U⊢;exact rS (b1 U)
section
set_option genInjectivity false
structure SD where
 objs:List (ae×Obj)n:Nat
 tk:Nat
inductive n3(b:Type)|val(a:b)|err(e:ab)|more(t:Sem b)
abbrev cD:=List (ae×ae)
abbrev i1(a:Type):=n3 a×SD×Nat×cD
noncomputable def n4(o:Obj):Option (Array ab×Nat):=match o.data with
 |.seq a k=>some (a,k)|_=>none
noncomputable def q7(v:ab):Bool:=match v with
 |.type t=>t=="list"|_=>ap
noncomputable def q8(WK:Obj):Bool:=q7 WK.cls&&(WK.dict.isNone&&(WK.slots.isEmpty&&(n4 WK).any λ x=>x.1.isEmpty&&x.2==0))
noncomputable def v'(WK:Obj):Option (Array ab):=(n4 WK).bind λ x=>d7 (q7 WK.cls&&LH x.1.size 100) (some x.1)
noncomputable def q9(v:ab):Option ae:=match v with
 |.ref a=>some a|_=>none
noncomputable def wa(c:Tw):Option (ae×ae):=match c.pos with
 |[]=>none|WK::r=>match r with
  |[]=>none|WL::r=>d7 (r.isEmpty&&c.kw.isEmpty) ((q9 WK).bind λ a=>(q9 WL).bind λ b=>some (a,b))
def wb{x:Array ab×Nat}(h:n4 O=some x):O.data=.seq x.1 x.2:=by
 obtain⟨c,d,a,b⟩:=O;cases a<;>first|exact aQ h|(obtain rfl:=ax h;rfl)
def wc(h:q7 U=true):U=.type "list":=by cases U<;>first|(cases h;done)|exact congrArg Iv (pV h)
def wd(b:q9 U=some h):U=.ref h:=by cases U<;>first|exact aQ b|(obtain rfl:=ax b;rfl)
noncomputable def Ec(WK:Tw)(a:SD)(b:Nat)(d:cD):Option (JH×SD×Nat×cD):=(wa WK).bind λ c=>(a.objs[b%128]?).bind λ p=>(a.objs[b/128%128]?).bind λ q=>(v' q.2).bind λ e=>if q8 p.2 then some (.ok (.ret (.ref c.1)),⟨a.objs.set (b%128) (p.1,wx (·++e) {cls:=.type "list",data:=.seq #[] 0}),a.n,a.tk⟩,b/128/128,(c.1,p.1)::(c.2,q.1)::d)else none
noncomputable def q'(c:Nv)(e:SD)(d:Nat)(b:cD):Option (JH×SD×Nat×cD):=match c with
 |.builtin id a=>if id=="list.__iadd__"then Ec a e d b else none|_=>none
abbrev fo(α:Type):=SD->Nat->cD->Option (i1 α)
noncomputable def we(a:Nv->SD->Nat->cD->Option (JH×SD×Nat×cD))(o:i1 Jj):Option (JH×SD×Nat×cD):=match o.1 with
 |.val (.done f)=>some (.ok f,o.2)|.val (.again c)=>if c.quiet=true then a c o.2.1 o.2.2.1 o.2.2.2 else none|.err e=>some (.error e,o.2)|.more _=>none
noncomputable def ra(run:Sem Jj->fo Jj)(WL:Nv->Sem Jj):Nat->Nv->SD->Nat->cD->Option (JH×SD×Nat×cD)
 |0,_,_,_,_=>none|m+1,WK,st,sc,WM=>(q' WK st sc WM).or ((run (WL WK) st sc WM).bind (we (ra run WL m)))
noncomputable def Ed(run:Sem Vb->fo Vb)(a:ae)(q:Option ab)(k:Obj->Sem Vb):fo Vb:=λ st b c=>bif QP (b%128) 127 then some (.more (.load a q k),st,b,c)else(st.objs[b%128]?).bind λ q=>run (k q.2) st (b/128) ((a,q.1)::c)
noncomputable def Ee(run:Sem Vb->fo Vb)(a:ae)(g:Obj->Obj)(k:Unit->Sem Vb):fo Vb:=λ st b c=>(st.objs[b%128]?).bind λ q=>(alive (g q.2)).bind λ o=>run (k ()) ⟨st.objs.set (b%128) (q.1,o),st.n,st.tk⟩ (b/128) ((a,q.1)::c)
noncomputable def Ef(run:Sem Vb->fo Vb)(o:Obj)(k:ae->Sem Vb):fo Vb:=λ st b a=>(alive o).bind λ o=>run (k st.n) ⟨st.objs++[(st.n,o)],st.n+1,st.tk⟩ b a
noncomputable def Eg(run:Sem Vb->fo Vb)(a:Nv->SD->Nat->cD->Option (JH×SD×Nat×cD))(c:Nv)(k:JH->Sem Vb):fo Vb:=λ st d b=>(a c st d b).bind λ o=>run (k o.1) o.2.1 o.2.2.1 o.2.2.2
noncomputable def el(WO:Nv->Sem Jj)(S:Setting)(n:Nat):{α:Type}->Sem α->fo α:=n.rec (motive:=λ _=>{α:Type}->Sem α->fo α) (λ t st d b=>some (.more t,st,d,b)) λ _ r{α}t=>t.casesOn (motive:=λ _=>fo α) (λ f st d b=>some (.val f,st,d,b)) (λ e st d b=>some (.err e,st,d,b)) (λ _ _ _ _=>none) (λ _ _ _ _=>none) (λ _ k=>r (k ())) (λ _ k=>r (k ())) (λ a q k=>Ed r a q k) (λ a _ g k=>Ee r a g k) (λ o k=>Ef r o k) (λ _ _ _ _ _=>none) (λ _ k=>r (k ())) (λ _ _ _ _ _=>none) (λ k st d b=>r (k st.tk) ⟨st.objs,st.n,st.tk+1⟩ d b) (λ k=>r (k S)) (λ _ _ _ _ _ _=>none) (λ _ _ _ _ _ _=>none) (λ c h _ _ k st d b=>d7 h.isNone (Eg r (ra r WO 8) c k st d b)) (λ own k st d b=>d7 (!own) (r (k none) st d b)) (λ _ _ _ _ _=>none) (λ _ _ _ _ _=>none) (λ _ _ _ _ _ _ _=>none) (λ _ _ _ _ _ _ _=>none) (λ _ _ _ _=>none) (λ _ _ _ _ _=>none) (λ _ _ _ _=>none) (λ _ _ _ _ _ _ _ _=>none)
structure bL(st:SD)(s:aa):Prop where
 objs:∀(i:Nat)(a:ae)(o:Obj),st.objs[i]?=some (a,o)->s.heap.get? a=some o
 inj:∀(i j:Nat)(a:ae)(o b:Obj),st.objs[i]?=some (a,o)->st.objs[j]?=some (a,b)->i=j
 size:s.heap.objs.size=st.n
 tk:s.toks=st.tk
structure fp(st e:SD)(s c:aa):Prop where
 rest:c={s with heap:=c.heap,toks:=c.toks}keep:∀(b:ae)(o:Obj),(∀(i:Nat)(d:Obj),st.objs[i]?≠some (b,d))->s.heap.get? b=some o->c.heap.get? b=some o
 known:∀(i:Nat)(a:ae)(o:Obj),st.objs[i]?=some (a,o)->∃d,e.objs[i]?=some (a,d)size:s.heap.objs.size<=c.heap.objs.size
def fp.refl(a:SD)(s:aa):fp a a s s:=⟨rfl,λ _ _ _ e=>e,λ _ _ o e=>⟨o,e⟩,aB _⟩
def fp.trans{g h j:SD}(R:bL g q)(a:fp g h q H)(b:fp h j H VH)(l:∀(i:Nat)(c:ae)(o:Obj),h.objs[i]?=some (c,o)->(∃d,g.objs[i]?=some (c,d))\/q.heap.objs.size<=c):fp g j q VH:=by
 refine⟨by rw[b.rest,a.rest],λ c o n e=>b.keep c o (λ i d f=>?_) (a.keep c o n e),λ i c o e=>?_,an a.size b.size⟩
 · refine aH (l i c d f) (λ p=>?_) λ f=>?_;·exact ai p λ m f=>n i m f
   ·exact absurd (az e) (b'.mpr f)
 ·exact ai (a.known i c o e) λ d k=>b.known i c d k
def wf(h:alive O=some VQ):VQ=O/\O.isFreed=ap:=by
 obtain⟨c,d,a,b⟩:=O;cases a<;>first|exact⟨(ax h).symm,rfl⟩|exact aQ h
def fq(b d:SD)(e:Nat):Prop:=∀(i:Nat)(c:ae)(o:Obj),d.objs[i]?=some (c,o)->(∃a,b.objs[i]?=some (c,a))\/e<=c
def fq.trans{d f g:SD}(m:a<=b)(j:fq d f a)(k:fq f g b):fq d g a:=λ i c o e=>by
 rcases k i c o e with⟨n,l⟩|h;·exact j i c n l
 ·exact .inr (an m h)
def wg{d:SD}{g:Obj->Obj}(R:bL d q)(p:d.objs[a]?=some (h,O))(G:alive (g O)=some VQ):bL ⟨d.objs.set a (h,VQ),d.n,d.tk⟩ {q with heap:=q.heap.update h g}/\fp d ⟨d.objs.set a (h,VQ),d.n,d.tk⟩ q {q with heap:=q.heap.update h g}/\fq d ⟨d.objs.set a (h,VQ),d.n,d.tk⟩ q.heap.objs.size:=by
 refine am (wf G) ?_;rintro rfl H;have C:a<d.objs.length:=(a8.mp p).1;have r:∀(j:Nat)(c:ae)(x:Obj),(d.objs.set a (h,g O))[j]?=some (c,x)->(j=a/\c=h/\x=g O)\/(j≠a/\d.objs[j]?=some (c,x)):=λ j c x e=>by
   rw[OS]at e;by_cases f:a=j
   · subst f;rw[if_pos rfl,if_pos C]at e;cases e;exact .inl ⟨rfl,rfl,rfl⟩
   · rw[if_neg f]at e;exact .inr ⟨λ t=>f t.symm,e⟩
 refine⟨⟨λ j c x e=>?_,λ j l c x y e z=>?_,?_,R.tk⟩,⟨rfl,λ c x n e=>?_,λ j c x e=>?_,?_⟩,λ j c x e=>?_⟩
 · refine aH (r j c x e) (λ k=>?_) λ m=>?_
   · refine a4 k ?_;rintro _ rfl w;obtain rfl:=w;exact cQ _ (R.objs a _ O p) H
   · refine am m λ f e=>?_;show(q.heap.update h g).get? c=_;rw[NY _ _ _ _ λ(t:c=h)=>f (R.inj j a c x O e (by rw[t];exact p))];exact R.objs j c x e
 · refine aH (r j c x e) (λ k=>?_) λ m=>?_
   · refine a4 k λ B D _=>aH (r l c y z) (λ k=>?_) λ m=>?_
     · refine a4 k λ v _ _=>?_;simp only[B,v]
     · refine am m λ _ u=>?_;rw[B];exact R.inj a l c O y (by rw[D];exact p) u
   · refine am m λ _ A=>aH (r l c y z) (λ k=>?_) λ m=>?_
     · refine a4 k λ v E _=>?_;simp only[v];exact R.inj j a c x O A (by rw[E];exact p)
     ·exact am m λ _ u=>R.inj j l c x y A u
 · show(q.heap.update h g).objs.size=_;simp only[O5];exact R.size
 · show(q.heap.update h g).get? c=_;rw[NY _ _ _ _ λ(t:c=h)=>n a O (by rw[t];exact p)];exact e
 · by_cases f:a=j
   · subst f;cases aO p e;exact⟨g O,by rw[OS,if_pos rfl,if_pos C]⟩
   ·exact⟨x,by rw[OS,if_neg f];exact e⟩
 · show _<=(q.heap.update h g).objs.size;simp only[O5];exact aB _
 · refine aH (r j c x e) (λ k=>?_) λ m=>?_
   · refine a4 k ?_;rintro rfl J w;obtain rfl:=J;obtain rfl:=w;exact .inl ⟨O,p⟩
   ·exact am m λ f e=>.inl ⟨x,e⟩
def Eh{a:SD}(R:bL a q)(u:alive O=some VQ):bL ⟨a.objs++[(a.n,VQ)],a.n+1,a.tk⟩ {q with heap:=q.heap.push O}/\fp a ⟨a.objs++[(a.n,VQ)],a.n+1,a.tk⟩ q {q with heap:=q.heap.push O}/\fq a ⟨a.objs++[(a.n,VQ)],a.n+1,a.tk⟩ q.heap.objs.size:=by
 refine am (wf u) ?_;rintro rfl v;have b:∀(j:Nat)(c:ae)(x:Obj),(a.objs++[(a.n,VQ)])[j]?=some (c,x)->a.objs[j]?=some (c,x)\/(j=a.objs.length/\c=a.n/\x=VQ):=λ j c x e=>by
   rw[Rc]at e;split at e;·exact .inl e
   · rename_i w;have i:j-a.objs.length=0:=by
       have :=(a8.mp e).1;simp only[Kw]at this;exact hA (dF this) bE
     rw[i]at e;cases e;exact .inr ⟨gu (iu i) w,rfl,rfl⟩
 have k:∀(j:Nat)(c:ae)(x:Obj),a.objs[j]?=some (c,x)->c≠a.n:=λ j c x e z=>by
   have :=az (R.objs j c x e);simp only[R.size,z]at this;exact Iw _ this
 refine b3 ⟨λ j c x e=>?_,λ j l c x y e g=>?_,?_,R.tk⟩ ⟨rfl,λ c x n e=>ao _ e,λ j c x e=>⟨x,?_⟩,?_⟩ (λ j c x e=>?_)
 · rcases b j c x e with e|⟨_,rfl,rfl⟩;·exact ao _ (R.objs j c x e)
   · show(q.heap.push _).get? a.n=_;refine R.size▸?_;exact aF _ v
 · refine aH (b j c x e) (λ h=>?_) λ d=>?_
   · refine aH (b l c y g) (λ f=>?_) λ d=>?_;·exact R.inj _ _ _ _ _ h f
     ·exact a4 d λ _ t _=>(k _ _ _ h t).elim
   · refine a4 d λ m p _=>aH (b l c y g) (λ f=>?_) λ d=>?_;·exact(k _ _ _ f p).elim
     · refine a4 d λ r _ _=>?_;simp only[m,r]
 · show(q.heap.push _).objs.size=a.n+1;rw[IE,R.size]
 · show(a.objs++[(a.n,VQ)])[j]?=_;rw[GZ (a8.mp e).1];exact e
 · show _<=(q.heap.push _).objs.size;simp only[IE];exact I5 _
 · rcases b j c x e with e|⟨_,rfl,_⟩;·exact .inl ⟨x,e⟩
   ·exact .inr (Ja R.size)
def ke(c b:SD)(s:aa)(C:aa->Prop):Prop:=∀a,bL b a->fp c b s a->fq c b s.heap.objs.size->C a
def ke.step{a b c:SD}{C:aa->Prop}(R:bL a q)(G:fp a b q H)(N:fq a b q.heap.objs.size)(h:ke a c q C):ke b c H C:=λ g f d e=>h g f (G.trans R d N) (fq.trans G.size N e)
def n3.To(M:LL)(a:Ctx)(Q:Vb->Pos->aa->Prop)(E:ab->Pos->aa->Prop):n3 Vb->aa->Prop
 |.val f,s=>∀p,Q f p s|.err e,s=>∀p,E e p s|.more t,s=>∀p,NQ M a t Q E p s
def wh(WK:dQ)(WL:ar)(α:Type)(run:Sem α->SD->Nat->cD->Option (i1 α)):Prop:=∀t st f d c e g a,run t st f d=some (c,e,g,a)->(∃new,a=new++d)/\((∀q∈a,q.1=q.2)->∀(b:Ctx)p s Q E,b.handled=none->bL st s->ke st e s (n3.To (au WK WL) b Q E c)->NQ (au WK WL) b t Q E p s)
def Ej(h:q8 O=true):O={cls:=.type "list",data:=.seq #[] 0}:=by
 refine am (x4.mp h) λ a h=>am (x4.mp h) λ g h=>am (x4.mp h) λ i h=>ey (x:=n4 O) (λ e=>?_) λ x e=>?_;·rw[e]at h;cases h
 · rw[e]at h;refine am (x4.mp (show(x.1.isEmpty&&x.2==0)=true from h)) λ j k=>?_;have b:=wb e;have a:=wc a;obtain⟨c,d,f,l⟩:=O;simp only[show x.1=#[]from My.mp j,pV k]at b;simp only[show c=_ from a,show d=none from PJ.mp g,show f=_ from b,show l=#[]from My.mp i]
def Ek(h:v' O=some Vz):O.cls=.type "list"/\(∃k,O.data=.seq Vz k)/\Vz.size<=100:=by
 refine aj λ c=>ak (e6 h) λ x e h=>am (gc h) λ a h=>?_;obtain rfl:=ax h;exact am (x4.mp a) λ a b=>c (b3 (wc a) ⟨_,wb e⟩ (bW b))
def El{c:ae×ae}(h:wa Wv=some c):Wv=⟨[.ref c.1,.ref c.2],[]⟩:=by
 obtain⟨j,i⟩:=Wv;obtain _|⟨x,_|⟨y,r⟩⟩:=j;·exact aQ h
 ·exact aQ h
 · refine am (gc h) λ d h=>am (x4.mp d) λ d e=>ak (e6 h) λ a f h=>ak (e6 h) λ b g h=>?_;obtain rfl:=ax h;simp only[wd f,wd g,O7.mp d,show i=[]from O7.mp e]
def Em{j:Nv}{st H o r}(h:q' j st H o=some r):(∃new,r.2.2.2=new++o)/\((∀q∈r.2.2.2,q.1=q.2)->∀(d:Ctx)p s(C:JH->aa->Prop),d.code=j->d.handled=none->bL st s->ke st r.2.1 s (C r.1)->wpCode (au Vj c) d C p s):=by
 unfold q' at h;cases j with
 |builtin id L=>
   dsimp only at h;by_cases l:(id=="list.__iadd__")=true
   · rw[if_pos l,beq_iff_eq]at*;subst l;refine ak (dg.mp h) λ e y h=>?_;obtain⟨a,b⟩:=e;refine ak (dg.mp h) λ e m h=>?_;obtain⟨f,E⟩:=e;refine ak (dg.mp h) λ e A h=>?_;obtain⟨i,O⟩:=e;refine ak (dg.mp h) λ J z h=>?_;refine a4 (Ek z) λ c2 G D=>?_;obtain⟨N,x⟩:=G;by_cases k:q8 E=true
     · dsimp only at h;cases aO (if_pos k) h;obtain rfl:=Ej k;obtain rfl:=El y;refine⟨⟨[(a,f),(b,i)],rfl⟩,λ n d p s C B M R P=>?_⟩;obtain rfl:a=f:=n (a,f) (.head _);obtain rfl:b=i:=n (b,i) (.tail _ (.head _));have X:JM (au Vj c) {handled:=d.handled,depth:=Tl d.below,frames:=none,guards:=none,units:=unitsOf d.below} (.builtin "list.__iadd__" ⟨[.ref a,.ref b],[]⟩) C s:=by
         refine hN Pf ?_;rw[fH LR _];refine wpAny_extend_seq (hsz:=an D (by decide)) a b _ 0 (.inl rfl) (R.objs _ _ _ m) (R.objs _ _ _ A) c2 x ?_;exact a4 (wg (g:=wx (·++J)) R m rfl) λ v t u=>P _ v t u
       exact X d p B ⟨rfl,aB _,λ _ h=>(by cases h),λ _ h=>(by cases h),aB _⟩
     · dsimp only at h;exact bN (if_neg k) h
   ·exact bN (if_neg l) h|_=>exact aQ h
theorem wi{D:dQ}{w:ar}{run:Sem Jj->fo Jj}(S:wh D w Jj run):∀(m:Nat)(c:Nv)st E A r,ra run (Lc Kj) m c st E A=some r->(∃new,r.2.2.2=new++A)/\((∀q∈r.2.2.2,q.1=q.2)->∀(a:Ctx)p s(C:JH->aa->Prop),a.code=c->a.handled=none->bL st s->ke st r.2.1 s (C r.1)->wpCode (au D w) a C p s)
 |0,_,_,_,_,_,h=>aQ h|m+1,c,st,E,A,r,h=>by
   refine aH (Option.or_eq_some_iff.mp h) (λ h=>?_) λ J=>?_;·exact Em h
   · obtain⟨_,h⟩:=J;refine ak (dg.mp h) λ u G h=>?_;obtain⟨o,O,N,M⟩:=u;refine am (S _ _ _ _ _ _ _ _ G) λ u b=>?_;obtain⟨z,y⟩:=u;cases o with
     |more=>exact aQ h|err e=>
       obtain rfl:=ax h;exact⟨⟨z,y⟩,λ i a p s C n g R P=>(M9 _ _ _ _ _).mpr (n▸b i a p s _ _ g R λ v l j k p=>P v l j k)⟩|val f=>cases f with
       |done f=>
         obtain rfl:=ax h;exact⟨⟨z,y⟩,λ i a p s C n g R P=>(M9 _ _ _ _ _).mpr (n▸b i a p s _ _ g R λ v l j k p=>P v l j k)⟩|again x=>
         unfold we at h;dsimp only at h;by_cases t:x.quiet=true
         · rw[if_pos t]at h;refine aj λ L=>?_;refine am (wi S m x _ _ _ _ h) λ u d=>?_;obtain⟨H,B⟩:=u;refine L ?_;exact⟨⟨H++z,by simp only[B,y,jB]⟩,λ i a p s C n g R P=>(M9 _ _ _ _ _).mpr (n▸b (λ q t=>i q (by refine B.symm▸?_;exact iq _ t)) a p s _ _ g R λ v l j k p=>⟨t,d i (a.goto x) p v C rfl g l (P.step R j k)⟩)⟩
         ·exact bN (if_neg t) h
def En{a c d e:Type}{x:a}{y:c}{z:d}{u:e}{o:Option (a×c×d×e)}{i:a}{j:c}{k:d}{g:e}(f:M=true)(h:(bif M then some (x,y,z,u)else o)=some (i,j,k,g)):i=x/\j=y/\k=z/\g=u:=by subst f;cases h;exact iD rfl rfl rfl rfl
def Eo{x y:Vb}(f:M=ap){r:Vb}(h:(bif M then x else y)=r):y=r:=by subst f;exact h
theorem n5(z:dQ)(w:ar):∀(n:Nat)(A:Type),wh z w A (el (Lc Kj) ⟨z,w.params⟩ n)
 |0,_,_,_,_,_,_,_,_,_,WK=>by cases WK;exact⟨⟨[],rfl⟩,λ _ WM p WL WO WN _ R P=>P WL R (.refl _ _) (λ i c o e=>.inl ⟨o,e⟩) p⟩|n+1,A,t,st,Y,WX,WW,W0,WZ,WY,WK=>by
   have WS:=n5 z w n A;cases t with
   |pure f=>cases WK;exact⟨⟨[],rfl⟩,λ _ WM p WL WO WN _ R P=>P WL R (.refl _ _) (λ i c o e=>.inl ⟨o,e⟩) p⟩|raise e=>cases WK;exact⟨⟨[],rfl⟩,λ _ WM p WL WO WN _ R P=>P WL R (.refl _ _) (λ i c o e=>.inl ⟨o,e⟩) p⟩|rule W1 k=>refine am (WS _ _ _ _ _ _ _ _ WK) λ a WR=>?_;exact⟨a,λ WP WM p WL WO WN WQ R P=>WR WP WM p WL WO WN WQ R P⟩|«at»q k=>refine am (WS _ _ _ _ _ _ _ _ WK) λ a WR=>?_;exact⟨a,λ WP WM p WL WO WN WQ R P=>WR WP WM q WL WO WN WQ R P⟩|point l k=>refine am (WS _ _ _ _ _ _ _ _ WK) λ a WR=>?_;exact⟨a,λ WP WM p WL WO WN WQ R P=>WR WP WM p WL WO WN WQ R P⟩|load a q k=>
     refine gy (M:=QP (Y%128) 127) (λ f=>?_) λ f=>?_;rotate_left
     · refine iB (En f WK) λ j O T U=>?_;obtain rfl:=j;obtain rfl:=O;obtain rfl:=T;obtain rfl:=U;exact⟨⟨[],rfl⟩,λ _ WM p WL WO WN _ R P=>P WL R (.refl _ _) (λ i c o e=>.inl ⟨o,e⟩) p⟩
     refine aj λ m=>?_;refine ak (dg.mp (Eo f WK)) λ j WT WK=>?_;obtain⟨WR,o⟩:=j;refine am (WS _ _ _ _ _ _ _ _ WK) λ j d=>?_;obtain⟨new,e⟩:=j;refine m ?_;refine⟨⟨new++[(a,WR)],by simp only[e,jB];rfl⟩,λ WP WM p WL WO WN WQ R P=>⟨o,?_,d WP WM p WL WO WN WQ R P⟩⟩;have :a=WR:=WP (a,WR) (by rw[e];exact iq _ (.head _));refine this.symm▸?_;exact R.objs _ _ _ WT|update a q g k=>
     refine aj λ m=>?_;refine ak (dg.mp WK) λ j WT WK=>?_;obtain⟨WR,o⟩:=j;refine ak (dg.mp WK) λ N WV WK=>?_;refine am (WS _ _ _ _ _ _ _ _ WK) λ j d=>?_;obtain⟨new,e⟩:=j;refine m ?_;refine⟨⟨new++[(a,WR)],by simp only[e,jB];rfl⟩,λ WP WM p WL WO WN WQ R P=>?_⟩;have :a=WR:=WP (a,WR) (by rw[e];exact iq _ (.head _));obtain rfl:=this.symm;refine a4 (wg R WT WV) λ u v y=>?_;exact⟨by rw[R.objs _ _ _ WT];rfl,d WP WM p _ WO WN WQ u (P.step R v y)⟩|alloc o k=>
     refine aj λ m=>ak (dg.mp WK) λ N WV WK=>am (WS _ _ _ _ _ _ _ _ WK) λ a d=>m ⟨a,λ WP WM p WL WO WN WQ R P=>(aj λ m=>(a4 (Eh R WV) λ u v y=>m ?_))⟩;show NQ _ _ (k WL.heap.objs.size) _ _ _ _;exact(R.size).symm▸(d WP WM p _ WO WN WQ u (P.step R v y))|fresh k=>
     refine am (WS _ _ _ _ _ _ _ _ WK) λ a d=>⟨a,λ WP WM p WL WO WN WQ R P=>?_⟩;show NQ _ _ (k WL.toks) _ _ _ _;refine(R.tk).symm▸?_;have u:bL ⟨st.objs,st.n,st.tk+1⟩ {WL with toks:=WL.toks+1}:=⟨R.objs,R.inj,R.size,congrArg (·+1) R.tk⟩;rw[show st.tk=WL.toks from R.tk.symm];rw[show st.tk=WL.toks from R.tk.symm]at d u;exact d WP WM p _ WO WN WQ u (P.step R ⟨rfl,λ _ _ _ e=>e,λ _ _ o e=>⟨o,e⟩,aB _⟩ λ i c o e=>.inl ⟨o,e⟩)|ask k=>refine am (WS _ _ _ _ _ _ _ _ WK) λ a WR=>?_;exact⟨a,λ WP WM p WL WO WN WQ R P=>WR WP WM p WL WO WN WQ R P⟩|handled own k=>
       refine am (gc WK) λ WT WK=>?_;obtain rfl:own=ap:=by cases own;rfl;cases WT
       refine am (WS _ _ _ _ _ _ _ _ WK) λ a WR=>⟨a,λ WP WM p WL WO WN WQ R P=>?_⟩;show NQ _ _ (k WM.handled) _ _ _ _;exact WQ.symm▸(WR WP WM p WL WO WN WQ R P)|call c D g l k=>
       refine aj λ m=>am (gc WK) λ G WK=>?_;obtain rfl:D=none:=PJ.mp G;refine ak (dg.mp WK) λ r J WK=>?_;refine am (wi (n5 z w n Jj) 8 c _ _ _ _ J) λ j WR=>?_;obtain⟨L,C⟩:=j;refine am (WS _ _ _ _ _ _ _ _ WK) λ j d=>?_;obtain⟨M,B⟩:=j;refine m ?_;exact⟨⟨M++L,by simp only[B,C,jB]⟩,λ WP WM p WL WO WN WQ R P=>WR (λ q H=>WP q (by rw[B];exact iq _ H)) (WM.enter c none p) p WL _ rfl WQ R λ V u v y=>d WP WM p V WO WN WQ u (P.step R v y)⟩|unsupported|finish|register|fork|await|choose|os|loadIfAlive|newGen|genState|resume|«yield»|stack|thread=>exact aQ WK
def rb{a:cD}(c:a.map (·.1)=a.map (·.2)):∀q∈a,q.1=q.2:=λ q d=>by
 obtain⟨i,b,e⟩:=List.mem_iff_getElem.mp d;have :=congrArg (·[i]?) c;simp only[a',ay b,e,ID,Kb]at this;exact this
def Ep{t:Sem Vb}{f g:SD}{i:cD}{v:Vb}{Q:Vb->aa->Prop}(h:el (Lc Kj) ⟨Vj,c.params⟩ a t f b []=some (.val v,g,x,i))(u:i.map (·.1)=i.map (·.2))(r:o.handled=none)(R:bL f q)(m:∀d,bL g d->fp f g q d->fq f g q.heap.objs.size->Q v d):aA (au Vj c) o t Q y q:=λ B p z=>(n5 Vj c a Vb _ _ _ _ _ _ _ _ h).2 (rb u) B p q (λ v _ d=>Q v d) (λ e _ d=>y e d) (by simp only[z.1,r]) R λ d l j k _=>m d l j k
noncomputable def peekD(S:Setting)(d:List (ae×Obj))(t:Sem Vb):Nat->cD->Option (Vb×cD):=t.rec (motive:=λ _=>Nat->cD->Option (Vb×cD)) (λ a _ b=>some (a,b)) (λ _ _ _=>none) (λ _ _ _=>none) (λ _ _ _=>none) (λ _ _ r=>r ()) (λ _ _ r=>r ()) (λ a _ _ r c b=>(d[c%128]?).bind λ q=>r q.2 (c/128) ((a,q.1)::b)) (λ _ _ _ _ _ _ _=>none) (λ _ _ _ _ _=>none) (λ _ _ _ _ _=>none) (λ _ _ r=>r ()) (λ _ _ _ _ _=>none) (λ _ _ _ _=>none) (λ _ r=>r S) (λ _ _ _ _ _ _=>none) (λ _ _ _ _ _ _=>none) (λ _ _ _ _ _ _ _ _=>none) (λ _ _ _ _ _=>none) (λ _ _ _ _ _=>none) (λ _ _ _ _ _=>none) (λ _ _ _ _ _ _ _=>none) (λ _ _ _ _ _ _ _=>none) (λ _ _ _ _=>none) (λ _ _ _ _ _=>none) (λ _ _ _ _=>none) (λ _ _ _ _ _ _ _ _=>none)
def Er:∀(t:Sem Vb)(m:Nat)(g j:cD)(r:Vb),peekD ⟨VK.prog,VK.w.params⟩ VM t m g=some (r,j)->(∃new,j=new++g)/\((∀q∈j,q.1=q.2)->∀(c:Ctx)p s(Q:Vb->Pos->aa->Prop)E,(∀(i:Nat)(a:ae)(o:Obj),VM[i]?=some (a,o)->s.heap.get? a=some o)->(∀p,Q r p s)->NQ VK c t Q E p s):=by
 intro t;induction t with
 |pure a=>intro m g j r h;cases h;exact⟨⟨[],rfl⟩,λ _ c p s Q E _ q=>q p⟩|rule _ k l=>intro m g j r h;refine am (l () _ _ _ _ h) λ a b=>?_;exact⟨a,λ f c p s Q E R q=>b f c p s Q E R q⟩|«at»_ k l=>intro m g j r h;refine am (l () _ _ _ _ h) λ a b=>?_;exact⟨a,λ f c p s Q E R q=>b f c _ s Q E R q⟩|point _ k l=>intro m g j r h;refine am (l () _ _ _ _ h) λ a b=>?_;exact⟨a,λ f c p s Q E R q=>b f c p s Q E R q⟩|ask k l=>intro m g j r h;refine am (l _ _ _ _ _ h) λ a b=>?_;exact⟨a,λ f c p s Q E R q=>b f c p s Q E R q⟩|load a _ k l=>
  intro m g j r h;refine aj λ v=>?_;refine ak (e6 h) λ n u h=>?_;obtain⟨b,o⟩:=n;refine am (l o _ _ _ _ h) λ n d=>?_;refine ai n λ new e=>?_;refine v ⟨⟨new++[(a,b)],e.trans (jB new [_] g).symm⟩,λ f c p s Q E R q=>⟨o,?_,d f c p s Q E R q⟩⟩;have :a=b:=f (a,b) (by rw[e];exact iq _ (.head _));refine this.symm▸?_;exact R _ _ _ u|_=>intro m g j r h;exact aQ h
def Looks.peekD{t:Sem Vb}{c:cD}{r:Vb}(e:Mine.peekD ⟨VK.prog,VK.w.params⟩ VM t a []=some (r,c))(d:c.map (·.1)=c.map (·.2))(R:∀(i:Nat)(b:ae)(o:Obj),VM[i]?=some (b,o)->s.get? b=some o):Jx VK s t r:=λ A Q E f k q g p j=>(Er t a [] c r e).2 (rb d) g p f _ _ (λ i b o x=>k _ _ (R i b o x)) λ _=>q
def Es{t k:Sem Vb}(n:Nat){f g:SD}{i:cD}{Q:Vb->aa->Prop}(h:el (Lc Kj) ⟨Vj,c.params⟩ n t f a []=some (.more k,g,b,i))(B:i.map (·.1)=i.map (·.2))(z:o.handled=none)(R:bL f q)(x:∀d,bL g d->fp f g q d->fq f g q.heap.objs.size->aA (au Vj c) o k Q y d):aA (au Vj c) o t Q y q:=λ l p j=>(n5 Vj c n Vb _ _ _ _ _ _ _ _ h).2 (rb B) l p q (λ v _ d=>Q v d) (λ e _ d=>y e d) (by simp only[j.1,z]) R λ d u m r p=>x d u m r l p j
end
variable{V9:SD}
noncomputable def dC(b:Nat->Nat->Bool)(n:Nat){c:Type}:KasT c->(c->Prop)->Prop
 |.ret a,Q=>Q a|.ask i j k,Q=>i<n/\j<n/\dC b n (k (b i j)) Q
theorem gn{d:Nat->Nat->Bool}{n:Nat}{e:Type}{Q c:e->Prop}(h:∀a,Q a->c a):∀{t:KasT e},dC d n t Q->dC d n t c
 |.ret _,q=>h _ q|.ask _ _ _,⟨a,b,q⟩=>⟨a,b,gn h q⟩
theorem kf{c:Nat->Nat->Bool}{n:Nat}{d e:Type}{f:d->KasT e}{Q:e->Prop}:∀{t:KasT d},dC c n t (λ a=>dC c n (f a) Q)->dC c n (t.bind f) Q
 |.ret _,q=>q|.ask _ _ _,⟨a,b,q⟩=>⟨a,b,kf q⟩
theorem wj{h:Nat->Nat->Bool}{n:Nat}{e:Nat->Nat->(Bool->aa->Prop)->aa->Prop}{I:aa->Prop}(g:∀i j,i<n->j<n->∀(C:Bool->aa->Prop)s,I s->(∀c,I c->C (h i j) c)->e i j C s){d:Type}{P:d->Prop}{Q:d->aa->Prop}(f:∀a s,P a->I s->Q a s):∀{t:KasT d}{s:aa},dC h n t P->I s->t.kasWp e Q s
 |.ret _,s,q,i=>f _ s q i|.ask _ _ _,s,⟨a,b,q⟩,i=>g _ _ a b _ s i λ c k=>wj g f q k
noncomputable abbrev gd(p:Array Nat)(i:Nat):Nat:=p.getD i 0
def lN{q:Array Nat}(h:VP[a]?=q[b]?):gd VP a=gd q b:=by
 unfold gd;simp only[e0,e0,h]
def fU(c:b<=VP.size)(k:Nat):gd (PA VP a b) k=if a<=k/\k<b then gd VP (a+b-1-k)else gd VP k:=by
 have e:=getElem?_mirror_all (i:=a) c k;by_cases h:a<=k/\k<b;·rw[if_pos h]at e⊢;exact lN e
 ·rw[if_neg h]at e⊢;exact lN e
def Et(g:a<VP.size)(f:b<=a)(i:Nat):gd (bubble VP a b) i=if i=a-b then gd VP a else if a-b<i/\i<=a then gd VP (i-1)else gd VP i:=by
 have e:=getElem?_bubble g b f i;by_cases h:i=a-b;·rw[if_pos h]at e⊢;exact lN e
 · rw[if_neg h]at e⊢;by_cases c:a-b<i/\i<=a;·rw[if_pos c]at e⊢;exact lN e
   ·rw[if_neg c]at e⊢;exact lN e
noncomputable abbrev d1(a:Nat->Nat)(i j:Nat):Bool:=bF (a i<a j)
def dD(c:Nat->Nat)(a b:Nat):Prop:=c a<c b\/(c a=c b/\a<b)
structure dp(n:Nat)(p:Array Nat)(k:Nat):Prop where
 size:p.size=n
 perm:p.toList.Perm (a1 n)tail:∀i,k<=i->i<n->gd p i=i
 head:∀i,i<k->gd p i<k
def dp.rev(h:dp a VP b)(f:b<=a):dp a (PA VP x b) b:=by
 have d:b<=VP.size:=h.size▸f;refine⟨by unfold PA;rw[mirror_size];exact h.size,((mirror_perm VP x b _).toList).trans h.perm,λ j c e=>?_,λ j c=>?_⟩;·rw[fU d,if_neg (yE c)];exact h.tail j c e
 · rw[fU d];split;·rename_i q;exact h.head _ (oQ q.1 q.2)
   ·exact h.head _ c
def dp.next(h:dp a VP b)(f:b<a):dp a VP (b+1):=⟨h.size,h.perm,λ i c d=>h.tail i (gv c) d,λ i c=>by
  by_cases e:i=b;·simp only[e,h.tail b (aB _) f];exact H9 _
  ·have :=h.head i (jd c e);exact kJ this⟩
def Up(a:Nat->Nat)(p:Array Nat)(k:Nat):Prop:=∀WL WK,WL<WK->WK<k->dD a (gd p WL) (gd p WK)
def i2(a:Nat->Nat)(p:Array Nat)(k:Nat):Prop:=∀WL WK,WL<WK->WK<k->dD a (gd p WK) (gd p WL)
theorem rc{l:Nat->Nat}{n:Nat}{p:Array Nat}:∀(f k:Nat),1<=k->k+f<=n->dp n p k->Up l p k->dC (d1 l) n (kas_asc p f k) λ m=>k<=m/\m<=k+f/\dp n p m/\Up l p m/\(m<k+f->l (gd p m)<l (gd p (m-1)))
 |0,k,_,_,B,U=>⟨aB _,aB _,B,U,λ h=>absurd h (Iw _)⟩|f+1,k,s,t,B,U=>by
   have o:k<n:=jg t;have u:=B.tail k (aB _) o;refine b3 (kH u o) (j3 (B.head (k-1) (oN s)) o) ?_;show dC (d1 l) n (if bF (l (gd p k)<l (gd p (k-1)))=true then .ret k else kas_asc p f (k+1)) _;by_cases c:l (gd p k)<l (gd p (k-1))
   · rw[if_pos (decide_eq_true c)];exact g1 (aB _) (dG) B U (λ _=>c)
   · rw[if_neg (by simpa using c)];refine gn (λ m x=>by refine d6 x λ a b d e g=>?_;exact g1 (r9 a) (mw b) d e (λ h=>g (eO hE h))) (rc f (k+1) (bE) (hD t) (B.next o) λ i j r v=>?_);by_cases e:j=k
     · subst e;have le:l (gd p i)<=l (gd p (j-1)):=by
         by_cases q:i=j-1;·rw[q];exact aB _
         · refine aH (U i (j-1) (ms r q) (oN s)) (λ q=>?_) λ w=>?_;·exact bn q
           ·exact am w λ q _=>Ja q
       by_cases q:l (gd p i)<l (gd p j);·exact .inl q
       ·exact .inr ⟨yv c le q,eO u (B.head i r)⟩
     ·exact U i j r (jd v e)
structure Dn(a:Nat->Nat)(n:Nat)(p:Array Nat)(k q:Nat):Prop where
 base:dp n p k
 len:q+1<=k
 down:i2 a p (k-(q+1))over:∀WL WK,WL<k-(q+1)->k-(q+1)<=WK->WK<k->a (gd p WK)<a (gd p WL)last:∀WL WK,k-(q+1)<=WL->WL<WK->WK<k->a (gd p WL)=a (gd p WK)/\gd p WL<gd p WK
def Dn.turn(D:Dn VU a VP b x)(h:b<=a):dp a (PA VP (b-(x+1)) b) b/\i2 VU (PA VP (b-(x+1)) b) b:=by
 have g:b<=VP.size:=D.base.size▸h;have o:=D.len;refine⟨D.base.rev h,λ i j e c=>?_⟩;simp only[fU g,fU g];by_cases d:b-(x+1)<=i
 · rw[if_pos ⟨j4 d (j5 e),c⟩,if_pos ⟨d,j3 e c⟩];exact am (D.last (b-(x+1)+b-1-j) (b-(x+1)+b-1-i) (oR c) (yF e c) (oQ d (j3 e c))) λ l m=>.inr ⟨l,m⟩
 · by_cases f:b-(x+1)<=j
   · rw[if_pos (yr f c),if_neg (oM d)];exact .inl (D.over i _ (j9 d) (oR c) (oQ f c))
   · rw[if_neg (oM f),if_neg (oM d)];exact D.down i j e (j9 f)
def Dn.done(D:Dn VU a VP b 0):i2 VU VP b:=λ i j c d=>by
 by_cases e:j=b-1;·exact .inl (D.over i j (by have :=D.len;exact je e c) (j7 e) d)
 ·exact D.down i j c (ms d e)
def Eu(D:i2 VU VP a)(c:b<a):VU (gd VP (a-1))<=VU (gd VP b):=by
 by_cases e:b=a-1;·refine e.symm▸?_;exact aB _
 · refine aH (D b (a-1) (ms c e) (hH (gZ c) g0)) (λ q=>?_) λ d=>?_;·exact bn q
   ·exact am d λ q _=>Ja q
def Dn.start(B:dp a VP b)(D:i2 VU VP b)(g:b<a)(l:1<=b)(h:VU (gd VP b)<VU (gd VP (b-1))):Dn VU a VP (b+1) 0:=by
 refine⟨B.next g,bE,λ i j e c=>D i j e (bA c (j6 rX)),λ i j d c f=>?_,λ i j d e c=>dR (c5 d e) (jn c)⟩;obtain rfl:j=b:=hA (dF f) c;exact aJ h (Eu D (bA d c))
theorem n6{g:Nat->Nat}{n:Nat}:∀(f k q:Nat)(p:Array Nat),k+f<=n->Dn g n p k q->dC (d1 g) n (QK f p k q) λ r=>Dn g n r.1 r.2.1 r.2.2/\r.2.1<=k+f
 |0,k,q,p,_,D=>⟨D,aB _⟩|f+1,k,q,p,t,D=>by
   have l:k<n:=jg t;have s:=D.len;have v:=D.base.tail k (aB _) l;have m:=D.base.head (k-1) (hH (yq s (aE true)) g0);refine b3 (kH v l) (j3 m l) ?_;show dC (d1 g) n (if bF (g (gd p k)<g (gd p (k-1)))=true then(if q>0 then QK f (PA p (k-(q+1)) k) (k+1) 0 else QK f p (k+1) 0)else .ask (gd p (k-1)) (gd p k) λ d=>if d=true then .ret (p,k,q)else QK f p (k+1) (q+1)) _;by_cases c:g (gd p k)<g (gd p (k-1))
   · rw[if_pos (decide_eq_true c)];by_cases u:q>0
     · rw[if_pos u];refine am (D.turn (j5 l)) λ A B=>?_;have o:k<=p.size:=D.base.size▸(j5 l);refine gn (λ r⟨a,b⟩=>⟨a,mw b⟩) (n6 f (k+1) 0 _ (hD t) (Dn.start A B l (hz (gZ m)) ?_));rw[fU o,fU o,if_neg sv,if_pos (yG s)];refine am (D.last (k-(q+1)+k-1-(k-1)) (k-1) (oR (hH (gZ m) g0)) (yH s u) (hH (gZ m) g0)) λ e _=>?_;exact eO e c
     · rw[if_neg u];obtain rfl:q=0:=sm u;exact gn (λ r⟨a,b⟩=>⟨a,mw b⟩) (n6 f (k+1) 0 _ (hD t) (Dn.start D.base D.done l (s) c))
   · rw[if_neg (by simpa using c)];refine b3 (j3 m l) (kH v l) ?_;show dC (d1 g) n (if bF (g (gd p (k-1))<g (gd p k))=true then .ret (p,k,q)else QK f p (k+1) (q+1)) _;by_cases d:g (gd p (k-1))<g (gd p k)
     · rw[if_pos (decide_eq_true d)];exact dv D (dG)
     · rw[if_neg (by simpa using d)];have eq:g (gd p (k-1))=g (gd p k):=gu (j8 c) d;have run:∀i,k-(q+1)<=i->i<k->g (gd p i)=g (gd p k)/\gd p i<gd p k:=λ i C y=>by
         have h:=D.base.head i y;by_cases e:i=k-1;·refine e.symm▸?_;exact dv eq (by rw[e]at h;exact eO v m)
         · refine am (D.last i (k-1) C (ms y e) (hH (gZ h) g0)) λ x _=>?_;exact dv (ml x (yw c d)) (eO v h)
       have w:k+1-(q+1+1)=k-(q+1):=rX;refine gn (λ r⟨a,b⟩=>⟨a,mw b⟩) (n6 f (k+1) (q+1) _ (hD t) ⟨D.base.next l,hz (dt s),by simp only[w];exact D.down,λ i j h o E=>?_,λ i j h z o=>?_⟩)
       · rw[w]at h o;by_cases e:j=k
         · subst e;have :=D.over i (j-1) h (dS (r0 s) ji) (hH (gZ m) g0);exact c5 (j8 d) this
         ·exact D.over i j h o (jd E e)
       · rw[w]at h;by_cases e:j=k;·obtain rfl:=e.symm;exact run i h z
         ·exact D.last i j h z (jd o e)
def wk(h:1<=b)(f:b<=a)(B:dp a VP b)(D:i2 VU VP b):dC (d1 VU) a (kas_tail3 b a VP) λ r=>1<=r.1/\r.1<=a/\dp a r.2 r.1/\Up VU r.2 r.1:=by
 have l:b<=VP.size:=B.size▸f;refine kf (gn (λ m s=>by refine d6 s λ o q c d _=>?_;exact iD (j4 h o) (j4 q (j6 (fz f))) c d) (rc (a-b) b h (j6 (fz f)) (B.rev f) λ i j g e=>?_));rw[fU l,fU l,if_pos (sr g e),if_pos (ss e)];exact D _ _ (so g e) (sp g e)
def wl(j:1<=b)(d:b<a)(B:dp a VP b)(D:i2 VU VP b)(h:VU (gd VP b)<VU (gd VP (b-1))):dC (d1 VU) a (kas_descPart b a VP) λ r=>1<=r.1/\r.1<=a/\dp a r.2 r.1/\Up VU r.2 r.1:=by
 refine kf (gn (λ r l=>?_) (n6 (a-(b+1)) (b+1) 0 VP (mv d) (Dn.start B D d j h)));obtain⟨c,e⟩:=l;obtain⟨o,m,q⟩:=r;dsimp only at c e⊢;have :=c.len;by_cases f:q>0
 · rw[if_pos f];obtain⟨g,i⟩:=c.turn (j4 e (mv d));exact wk (ya this) (j4 e (mv d)) g i
 · rw[if_neg f];obtain rfl:q=0:=sm f;exact wk (this) (j4 e (mv d)) c.base c.done
def Ew(l:1<=a)(B:dp a VP 1):dC (d1 VU) a (kas_count a VP) λ r=>1<=r.1/\r.1<=a/\dp a r.2 r.1/\Up VU r.2 r.1:=by
 refine kf (gn (λ m s=>?_) (rc (a-1) 1 (aB _) (j6 (fz l)) B λ i j f b=>hC (bA f (dF b))));refine aj λ t=>d6 s λ h o B U q=>t ?_;by_cases e:m=a
 · rw[if_pos (by simpa using e)];exact iD h (j6 e) B U
 · rw[if_neg (by simpa using e)];have d:m<a:=jc (j4 o (j6 (fz l))) e;have st:=q (bA d (j7 (fz l)));have b:m<=VP.size:=B.size▸(j5 d);by_cases g:m>1
   · rw[if_pos g];refine b3 (by have :=B.head 0 (gZ g);show gd VP 0<a;exact j3 this d) (by have :=B.head (m-1) (hH (gZ g) g0);show gd VP (m-1)<a;exact j3 this d) ?_;show dC (d1 VU) a (if bF (VU (gd VP 0)<VU (gd VP (m-1)))=true then .ret (m,VP)else kas_descPart m a (PA VP 0 m)) _;by_cases c:VU (gd VP 0)<VU (gd VP (m-1))
     · rw[if_pos (decide_eq_true c)];exact iD h (j5 d) B U
     · rw[if_neg (by simpa using c)];refine wl h d (B.rev (j5 d)) (λ i j f k=>?_) ?_
       · simp only[fU b,fU b,if_pos (ss k),if_pos (sr f k)];exact U _ _ (so f k) (sp f k)
       · rw[fU b,fU b,if_neg sv,if_pos ⟨dk _,oN (j5 g)⟩,show 0+m-1-(m-1)=0 from by rw[Ik,Nd]];exact bA st (j8 c)
   · rw[if_neg g];exact wl h d B (λ i j f b=>hC (bA f (dF (bA b (j8 g))))) st
theorem rd{d:Nat->Nat}{n:Nat}{p:Array Nat}{k:Nat}(h:k<n)(B:dp n p k)(U:Up d p k):∀(f l r:Nat),l<=r->r<=k->r-l<=f->(∀i,i<l->d (gd p i)<=d (gd p k))->(∀i,r<=i->i<k->d (gd p k)<d (gd p i))->dC (d1 d) n (RI p k f l r) λ m=>m<=k/\(∀i,i<m->d (gd p i)<=d (gd p k))/\∀i,m<=i->i<k->d (gd p k)<d (gd p i)
 |0,l,r,o,g,s,a,b=>⟨j4 o g,a,λ i x y=>b i (yB o s x) y⟩|f+1,l,r,o,g,s,a,b=>by
   unfold RI;by_cases e:l>=r
   · rw[if_pos e];exact b3 (j4 o g) a (λ i x y=>b i (j4 e x) y)
   · rw[if_neg e];refine b3 (kH (B.tail k (aB _) h) h) (j3 (B.head ((l+r)/2) (kL g e)) h) ?_;show dC (d1 d) n (if bF (d (gd p k)<d (gd p ((l+r)/2)))=true then RI p k f l ((l+r)/2)else RI p k f ((l+r)/2+1) r) _;have le:∀i j,i<=j->j<k->d (gd p i)<=d (gd p j):=λ i j t u=>by
       by_cases q:i=j;·refine q.symm▸?_;exact aB _
       · refine aH (U i j (jc t q) u) (λ q=>?_) λ v=>?_;·exact bn q
         ·exact am v λ q _=>Ja q
     by_cases c:d (gd p k)<d (gd p ((l+r)/2))
     · rw[if_pos (decide_eq_true c)];refine rd h B U f l _ (oO e) (j5 (kL g e)) (yI s e) a λ i x y=>aJ c (le _ _ x y)
     · rw[if_neg (by simpa using c)];refine rd h B U f _ r (yu e) (g) (yJ s e) (λ i x=>?_) b;have :=le i ((l+r)/2) (dF x) (kL g e);exact j4 this (j8 c)
theorem wm{s:Nat->Nat}{n:Nat}:∀(f k:Nat)(p:Array Nat),k+f=n->dp n p k->Up s p k->dC (d1 s) n (kas_bin f p k) λ C=>dp n C n/\Up s C n
 | 0, k, p, h, B, U => by obtain rfl:k=n:=h;exact⟨B,U⟩|f+1,k,p,h,B,U=>by
   have z:k<n:=kK h;refine kf (gn (λ m G=>?_) (rd z B U k 0 k (dk _) (aB _) (gx) (λ i h=>hC h) λ i o y=>dR y o));refine aj λ H=>a4 G λ t a b=>H ?_;have u:=B.tail k (aB _) z;have g:=Et (VP:=p) (b:=k-m) (B.size▸z) (ji);rw[show k-(k-m)=m from S0 t]at g;refine wm f (k+1) _ (ml hE h) ⟨by rw[bubble_size];exact B.size,((bubble_perm p k _).toList).trans B.perm,λ i o y=>?_,λ i o=>?_⟩ λ i j c r=>?_;·rw[g,if_neg (sw (c5 t o)),if_neg (λ q=>oD o q.2)];exact B.tail i (gv o) y
   · simp only[g];by_cases l:i=m;·rw[if_pos l,u];exact H9 _
     · rw[if_neg l];by_cases e:m<i/\i<=k;·rw[if_pos e];have :=B.head (i-1) (mq e.right e.left);exact kJ this
       ·rw[if_neg e];have :=B.head i (yK t o l e);exact kJ this
   · have J:=λ q=>B.head i q;have E:∀x,x<m->dD s (gd p x) (gd p k):=λ x A=>by
       have q:=a x A;by_cases D:s (gd p x)<s (gd p k);·exact .inl D
       ·exact .inr ⟨gu q D,eO u (B.head x (bA A t))⟩
     simp only[g i,g j];by_cases l:i=m
     · rw[if_pos l,if_neg (yL c l),if_pos ⟨l▸c,dF r⟩];exact .inl (b _ (yD c l) (oP u r c))
     · rw[if_neg l];by_cases e:m<i
       · rw[if_pos ⟨e,dF (j3 c r)⟩,if_neg (sw (j3 e c)),if_pos ⟨j3 e c,dF r⟩];exact U _ _ (yt c e) (oP u r c)
       · rw[if_neg (sn e)];by_cases v:j=m;·rw[if_pos v];exact E i (je v c)
         · rw[if_neg v];by_cases w:m<j;·rw[if_pos ⟨w,dF r⟩];exact U _ _ (bA (jc (j8 e) l) (jn w)) (oP u r c)
           ·rw[if_neg (sn w)];exact U _ _ c (bA (jc (j8 w) v) t)
def Ey(g:1<=a):dC (d1 VU) a (kas_sort a) λ p=>p.size=a/\p.toList.Perm (a1 a)/\p.toList.Pairwise (dD VU):=by
 have d:∀i,i<a->gd (Qw (a1 a)) i=i:=λ i h=>by simp[gd,Od,h]
 have fin:∀b,dp a b a/\Up VU b a->b.size=a/\b.toList.Perm (a1 a)/\b.toList.Pairwise (dD VU):=λ b c=>by
   refine am c λ B U=>b3 B.size B.perm (Mw.mpr λ i j m t s=>?_);have o:i<b.size:=by simpa using m
   have f:j<b.size:=by simpa using t
   have :=U i j s (B.size▸f);simpa[gd,Od,o,f]using this
 refine kf (gn (λ r c=>(aj λ u=>(iB c λ k l B U=>u ?_))) (Ew g ⟨by simp,by simp,λ i _ h=>d i h,λ i h=>by rw[d i (bA h g)];exact h⟩));by_cases e:r.1<a
 · rw[if_pos e,show max r.1 1=r.1 from Nat.max_eq_left k];exact gn fin (wm _ _ _ (fz (j5 e)) B U)
 · rw[if_neg e];obtain q:r.1=a:=gu l e;exact fin _ ⟨q▸B,q▸U⟩
noncomputable def n7:Pos:=jr ((cE iJ).e 0)
noncomputable def i3:aw:=(cE iJ).scope
def Ez:iJ=.ClassDef (nm "K") [.Name (nm "object") n7] [] kZ [] [] i3 none (nm "K") [nm "obj"] hS:=by lia
noncomputable def qK:Str:=ac "cmp_to_key.<locals>.K"
def EA(b:E.cells.lookup (nm "mycmp")=some h):NO i3 E=jq [(nm "mycmp",h)]:=by
 have e:NO i3 E=(QX i3.names ([]:List (Str×ae)) (λ x a=>if(x.2==cM)=true then(do let h<-R0 E x.1;jq (I6 ((x.1,h)::a)))else jq (I6 a))>>=λ r=>jq r):=rfl;have n:i3.names=["__module__","__slots__","__init__","__lt__","__gt__","__eq__","__le__","__ge__","__hash__"].map (λ x=>(nm x,NameKind.local))++[(nm "mycmp",cM)]:=by lia
 have d:R0 E (nm "mycmp")=jq h:=by unfold R0;rw[b]
 simp only[e,n];simp only[uW,Kg,O8,Pp,Ku,List.forIn_nil,d];rfl
structure bU(st a:SD)(s b:aa):Prop where
 rep:bL a b
 ig:fp st a s b
 rf:fq st a s.heap.objs.size
def bU.trans{c d e:SD}(R:bL c q)(a:bU c d q H)(b:bU d e H VH):bU c e q VH:=⟨b.rep,a.ig.trans R b.ig a.rf,fq.trans a.ig.size a.rf b.rf⟩
def bU.keep{d g:SD}(R:bL d q)(r:bU d g q H)(h:∀(i:Nat)a,d.objs[i]?=some a->g.objs[i]?=some a):KO q.heap H.heap:=λ b o e=>by
 by_cases f:∃(i:Nat)(c:Obj),d.objs[i]?=some (b,c)
 · refine aj λ j=>cP f λ i c a=>?_;have :=R.objs i b c a;cases aO e this;exact j (r.rep.objs i b o (h i _ a))
 ·exact r.ig.keep b o (λ i c a=>f ⟨i,c,a⟩) e
def kg{t:Sem Vb}(n:Nat)(f g:SD)(m p:Nat){e:cD}(v:Vb){Q:Vb->aa->Prop}(h:el cm ⟨P0,c.params⟩ n t f m []=some (.val v,g,p,e))(l:e.map (·.1)=e.map (·.2))(k:o.handled=none)(R:bL f q)(j:∀d,bU f g q d->Q v d):aA (au P0 c) o t Q y q:=Ep (by rw[<-jt];exact h) l k R λ d a b i=>j d ⟨a,b,i⟩
def wn(h:∀b∈V9.objs,q.heap.get? b.1=some b.2)(d:(V9.objs.map (·.1)).Nodup)(f:q.heap.objs.size=V9.n)(g:q.toks=V9.tk):bL V9 q:=by
 refine⟨λ i a o e=>h _ (ct e),λ i j a o k e c=>?_,f,g⟩;refine(Sf (by simp only[be];exact(a8.mp e).1) d).mp ?_;simp only[a',a',e,c];rfl
noncomputable def EB:Option (i1 Vb)->Bool
 |some (.val _,_)=>true|_=>ap
noncomputable def EC[Inhabited Vb]:Option (i1 Vb)->Vb
 |some (.val a,_)=>a|_=>b2
noncomputable def ED:Option (i1 Vb)->SD
 |some (_,st,_)=>st|_=>⟨[],0,0⟩
noncomputable def lO:Option (i1 Vb)->cD
 |some (_,_,_,a)=>a|_=>[]
def kh[Inhabited Vb]{t:Sem Vb}(n:Nat)(a:SD)(b:Nat){Q:Vb->aa->Prop}(h:EB (el cm ⟨P0,c.params⟩ n t a b [])=true)(f:(lO (el cm ⟨P0,c.params⟩ n t a b [])).map (·.1)=(lO (el cm ⟨P0,c.params⟩ n t a b [])).map (·.2))(i:o.handled=none)(R:bL a q)(d:∀g,bU a (ED (el cm ⟨P0,c.params⟩ n t a b [])) q g->Q (EC (el cm ⟨P0,c.params⟩ n t a b [])) g):aA (au P0 c) o t Q y q:=by
 generalize e:el cm ⟨P0,c.params⟩ n t a b []=r at h f d;obtain _|⟨v,k,j,l⟩:=r;·cases h
 cases v with
 |val v=>exact kg n a k b j v e f i R d|_=>cases h
noncomputable def wo:Obj:=⟨.type "builtin_function_or_method",none,.fields #[.builtin "type.__prepare__",.type "type"],#[]⟩
noncomputable def wq:Obj:=⟨.type "dict",none,.dict #[] 0,#[]⟩
noncomputable def rh:Obj:=⟨.type "tuple",none,.seq #[.type "object"] 0,#[]⟩
noncomputable def wr(a:Nat):Nat->Tok
 |0=>a|1=>a+1|2=>a+2|3=>a+4|_=>a+5
noncomputable def i4(P:a3)(a:Obj):List (ae×Obj):=[(0,MM P),(2,hP P),(3,js P),(4,PB P),(120,a),(124,mP P)]
noncomputable def ri(P:a3)(b:List (ae×Obj))(n a:Nat):SD:=⟨b++[(n,rh),(n+1,wo),(n+2,wq)],n+3,a⟩
noncomputable def rj(P:a3)(n WK:Nat):SD:=⟨i4 P (Jw (k0 (n+5)))++[(n,rh),(n+1,wo),(n+2,wq),(n+3,⟨.type "tuple",none,.seq #[.str (nm "mycmp") (WK+3)] 0,#[]⟩),(n+4,Jw #[]),(n+5,pU (n+4) (n+3) (wr WK))],n+6,WK+6⟩
noncomputable def ws(b:ab)(a:ae):Obj:=⟨.type "frame",none,.plain,#[some b,some (.ref 3),some (.ref a),none,some (.str (ac "law_in0064_01") 766),none,some (.ref 0)]⟩
noncomputable def EE(P:a3)(n WL:Nat):SD:=⟨(rj P n WL).objs++[(n+6,ws (.ref (n+5)) (n+2))],n+7,WL+6⟩
def EF(P:a3)(n WM:Nat):el cm ⟨P0,P⟩ 60 (newBodyFrame (.ref (n+5)) FG (n+2) 0) (rj P n WM) 2 []=some (.val (n+6),EE P n WM,0,[(3,3)]):=by lia
noncomputable def ki(P:a3)(cK a f:ae)(t:Nat->Tok)(WL:Nat->ae):List (ae×Obj):=i4 P (Jw (k0 cK))++[(cK,pU a f t),(a,Jw (tz WL))]
noncomputable def EG(P:a3)(n a:Nat)(cK WM f:ae)(t:Nat->Tok)(WP:Nat->ae):SD:=⟨(ri P (ki P cK WM f t WP) n a).objs++[(n+3,ws (.ref cK) (n+2))],n+4,a⟩
def EH(P:a3)(n a:Nat)(cK WM f:ae)(t:Nat->Tok)(WP:Nat->ae):el cm ⟨P0,P⟩ 60 (newBodyFrame (.ref cK) FG (n+2) 0) (ri P (ki P cK WM f t WP) n a) 2 []=some (.val (n+3),EG P n a cK WM f t WP,0,[(3,3)]):=by lia
def kj{t:Sem Vb}(h:Nat)(v:Vb){b:cD}{Q:Vb->aa->Prop}(R:∀(i:Nat)(a:ae)(d:Obj),VM[i]?=some (a,d)->q.heap.get? a=some d)(e:Mine.peekD ⟨P0,c.params⟩ VM t h []=some (v,b))(f:b.map (·.1)=b.map (·.2))(g:Q v q):aA (au P0 c) o t Q y q:=(Looks.peekD (VK:=au P0 c) e f R).here g
noncomputable def gP(D:ae):Obj:=⟨.type "super",none,.fields #[.ref D,.ref D,.ref D],#[]⟩
def sub_self(a:s.get? h=some ⟨U,Wb,.cls WC,Wm⟩)(b:WC.mro=.ref h::Vc):Jx VK s (Kk (.ref h) (.ref h)) true:=by
 intro A Q E c k q;unfold Kk;refine al (al (al (ML (k _ _ a) (ah (ah ?_)))));rw[b];refine gz rfl (ah ?_);have :(hk h::Vc).contains (hk h)=true:=by simp
 rw[this];exact q
def EI(i:s.get? h=some ⟨U,Wb,.cls WC,Wm⟩)(J:WC.mro=.ref h::Vc)(j:∀b,b.get? s.objs.size=some (gP h)->(KO s b)->b.objs.size=s.objs.size+1->Vf (.ref s.objs.size) ⟨b,V',Wi,a,VV⟩):aA (au P0 c) o (I1 (.type "super") [.ref h,.ref h]) Vf y ⟨s,V',Wi,a,VV⟩:=by
 refine ks_callType_codesW (Q₁:=λ q x=>q=.ref s.objs.size/\x=⟨s.push {cls:=.type "super",data:=.fields #[.none,.none,.none]},V',Wi,a,VV⟩) F.ks_called_super (ks_wpAny_checkTypeCall_super i rfl) F.ks_entry_super_init (ks_code_super_new _ _ ⟨rfl,rfl⟩) λ q x N=>?_;obtain⟨rfl,rfl⟩:=N;have m:KO s (s.push {cls:=.type "super",data:=.fields #[.none,.none,.none]}):=λ f p e=>ao _ e;have n:(s.push {cls:=.type "super",data:=.fields #[.none,.none,.none]}).get? s.objs.size=some {cls:=.type "super",dict:=none,data:=.fields #[.none,.none,.none],slots:=#[]}:=Heap.get?_push_at rfl rfl;have L:=(sub_self (VK:=au P0 c) i J).keeps m;refine b3 ⟨_,n,rfl⟩ (F.ks_initArgs_super _ _ _) ?_;have fin:∀{Vf:Jj->aa->Prop}{y:ab->aa->Prop},(∀b,b.get? s.objs.size=some (gP h)->(KO s b)->b.objs.size=s.objs.size+1->Vf (.done (.ret .none)) ⟨b,V',Wi,a,VV⟩)->aA (au P0 c) o.in1.in1 (do UP (.ref s.objs.size) 0 (.ref h);UP (.ref s.objs.size) 1 (.ref h);UP (.ref s.objs.size) 2 (.ref h);ret .none) Vf y ⟨s.push {cls:=.type "super",data:=.fields #[.none,.none,.none]},V',Wi,a,VV⟩:=λ{Vf y}j=>by
  refine al (O9 n (by decide) λ O B r=>?_);refine al (O9 B (by simp) λ T C u=>?_);refine al (O9 C (aB _) λ H G v=>?_);exact ah (j H (G) (λ f p e=>(v.2 f (br (az e))).trans ((u.2 f (br (az e))).trans ((r.2 f (br (az e))).trans (m f p e)))) (by rw[v.1,u.1,r.1,IE]))
 unfold Builtin.«super.__init__»noKeywords;repeat(first|(with_reducible refine ks_wpAny_isType_cls (m _ _ i) rfl ?_)|(with_reducible refine Looks.at L ?_)|(with_reducible refine fin ?_)|wp_step)
 intro b e k z;exact dv rfl (j b e k z)
noncomputable def wt(D:ae):Obj:=⟨.type "builtin_function_or_method",none,.fields #[.builtin "object.__init_subclass__",.ref D],#[]⟩
def EJ(i:s.get? h=some (gP Q))(u:s.get? Q=some ⟨U,Wb,.cls WC,Wm⟩)(z:WC.mro=[.ref Q,.type "object"])(B:Jx (au P0 c) s (PR (.ref Q)) none){P:aa->Prop}(v:∀(WI:ab->aa->Prop)y,(∀e,P e->WI (.ref Vo) e)->aA (au P0 c) o (I1 (.builtin "classmethod_descriptor.__get__") [.builtin "object.__init_subclass__",.none,.ref Q]) WI y ⟨s,V',Wi,b,VV⟩)(C:∀e,P e->WI (.done (.ret (.ref Vo))) e):aA (au P0 c) o (Builtin.«super.__getattribute__» ⟨[.ref h,.str (ac "__init_subclass__") Vt],[]⟩) WI y ⟨s,V',Wi,b,VV⟩:=by
 have n:Jx (au P0 c) s (UW (.ref Q)) [.ref Q,.type "object"]:=by
  intro o WI y G k q;refine al (al (ML (k _ _ u) (ah (ah ?_))));show WI WC.mro G;rw[z];exact q
 have x:(([hk Q,.type "object"]:List ab).dropWhile (· !=.ref Q)).drop 1=[.type "object"]:=by simp
 have f:(gP Q).data=.fields #[.ref Q,.ref Q,.ref Q]:=rfl;have j:(#[.ref Q,.ref Q,.ref Q]:Array ab)[0]?=some (.ref Q):=rfl;have l:(#[.ref Q,.ref Q,.ref Q]:Array ab)[1]?=some (.ref Q):=rfl;have m:(#[.ref Q,.ref Q,.ref Q]:Array ab)[2]?=some (.ref Q):=rfl;unfold Builtin.«super.__getattribute__»;repeat(first
  |(with_reducible refine Jk i f j ?_)|(with_reducible refine Jk i f l ?_)|(with_reducible refine Jk i f m ?_)|(with_reducible refine ks_wpAny_notOpaque B ?_)|(with_reducible refine Looks.at n ?_;rw[x])|wp_step|dsimp only)
 refine cx (a:=some (.builtin "classmethod_descriptor.__get__")) (by lia) ?_;rw[show(hk Q==hk Q)=true from by simp];exact al (aK (v _ _ λ e p=>al (ah (ah (ah (ah (C e p)))))))
def EK(i:s.get? h=some (gP Q))(j:s.get? Q=some ⟨U,Wb,.cls WC,Wm⟩)(l:WC.mro=[.ref Q,.type "object"])(m:Jx (au P0 c) s (PR (.ref Q)) none){P:aa->Prop}(k:∀(e:aq)(Vf:ab->aa->Prop)y,e.handled=o.handled->(∀b,P b->Vf (.ref Vo) b)->aA (au P0 c) e (I1 (.builtin "classmethod_descriptor.__get__") [.builtin "object.__init_subclass__",.none,.ref Q]) Vf y ⟨s,V',Wi,a+1,VV⟩)(n:∀b,P b->Vf (.ref Vo) b):aA (au P0 c) o (Qt (.ref h) (ac "__init_subclass__")) Vf y ⟨s,V',Wi,a,VV⟩:=by
 have f:∀x,(⟨s,V',Wi,x,VV⟩:aa).TypeIs (.ref h) "super":=λ _=>⟨_,i,rfl⟩;unfold Qt getAttrBy;refine al (wpAny_mkText (aK (al (LX (f _) (al (cx OU.lookup ?_))))));show aA _ _ (Uu (.ref h) (.str (ac "__init_subclass__") a) (.type "super") (.builtin "super.__getattribute__") true ap) _ _ _;unfold Uu hookBefore callGetattribute boundAndCalled;refine al (cx (show(if onTheHeap (.type "super")then Tk (.type "super") "__getattr__"else jq none)=jq none from rfl) (al (Mf (aK ?_))));show aA _ _ (bindSpecial (.builtin "super.__getattribute__") (.ref h)>>=_) _ _ _;refine al (cx (OU.bind _) ?_);refine aG (Q:=λ v b=>v=.ref Vo/\P b) (E:=λ _ _=>False) (IN OU (f _) F.ks_entry_super_ga (EJ i j l m (λ Vf y q=>k _ Vf y rfl q) λ b p=>⟨_,rfl,rfl,p⟩) (F.ks_gaArgs_super _ _)) (λ v b u=>?_) λ _ _ z=>z.elim;refine am u ?_;rintro rfl p;exact ah (n b p)
def EL(R:bL V9 q)(e:H.heap.get? V9.n=some O)(z:KO q.heap H.heap)(A:H.heap.objs.size=V9.n+1)(B:H.toks=a):bL ⟨V9.objs++[(V9.n,O)],V9.n+1,a⟩ H:=by
 have m:∀(j:Nat)(c:ae)(x:Obj),V9.objs[j]?=some (c,x)->c≠V9.n:=λ j c x e b=>by
   have :=az (R.objs j c x e);rw[R.size,b]at this;exact Iw _ this
 have g:∀(j:Nat)(c:ae)(x:Obj),(V9.objs++[(V9.n,O)])[j]?=some (c,x)->V9.objs[j]?=some (c,x)\/(j=V9.objs.length/\c=V9.n/\x=O):=λ j c x e=>by
   rw[Rc]at e;split at e;·exact .inl e
   · rename_i w;have l:j-V9.objs.length=0:=by
       have :=(a8.mp e).1;simp only[Kw]at this;exact hA (dF this) bE
     rw[l]at e;cases e;exact .inr ⟨gu (iu l) w,rfl,rfl⟩
 refine⟨λ i d x b=>?_,λ i j d x y b n=>?_,A,B⟩
 · rcases g i d x b with b|⟨_,rfl,rfl⟩;·exact z _ _ (R.objs i d x b)
   ·exact e
 · refine aH (g i d x b) (λ p=>?_) λ f=>?_
   · refine aH (g j d y n) (λ h=>?_) λ f=>?_;·exact R.inj _ _ _ _ _ p h
     ·exact a4 f λ _ v _=>(m _ _ _ p v).elim
   · refine a4 f λ r t _=>aH (g j d y n) (λ h=>?_) λ f=>?_;·exact(m _ _ _ h t).elim
     · refine a4 f λ u _ _=>?_;rw[r,u]
def EM(R:bL V9 q)(e:H.heap.get? V9.n=some O)(g:KO q.heap H.heap)(j:H.heap.objs.size=V9.n+1)(m:H.toks=a)(l:H={q with heap:=H.heap,toks:=H.toks}):bU V9 ⟨V9.objs++[(V9.n,O)],V9.n+1,a⟩ q H:=by
 refine⟨EL R e g j m,⟨l,λ b O _ e=>g b O e,λ i n x e=>⟨x,?_⟩,by rw[j,R.size];exact I5 _⟩,λ i c x h=>?_⟩
 · show(V9.objs++[(V9.n,O)])[i]?=_;rw[GZ (a8.mp e).1];exact e
 · by_cases f:i<V9.objs.length
   · have d:(V9.objs++[(V9.n,O)])[i]?=some (c,x):=h;rw[GZ f]at d;exact .inl ⟨x,d⟩
   · have d:(V9.objs++[(V9.n,O)])[i]?=some (c,x):=h;rw[I9 (b'.mp f)]at d;have :=(a8.mp d).1;simp only[Kw]at this;rw[show i-V9.objs.length=0 by exact hA (dF this) bE]at d;cases d;exact .inr (Ja R.size)
noncomputable def lP(P:a3)(t:Nat->Tok)(a b:ae)(f:Nat->ae):Array OJ:=#[⟨mL P (ac "__module__"),sN "__module__" (t 0),sN "cpy313.functools" (t 12)⟩,⟨mL P (ac "__qualname__"),sN "__qualname__" (t 1),.str qK (t 13)⟩,⟨mL P (ac "__firstlineno__"),sN "__firstlineno__" (t 2),.int 78 (t 14)⟩,⟨mL P (ac "__slots__"),sN "__slots__" (t 3),.ref a⟩,⟨mL P (ac "__init__"),sN "__init__" (t 4),.ref (f 0)⟩,⟨mL P (ac "__lt__"),sN "__lt__" (t 5),.ref (f 1)⟩,⟨mL P (ac "__gt__"),sN "__gt__" (t 6),.ref (f 2)⟩,⟨mL P (ac "__eq__"),sN "__eq__" (t 7),.ref (f 3)⟩,⟨mL P (ac "__le__"),sN "__le__" (t 8),.ref (f 4)⟩,⟨mL P (ac "__ge__"),sN "__ge__" (t 9),.ref (f 5)⟩,⟨mL P (ac "__hash__"),sN "__hash__" (t 10),.none⟩,⟨mL P (ac "__static_attributes__"),sN "__static_attributes__" (t 11),.ref b⟩]
noncomputable def EN(P:a3)(t:Nat->Tok)(SL ST:ae)(f:Nat->ae):Obj:=⟨.type "dict",none,.dict (lP P t SL ST f) 12,#[]⟩
noncomputable def EO(u:Tok):Obj:=⟨.type "list",none,.seq #[sN "obj" u] 0,#[]⟩
noncomputable def EP(u:Tok):Obj:=⟨.type "tuple",none,.seq #[sN "obj" u] 0,#[]⟩
noncomputable def fV(a:It):Obj:=⟨.type "function",none,.func a,#[]⟩
noncomputable def fW(P:a3)(t:Nat->Tok)(T c a b:ae)(f:Nat->ae)(fd:Nat->It)(n d:Nat):SD:=⟨[(T,rh),(c,EN P t a b f),(a,EO (t 15)),(b,EP (t 16)),(2,hP P),(f 0,fV (fd 0)),(f 1,fV (fd 1)),(f 2,fV (fd 2)),(f 3,fV (fd 3)),(f 4,fV (fd 4)),(f 5,fV (fd 5))],n,d⟩
noncomputable def wu(P:a3)(t:Nat->Tok)(T b c d:ae)(f:Nat->ae)(e:Nat->It)(m a:Nat):SD:=⟨(fW P t T b c d f e (m+314) a).objs++[(m+314,⟨.type "list",none,.seq #[sN "obj" (t 15)] 1,#[]⟩)],m+315,a⟩
noncomputable def H5(P:a3)(t:Nat->Tok)(T WR SL ST:ae)(f:Nat->ae)(fd:Nat->It)(m WQ:Nat):SD:=⟨(wu P t T WR SL ST f fd m WQ).objs++[(m+315,⟨.type "dict",none,.dict (lP P t SL ST f) 0,#[]⟩)],m+316,WQ⟩
noncomputable def rk(d:LM->LM)(b:Array (Option ab))(a:ae):Obj:=⟨.type "type",none,.cls (d {name:=nm "K",bases:=[.type "object"],mro:=[],ns:=a,qualname:=qK}),b⟩
noncomputable def wv(P:a3)(t:Nat->Tok)(T WL SL ST:ae)(f:Nat->ae)(fd:Nat->It)(m WT:Nat)(b:Array OJ)(a:Nat)(c:Obj)(d:List (ae×Obj))(n e:Nat):SD:=⟨(wu P t T WL SL ST f fd m WT).objs++[(m+315,⟨.type "dict",none,.dict b a,#[]⟩),(m+316,c)]++d,n,e⟩
noncomputable def ww(P:a3)(t:Nat->Tok)(SL ST:ae)(f:Nat->ae):Array OJ:=(lP P t SL ST f).eraseIdxIfInBounds 1
noncomputable def kk(C:ae)(a:Tok):Obj:=⟨.type "member_descriptor",none,.fields #[sN "obj" a,.ref C,.builtin "proto.slot",.builtin "proto.slot#set",.int 0 0],#[]⟩
noncomputable def ih(P:a3)(t:Nat->Tok)(SL ST:ae)(f:Nat->ae)(m a:Nat):Array OJ:=((ww P t SL ST f).push ⟨mL P (ac "obj"),sN "obj" (a+1),.ref (m+317)⟩).push ⟨mL P (ac "__doc__"),sN "__doc__" (a+2),.none⟩
noncomputable def n8(t:Nat->Tok)(T C a:ae):Obj:=rk (λ c=>{c with mro:=[.ref C,.type "object"],hasDel:=ap,hasDict:=ap,slotNames:=[nm "obj"]}) #[some (.ref T),none,some (.str (nm "K") (t 17)),some (.str qK (t 13)),some (.builtin "object.__new__"),some (.bool ap)] a
noncomputable def i5(P:a3)(t:Nat->Tok)(T a SL ST:ae)(f:Nat->ae)(b:Nat->It)(m WL:Nat):SD:=⟨(wv P t T a SL ST f b m WL (ih P t SL ST f m WL) 3 (n8 t T (m+316) (m+315)) [(m+317,kk (m+316) WL)] (m+318) (WL+3)).objs++[(m+318,gP (m+316)),(m+319,wt (m+316))],m+320,WL+4⟩
section
set_option genInjectivity false
structure Kz where
 t:Nat->Tok
 T:ae
 N:Nat
 L:ae
 S:ae
 f:Nat->ae
 m:Nat
 k:Nat
end
def Ph(_:Sem Vb):Type:=Unit
noncomputable def wy(P:a3)(z:Kz):Sem Jj:=let_mvar%?f1:=_;let_mvar%?a:=(id:Ph (Builtin.«type.__new__» ⟨[.type "type",.str (nm "K") (z.t 17),.ref z.T,.ref (z.N+314)],[]⟩)->Ph (_>>=?f1));let_mvar%?f2:=_;let_mvar%?l:=(id:Ph (?f1 (some (nm "K")))->Ph (_>>=?f2));let_mvar%?f3:=_;let_mvar%?u:=(id:Ph (?f2 (true))->Ph (_>>=?f3));let_mvar%?f4:=_;let_mvar%?v:=(id:Ph (?f3 (true))->Ph (_>>=?f4));let_mvar%?f5:=_;let_mvar%?w:=(id:Ph (?f4 (some #[Iv "object"]))->Ph (_>>=?f5));let_mvar%?f6:=_;let_mvar%?x:=(id:Ph (?f5 (MW))->Ph (_>>=?f6));let_mvar%?f7:=_;let_mvar%?y:=(id:Ph (?f6 (Iv "type"))->Ph (_>>=?f7));let_mvar%?f8:=_;let_mvar%?A:=(id:Ph (?f7 (()))->Ph (_>>=?f8));let_mvar%?f9:=_;let_mvar%?B:=(id:Ph (?f8 (Iv "object"))->Ph (@ite _ _ _ _ (_>>=?f9)));let_mvar%?f10:=_;let_mvar%?b:=(id:Ph (?f9 (lP P z.t z.L z.S z.f))->Ph (_>>=?f10));let_mvar%?f11:=_;let_mvar%?c:=(id:Ph (?f10 (some (NW "dict.__iter__")))->Ph (_>>=?f11));let_mvar%?f12:=_;let_mvar%?d:=(id:Ph (?f11 ((lP P z.t z.L z.S z.f,[])))->Ph (_>>=?f12));let_mvar%?f13:=_;let_mvar%?e:=(id:Ph (?f12 (({names:=[nm "obj"],dict:=ap,weak:=ap,inherited:=[]}:Ug)))->Ph (_>>=?f13));let_mvar%?f14:=_;let_mvar%?q14:=_;let_mvar%?C:=(id:Ph (?f13 (hk (z.m+315)))->Ph (@ite _ _ _ _ ?q14));let_mvar%?f:=(id:Ph (?q14)->Ph (_>>=?f14));let_mvar%?f15:=_;let_mvar%?q15:=_;let_mvar%?D:=(id:Ph (?f14 (()))->Ph (@ite _ _ _ _ ?q15));let_mvar%?g:=(id:Ph (?q15)->Ph (_>>=?f15));let_mvar%?f16:=_;let_mvar%?h:=(id:Ph (?f15 (some (I2 qK (z.t 13))))->Ph (_>>=?f16));let_mvar%?f17:=_;let_mvar%?i:=(id:Ph (?f16 (some (I2 qK (z.t 13))))->Ph (_>>=?f17));let_mvar%?f18:=_;let_mvar%?j:=(id:Ph (?f17 (some qK))->Ph (_>>=?f18));let_mvar%?f19:=_;let_mvar%?k:=(id:Ph (?f18 (qK))->Ph (_>>=?f19));let_mvar%?f20:=_;let_mvar%?m:=(id:Ph (?f19 (none))->Ph (_>>=?f20));let_mvar%?f21:=_;let_mvar%?n:=(id:Ph (?f20 (z.m+316))->Ph (_>>=?f21));let_mvar%?f22:=_;let_mvar%?o:=(id:Ph (?f21 (()))->Ph (_>>=?f22));let_mvar%?f23:=_;let_mvar%?p:=(id:Ph (?f22 (()))->Ph (_>>=?f23));let_mvar%?f24:=_;let_mvar%?q:=(id:Ph (?f23 (()))->Ph (_>>=?f24));let_mvar%?f25:=_;let_mvar%?r:=(id:Ph (?f24 (true))->Ph (_>>=?f25));let_mvar%?f26:=_;let_mvar%?s:=(id:Ph (?f25 (none))->Ph (_>>=?f26));let_mvar%?f27:=_;let_mvar%?t:=(id:Ph (?f26 (MW))->Ph (_>>=?f27));?f27 (none)
noncomputable def EQ(P:a3)(WK:Kz):Sem Jj:=let_mvar%?f28:=_;let_mvar%?a:=(id:Ph (wy P WK)->Ph (_>>=?f28));let_mvar%?f29:=_;let_mvar%?b:=(id:Ph (?f28 (none))->Ph (_>>=?f29));let_mvar%?f30:=_;let_mvar%?c:=(id:Ph (?f29 (none))->Ph (_>>=?f30));let_mvar%?f31:=_;let_mvar%?d:=(id:Ph (?f30 ([Iv "object"]))->Ph (_>>=?f31));let_mvar%?f32:=_;let_mvar%?e:=(id:Ph (?f31 ([hk (WK.m+316),Iv "object"]))->Ph (_>>=?f32));let_mvar%?f33:=_;let_mvar%?f:=(id:Ph (?f32 (ap))->Ph (_>>=?f33));let_mvar%?f34:=_;let_mvar%?g:=(id:Ph (?f33 (()))->Ph (_>>=?f34));let_mvar%?f35:=_;let_mvar%?h:=(id:Ph (?f34 (some "object.__new__"))->Ph (_>>=?f35));let_mvar%?f36:=_;let_mvar%?i:=(id:Ph (?f35 (()))->Ph (_>>=?f36));let_mvar%?f37:=_;let_mvar%?j:=(id:Ph (?f36 (()))->Ph (_>>=?f37));let_mvar%?f38:=_;let_mvar%?k:=(id:Ph (?f37 (()))->Ph (_>>=?f38));let_mvar%?f39:=_;let_mvar%?l:=(id:Ph (?f38 (ap))->Ph (_>>=?f39));let_mvar%?f40:=_;let_mvar%?m:=(id:Ph (?f39 (()))->Ph (_>>=?f40));let_mvar%?f41:=_;let_mvar%?n:=(id:Ph (?f40 (none))->Ph (_>>=?f41));let_mvar%?f42:=_;let_mvar%?o:=(id:Ph (?f41 (()))->Ph (_>>=?f42));let_mvar%?f43:=_;let_mvar%?p:=(id:Ph (?f42 (some (hk (WK.f 3))))->Ph (_>>=?f43));let_mvar%?f44:=_;let_mvar%?q:=(id:Ph (?f43 (some I7))->Ph (_>>=?f44));?f44 (MW)
def n9{t:Sem Vb}(n:Nat)(d g:SD)(f:Nat)(i:Sem Vb){Q:Vb->aa->Prop}(h:el cm ⟨P0,c.params⟩ n t d f []=some (.more i,g,127,lO (el cm ⟨P0,c.params⟩ n t d f [])))(m:(lO (el cm ⟨P0,c.params⟩ n t d f [])).map (·.1)=(lO (el cm ⟨P0,c.params⟩ n t d f [])).map (·.2))(l:o.handled=none)(R:bL d q)(k:∀e,bU d g q e->aA (au P0 c) o i Q y e):aA (au P0 c) o t Q y q:=Es n (jt▸h) (jt▸m) l R λ e a b j=>k e ⟨a,b,j⟩
def ER{n:Nat->It}(WS:∀k,bU (fW c.params Vw h Q Vo Vu Vx n (b+314) x) (i5 c.params Vw h Q Vo Vu Vx n b x) q k->WI (.done (.ret (.ref (b+316)))) k)(p:o.handled=none)(R:bL (fW c.params Vw h Q Vo Vu Vx n (b+314) x) q)(WR:314<=Q):aA (au P0 c) o (Builtin.«type.__new__» ⟨[.type "type",.str (nm "K") (Vw 17),.ref h,.ref Q],[]⟩) WI y q:=by
 refine ai (⟨Q-314,(Lh WR).symm⟩:∃N,Q=N+314) ?_;rintro N rfl;let D:=wv c.params Vw h (N+314) Vo Vu Vx n b x;let L:=ww c.params Vw Vo Vu Vx;let V:=some (hk h);let O:=some (I2 (nm "K") (Vw 17));let U:=some (I2 qK (Vw 13));refine n9 2000 _ (D L 1 (rk id #[V,none,O,U] (b+315)) [] (b+317) x) 22674414377920175949488378689692108463949217920 (wy c.params ⟨Vw,h,N,Vo,Vu,Vx,b,x⟩) (by lia) (by lia) p R λ W5 H=>?_;refine al (kj 12 none H.rep.objs (b:=[(b+315,b+315)]) (by lia) rfl ?_);refine al (cx (a:=none) (by lia) ?_);refine al (cx (a:=[Iv "object"]) (by lia) ?_);refine al (ah ?_);refine al ?_;have e:List.filter (λ WZ=>WZ !=hk (b+316)) [hk (b+316),Iv "object"]=[Iv "object"]:=by rw[Qn (by simp),Qm rfl,Pq]
 rw[e];refine cx (a:=ap) (by lia) ?_;let WL:=some (NW "object.__new__");let WK:=L.push ⟨mL c.params (ac "obj"),sN "obj" (x+1),.ref (b+317)⟩;let WO:LM->LM:=λ WN=>{WN with mro:=[.ref (b+316),.type "object"],hasDel:=ap,hasDict:=ap,slotNames:=[nm "obj"]};let W0:=some (T8 ap);let B:=WK.push ⟨mL c.params (ac "__doc__"),sN "__doc__" (x+2),.none⟩;let j:=D B 3 (rk WO #[V,none,O,U,WL,W0] (b+315)) [(b+317,kk (b+316) x)] (b+318) (x+3);refine n9 2000 _ j 22674414377920216514307585993110652629320681101 (EQ c.params ⟨Vw,h,N,Vo,Vu,Vx,b,x⟩) (by lia) (by lia) p H.rep λ WX i=>?_;refine al (QD (aK ?_));refine al (kj 12 B i.rep.objs (b:=[(b+315,b+315)]) (by lia) rfl ?_);refine al (cx (a:=ap) (by lia) ?_);refine gz (by lia) (al (kj 12 B i.rep.objs (b:=[(b+315,b+315)]) (by lia) rfl ?_));refine al (kj 1010539458256274050 MW i.rep.objs (b:=[(b+317,b+317),(Vu,Vu),(Vx 5,Vx 5),(Vx 4,Vx 4),(Vx 3,Vx 3),(Vx 2,Vx 2),(Vx 1,Vx 1),(Vx 0,Vx 0),(Vo,Vo)]) (by lia) rfl ?_);obtain⟨WP,g,d,u,os⟩:=WX;refine al (EI (Vc:=[.type "object"]) (i.rep.objs 13 _ _ rfl) rfl λ G C WU J=>?_);rw[i.rep.size]at C J⊢;have W6:G.objs.size=b+319:=J;have WT:u=x+3:=i.rep.tk;have v:bU j ⟨j.objs++[(b+318,gP (b+316))],b+319,x+4⟩ ⟨WP,g,d,u,os⟩ ⟨G,g,d,u+1,os⟩:=EM i.rep C WU J (by rw[WT]) rfl;let z:SD:=⟨j.objs++[(b+318,gP (b+316)),(b+319,wt (b+316))],b+320,x+4⟩;refine al (aK (EK (Q:=b+316) (Vo:=b+319) (P:=λ k=>bU ⟨j.objs++[(b+318,gP (b+316))],b+319,x+4⟩ z ⟨G,g,d,u+1,os⟩ k) C (v.rep.objs 13 _ _ rfl) rfl (Looks.peekD (VK:=au P0 c) (VM:=j.objs++[(b+318,gP (b+316))]) (a:=4) (c:=[(2,2)]) (by lia) rfl v.rep.objs) (λ A' W3 W2 WQ WV=>?_) λ W4 Y=>?_));·exact kg 400 _ z 1677 0 (e:=[(b+316,b+316),(b+316,b+316)]) (.ref (b+319)) (by lia) rfl (WQ.trans p) v.rep λ k r=>WV k r
 refine al (kg 400 _ z 3517138576 0 (e:=[(b+316,b+316),(b+316,b+316),(b+316,b+316),(b+316,b+316),(b+319,b+319)]) .none (by lia) rfl p Y.rep λ WY WW=>?_);refine ah (ah (WS WY ?_));exact(bU.trans R (bU.trans R (bU.trans R (bU.trans R H i) v) Y) WW)
def ES:KE Kj "type.__new__"=some Builtin.«type.__new__»:=Jv (by lia)
def ET:plainId "type.__new__"=true:=by decide+kernel
def wz{d:Nat->It}(g:o.handled=none)(R:bL (fW c.params Vw h Q Vo Vu Vx d (b+314) x) q)(i:314<=Q)(j:∀e,bU (fW c.params Vw h Q Vo Vu Vx d (b+314) x) (i5 c.params Vw h Q Vo Vu Vx d b x) q e->Vf (.ref (b+316)) e):aA (au P0 c) o (I1 (.type "type") [.str (nm "K") (Vw 17),.ref h,.ref Q] []) Vf y q:=by
 refine Je (Ms ?_);show aA _ _ (callAny (.type "type") _) _ _ _;refine ah ⟨Lb _ (by decide+kernel),hN Q6 ?_⟩;rw[Q8 (Sl "type" _ []) rfl];unfold Builtin.«type.__call__»;refine y7 rfl (gz rfl (gz rfl (gz (by lia) (al ?_))));refine cx (a:=()) (by lia) ?_;refine al (cx (a:=[Iv "type",.type "object"]) (by lia) ?_);refine gz rfl (al (cx (a:=some "type.__new__") (by lia) ?_));refine al (ah (al (aK (Je (Ig ET ES (cx (a:=()) (by lia) (ER (λ e r=>?_) g R i)))))));refine al (kj 13 true r.rep.objs (b:=[(b+316,b+316)]) (by lia) rfl ?_);refine gz rfl (al (aK (kg 400 _ (i5 c.params Vw h Q Vo Vu Vx d b x) 1677 0 (e:=[(b+316,b+316),(b+316,b+316)]) (some I7) (by lia) rfl g r.rep λ l k=>?_)));exact gz rfl (ah (j l (bU.trans R r k)))
def bL.pick(R:bL V9 q)(dI:List Nat)(h:dI.map (λ i=>V9.objs[i]?)=VM.map some)(y:dI.Nodup)(w:V9.n=a)(x:V9.tk=b):bL ⟨VM,a,b⟩ q:=by
 have d:∀(i:Nat)g,VM[i]?=some g->∃j,dI[i]?=some j/\V9.objs[j]?=some g:=λ i g e=>by
   have p:=congrArg (·[i]?) h;simp only[a',e,ID]at p;refine ak (bh.mp p) λ j c f=>?_;exact bj j c f
 refine⟨λ i c o e=>?_,λ i j c o z e v=>?_,w▸R.size,x▸R.tk⟩
 · refine ak (d i _ e) λ j _ f=>?_;exact R.objs j c o f
 · refine ak (d i _ e) λ k m t=>?_;refine ak (d j _ v) λ l r u=>?_;have :=R.inj k l c o z t u;subst this;exact(Sf (a8.mp m).1 y).mp (m.trans r.symm)
def bU.low{f j:SD}(R:bL f q)(r:bU f j q H)(k:∀(i:Nat)c,f.objs[i]?=some c->c.1<a->c.1≠b->j.objs[i]?=some c)(l:h<a)(m:h≠b)(e:q.heap.get? h=some O):H.heap.get? h=some O:=by
 by_cases g:∃(i:Nat)(d:Obj),f.objs[i]?=some (h,d)
 · refine cP g λ i d c=>?_;have :=R.objs i h d c;cases aO e this;exact r.rep.objs i h O (k i _ c l m)
 ·exact r.ig.keep h O (λ i d c=>g ⟨i,d,c⟩) e
noncomputable def en(i:Nat):g6:=cE (kZ.getD (i+2) b2)
noncomputable def cp(WK:Nat)(a:List (Str×ae))(x:ae)(b:ab):It:={name:=(en WK).name,qualname:=qK++ac "."++(en WK).name,params:=(en WK).par,body:=.stmts (en WK).body,scope:=(en WK).scope,globals:=3,closure:=a,defaults:=.none,kwdefaults:=.none,pyModule:=.str (ac "law_in0064_01") 766,code:=.ref x,closureTuple:=b}
noncomputable def ft(c:ae)(i:Nat):List (Str×ae):=if i=0 then[]else[(nm "mycmp",c)]
noncomputable def EU(a:Nat)(i:Nat):Tok:=a+[8,10,12,16,24,33,42,51,60,69,70,72,13,9,11,15,71,0].getD i 0
noncomputable def EV(a:Nat)(i:Nat):Tok:=a+[2,4,6,10,11,12,13,14,15,16,17,19,7,3,5,9,18,0].getD i 0
def bU.wA{d j X:List (ae×Obj)}(R:bL ⟨d++X,a,b⟩ q)(r:bU ⟨d++X,a,b⟩ V9 q H)(p:V9.objs.take d.length=j)(m:∀(i:Nat)c,d[i]?=some c->c.1≠120->j[i]?=some c)(k:∀c∈X,x<=c.1)(l:h<x)(t:h≠120)(e:q.heap.get? h=some O):H.heap.get? h=some O:=bU.low R r (λ i c e lt ne=>by
   have f:(d++X)[i]?=some c:=e;by_cases g:i<d.length
   · rw[GZ g]at f;have :=m i c f ne;rw[<-p,Kh,if_pos g]at this;exact this
   · rw[I9 (b'.mp g)]at f;exact absurd lt (b'.mpr (k c (ct f)))) l t e
def EW(i:Nat)(q:ae×Obj)(h:(i4 Vv O)[i]?=some q)(ne:q.1≠120):(i4 Vv VQ)[i]?=some q:=by match i,h with
 |0,h=>exact h|1,h=>exact h|2,h=>exact h|3,h=>exact h|4,h=>obtain rfl:=ax h;exact(ne rfl).elim|5,h=>exact h|i+6,h=>exact aQ h
def EX{c:Nat->It}(R:bL (fW Vv Vw h Q Vo Vu Vx c (a+314) b) q)(r:bU (fW Vv Vw h Q Vo Vu Vx c (a+314) b) (i5 Vv Vw h Q Vo Vu Vx c a b) q H):KO q.heap H.heap:=r.keep R λ i d e=>by
  have :(i5 Vv Vw h Q Vo Vu Vx c a b).objs=(fW Vv Vw h Q Vo Vu Vx c (a+314) b).objs++(i5 Vv Vw h Q Vo Vu Vx c a b).objs.drop 11:=rfl;rw[this,GZ (a8.mp e).1];exact e
def EY:gB[0]?=some ((gB.getD 0 b2).1,(cp 0 [] 0 .none).qualname):=by lia
def EZ:gB[1]?=some ((gB.getD 1 b2).1,(cp 1 [] 0 .none).qualname):=by lia
def wB(e:s.get? 2=some (hP Vv)):s.NoLimit:=⟨_,k6 e (by lia),by lia⟩
noncomputable def wC(a:SD)(i:Nat):Option (ae×Str):=(a.objs[i]?).bind λ q=>(qo q.2.data).map (q.1,·)
def E0(R:bL V9 q)(f:wC V9 a=some (h,j)):q.heap.CodeRec (.ref h) j:=by
 refine ak (dg.mp f) λ g e f=>?_;obtain⟨b,⟨c,d,l,p⟩⟩:=g;refine ak (bh.mp f) λ x k f=>?_;refine am (JU f) λ g n=>?_;obtain rfl:=g;obtain rfl:=n;cases l with
 |fields o=>refine ai (uf k) λ t m=>?_;exact g2 _ _ o t rfl (R.objs a _ _ e) rfl m|_=>exact aQ k
def E1(R:bL V9 q)(dI:List Nat)(x:Nat->ae)(h:dI.map (wC V9)=gB.zipIdx.map λ d=>some (x d.2,d.1.2)):∀(i:Nat)d,gB[i]?=some d->q.heap.CodeRec (.ref (x i)) d.2:=λ i d e=>by
 have a:=congrArg (·[i]?) h;simp only[a',Rb,e,ID,Ik]at a;refine ak (bh.mp a) λ j _ b=>?_;exact E0 R b
inductive KL(P:a3)(C WL:ae)(L:List (ae×Obj))(a b:ae):Prop|mk(t:Nat->Tok)(T SL ST:ae)(f:Nat->ae)(m WN:Nat)(WM:Nat->ab)(d:C=m+316)(e:L=[(m+316,n8 t T (m+316) (m+315)),(m+315,⟨.type "dict",none,.dict (ih P t SL ST f m WN) 3,#[]⟩),(m+317,kk (m+316) WN),(f 0,fV (cp 0 (ft WL 0) a (WM 0))),(f 1,fV (cp 1 (ft WL 1) b (WM 1)))])
def E2(ne:h≠Q)(i:314<=h)(g:314<=Q):([0,2,3,4,120,124,h,Q]:List ae).Nodup:=by
 have c:∀a∈([0,2,3,4,120,124]:List ae),a<314:=by decide
 refine(Sd (l₁:=[0,2,3,4,120,124]) (l₂:=[h,Q])).mpr ⟨by decide,by simpa using ne,λ a f b d e=>?_⟩;simp only[aP,uR,or_false]at d;rcases d with rfl|rfl;·exact absurd (c a f) (b'.mpr (e▸i))
 ·exact absurd (c a f) (b'.mpr (e▸g))
noncomputable def wD(b:Env)(n c:Nat)(a:ab):Sem ab:=let_mvar%?f1:=_;let_mvar%?d:=(id:Ph (buildClass (nm "K") qK [.type "object"] [] kZ i3 [nm "obj"] hS.line b hS none)->Ph (_>>=?f1));let_mvar%?f2:=_;let_mvar%?m:=(id:Ph (?f1 (hk n))->Ph (_>>=?f2));let_mvar%?f3:=_;let_mvar%?o:=(id:Ph (?f2 ([Iv "object"],ap))->Ph (_>>=?f3));let_mvar%?f4:=_;let_mvar%?p:=(id:Ph (?f3 (Iv "type"))->Ph (_>>=?f4));let_mvar%?f5:=_;let_mvar%?q:=(id:Ph (?f4 true)->Ph (_>>=?f5));let_mvar%?f6:=_;let_mvar%?r:=(id:Ph (?f5 (Iv "type"))->Ph (_>>=?f6));let_mvar%?f7:=_;let_mvar%?s:=(id:Ph (?f6 (I2 (nm "K") c))->Ph (@ite _ _ _ _ (_>>=?f7)));let_mvar%?l1:=_;let_mvar%?f8:=_;let_mvar%?t:=(id:Ph (?f7 (hk n))->Ph (Mh ?l1 (_>>=?f8)));let_mvar%?f9:=_;let_mvar%?u:=(id:Ph (?f8 (some (hk (n+1))))->Ph (_>>=?f9));let_mvar%?f10:=_;let_mvar%?e:=(id:Ph (?f9 (hk (n+2)))->Ph (_>>=?f10));let_mvar%?f11:=_;let_mvar%?f:=(id:Ph (?f10 ())->Ph (_>>=?f11));let_mvar%?l2:=_;let_mvar%?g:=_;let_mvar%?h:=(id:Ph (?f11 (some (NW "dict.__getitem__")))->Ph (@ite _ _ _ _ (Mh ?l2 ?g)));let_mvar%?f12:=_;let_mvar%?i:=(id:Ph ?g->Ph (@ite _ _ _ _ (_>>=?f12)));let_mvar%?f13:=_;let_mvar%?j:=(id:Ph (?f12 none)->Ph (@ite _ _ _ _ (_>>=?f13)));let_mvar%?f14:=_;let_mvar%?k:=(id:Ph (?f13 none)->Ph (_>>=?f14));let_mvar%?f15:=_;let_mvar%?l:=(id:Ph (?f14 a)->Ph (_>>=?f15));Mh ?l1 (Mh ?l2 (?f15 (0:ae)))
def wE{f l:Nat->ae}(L:aC c q.heap)(z:q.heap.objs.size=b)(E:bL (fW c.params Vw h Q Vo Vu f (λ i=>cp i (ft VB i) (l i) (VD i)) (a+314) x) H)(U:∀j o,j<b->j≠120->q.heap.get? j=some o->H.heap.get? j=some o)(p:b<=a+315)(J:b<=f 0)(M:b<=f 1)(g:H.heap.get? 120=some (Jw (k0 VC)))(K:mW H.heap VC)(v:∀(i:Nat)d,gB[i]?=some d->H.heap.CodeRec (.ref (l i)) d.2)(WN:H={q with heap:=H.heap,toks:=H.toks})(N:∀C L A B VH,KL c.params C VB L A B->(∀u∈L,q.heap.objs.size<=u.1/\VH.heap.get? u.1=some u.2)->VH.heap.CodeRec (.ref A) (cp 0 [] 0 .none).qualname->VH.heap.CodeRec (.ref B) (cp 1 [] 0 .none).qualname->I3 120 q.heap VH.heap->aC c VH.heap->VH={q with heap:=VH.heap,toks:=VH.toks}->y (.ref C) VH)(r:bU (fW c.params Vw h Q Vo Vu f (λ i=>cp i (ft VB i) (l i) (VD i)) (a+314) x) (i5 c.params Vw h Q Vo Vu f (λ i=>cp i (ft VB i) (l i) (VD i)) a x) H VH):y (.ref (a+316)) VH:=by
 have k:=EX E r;have ext:I3 120 q.heap VH.heap:=λ j o O e=>k j o (U j o (z▸az e) O e);obtain⟨D,G,WO,WP,V,Y,WK,WL,WM⟩:=K;have is:=L.g'.is;subst z;refine N (a+316) _ (l 0) (l 1) VH ⟨Vw,h,Vo,Vu,f,a,x,VD,rfl,rfl⟩ ?_ ((v 0 _ EY).keeps k) ((v 1 _ EZ).keeps k) ext (L.grow rfl ext (nI (by decide) is ext L.g8) (nI (by decide) is ext L.g9) (.inr ⟨VC,k _ _ g,D,G,WO,WP,V,Y,k _ _ WK,k _ _ WL,λ i d e=>(WM i d e).keeps k⟩)) ?_;·exact aV ⟨JY p,r.rep.objs 13 _ _ rfl⟩ (aV ⟨p,r.rep.objs 12 _ _ rfl⟩ (aV ⟨JY (JY p),r.rep.objs 14 _ _ rfl⟩ (aV ⟨J,r.rep.objs 5 _ _ rfl⟩ (aV ⟨M,r.rep.objs 6 _ _ rfl⟩ dT))))
 ·rw[r.ig.rest,WN]
def E3(l:o.handled=none)(WW:o.depth<QG)(L:aC c q.heap)(WL:314<=q.heap.objs.size)(WX:E.globals=FG)(G:E.builtins=IT)(WT:E.code=.ref 124)(N:E.scope=a0 [19])(W7:E.cells.lookup (nm "mycmp")=some h)(WS:∀C L W3 W4 p,KL c.params C h L W3 W4->(∀a∈L,q.heap.objs.size<=a.1/\p.heap.get? a.1=some a.2)->p.heap.CodeRec (.ref W3) (cp 0 [] 0 .none).qualname->p.heap.CodeRec (.ref W4) (cp 1 [] 0 .none).qualname->I3 120 q.heap p.heap->aC c p.heap->p={q with heap:=p.heap,toks:=p.toks}->Vf (.ref C) p):aA (au P0 c) o (buildClass (nm "K") qK [.type "object"] [] kZ i3 [nm "obj"] hS.line E hS none) Vf y q:=by
 have WV:=EA W7;obtain⟨sc,WY,gl,WO,a,f,code,fr,bl⟩:=E;dsimp only at WX G WT N;subst WX G WT;obtain⟨z,g,d,j,os⟩:=q;dsimp only at WL L;refine ai (⟨z.objs.size-314,si WL⟩:∃m,z.objs.size=m+314) λ m H=>?_;rw[H]at WL;have p3:z.get? 3=some (js c.params):=L.eC 1 (by lia) rfl λ x a=>iK a;have WZ:z.get? 124=some (mP c.params):=L.eC 80 (by lia) rfl λ x a=>k1 a;have p2:z.get? 2=some (hP c.params):=L.eC 0 (by lia) rfl λ x a=>iK a;rcases L.g' with WN|⟨v,WN,u,D,t,x,WR,WU,WM,WP,W5⟩
 · have k:bL ⟨i4 c.params (Jw #[]),m+314,j⟩ ⟨z,g,d,j,os⟩:=wn (aV L.o0 (aV p2 (aV p3 (aV L.o4 (aV WN (aV WZ dT)))))) (show([0,2,3,4,120,124]:List ae).Nodup by decide) H rfl;refine n9 2000 _ (rj c.params (m+314) (j+2)) 1171585565093284365319 (wD ⟨sc,WY,FG,WO,a,f,.ref 124,fr,IT⟩ (m+314) j (.ref (m+319))) (by subst N;lia) (by subst N;lia) l k λ W8 T=>?_;refine aK (aK (al (kg 60 _ _ _ 0 _ (EF c.params (m+314) (j+2)) rfl l T.rep λ W9 B=>?_)));refine al (cx WV ?_);refine aK (al (TZ (wB (Vv:=c.params) (B.rep.objs 1 _ _ rfl)) WW ?_));refine al (O1 (kh 400 _ 1218444920556476648424456 (by lia) (by lia) l B.rep λ W' U=>?_));refine al (kh 4000 _ 6918851185012349553287633467598760977184294517710312941602521993879001311175498234010220349649809754838257744431217142937358725771397163480852879647352947720 (by lia) (by lia) l U.rep λ Xa V=>?_);refine al (O1 (kh 400 _ 132104 (by lia) (by lia) l V.rep λ WK n=>?_));have J:bL (fW c.params (EU j) (m+314) (m+316) (m+321) (m+369) (λ i=>m+(328+8*i)) (λ i=>cp i (ft h i) (m+(327+8*i)) (if i=0 then .none else .ref (m+(321+8*i)))) (m+56+314) (j+73)) WK:=n.rep.pick [6,8,13,61,1,20,28,36,44,52,60] (by lia) (by decide) (by lia) (by lia);have O:=bU.trans k (bU.trans k (bU.trans k (bU.trans k T B) U) V) n;have M:=E1 n.rep [19,27,35,43,51,59] (λ i=>m+(327+8*i)) (by lia);exact bT (by decide) (al (wz l J (an (by decide) (Iu 316 m)) λ p r=>ah (wE (VC:=m+319) L H J (λ b Y G ne e=>bU.wA (d:=i4 c.params (Jw #[])) (j:=i4 c.params (Jw (k0 (m+319)))) (X:=[]) (x:=m+314) k O (by lia) EW dT G ne e) (bX (by decide:314<=56+315) m) (bX (by decide:314<=328) m) (bX (by decide:314<=336) m) (n.rep.objs 4 _ _ (by lia)) ⟨m+318,m+317,wr (j+2),_,an (by decide) (Iu 318 m),an (by decide) (Iu 319 m),n.rep.objs 11 _ _ (by lia),n.rep.objs 10 _ _ (by lia),M⟩ M (by rw[O.ig.rest]) WS r)))
 · have ne:v≠u:=λ a=>by rw[a,WP]at WM;cases WM
   have k:bL ⟨ki c.params v u D t x,m+314,j⟩ ⟨z,g,d,j,os⟩:=wn (aV L.o0 (aV p2 (aV p3 (aV L.o4 (aV WN (aV WZ (aV WM (aV WP dT)))))))) (E2 ne WU WR) H rfl;refine n9 2000 _ (ri c.params (ki c.params v u D t x) (m+314) (j+2)) 558655531468041 (wD ⟨sc,WY,FG,WO,a,f,.ref 124,fr,IT⟩ (m+314) j (.ref v)) (by subst N;lia) (by subst N;lia) l k λ W8 T=>?_;refine aK (aK (al (kg 60 _ _ _ 0 _ (EH c.params (m+314) (j+2) v u D t x) rfl l T.rep λ W9 B=>?_)));refine al (cx WV ?_);refine aK (al (TZ (wB (Vv:=c.params) (B.rep.objs 1 _ _ rfl)) WW ?_));refine al (O1 (kh 400 _ 1523056150695595810522378 (by lia) (by lia) l B.rep λ W' U=>?_));refine al (kh 4000 _ 101663381027025170724223156391845936030820719330667420222765700501987253658045865797657832069550772042371707392231638282 (by lia) (by lia) l U.rep λ Xa V=>?_);refine al (O1 (kh 400 _ 165130 (by lia) (by lia) l V.rep λ WK n=>?_));have J:bL (fW c.params (EV j) (m+314) (m+316) (m+318) (m+330) (λ i=>m+(319+2*i)) (λ i=>cp i (ft h i) (x i) (if i=0 then .none else .ref (m+(318+2*i)))) (m+17+314) (j+20)) WK:=n.rep.pick [8,10,12,24,1,13,15,17,19,21,23] (by lia) (by decide) (by lia) (by lia);have O:=bU.trans k (bU.trans k (bU.trans k (bU.trans k T B) U) V) n;have low:=λ b Y G ne e=>bU.wA (d:=ki c.params v u D t x) (j:=ki c.params v u D t x) (X:=[]) (x:=m+314) k O (by lia) (λ _ _ W6 _=>W6) dT (h:=b) (O:=Y) G ne e;have M:∀(i:Nat)d,gB[i]?=some d->WK.heap.CodeRec (.ref (x i)) d.2:=λ i d e=>nH L.g'.is (λ b Y ne a=>low b Y (H▸az a) ne a) (W5 i d e);exact bT (by decide) (al (wz l J (an (by decide) (Iu 316 m)) λ p r=>ah (wE L H J low (bX (by decide:314<=17+315) m) (bX (by decide:314<=319) m) (bX (by decide:314<=321) m) (n.rep.objs 4 _ _ (by lia)) ⟨u,D,t,x,WR,WU,n.rep.objs 6 _ _ (by lia),n.rep.objs 7 _ _ (by lia),M⟩ M (by rw[O.ig.rest]) WS r)))
noncomputable def n':Cx:=⟨true,.ref 124,ac "cmp_to_key"++ac ".<locals>."⟩
def E4(P:a3):a5 P (nm "object")=none/\cR P (nm "object")=some (.type "object"):=⟨by lia,by lia⟩
def E5{x:Sem ab}{Q:Tw->aa->Prop}(h:aA VK o (Qr [(ap,x)]) (λ b a=>Q ⟨b,[]⟩ a) y q):aA VK o (evalArgs U ap [(ap,x)] []) Q y q:=by
 unfold evalArgs;show aA VK o (Qr [(ap,x)]>>=_) Q y q;exact al (aG h (λ b a c=>(aK (al (ah (al (ah (ah c))))))) λ _ _ x=>x)
def E6{Q:PF->aa->Prop}(WK:Rm (a,true) o)(F:FB n' w c o (a0 [19]) E q i D Ve Vn Y H)(W9:E.cells.lookup (nm "mycmp")=some h)(W7:∀C L G J j Xc W1,KL c.params C h L G J->(∀g∈L,¬aL w E Y g.1/\j.heap.get? g.1=some g.2)->(¬aL w E Y G/\j.heap.CodeRec (.ref G) (cp 0 [] 0 .none).qualname)->(¬aL w E Y J/\j.heap.CodeRec (.ref J) (cp 1 [] 0 .none).qualname)->FB n' w c o (a0 [19]) E q ((nm "K",.kept (.ref C) L)::i) (bu (nm "K") D) Xc W1 Y j->(∀b u,¬gI E b->¬bC b->H.heap.get? b=some u->j.heap.get? b=some u)->Q .next j):aA (au P0 c) o (exec iJ E) Q y H:=by
 simp only[Ez,arm_exec_ClassDef];have WS:=F.er.blt;have Xb:=F.er.scope;refine al (cx (a:=[]) rfl (al (Iq (al ?_))));unfold buildClassGuard;refine WS.symm▸?_;refine al (kj (VM:=[(0,MM c.params)]) 0 (some (.builtin "__build_class__")) (λ WT WP u e=>by cases WT with
  |zero=>cases e;exact F.er.left.o0|succ WT=>exact aQ e) (b:=[(0,0)]) (by lia) rfl ?_);refine ah (al (aK (al ?_)));have W8:a6 (a,true) (a0 [19]) i [.Name (nm "object") n7] [.raw (.type "object")]:=.cons (Ev.bl E4) .nil;have Xa:∀V E,bD (Expr.Name (nm "object") n7::V) E=(ap,He (.Name (nm "object") n7) E)::bD V E:=by intros;rfl
 have U:=a6.use WK (z:=hS) (E:=y) W8 (s:=H) (e:=H) (Q:=λ B j=>B=[.type "object"]/\Kp H j) F.er (Kp.refl H) λ B j r _ kp _=>by
  refine ak r.one ?_;rintro Xk rfl Xg;obtain rfl:=(show _=Iv "object"from Xg);exact⟨rfl,kp⟩
 simp only[Xa]at U⊢;refine E5 (aG U (λ B Xj⟨e,kp⟩=>?_) λ _ _ x=>x);subst e;have v:=F.kp kp;refine al (Iq (aK ?_));have W':E.kindOf (nm "K")=some .local:=by rw[F.cB];rfl
 have l:QH E (nm "K") (nm "K")=qK:=by
  unfold QH;rw[W',F.qual rfl];decide
 rw[l];have W5:∀b,FA o b->314<=b:=λ b f=>((F.bi rfl).dA.fa f).1;refine E3 (WK.calm rfl) (by have :=WK.depth;exact c5 dG (fy this)) v.er.left (by refine ak (Ns.c9 v.ns) λ Xi W4 _=>?_;exact an v.locals (bn (az W4))) F.er.glob WS F.code Xb W9 λ C L G J j W6 WR W0 c1 ext WO V=>?_;have WN:=v.kt rfl (by rw[V];exact Kq.tab (h:=120) rfl W5 ext) WO;refine al (ah (al (Iq (al (wpAny_bindName ?_)))));have N:∀g∈L,¬aL w E Y g.1/\j.heap.get? g.1=some g.2:=λ g l=>⟨v.er.ex.fresh (WR g l).1,(WR g l).2⟩;refine WN.store (j:=nm "K") (V:=.kept (.ref C) L) (.inl rfl) ⟨rfl,N⟩ λ WV Xd W2 WW WL=>ah ?_;have WM:∀g∈L,¬gI E g.1:=λ g l n=>(N g l).1 (.inl (.inr n));have W3:∀{M:ae}{g:Str},j.heap.CodeRec (.ref M) g->¬aL w E Y M/\WV.heap.CodeRec (.ref M) g:=λ{M g}WQ=>by
  refine ci (qJ WO WQ) λ u WX WY WZ=>?_;have WU:=WN.qI rfl WX WY WZ;refine du WQ λ Xh Xf B t e WP b d=>?_;cases e;exact⟨WU,M,Xf,B,t,rfl,WL _ _ (λ n=>WU (.inl (.inr n))) WP,b,d⟩
 refine W7 C L G J WV Xd W2 W6 (λ g l=>⟨(N g l).1,WL _ _ (WM g l) (N g l).2⟩) ?_ ?_ WW λ b u WM Xe e=>WL b u WM (ext b u (λ g=>Xe (by simp only[g];rfl)) (kp.keep b u e));all_goals refine W3 ?_
 ·exact W0
 ·exact c1
noncomputable def wF:g6:=cE ((bB [19]).getD 0 b2)
noncomputable def rl:Str×Nat×Pos:=zC (wF.e 0)
noncomputable def rm:g6:=cE ((bB [19]).getD 2 b2)
def E7:bB [19]=[.Expr (.Constant (.str rl.1) rl.2.1 rl.2.2) wF.pos,iJ,.Return (some (.Name (nm "K") (jr (rm.e 0)))) rm.pos]:=by lia
def wG:cu 125 124 (bB [19]) (a0 [19]) [nm "mycmp"]:=.mk' (λ P=>by lia) (λ P=>by lia) (λ P=>⟨by lia,by lia,by lia,by lia,by lia,by lia⟩) (by decide) (by rfl) (by rfl) ⟨rfl,rfl⟩ rfl rfl rfl
def E8(WL:Rm (a+1,true) o)(L:aC c q.heap)(J:Ex w q.heap)(T:fg o w q.heap)(WR:RV w q.heap (.ref h) (.kept (.ref h) VM))(WN:∀C j u g l r i,KL c.params C j g l r->u.data=.cell (some (.ref h))->(∀b∈(j,u)::g,¬w b.1/\i.heap.get? b.1=some b.2)->(¬w l/\i.heap.CodeRec (.ref l) (cp 0 [] 0 .none).qualname)->(¬w r/\i.heap.CodeRec (.ref r) (cp 1 [] 0 .none).qualname)->Kq true o q i->aC c i.heap->Vf (.ref C) i):aA (au P0 c) o (I1 (.ref 125) [.ref h]) Vf y q:=by
 refine jO (A:=n') (Wv:=⟨[.ref h],[]⟩) (Vi:=[.kept (.ref h) VM]) wG WL L J (.cons WR .nil) rfl (λ doc=>by lia) rfl (λ _=>by lia) (λ _=>T) λ H WT m Y WP z F=>?_;have V:=F.er.vars (nm "mycmp") (.kept (.ref h) VM) rfl;unfold cc at V;rw[F.cB,show(a0 [19]).names.lookup (nm "mycmp")=some .cell by rfl]at V;obtain⟨j,v,B,_,_⟩:=V;refine E7.symm▸(ii (aG ((St.doc:St n' (a,true) (a0 [19]) _ [] _ _) w c _ z H q WT _ m Y [] F) (λ f W4 WQ=>?_) λ _ _ x=>x));obtain⟨e,W1,WX,U,O,_⟩:=WQ;subst e;refine ii (E6 z O B λ C g l r W5 W2 WY WM WZ G c1 d W0=>(ii (M2 ((Ev.nm (V:=.kept (.ref C) g) (by rfl) (by rfl):Ev (a,true) (a0 [19]) ((nm "K",.kept (.ref C) g)::[nm "mycmp"].zip [.kept (.ref h) VM]) (.Name (nm "K") (jr (rm.e 0))) _).use z d.er (Kp.refl _) λ v WU WS kp _ R=>?_))));refine aj λ WV=>?_;obtain⟨rfl,M⟩:=WS;have V:=d.er.vars (nm "mycmp") (.kept (.ref h) VM) rfl;unfold cc at V;rw[d.cB,show(a0 [19]).names.lookup (nm "mycmp")=some .cell by rfl]at V;obtain⟨WW,W6,WO,⟨u,WK,doc⟩,rfl,_⟩:=V;cases aO B WO;refine WV ?_;have D:∀{N:ae},¬aL w H U N->¬w N:=λ n b=>n (.inl (.inl b));refine WN C j u g l r WU WM doc (λ b t=>?_) ⟨D G.1,G.2.keeps kp.keep⟩ ⟨D c1.1,c1.2.keeps kp.keep⟩ ((d.rel.trans kp.kq).outer WP) (d.er.left.keeps kp.keep);rcases aP.mp t with rfl|t
 · refine⟨λ b=>?_,kp.keep _ _ WK⟩;obtain⟨W3,e⟩:=J j b;exact absurd (az e) (b'.mpr (an d.fresh (bn (d.above _ _ (mem_of_lookup B)))))
 ·exact⟨D (M b t).1,(M b t).2⟩
def kl{t:Sem Vb}(d:∀q∈VM,s.get? q.1=some q.2)(g:Nat)(v:Vb){b:cD}(e:Mine.peekD ⟨P0,c.params⟩ VM t g []=some (v,b))(f:b.map (·.1)=b.map (·.2)):Jx (au P0 c) s t v:=Looks.peekD (VK:=au P0 c) e f λ i a o q=>d (a,o) (ct q)
def KL.makes(K:KL c.params h Q VM Vo Vu)(a:∀q∈VM,s.get? q.1=some q.2):Makes (au P0 c) s h:=by
 obtain⟨t,T,SL,ST,f,m,e,d,rfl,rfl⟩:=K;have b:=a _ (.head _);refine⟨⟨_,_,_,_,b,rfl,rfl,rfl⟩,?_,?_,sub_self b (Vc:=[.type "object"]) rfl,?_,?_,?_⟩;·exact kl a 0 _ (b:=[(m+316,m+316),(m+316,m+316)]) (by lia) rfl
 ·exact kl a 0 _ (b:=[(m+316,m+316),(m+316,m+316),(m+316,m+316)]) (by lia) rfl
 ·exact kl a 0 _ (b:=[(m+316,m+316)]) (by lia) rfl
 ·exact kl a 0 _ (b:=[(m+316,m+316)]) (by lia) rfl
 ·exact kl a 0 _ (b:=[(m+316,m+316)]) (by lia) rfl
def E9(WW:q.heap.get? h=some O)(WT:O.data=.func Wp)(WS:q.heap.CodeRec Wp.code Wp.qualname)(f2:Wp.body=.stmts [.Return (some z) v])(f3:Wp.closure=V3)(j:Wp.scope=g)(f5:Wp.globals=FG)(f6:Wp.builtins=IT)(WR:g.isCoroutine=ap)(WV:g.isGenerator=ap)(C:g.kind=.function)(B:∀x∈g.names,x.2≠.cell)(H:∀n∈G,g.names.lookup n=some .local)(J:G.Nodup)(WU:∀n,g.names.lookup n=some .free->(V3.lookup n).isSome=true)(u:Rm (a+1,M) o)(L:aC c q.heap)(Y:Ex w q.heap)(T:aU w q.heap Vc Vi)(D:G.length=Vi.length)(WP:J4 Wp ⟨Vc,[]⟩=jq (G.zip Vc))(WQ:∀n p,i.lookup n=some p->g.names.lookup n=some .free/\∃t r,V3.lookup n=some t/\q.heap.IsCell t (some r)/\RV w q.heap r p)(WO:∀d f U m,d.frame=some d.locals->d.scope=g->q.heap.objs.size<=d.locals->Rm (a,M) (o.deeper d)->bq (λ b=>w b\/b=d.locals) c g d f (G.zip Vi++i)->Kp q {q with heap:=f,toks:=U}->f.Ns d.locals m->aA (au P0 c) (o.deeper d) (He z d) y (λ e W0=>aA (au P0 c) (o.deeper d) (OE d e) (λ _ l=>Vf e l) (λ V l=>Vf V l) W0) {q with heap:=f,toks:=U}):aA (au P0 c) o (I1 (.ref h) Vc) y Vf q:=by
 refine Je (Sn (fd:=Wp) (by have :=u.depth;exact c5 dG (fy this)) WW WT (by rw[j];exact WR) (by rw[j];exact WV) f2 WS ?_);rw[WP,f3,j,f5,f6];refine ah (Ok B (λ x WZ=>H x.1 (L3 WZ).1) (λ f N WX=>?_) C);have keep:KO q.heap f:=λ b O e=>WX.extBut b O (br (az e)) (ao _ e);refine⟨L.noLimit.keeps keep,codeAny_func ?_⟩;refine ii (M2 (WO _ f _ _ rfl rfl (aB _) (u.deeper _) (vl rfl rfl rfl rfl rfl C B H J WU L Y T D WQ N (λ W1 r WY=>qX (by rw[LW (oL D T.len)];exact J) WY) keep) ⟨f,_,rfl,keep⟩ N))
noncomputable def fu(C a:ae)(b:Array (Option ab)):Obj:={cls:=.ref C,dict:=some a,data:=.plain,slots:=b}
noncomputable def bo(P:a3)(t:Nat->Tok)(T SL ST:ae)(f:Nat->ae)(m WP:Nat)(WM a b:ae)(WN:Nat->ab):Frag:=[(m+316,n8 t T (m+316) (m+315)),(m+315,⟨.type "dict",none,.dict (ih P t SL ST f m WP) 3,#[]⟩),(m+317,kk (m+316) WP),(f 0,fV (cp 0 (ft WM 0) a (WN 0))),(f 1,fV (cp 1 (ft WM 1) b (WN 1)))]
def oa:(bo Vv Vw h Q Vo Vx a b Vu VB VC VD).lookup (a+316)=some (n8 Vw h (a+316) (a+315)):=Nm
def E':(bo Vv Vw h Q Vo Vx a b Vu VB VC VD).lookup (a+315)=some ⟨.type "dict",none,.dict (ih Vv Vw Q Vo Vx a b) 3,#[]⟩:=by
 unfold bo;rw[aN,show(a+315==a+316)=ap by simp];exact Nm
def rn:(bo Vv Vw h Q Vo Vx a b Vu VB VC VD).lookup (a+317)=some (kk (a+316) b):=by
 unfold bo;rw[aN,show(a+317==a+316)=ap by simp];dsimp only;rw[aN,show(a+317==a+315)=ap by simp];exact Nm
def km{r:Option (Option ab)}(d:(match(match(ih Vv Vw Q Vo Vx a b).toList.find? (·.key.isStr j)with|some e=>some (some e.val)|none=>if(ih Vv Vw Q Vo Vx a b).toList.any (·.refKey)then none else some none)with
   |some (some v)=>some (some v)|some none=>(match(some (fastBuiltinOwn "object" j):Option (Option ab))with|some (some v)=>some (some v)|some none=>some none|none=>none)|none=>none)=r):Pb (bo Vv Vw h Q Vo Vx a b Vu VB VC VD) (.ref (a+316)) j=r:=by
 subst d;unfold Pb;dsimp only;rw[oa];show alongIn _ j [.ref (a+316),.type "object"]=_;have o:ownIn (bo Vv Vw h Q Vo Vx a b Vu VB VC VD) j (.ref (a+316))=nsIn (bo Vv Vw h Q Vo Vx a b Vu VB VC VD) (a+315) j:=by
  unfold ownIn;dsimp only;rw[oa];rfl
 have n:nsIn (bo Vv Vw h Q Vo Vx a b Vu VB VC VD) (a+315) j=(match(ih Vv Vw Q Vo Vx a b).toList.find? (·.key.isStr j)with|some e=>some (some e.val)|none=>if(ih Vv Vw Q Vo Vx a b).toList.any (·.refKey)then none else some none):=by
  unfold nsIn;rw[E'];rfl
 unfold alongIn;rw[o,n];rfl
def Fa:Pb (bo Vv Vw h Q Vo Vx a b Vu VB VC VD) (.ref (a+316)) (ac "__getattribute__")=some (some (.builtin "object.__getattribute__")):=km (by lia)
def Fb:Pb (bo Vv Vw h Q Vo Vx a b Vu VB VC VD) (.ref (a+316)) (ac "__getattr__")=some none:=km (by lia)
def wH:Pb (bo Vv Vw h Q Vo Vx a b Vu VB VC VD) (.ref (a+316)) (ac "obj")=some (some (.ref (a+317))):=km (by lia)
def Fc:Pb (bo Vv Vw h Q Vo Vx a b Vu VB VC VD) (.ref (a+316)) (ac "__lt__")=some (some (.ref (Vx 1))):=km (by lia)
def Fe:Pb (bo Vv Vw h Q Vo Vx a b Vu VB VC VD) (.ref (a+316)) (ac "__setattr__")=some (some (.builtin "object.__setattr__")):=km (by lia)
def ro:clsIn (bo Vv Vw h Q Vo Vx a b Vu VB VC VD) (a+316)=some {name:=nm "K",bases:=[.type "object"],mro:=[.ref (a+316),.type "object"],ns:=a+315,qualname:=qK,hasDict:=ap,slotNames:=[nm "obj"],hasDel:=ap}:=by
 unfold clsIn;refine oa.symm▸?_;rfl
def rp:typeIn (bo Vv Vw h Q Vo Vx a b Vu VB VC VD) (.ref (a+317))=some (.type "member_descriptor"):=by
 unfold typeIn;simp only[rn];rfl
def Ff:OF (bo Vv Vw h Q Vo Vx a b Vu VB VC VD) (.ref (a+317)) (ac "__get__")=some (some (.builtin "member_descriptor.__get__")):=by
 unfold OF;refine rp.symm▸?_;lia
def Fg:OF (bo Vv Vw h Q Vo Vx a b Vu VB VC VD) (.ref (a+317)) (ac "__set__")=some (some (.builtin "member_descriptor.__set__")):=by
 unfold OF;refine rp.symm▸?_;lia
def wI:takesIn (bo Vv Vw h Q Vo Vx a b Vu VB VC VD) (.ref (a+317))=some true:=by
 unfold takesIn;rw[show OF (bo Vv Vw h Q Vo Vx a b Vu VB VC VD) (.ref (a+317)) "__set__"=_ from Fg]
def Fh{d:Option Obj}:findObj (bo Vv Vw h Q Vo Vx a b Vu VB VC VD) (a+316) d (ac "obj")=some (.bind (.builtin "member_descriptor.__get__") (.ref (a+317))):=by
 unfold findObj;rw[ro,LP,wH,LP];dsimp only;rw[Ff,LP];dsimp only;rw[wI];rfl
def Fi:slotIn (bo Vv Vw h Q Vo Vx a b Vu VB VC VD) (a+317) (a+316)=some 0:=by
 unfold slotIn recIn;rw[ro,rn];have e:([hk (a+316),.type "object"]:List ab).contains (.ref (a+316))=true:=by simp
 show(if _&&_&&_&&([hk (a+316),.type "object"]:List ab).contains (.ref (a+316))&&_ then _ else _)=_;refine e.symm▸?_;rfl
def rq(c:q.heap.get? h=some (fu (a+316) Q Wm))(b:q.heap.get? Q=some JR):InstAt q.heap h (fu (a+316) Q Wm) (a+316) (some JR):=⟨c,rfl,rfl,b⟩
def Fj(X:(bo Vv Vw h Q Vo Vx a b Vu VB VC VD).In q.heap)(i:q.heap.get? Wj=some (fu (a+316) Wk #[some U]))(e:q.heap.get? Wk=some JR)(g:handedIn U=true)(d:Vf U {q with toks:=q.toks+1}):aA (au P0 c) o (Qt (.ref Wj) (ac "obj") true) Vf y q:=by
 have I:=rq i e;refine get_bind X I Fa Fh Fb (Je (slot_get (s:={q with toks:=q.toks+1}) X I Fi (v:=U) rfl ?_));show aA _ _ (handedOut U) _ _ _;rw[handedOut_of g];exact ah d
def Fk:plainOver (bo c.params Vw h Q Vo Vx a b Vu VB VC VD) (a+316)=true:=by
 unfold plainOver;rw[ro];rfl
def Fl:takerIn (bo c.params Vw h Q Vo Vx a b Vu VB VC VD) (a+316) (ac "obj")=some (some (.ref (a+317))):=by
 unfold takerIn;rw[wH,LP];dsimp only;rw[wI];rfl
def Fm(X:(bo c.params Vw h Q Vo Vx a b Vu VB VC VD).In q.heap):q.heap.get? (a+317)=some (kk (a+316) b):=X _ _ rn
def Fo(X:(bo c.params Vw h Q Vo Vx a b Vu VB VC VD).In q.heap)(i:q.heap.get? Wj=some (fu (a+316) Wk #[]))(B:∀n,n.get? Wj=some (fu (a+316) Wk #[some U])->Jq Wj q.heap n->Wf (.ok (.ret .none)) {q with heap:=n}):JM (au P0 c) o (.call (.builtin "member_descriptor.__set__") ⟨[.ref (a+317),.ref Wj,U],[]⟩) Wf q:=by
 obtain⟨e,g,G,u,os⟩:=q;have d:=Fm X;have p:e.get? (a+316)=_:=X _ _ oa;dsimp only at i d;have Lt:Jx (au P0 c) e (Na (.ref Wj)) (.ref (a+316)):=(Lo i).andThen .now;have y:Jx (au P0 c) e (Tv (.ref (a+317)) (.ref Wj)) ():=by
  intro o D E q k C;unfold Tv descrNameAndClass NL;have j:=Oq (M:=au P0 c) d 0 (v:=sN "obj" b) rfl;exact al (al (j _ _ _ _ k (al ((Oq (M:=au P0 c) d 1 (v:=.ref (a+316)) rfl) _ _ _ _ k (ah (al (al (Lt _ _ _ _ k ((sub_self (VK:=au P0 c) p (Vc:=[.type "object"]) rfl) _ _ _ _ k (gz rfl (ah C)))))))))))
 have z:Jx (au P0 c) e (descrItself (.ref (a+317))) [.ref (a+317)]:=((Lo (part:=none) d).andThen .now).andThen (LV (by lia));refine Ig Q2.plain KF.entry_mset (Q2.check _ _ _ _ _ _ _ _ ⟨_,d,rfl⟩ (KF.args_mset _ _ _) ?_);unfold Builtin.«member_descriptor.__set__»descrSet descrStoreThrough;refine gz rfl (al (y.here (al (z.here (al ((Oq (M:=au P0 c) d 3 (v:=.builtin "proto.slot#set") rfl).here (al (Ju ?_))))))));refine ah ⟨Lb _ (by decide+kernel),hN KF.entry_slotset ?_⟩;have j:=Oq (M:=au P0 c) d 0 (v:=.str (ac "obj") b) rfl;have r:Jx (au P0 c) e (Ue (.ref (a+316))) [nm "obj"]:=((Lo (part:=none) p).andThen .now).andThen .now;unfold Builtin.«proto.slot#set»Ud;refine al (al ((Oq (M:=au P0 c) d 4 (v:=.int 0 0) rfl).here (al (j.here (al (Lt.here ?_))))));refine al (r.here (bT (by decide) (ah (al ?_))));unfold setSlotAt;refine bT (by decide) ?_;exact wpAny_updatePart i (ah (B _ (cQ _ i rfl) (gR ..)))
def Fp(X:(bo c.params Vw h Q Vo Vx a b Vu VB VC VD).In q.heap)(g:q.heap.get? Wj=some (fu (a+316) Wk #[]))(j:q.heap.get? Wk=some JR)(i:∀d,d.get? Wj=some (fu (a+316) Wk #[some U])->Jq Wj q.heap d->VO () {q with heap:=d,toks:=q.toks+1}):aA (au P0 c) o (setAttr (.ref Wj) (ac "obj") U) VO y q:=have I:=rq g j;set_plain X I Fe (osa_descr (s:={q with toks:=q.toks+1}) Q2 X I Fk Fl rp (Fo (q:={q with toks:=q.toks+1}) X g λ d e k=>i d e k))
noncomputable def oc:g6:=cE ((en 0).body.getD 0 b2)
def Fq:(en 0).body=[.Assign [.Attribute (.Name (nm "self") (tj (oc.e 1)).1) (nm "obj") (tj (oc.e 1)).2] (.Name (nm "obj") (jr (oc.e 0))) oc.pos]:=by lia
def Fs:ScOk (en 0).scope [nm "self",nm "obj"]:=⟨by decide,by lia,by lia,by lia,by lia,by lia⟩
noncomputable def wJ:g6:=cE ((en 1).body.getD 0 b2)
noncomputable def wK:Pos:=wJ.pos
noncomputable def rr:b7:=wJ.e 0
def Ft:(en 1).body=[.Return (some rr) wK]:=by lia
def Rm.create{d:List (Str×ab)}(b:Rm (a+1,M) o):Rm (a,M) (o.under (.builtin "type.__call__" ⟨.ref h::Vc,d⟩)):=by
 refine⟨?_,?_,b.calm⟩
 · show o.depth+1+10*a+20<QG;exact oS b.depth
 · show o.units+(TU "type.__call__" ⟨.ref h::Vc,d⟩).cUnits+60*a+200<O3;have :(TU "type.__call__" ⟨.ref h::Vc,d⟩).cUnits=1:=rfl;exact by refine this.symm▸?_;exact mx b.units rfl
def Fu(WQ:Rm (Vs+2,true) o)(L:aC c s)(ex:Ex w s)(M:(bo c.params Vw h Q Vo Vx b x Vu VB VC VD).In s)(WN:s.CodeRec (.ref VB) (cp 0 [] 0 .none).qualname)(G:∀q∈bo c.params Vw h Q Vo Vx b x Vu VB VC VD,s.get? q.1=some q.2)(WR:∀J D n WZ,s.get? J=none->s.get? D=none->n.get? J=some (fu (b+316) D #[some (.int C Vt)])->n.get? D=some JR->(KO s n)->Vf (.ref J) ⟨n,V',Wi,WZ,VV⟩):aA (au P0 c) o (I1 (.ref (b+316)) [.int C Vt]) Vf y ⟨s,V',Wi,a,VV⟩:=by
 have K:KL c.params (b+316) Vu (bo c.params Vw h Q Vo Vx b x Vu VB VC VD) VB VC:=⟨Vw,h,Q,Vo,Vx,b,x,VD,rfl,rfl⟩;have Y:=K.makes G;have WT:Jx (au P0 c) s (Tk (.ref (b+316)) (ac "__init__")) (some (.ref (Vx 0))):=K8 M (km (by lia));have WS:∀H,Jx (au P0 c) s (bindSpecial (.ref (Vx 0)) H) (.ref (Vx 0),[H]):=λ H=>kl G 3 _ (b:=[(Vx 0,Vx 0)]) (by lia) rfl;have z:∀j l,s.get? j=some l->((s.push JR).push (TJ (b+316) s.objs.size)).get? j=some l:=λ j l e=>ao _ (ao _ e);have WU:(s.push JR).objs.size=s.objs.size+1:=IE ..;have WV:((s.push JR).push (TJ (b+316) s.objs.size)).get? (s.objs.size+1)=some (fu (b+316) s.objs.size #[]):=by refine WU▸?_;exact aF _ rfl
 have O:((s.push JR).push (TJ (b+316) s.objs.size)).get? s.objs.size=some JR:=ao _ (aF _ rfl);refine Je (make_core (rest:=[.int C Vt]) (kw:=[]) Y WT WS (.inl rfl) ?_);refine Mz (uh (A:=⟨ap,.ref VB,aR⟩) (Wp:=cp 0 (ft Vu 0) VB (VD 0)) (O:=fV (cp 0 (ft Vu 0) VB (VD 0))) (Vp:=(en 0).body) (G:=[nm "self",nm "obj"]) (Vi:=[.raw (.ref (s.objs.size+1)),.raw (.int C Vt)]) (w:=w) (Vc:=[.ref (s.objs.size+1),.int C Vt]) (y:=λ v WK=>v=.none/\Vf (.ref (s.objs.size+1)) WK) (Vf:=y) Fs (z _ _ (G _ (.tail _ (.tail _ (.tail _ (.head _)))))) rfl (WN.keeps z) rfl rfl rfl rfl rfl WQ.create (L.keeps z) (ex.keeps z) (.cons rfl (.cons rfl .nil)) rfl (λ Vf y s=>ah s) rfl (λ q=>by cases q) (λ q=>by cases q) λ W2 W6 W5 W1 W3 N F=>?_) λ r WK q=>?_
 · have kp:=F.rel.kp.keep;refine Fq.symm▸(ii (plainObj_wpAny_Assign_Attribute (Ev.use (V:=.raw (.int C Vt)) (u:=(Vs,true)) Ev.nm N F.er (Kp.refl _) λ v W7 WW U _ WM=>?_) rfl));obtain rfl:v=.int C Vt:=WW;refine Ev.use (V:=.raw (.ref (s.objs.size+1))) (u:=(Vs,true)) Ev.nm N WM (Kp.refl _) λ v WY WX V _ W0=>?_;obtain rfl:v=.ref (s.objs.size+1):=WX;have B:∀j l,((s.push JR).push (TJ (b+316) s.objs.size)).get? j=some l->WY.heap.get? j=some l:=λ j l e=>V.keep _ _ (U.keep _ _ (kp j l e));refine Fp (M.keeps λ j l e=>B j l (z j l e)) (B _ _ WV) (B _ _ O) λ n e WL=>J2 ⟨rfl,(aW (F.rel.kp.trans (U.trans V)) λ W4 W8 WP _=>?_)⟩;subst WP;refine WR _ _ n _ (cW (I5 _)) (cW (aB _)) e ((WL.2 _ (br (H9 _))).trans (B _ _ O)) λ j l q=>(WL.2 j (br (gb (az q)))).trans (B j l (z j l q))
 ·rcases r with e|(v|_|_|_)<;>exact q
def gQ(k:Lv)(WM:ab)(L:List (ae×Obj))(b:List PV)(r:PV):Prop:=∀(X:ae->Prop)(WL:ar)(A:aq),Rm k A->∀(s:aa)(vs:List ab)(E:ab->aa->Prop),aC WL s.heap->Ex X s.heap->(∀p∈L,¬X p.1/\s.heap.get? p.1=some p.2)->aU X s.heap vs b->aA (au P0 WL) A (I1 WM vs) (λ v a=>RV X a.heap v r/\Kp s a) E s
def Ev.Fv(Y:∃o l,(h,o)∈VM/\o.data=.func l)(N:gQ u (.ref h) VM Vi V)(T:Ev u g i (.Name j v) (.kept (.ref h) VM))(t:a6 u g i (z::Vr) Vi):Ev u g i (.Call (.Name j v) (z::Vr) [] J) V:=λ X w A m M s E R=>by
 refine dr (T.use m R (Kp.refl s) λ D WQ c _ WL G=>?_);obtain⟨rfl,c⟩:=c;have f:=t.plain (E:=M) (v:=J);refine aW Y λ o l WK O=>?_;refine di t.cut λ _ _ WN H b B=>?_;obtain rfl:=WN;have U:=a6.use m (z:=J) (E:=E) (.cons H b B) (s:=WQ) (Q:=λ n d=>(d.heap.get? h=some o/\o.data=.func l)/\aA (au P0 w) A (I1 (.ref h) n) (λ D d=>RV X d.heap D V/\Kp s d) E d) G WL λ n WR WP C WM q=>⟨⟨C.keep _ _ ((c _ WK).2),O⟩,aG (N X w A m WR n E q.left q.ex (λ p f=>⟨(c p f).1,C.keep _ _ (c p f).2⟩) WP) (λ _ _ WO=>by refine am WO λ h b=>?_;exact⟨h,WM.trans b⟩) λ _ _ x=>x⟩;rw[B]at U f⊢;exact rS (b1 U)
noncomputable def ij(F:List (ae×Obj))(C:ae)(x a:ae)(v:ab):List (ae×Obj):=(x,fu C a #[some v])::(a,JR)::F
def od{F:Frag}(H:∀q∈F,s.get? q.1=some q.2):F.In s:=λ a o e=>H (a,o) (mem_of_lookupK e)
def Ev.wL(e:Ev u g i (.Name j v) (.kept (.ref Wj) (ij (bo Vv Vw h Q Vo Vx a b Vu VB VC VD) (a+316) Wj Wk (.int C Vt)))):Ev u g i (.Attribute (.Name j v) (ac "obj") J) (I C):=λ X w A l r s E R=>by
 refine Attribute_name (e.use l R (Kp.refl s) λ B z d _ o p=>?_);obtain⟨rfl,d⟩:=d;exact Fj (od λ q n=>(d q (.tail _ (.tail _ n))).2) (d _ (.head _)).2 (d _ (.tail _ (.head _))).2 rfl ⟨.mkInt,o.trans Kp.toks⟩
def Fw:∀(n:Str)(a:Jr),(n,a)∈(en 1).scope.names->(n=nm "self"/\a=.local)\/(n=nm "other"/\a=.local)\/(n=nm "mycmp"/\a=.free):=λ n a h=>by
 have e:(en 1).scope.names=[(nm "self",.local),(nm "other",.local),(nm "mycmp",.free)]:=by lia
 rw[e]at h;simpa using h
def Fx{r g l u z:ae}(U:Rm (x+2,true) o)(L:aC c q.heap)(M:Ex w q.heap)(D:∀d∈ij (bo Vv Vw h Q Vo Vx a b Vu VB VC VD) (a+316) g u (.int C Vt),¬w d.1/\q.heap.get? d.1=some d.2)(WO:∀d∈ij (bo Vv Vw h Q Vo Vx a b Vu VB VC VD) (a+316) l z (.int Vq Wo),¬w d.1/\q.heap.get? d.1=some d.2)(WM:q.heap.IsCell Vu (some (.ref r)))(WK:∀d∈VM,¬w d.1/\q.heap.get? d.1=some d.2)(WN:∃G N,(r,G)∈VM/\G.data=.func N)(Y:gQ (x+1,true) (.ref r) VM [I C,I Vq] (I Wa))(c1:q.heap.CodeRec (.ref VC) (cp 1 [] 0 .none).qualname):aA (au P0 c) o (I1 (.ref (Vx 1)) [.ref g,.ref l]) (λ v H=>v=.bool (bF (Wa<0))/\Kp q H) y q:=by
 refine E9 (a:=x+1) (M:=true) (Wp:=cp 1 (ft Vu 1) VC (VD 1)) (z:=rr) (v:=wK) (g:=(en 1).scope) (V3:=[(nm "mycmp",Vu)]) (G:=[nm "self",nm "other"]) (Vi:=[.kept (.ref g) (ij (bo Vv Vw h Q Vo Vx a b Vu VB VC VD) (a+316) g u (.int C Vt)),.kept (.ref l) (ij (bo Vv Vw h Q Vo Vx a b Vu VB VC VD) (a+316) l z (.int Vq Wo))]) (i:=[(nm "mycmp",.kept (.ref r) VM)]) (D _ (.tail _ (.tail _ (.tail _ (.tail _ (.tail _ (.tail _ (.head _)))))))).2 rfl c1 (by show FuncBody.stmts (en 1).body=_;rw[Ft]) rfl rfl rfl rfl (by lia) (by lia) (by lia) (by decide) (by decide) (by decide) ?_ U L M (.cons ⟨rfl,D⟩ (.cons ⟨rfl,WO⟩ .nil)) rfl (by lia) ?_ λ J WV W1 WW WY WZ W0 V R kp ns=>?_
 · intro Wa O;refine ez (Fw Wa _ (eF O)) (λ WQ=>?_) (λ WR=>?_) λ WS=>?_
   · refine am WQ λ _ e=>?_;cases e
   · refine am WR λ _ e=>?_;cases e
   · refine am WS λ e _=>?_;subst e;rfl
 · intro Wa p e;refine gy (M:=Wa==nm "mycmp") (λ B=>?_) λ B=>?_;·simp only[aN,B]at e;exact aQ e
   · obtain rfl:=pV B;obtain rfl:=ax e;exact⟨by rfl,Vu,_,by rfl,WM,rfl,WK⟩
 · have WL:Ev (x+1,true) (en 1).scope ([nm "self",nm "other"].zip [.kept (.ref g) (ij (bo Vv Vw h Q Vo Vx a b Vu VB VC VD) (a+316) g u (.int C Vt)),.kept (.ref l) (ij (bo Vv Vw h Q Vo Vx a b Vu VB VC VD) (a+316) l z (.int Vq Wo))]++[(nm "mycmp",.kept (.ref r) VM)]) rr (Bo (bF (Wa<0))):=Ev.cmp aD.lt (Ev.Fv WN Y Ev.nm (.cons (Ev.wL Ev.nm) (.cons (Ev.wL Ev.nm) .nil (by intros;rfl)) (by intros;rfl))) Ev.int;exact aG (WL _ c _ V J _ _ R) (λ v H WT=>by refine am WT λ WU WP=>?_;exact⟨WU.bool,kp.trans WP⟩) λ _ _ g=>g
def Fy{t u v:Tok}(x:o.handled=none)(z:R6 q.heap h 0 a 1 t u v)(k:a<1000)(l:∀d j f g,(KO q.heap d)->d.get? q.heap.objs.size=some {cls:=.type "list",dict:=none,data:=.seq f g,slots:=#[]}->ItemsOf (λ i v=>∃t,v=.int (0+i*1) t) f a->Wf (.ok (.ret (.ref q.heap.objs.size))) {q with heap:=d,toks:=j}):JM (au P0 c) o (.builtin "proto.collect" ⟨[.ref h],[]⟩) Wf q:=by
 refine hN RP ?_;rw[fH RN _];refine al (Ie (ah ⟨I0 LR _,hN Pf ?_⟩));rw[fH LR _];exact wpAny_extend_range (A:=o) (n:=a) x (ao _ z) (RD (by decide) (by decide) (kM rfl) (hI k (aE true))) (by rw[Rk];exact oY dh) (an (bn k) (by decide)) q.heap.objs.size _ 0 (aF _ rfl) λ d j f g y m p=>l d j f g (λ b B e=>y b B (br (az e)) (ao _ e)) m p
def FC{t u v:Tok}{Q:List ab->aa->Prop}(k:o.handled=none)(p:R6 q.heap h 0 a 1 t u v)(m:a<1000)(g:∀b f,b.length=a->(∀(i:Nat)(v:ab),b[i]?=some v->∃t,v=.int i t)->Kp q f->Q b f):aA (au P0 c) o (RZ (.ref h)) Q y q:=by
 unfold RZ;refine al (Oj (Fy k p m λ B C x z l j d=>(al (ML j ?_))));refine ah (g _ _ (by simp only[aX];exact d.1) (λ i v e=>?_) (Kp.mk' l));refine ai (d.2 i v (by rw[<-Jg];exact e)) λ t e=>?_;exact⟨t,by rw[e,show(0:Int)+(i:Int)*1=i by simp]⟩
inductive FD(c:a7)(C d:ae)(j:Nat)(h:a7)(x:ab):Prop|mk(a b:ae)(e:Tok)(f:x=.ref a)(g:c.get? a=none)(i:c.get? b=none)(k:a≠d)(l:b≠d)(m:h.get? a=some (fu C b #[some (.int j e)]))(n:h.get? b=some JR)
structure e1(a:a7)(C D c:ae)(f:Nat)(b:Array ab)(e:Nat)(h:a7):Prop where
 keep:KO a h
 ks:h.get? c=some (L2 "list" b e)d:h.get? D=some (L2 "list" #[] f)inst:∀(j:Nat)(x:ab),b[j]?=some x->FD a C c j h x
def e1.keeps{g d f:a7}(I:e1 g h Q Vo a Vz b d)(k:KO d f):e1 g h Q Vo a Vz b f:=⟨λ c o q=>k c o (I.keep c o q),k _ _ I.ks,k _ _ I.d,λ j x q=>by
  obtain⟨i,l,v,m,n,p,r,s,t,u⟩:=I.inst j x q;exact⟨i,l,v,m,n,p,r,s,k _ _ t,k _ _ u⟩⟩
def Rm.in1(h:Rm (a+1,M) o):Rm (a,M) o.in1:=by
 refine⟨?_,?_,h.calm⟩
 · show o.depth+10*a+20<_;exact yO h.depth
 · show o.units+1+60*a+200<_;exact mx h.units rfl
theorem wM:∀{p:List Nat}{c:List ab},c.length=p.length->(∀(i:Nat)(WL:ab)(WK:Nat),c[i]?=some WL->p[i]?=some WK->∃t,WL=.int WK t)->M8 c (p.map Ll)
 |[],[],_,_=>.nil|[],_::_,h,_=>by cases h|_::_,[],h,_=>by cases h|WK::p,WL::c,h,WM=>by
  refine ai (WM 0 WL WK rfl rfl) ?_;rintro t rfl;exact .cons _ t (wM (MH h) λ i WL WK a b=>WM (i+1) WL WK a b)
def FE(K:(bo Vv Vw h Q Vo Vx a b Vu VB VC VD).In s)(H:∀q∈bo Vv Vw h Q Vo Vx a b Vu VB VC VD,s.get? q.1=some q.2):isFn (bo Vv Vw h Q Vo Vx a b Vu VB VC VD) (.ref (Vx 1))=true:=by
 have m1:(Vx 1,fV (cp 1 (ft Vu 1) VC (VD 1)))∈bo Vv Vw h Q Vo Vx a b Vu VB VC VD:=.tail _ (.tail _ (.tail _ (.tail _ (.head _))));refine ey (x:=(bo Vv Vw h Q Vo Vx a b Vu VB VC VD).lookup (Vx 1)) (λ e=>?_) λ o e=>?_;·exact absurd (List.lookup_eq_none_iff.mp e _ m1) (by simp)
 · have :=K _ _ e;cases aO (H _ m1) this;unfold isFn typeIn;dsimp only;rw[e];rfl
structure lQ(P:a3)(X:ae->Prop)(w:ar)(k n:Nat)(f:Nat->Nat)(cv:Nat->Nat->Int)(b:a7)(F:List (ae×Obj))(m:Nat)(c g h a:ae)(d:List (ae×Obj)):Prop where
 left:aC w b
 ex:Ex X b
 oe:∀q∈F,¬X q.1/\b.get? q.1=some q.2
 cell:b.IsCell c (some (.ref a))fn:∀q∈d,¬X q.1/\b.get? q.1=some q.2
 isFn:∃o e,(a,o)∈d/\o.data=.func e
 cmp:∀WK WL,WK<n->WL<n->gQ (k+1,true) (.ref a) d [I WK,I WL] (I (cv WK WL))cv:∀WK WL,WK<n->WL<n->bF (cv WK WL<0)=d1 f WK WL
 c0:b.CodeRec (.ref g) (cp 0 [] 0 .none).qualname
 c1:b.CodeRec (.ref h) (cp 1 [] 0 .none).qualname
def FH(x:ae):(hk x==hk x)=true:=by simp
def FI{D V:ae}{O e:Nat}(K:lQ c.params w c x Vs VU WJ s (bo c.params Vw h Q Vo Vx a b Vu VB VC VD) a Vu VB VC Wj VM)(U:Rm (x+2,true) o){E:Array Keyed}(WW:Vz.size=Vs)(WT:∀i,i<Vs->(Ln E i).1=Vz.getD i .none){i j:Nat}(z:i<Vs)(J:j<Vs)(WU:∃r b,q=⟨r,V',Wi,b,VV⟩/\e1 s (a+316) D V O Vz e r)(WS:∀L,(∃r b,L=⟨r,V',Wi,b,VV⟩/\e1 s (a+316) D V O Vz e r)->V2 (d1 VU i j) L):kas_cmp P0 c o Ox E i j V2 q:=by
 refine aj λ M=>?_;refine aW WU ?_;rintro r WK rfl S;have N:∀i,i<Vs->∃u,Vz[i]?=some u/\(Ln E i).1=u:=λ i z=>by
   have H:i<Vz.size:=WW▸z;refine bj (Vz[i]) (by simp[H]) ?_;simp only[WT i z];simp[Od,H]
 refine ak (N i z) λ u ex WO=>ak (N j J) λ y WR WP=>?_;obtain⟨W6,B,W',rfl,W0,W1,Xb,Xc,WL,WM⟩:=S.inst i u ex;obtain⟨W7,W8,Xa,rfl,W2,W3,Xd,Xe,W4,W5⟩:=S.inst j y WR;refine M ?_;have Y:∀{G:ae},s.get? G=none->¬w G:=λ e l=>by refine ai (K.ex _ l) λ W9 WN=>?_;exact bN e WN
 have Fr:∀l∈bo c.params Vw h Q Vo Vx a b Vu VB VC VD,¬w l.1/\r.get? l.1=some l.2:=λ l p=>⟨(K.oe l p).1,S.keep _ _ (K.oe l p).2⟩;have inst:∀{u B:ae}{v:ab},s.get? u=none->s.get? B=none->r.get? u=some (fu (a+316) B #[some v])->r.get? B=some JR->∀l∈ij (bo c.params Vw h Q Vo Vx a b Vu VB VC VD) (a+316) u B v,¬w l.1/\r.get? l.1=some l.2:=λ Wj G Vu Wi l p=>by
   refine aH (aP.mp p) ?_ λ p=>?_
   · rintro rfl;exact dv (Y Wj) Vu
   · refine aH (aP.mp p) ?_ λ p=>?_
     · rintro rfl;exact dv (Y G) Wi
     ·exact Fr l p
 show aA (au P0 c) o (keyLt' Ox (Ln E i).1 (Ln E j).1) V2 _ _;simp only[WO,WP,keyLt'_oneType,oneLt'_eq];simp only[if_true];refine al (UM (by have :=U.units;exact c5 dG (fy this)) ?_);refine al (ifBound_K (K:=bo c.params Vw h Q Vo Vx a b Vu VB VC VD) (f:=Vx 1) (od λ l p=>(Fr l p).2) (rq WL WM) Fc ?_ (aG (Fx U (K.left.keeps S.keep) (K.ex.keeps S.keep) (inst W0 W1 WL WM) (inst W2 W3 W4 W5) (K.cell.keeps S.keep) (λ l p=>⟨(K.fn l p).1,S.keep _ _ (K.fn l p).2⟩) K.isFn (K.cmp i j z J) (K.c1.keeps S.keep)) (λ v L WV=>?_) λ _ _ e=>e));·exact FE (od λ l p=>(Fr l p).2) (λ l p=>(Fr l p).2)
 · refine aj λ M=>?_;refine am WV λ WY kp=>?_;obtain rfl:=WY;refine aW kp λ H WK WZ WX=>?_;obtain rfl:=WZ;refine M ?_;simp only[K.cv i j z J];exact zF (WS _ ⟨H,WK,rfl,S.keeps WX⟩)
def e1.push{f:a7}(I:e1 s Vo h Q a Vz b Vk)(J:s.get? Q=none)(H:h≠Q)(m:Vk.get? Vu=none)(l:Vk.get? VB=none)(u:f.get? Vu=some (fu Vo VB #[some (.int Vz.size Vt)]))(v:f.get? VB=some JR)(g:KO Vk f):∃t,e1 s Vo h Q a (Vz.push (.ref Vu)) t (f.update Q (wx (·.push (.ref Vu)))):=by
 have d:=gR f Q (wx (·.push (.ref Vu)));have k:∀{c:ae},Vk.get? c=none->c≠Q:=λ b q=>by rw[q,I.ks]at b;exact c7 b
 have new:∀{c:ae},Vk.get? c=none->s.get? c=none:=λ{c}b=>by
   rcases q:s.get? c with _|o;·rfl
   ·rw[I.keep c o q]at b;exact c7 b
 refine⟨_,λ c o q=>(d.2 c (λ b=>by rw[b,J]at q;exact aQ q)).trans (g c o (I.keep c o q)),Qi (g _ _ I.ks) _,(d.2 _ H).trans (g _ _ I.d),λ j y i=>?_⟩;rw[KW]at i;split at i
 · rename_i w;obtain rfl:=ax i;exact⟨Vu,VB,Vt,rfl,new m,new l,k m,k l,(d.2 _ (k m)).trans (by refine w.symm▸?_;exact u),(d.2 _ (k l)).trans v⟩
 · obtain⟨c,r,L,z,A,B,n,p,E,G⟩:=I.inst j y i;exact⟨c,r,L,z,A,B,n,p,(d.2 _ n).trans (g _ _ E),(d.2 _ p).trans (g _ _ G)⟩
def FJ{f:SortSt}(S:e1 s (a+316) h Q Vs Vz V5 Vk)(WQ:s.get? Q=none)(WM:s.get? h=none)(WL:h≠Q)(O:Vz.size=b)(z:Vc.length=b)(C:b<64)(WP:∀(i:Nat)(v:ab),Vc[i]?=some v->∃t,v=.int i t)(J:VP.size=b)(G:TV f=VP.map (Ln (Vz.zip Vc.toArray)))(WO:failedOf f=none)(L:VP.toList.Perm (a1 b))(WR:VP.toList.Pairwise (dD VU))(WN:∀(l:a7)(WX:Nat)(VP:List Nat)(T:Array ab)(V:Nat),(KO s l)->l.get? h=some (L2 "list" T V)->VP.Perm (a1 b)->VP.Pairwise (dD VU)->M8 T.toList (VP.map Ll)->WI (.done (.ret .none)) ⟨l,V',Wi,WX,VV⟩):aA (au P0 c) o (ksk_tail h ap Vs (.ref Q) f) WI y ⟨Vk,V',Wi,x,VV⟩:=by
 have M:(TV f).size=b:=by simp only[G,Lr,J]
 have U:=gR Vk Q (wx λ _=>(#[]:Array ab));have B:=(U.2 h WL).trans S.d;have WV:=gR (Vk.update Q (wx λ _=>(#[]:Array ab))) h (wx λ _=>(TV f).map (·.2));unfold ksk_tail;refine al (O6 S.ks rfl ?_ (by simp only[O,LK];exact j4 (j5 C) bE) (dk _));refine al (wpAny_letGo (al (seqEpoch_at B rfl ?_)));refine al (O6 B rfl ?_ (dk _) (by show((TV f).map (·.2)).size<=_;simp only[Lr,M,LK];exact j4 (j5 C) bE));simp only[WO];simp only[bne_self_eq_false,cT,if_false];refine ah (WN _ x VP.toList ((TV f).map (·.2)) _ (λ k WU q=>(WV.2 k λ V5=>by rw[V5,WM]at q;exact aQ q).trans ((U.2 k λ V5=>by rw[V5,WQ]at q;exact aQ q).trans (S.keep k WU q))) (Qi B _) L WR (wM (by simp[M,J]) λ i v j N H=>?_));have r:j<b:=cI.mp (L.mem_iff.mp (ct H));have WY:j<Vc.length:=z.symm▸r;have WT:Vc[j]?=some Vc[j]:=by simp[z,r]
 refine ai (WP j _ WT) λ WW WK=>⟨WW,?_⟩;simp only[G,Array.map_map,Array.toList_map,a',H]at N;have Y:(Ln (Vz.zip Vc.toArray) j).2=Vc[j]:=by
  unfold Ln;simp[Od,O,z,r]
 have WS:(Ln (Vz.zip Vc.toArray) j).2=v:=ax (N);simp only[<-WS,Y,WK]
def FK{z H:a7}{D B:ae}{J e:Nat}(K:lQ c.params w c x Vs VU WJ z (bo c.params Vw h Vo Vu Vx a b VB VC Wj VD) a VB VC Wj Wk VM)(WZ:Rm (x+2,true) o)(S:e1 z (a+316) D B J Vz e H)(W6:z.get? B=none)(W2:z.get? D=none)(W1:D≠B)(L:Vz.size=Vs)(O:Vc.length=Vs)(N:2<=Vs)(WQ:Vs<64)(W4:∀(i:Nat)(v:ab),Vc[i]?=some v->∃Vw,v=.int i Vw)(W3:∀(l:a7)(b:Nat)(p:List Nat)(WT:Array ab)(WX:Nat),(KO z l)->l.get? D=some (L2 "list" WT WX)->p.Perm (a1 Vs)->p.Pairwise (dD VU)->M8 WT.toList (p.map Ll)->WI (.done (.ret .none)) ⟨l,V',Wi,b,VV⟩):aA (au P0 c) o (ksk_end D ap Vc.toArray J (.ref B) Vz) WI y ⟨H,V',Wi,V5,VV⟩:=by
 unfold ksk_end;dsimp only;simp only[cT,if_false];have WS:¬Vc.toArray.size<2:=by rw[I8];exact oC (jh O N)
 rw[if_neg WS,if_neg WS];have WR:=kas_kind (M:=au P0 c) (A:=o) (E:=y) (s:=⟨H,V',Wi,V5,VV⟩) (vs:=Vz.toList) (T:=.ref (a+316)) (Q:=λ κ r=>κ=Ox/\r=⟨H,V',Wi,V5,VV⟩) (by simp only[aX];exact jh L N) (λ v W9=>by
   obtain⟨j,WO⟩:=Nl.mp W9;obtain⟨Xf,Xc,Xd,rfl,_,_,_,_,q,_⟩:=S.inst j v (by rw[<-Jg];exact WO);exact(Lo q).andThen .now) rfl (FH _) ⟨rfl,rfl⟩;rw[<-((QZ).symm)]at WR;refine af (aG WR (λ κ r W'=>?_) λ _ _ e=>e);obtain⟨rfl,rfl⟩:=W';have W8:(Vz.zip Vc.toArray).size=Vs:=by simp only[Array.size_zip,L,I8,O,Uk]
 have WY:TW Ox (Vz.zip Vc.toArray) #[] 7 none=kas_st Ox (Vz.zip Vc.toArray) (Qw (a1 Vs)):=by
  have e:=kas_range (Vz.zip Vc.toArray);rw[W8]at e;show _=TW Ox ((Qw (a1 Vs)).map (Ln (Vz.zip Vc.toArray))) #[] 7 none;rw[e]
 refine WY.symm▸?_;have W5:∀i,i<Vs->(Ln (Vz.zip Vc.toArray) i).1=Vz.getD i .none:=λ i WN=>by
  unfold Ln;simp[Od,L,O,WN]
 have run:=kas_runs (prog:=P0) (w:=c) (A:=o) (E:=y) (κ:=Ox) (it:=Vz.zip Vc.toArray) (n:=Vs) (s:=⟨H,V',Wi,V5,VV⟩) (Q:=λ _ U r=>∃(p:Array Nat)(l:a7)(b:Nat),p.size=Vs/\TV U=p.map (Ln (Vz.zip Vc.toArray))/\failedOf U=none/\(p.toList.Perm (a1 Vs)/\p.toList.Pairwise (dD VU))/\r=⟨l,V',Wi,b,VV⟩/\e1 z (a+316) D B J Vz e l) (G:=λ p r=>(p.size=Vs/\p.toList.Perm (a1 Vs)/\p.toList.Pairwise (dD VU))/\∃l b,r=⟨l,V',Wi,b,VV⟩/\e1 z (a+316) D B J Vz e l) N WQ (λ Xa U r V Y WK Xb=>by obtain⟨WL,l,b,WM,WW⟩:=Xb;exact sL Xa l b V Y WK WL.2 WM WW) (wj (I:=λ r=>∃l b,r=⟨l,V',Wi,b,VV⟩/\e1 z (a+316) D B J Vz e l) (λ i j WN WO C r WP W0=>FI K WZ L W5 WN WO WP W0) (λ p r W7 WP=>⟨W7,WP⟩) (Ey (e3 N (aE true))) ⟨H,V5,rfl,S⟩);refine af (aG run ?_ λ _ _ e=>e);rintro⟨⟨⟩,U⟩r⟨p,l,Xe,V,Y,WK,⟨WL,WM⟩,rfl,WV⟩;exact FJ WV W6 W2 W1 L O WQ W4 V Y WK WL WM W3
def FL(K:lQ c.params w c x Vs VU WJ s (bo c.params Vw h Q Vo Vx a b Vu VB VC VD) a Vu VB VC Wj VM)(Y:Rm (x+2,true) o)(kp:KO s Vk)(WK:s.get? Wk=none)(H:Vk.get? Wk=some (L2 "list" Vc.toArray 0))(B:Vc.length=Vs)(WV:2<=Vs)(z:Vs<64)(WL:∀(i:Nat)(v:ab),Vc[i]?=some v->∃Vw,v=.int i Vw)(WW:∀(l:a7)(b:Nat)(p:List Nat)(WQ:Array ab)(WT:Nat),(KO s l)->l.get? Wk=some (L2 "list" WQ WT)->p.Perm (a1 Vs)->p.Pairwise (dD VU)->M8 WQ.toList (p.map Ll)->WI (.done (.ret .none)) ⟨l,V',Wi,b,VV⟩):aA (au P0 c) o (ksk_tree Wk (.ref (a+316)) ap) WI y ⟨Vk,V',Wi,V5,VV⟩:=by
 refine ai (⟨_,Qi H λ _=>#[]⟩:∃L,(Vk.update Wk (wx λ _=>(#[]:Array ab))).get? Wk=some (L2 "list" #[] L)) λ L WO=>?_;have WN:((Vk.update Wk (wx λ _=>(#[]:Array ab))).push (L2 "tuple" Vc.toArray 0)).objs.size=Vk.objs.size+1:=by simp only[IE,O5]
 have N:s.get? ((Vk.update Wk (wx λ _=>(#[]:Array ab))).push (L2 "tuple" Vc.toArray 0)).objs.size=none:=by
   rcases q:s.get? ((Vk.update Wk (wx λ _=>(#[]:Array ab))).push (L2 "tuple" Vc.toArray 0)).objs.size with _|C;·rfl
   · have :=az (kp _ C q);rw[WN]at this;exact absurd this (b'.mpr (I5 _))
 have M:Wk≠((Vk.update Wk (wx λ _=>(#[]:Array ab))).push (L2 "tuple" Vc.toArray 0)).objs.size:=by simp only[WN];exact br (gb (az H))
 unfold ksk_tree;refine al (listItems_at H rfl ?_);refine al (O6 H rfl ?_ (by rw[I8,LK];exact j4 (j4 (j6 B) (j5 z)) (j4 bE gx)) (dk _));refine al (seqEpoch_at WO rfl ?_);refine al (wpAny_newTuple ?_ (by show Vc.length<=_;rw[LK];exact j4 (j4 (j6 B) (j5 z)) (j4 bE gx)));refine al (Rf (aK ?_) (dk _));unfold ksk_rest;refine al (Ju ?_);rw[List.forIn_toArray];show aA (au P0 c) o (QX Vc MW _>>=_) _ _ ⟨_,V',Wi,V5,VV⟩;generalize WX:((Vk.update Wk (wx λ _=>(#[]:Array ab))).push (L2 "tuple" Vc.toArray 0)).objs.size=WY at N M;refine al (ksk_fold (λ i U=>∃(l:a7)(b:Nat)(J:Array ab)(e:Nat),U=⟨l,V',Wi,b,VV⟩/\J.size=i/\e1 s (a+316) Wk WY L J e l) Vc 0 _ ⟨_,_,#[],0,rfl,rfl,λ G C q=>ao _ (ao _ ((λ G C q=>((gR Vk Wk (wx λ _=>(#[]:Array ab))).2 G λ e=>by simp only[e,WK]at q;exact aQ q).trans (kp G C q)) G C q)),by refine WX▸?_;exact aF _ rfl,ao _ (ao _ WO),λ j V q=>by simp at q⟩ ?step ?done);case step=>
   rintro j V U WP⟨l,W3,J,e,rfl,r,I⟩;refine ai (WL j V WP) ?_;rintro W6 rfl;simp only[Ik]at r⊢;have WM:j<Vs:=B▸(a8.mp WP).1;refine al (Mf (Fu (Vs:=x) Y (K.left.keeps I.keep) (K.ex.keeps I.keep) (od λ q O=>I.keep _ _ (K.oe q O).2) (K.c0.keeps I.keep) (λ q O=>I.keep _ _ (K.oe q O).2) λ V W4 W5 W7 WZ W0 W1 W2 WR=>?_));refine al (O6 (WR _ _ I.ks) rfl ?_ (by simp only[r,LK];exact j4 (j4 (j5 WM) (j5 z)) (j4 bE gx)) (by simp only[Pm,r,LK];exact j4 (j4 (hz WM) (j5 z)) (j4 bE dG)));refine ai (I.push N M WZ W0 (by rw[r];exact W1) W2 WR) λ WU WS=>?_;exact ah ⟨rfl,_,_,_,WU,rfl,by simp only[Pm,r],WS⟩
 case done=>
   rintro U⟨l,W3,J,e,rfl,r,I⟩;exact al (listItems_at I.ks rfl (FK K Y I N WK M (r.trans ((Ik _).trans B)) B WV z WL WW))
def FM(K:lQ c.params w c x Vs VU WJ s (bo c.params Vw h Q Vo Vx a b Vu VB VC VD) a Vu VB VC Wj VM)(v:Rm (x+4,true) o){WO WP WQ:Tok}(WK:R6 s Wk 0 Vs 1 WO WP WQ)(L:2<=Vs)(i:Vs<64)(N:∀(D:ae)(e:a7)(b:Nat)(p:List Nat)(l:List ab),(KO s e)->s.get? D=none->e.PlainList D l.toArray->p.Perm (a1 Vs)->p.Pairwise (dD VU)->M8 l (p.map Ll)->Vf (.ref D) ⟨e,V',Wi,b,VV⟩):aA (au P0 c) o (I1 (.builtin "sorted") [.ref Wk] [(ac "key",.ref (a+316))]) Vf y ⟨s,V',Wi,V5,VV⟩:=by
 refine call_function_entry_kw kind_sorted plain_sorted entry_sorted (ksk_s1 _ _) ?_;unfold Builtin.«sorted»;refine af (m:=checkCount "sorted" 1 1 _) (ah (af (FC (v.calm rfl) WK (md i (aE true)) λ l WS z O kp=>(aj λ WR=>?_))));refine aW kp λ B WT WN C=>?_;obtain rfl:=WN;refine WR ?_;refine af (Rf ?_ (by simp only[LK];exact j4 (j4 (j6 z) (j5 i)) (j4 bE gx)));have G:s.get? B.objs.size=none:=by
  rcases q:s.get? B.objs.size with _|j;·rfl
  ·exact absurd (az (C _ j q)) (Iw _)
 refine af (aK (wpAny_call_entry_kw U' ⟨_,aF _ rfl,rfl⟩ UE ?_ (ksk_l1 _ _)));simp only[ksk_t1];refine FL K v.in1.in1 (λ H j q=>ao _ (C H j q)) G (aF _ rfl) z L i O λ e b p WM J WL M Y V U=>⟨_,rfl,ah ⟨_,rfl,?_⟩⟩;exact N _ e b p WM.toList WL G ⟨J,by simp only[QZ];exact M⟩ Y V U
def Fn.range:Fn u (.type "range") [I a] (.gg 0 a 1):=λ X w A g s h E L c r=>by
 refine aj λ f=>?_;refine ak r.one λ i d q=>?_;obtain rfl:=d;refine ai q.int ?_;rintro t rfl;exact f (call_range_1 ⟨⟨_,_,_,_,rfl,c.fresh (aB _),OH ..⟩,Kp.mk' λ b o e=>ao _ e⟩)
def FB.FN(F:FB bH w c o g E q i D Ve Vn Y H)(d:¬gm w E Y h):ff o h:=⟨λ a=>d ((F.nS rfl).tab h a),λ a=>d ((F.nS rfl).fa h a)⟩
def FB.FO{lp np V:Pos}{C:ae->List (ae×Obj)->Prop}(W0:fT g i D V8 z VI C)(WZ:∀n,(n,cM)∈VI.names->g.names.lookup n=some .cell)(WY:∀E,Pa V8 E=([],[]))(WW:Ev (a+1,true) g i (.Name j np) (.raw (.ref 125)))(WK:Rm (a+1,true) o)(F:FB bH w c o g E q i D Ve Vn Y H)(WV:∀K r t p x B l L d,KL c.params K r p x B->C l L->(∃e J,(l,e)∈L/\e.data=.func J)->t.data=.cell (some (.ref l))->(∀b∈(r,t)::p,¬gm w E Y b.1/\d.heap.get? b.1=some b.2)->(∀b∈L,¬gm w E Y b.1/\d.heap.get? b.1=some b.2)->d.heap.CodeRec (.ref x) (cp 0 [] 0 .none).qualname->d.heap.CodeRec (.ref B) (cp 1 [] 0 .none).qualname->Kq true o H d->FB bH w c o g E q i D Ve Vn Y d->Vf (.ref K) d):aA (au P0 c) o (He (.Call (.Name j np) [.Lambda V8 z VI lp] [] V) E) Vf y H:=by
 refine dr (WW.use WK F.er (Kp.refl H) λ v W4 W3 _ WM WQ=>(aj λ W7=>?_));obtain rfl:v=.ref 125:=W3;have WL:∀WO E,bD (Pg V8 z VI lp::WO) E=(ap,He (.Lambda V8 z VI lp) E)::bD WO E:=by intros;rfl
 have M:∀c,fI c 125:=de λ P=>⟨_,wG.fn P⟩;refine aW (M c _ WQ.left) λ e J W1 WX=>W7 ?_;have U:aA (au P0 c) o (Qr (L7 V (bD [Pg V8 z VI lp] E))) (λ vs d=>(d.heap.get? 125=some e/\e.data=.func J)/\aA (au P0 c) o (I1 (.ref 125) vs) Vf y d) y W4:=by
  refine IM (W0.make WZ WY (F.kp WM) λ l L W8 WS M h u T=>(Lu ⟨⟨T.ext.keep 125 e (λ _=>⟨(by decide:¬c8 125=true),(λ f=>absurd ((F.bi rfl).dA.fa f).1 (by decide))⟩) W1,WX⟩,?_⟩)) (WL _ _);refine E8 WK h.er.left h.qZ (h.nS rfl) u λ K r t p x B W5 WT W2 WU WR c1 G WP=>?_;exact WV K r t p x B l L W5 WT WS M W2 WU (λ b N=>⟨(u.2 b N).1,G.ext.keep _ _ (λ _=>h.FN (u.2 b N).1) (u.2 b N).2⟩) WR.2 c1.2 ((Kp.kq WM).trans (T.trans G)) (h.kt rfl G WP)
 rw[WL]at U⊢;exact rS (b1 U)
def cZ.FP{G:aw}{lp np WX kp WQ WO:Pos}(Xc:fT VI i D V8 z G λ C L=>∀h l,h<b->l<b->gQ (a+1,true) (.ref C) L [I h,I l] (I (WJ h l)))(W8:∀h l,h<b->l<b->bF (WJ h l<0)=d1 VU h l)(Xa:∀b,(b,cM)∈G.names->VI.names.lookup b=some .cell)(W9:∀e,Pa V8 e=([],[]))(Xl:Ev (a+4,true) VI i (.Name Vd WQ) (.raw (.builtin "sorted")))(Xj:Ev (a+4,true) VI i Vl (.gg 0 b 1))(W7:Ev (a+4,true) VI i (.Name j np) (.raw (.ref 125)))(WZ:2<=b)(W0:b<64)(Xg:∀p:List Nat,p.Perm (a1 b)->p.Pairwise (dD VU)->p=Wc)(Xk:autoParam (∀WP e,bD (Vl::WP) e=(ap,He Vl e)::bD WP e) bc):cZ bH (a+4,true) VI i D (.Call (.Name Vd WQ) [Vl] [⟨some (ac "key"),.Call (.Name j np) [.Lambda V8 z G lp] [] WX,kp⟩] WO) (Ls (Wc.map Ll)):=λ X w A B e Xz s E Q m Xx O F W6=>by
 refine Tj (Xl.use B F.er (Kp.refl s) λ v XA Xp _ Y Xv=>?_);obtain rfl:v=.builtin "sorted":=Xp;have V:L7 WO (bD [Vl] e)=(ap,He Vl e)::[]:=by rw[Xk];rfl
 have H:=F.kp Y;refine callWith_builtin_kwB (by rw[V];rfl) rfl ?_;refine V.symm▸(evalArgs_kwB rfl (N5 (Xj.use B H.er (Kp.refl _) λ XF XB Xq WK _ Xw=>Ov ?_)));have J:=H.kp WK;refine kws_cons (FB.FO (a:=a+3) Xc Xa W9 W7 B J λ K c Xn Xu WS WT C L o W4 W1 W' Xe U W5 WW c1 M x=>kws_nil (aj λ Xs=>?_));obtain⟨t,T,SL,ST,f,WM,Xr,WY,rfl,rfl⟩:=W4;refine o5 (RV.kq (λ _ WV Xm=>J.Ea rfl WV Xm) M Xq) λ r XC XD XE Xo Xy Xi=>?_;obtain rfl:=Xo;refine Xs ?_;have WU:lQ w.params (gm X e O) w a b VU (λ h l=>WJ h l) o.heap (bo w.params t T SL ST f WM Xr c WS WT WY) WM c WS WT C L:=⟨x.er.left,x.qZ,λ q Xh=>U q (.tail _ Xh),⟨Xn,(U _ (.head _)).2,Xe⟩,W5,W',W1,W8,WW,c1⟩;refine(FM (y:=E) (Vf:=Q) (V':=o.gens) (Wi:=o.drawn) (VV:=o.os) (V5:=o.toks) WU B Xi WZ W0) λ Xt N WR p vs keep W3 W2 Xf Xd Xb=>?_;obtain rfl:=Xg p Xf Xd;have WL:Kp o ⟨N,o.gens,o.drawn,WR,o.os⟩:=⟨N,WR,rfl,keep⟩;exact W6 _ _ (x.kp WL) (.gD (x.er.ex.jU W3) W2 (qh _ Xb)) ((Kp.kq Y).trans ((Kp.kq WK).trans (M.trans (Kp.kq WL))))
def FQ{ba e d:b7}{b:Mi}(j:JM (au Vj c) o (.compLoop (.ListComp ba [b,⟨e,d,Vr,0⟩] g v) 1 U V7 E) Wf q)(h:aA (au Vj c) o (Ly U) (λ f a=>JM (au Vj c) o (.compLoop (.ListComp ba [b,⟨e,d,Vr,0⟩] g v) 1 f V7 E) Wf a) (Px (au Vj c) o E λ x a=>Wf (.error x) a) q):JM (au Vj c) o (.compStart (.ListComp ba [b,⟨e,d,Vr,0⟩] g v) 1 U V7 E) Wf q:=by
 refine Ms (wpAny_notedAt ?_);unfold compStart;refine al (IP (wpAny_ite ?_));split;·exact ah (QC rfl j)
 ·exact al (Ju (al (Iq (al (aG h (λ f a i=>ah (QC rfl i)) λ _ _ x=>x)))))
def he.FR{ba M z:b7}{WM:Mi}(G:List Vb)(it:Vb->PV)(H:Vb->List (Str×PV))(t:Vb->Bool)(f:Vb->bP)(Xd:dJ VI g)(WN:Rm u o)(R:bq w c g E q.heap i)(Xi:∀n t,V3.lookup n=some t->E.cells.lookup n=some t)(Xj:∀n,(n,cM)∈VI.names->∃t,V3.lookup n=some t)(XC:bg u (bQ VI g) (VN++cj VI i) z M (G.map it))(Xg:∀y∈G,BindsTo M (it y) (H y))(Xp:∀x∈G,∀y j,(H x).lookup y=some j->VI.names.lookup y=some .local)(WZ:∀y j,VN.lookup y=some j->VI.names.lookup y=some .local)(Xa:∀x∈G,∀y j,VN.lookup y=some j->(H x).lookup y=none)(Xl:∀y∈G,eG u (bQ VI g) ((H y++VN)++cj VI i) Vr (t y))(Xk:∀y∈G,t y=true->Ev u (bQ VI g) ((H y++VN)++cj VI i) ba (.d (f y)))(Xf:∀b,VE b->w b\/q.heap.get? b=none)(WP:VE Q)(WO:VE h)(W0:Q≠h)(Xy:q.heap.get? Q=none)(Xx:q.heap.get? h=none)(Xr:∀E x,Ad z E x=jq x):he VE c o (bQ VI g) q h Q (Iz VI V3 h E) (VN++cj VI i) [] (do
       let x<-He z (Iz VI V3 h E)NJ z.pos let x<-Ad z (Iz VI V3 h E) x let _<-UQ (.compStart (.ListComp ba [WM,⟨M,z,Vr,0⟩] VI v) 1 (<-Mh [x] (Ly x)) (.ref Q) (Iz VI V3 h E)) (Iz VI V3 h E)) ((G.filter t).map f):=λ O XO XQ m WL WU Xn Xs W2 WX WK Xe=>by
 refine af (aG (XC VE c o WN (Iz VI V3 h E) _ WK (λ WT L=>aA (au P0 c) o (do let _<-UQ (.compStart (.ListComp ba [WM,⟨M,z,Vr,0⟩] VI v) 1 WT (.ref Q) (Iz VI V3 h E)) (Iz VI V3 h E)) WX WK L) WL ?_) (λ x XD Xu=>?_) λ _ _ e=>e);rotate_left
 · rw[Xr];exact af (Iq (af (ah (af (aK Xu)))))
 intro WT XD U XJ Y St XI N W4 Xw Xc Fd WQ XM W3 W1;refine aj λ XH=>aW (W4.trans Xw) λ XN XP WY Xv=>?_;have T:∀b p,O.get? b=some p->¬Y b:=λ b p e j=>absurd (az (W4.keep b p e)) (b'.mpr (W3 b j));have J:KO O U.heap:=by rw[WY];exact Xv
 have XB:∀{b p},¬VE b->O.get? b=some p->¬(VE b\/Y b)/\U.heap.get? b=some p:=λ{b p}WW e=>⟨λ j=>j.elim WW (T b p e),J b p e⟩;have Xb:∀y j,VN.lookup y=some j->∃W8,m y=some W8/\RV (λ b=>VE b\/Y b) U.heap W8 j:=λ y j e=>by
   have V:=WL.vars y j (by rw[hd,e];rfl);unfold cc at V;rw[show(Iz VI V3 h E).kindOf y=(VI.names.lookup y).map (gH g y)from(by show(Qs VI E).names.lookup y=_;rw[m' R.scope];exact na g y VI.names),WZ y j e]at V;have V:mZ VE (Iz VI V3 h E) O y j:=V;obtain⟨WV,XF,a,b,r⟩:=V;have :WV=m:=a.eq_nsMap.trans W2.eq_nsMap.symm;obtain rfl:=this.symm;exact⟨XF,b,r.shift λ b p WW e=>XB WW e⟩
 have W5:∀W7,JM (au P0 c) o (.compLoop (.ListComp ba [WM,⟨M,z,Vr,0⟩] VI v) 1 WT (.ref Q) (Iz VI V3 h E)) (λ r L=>match r with|.ok _=>WX () L|.error e=>NP (au P0 c) o (Iz VI V3 h E) WK e L) {q with heap:=U.heap,toks:=W7}:=λ W7=>by
   refine tR (VN:=VN) (VE:=λ b=>VE b\/Y b) (Xm:=do let _<-I1 (.builtin "list.append") [.ref Q,<-He ba (Iz VI V3 h E)]) G it H t (λ y=>[f y]) Xd Xg Xp WZ Xa Xl WN R Xi Xj rfl (λ y Xt Xh=>he.ba WN (Xk y Xt Xh) (.inl WP) (.inl WO) W0) Fd (λ b j=>?_) (λ b j=>?_) (.inl WP) (.inl WO) (λ b j=>.inr j) W0 Xy Xx (λ b j=>⟨λ e=>W1 b j (e▸WP),λ e=>W1 b j (e▸WO)⟩) (λ b p e=>T b p (WU b p e)) (λ b p e=>J b p (WU b p e)) WQ (Xn.at λ p e=>J _ p e) (W2.keeps J) Xb (λ b j=>?_) ?_ λ vs as h' XE WV Xo W6 Xq XK Xm=>?_
   · rcases j with j|j;·exact Xf b j
     · refine .inr ?_;rcases e:q.heap.get? b with _|p;·rfl
       ·exact absurd j (T b p (WU b p e))
   ·exact(Xc b).mpr (j.elim .inl λ j=>.inr ((λ b j=>cW (W3 b j)) b j))
   · rcases j with j|j;·refine ai (WL.ex b j) λ p e=>?_;exact⟨p,J b p e⟩
     ·exact Fd.there _ _ WQ b (Fd.sub b j)
   · have e:∀l:List Vb,l.flatMap (λ y=>[f y])=l.map f:=λ l=>by induction l with|nil=>rfl|cons a l WR=>simp[WR]
     rw[e];exact Xs
   · have e:∀l:List Vb,l.flatMap (λ y=>[f y])=l.map f:=λ l=>by induction l with|nil=>rfl|cons a l WR=>simp[WR]
     rw[e]at W6;exact Xe vs as h' XE WV Xo (nd (λ b j=>.inl j) W6) Xq (λ _ _ e=>by cases e) λ b p XA Xz e=>Xm b p (T b p e) XA Xz (J b p e)
 subst WY;refine XH (af (wpAny_runOwn (A:=o) (Mz (FQ (W5 _) (Fd.self 0 _ _ _ WQ (W5 _))) λ r L j=>?_)));rcases r with e|f;·exact j
 ·exact ah j
def FS(ba b e l a:b7)(d h:List b7)(k:aw)(j:Pos)(f g:ab)(WK:Env):QJ (.ListComp ba [⟨b,e,d,0⟩,⟨l,a,h,0⟩] k j) 0 f g WK=(do
  NJ e.pos match<-KI f with
  |none=>jq (.done .next)|some v=>
   Jl b f v
   assign b WK v let mut i:=true
   for WM in d do if i then i<-isTrue WM WK (He WM WK)
   if i then(do
    let WL<-He a WK
    NJ a.pos let WL<-Ad a WK WL let _<-UQ (.compStart (.ListComp ba [⟨b,e,d,0⟩,⟨l,a,h,0⟩] k j) 1 (<-Mh [WL] (Ly WL)) g WK) WK)
   again (.compLoop (.ListComp ba [⟨b,e,d,0⟩,⟨l,a,h,0⟩] k j) 0 f g WK)):=by
 simp only[QU,pure_bind];rfl
def Ev.FT{ba J H L p:b7}{Q T:List b7}(a:List Vb)(U:Vb->PV)(j:Vb->List (Str×PV))(c:Vb->Bool)(h:Vb->List Wr)(V:Wr->PV)(r:Wr->List (Str×PV))(t:Vb->Wr->Bool)(f:Vb->Wr->bP)(B:dJ VI g)(Xe:bg u g i H J (a.map U))(WU:∀x∈a,BindsTo J (U x) (j x))(WM:∀x∈a,∀y q,(j x).lookup y=some q->VI.names.lookup y=some .local)(W0:∀x∈a,eG u (bQ VI g) (j x++cj VI i) Q (c x))(Xf:∀x∈a,c x=true->bg u (bQ VI g) (j x++cj VI i) p L ((h x).map V))(WV:∀x∈a,∀y∈h x,BindsTo L (V y) (r y))(W2:∀x∈a,∀z∈h x,∀y q,(r z).lookup y=some q->VI.names.lookup y=some .local)(WO:∀x∈a,∀z∈h x,∀y q,(j x).lookup y=some q->(r z).lookup y=none)(W1:∀x∈a,∀y∈h x,eG u (bQ VI g) ((r y++j x)++cj VI i) T (t x y))(WY:∀x∈a,∀y∈h x,t x y=true->Ev u (bQ VI g) ((r y++j x)++cj VI i) ba (.d (f x y)))(W5:((a.filter c).flatMap λ x=>((h x).filter (t x)).map (f x)).length<=a9)(W3:autoParam (∀l x,Ad H l x=jq x) bc)(W6:autoParam (∀l x,Ad p l x=jq x) bc):Ev u g i (.ListComp ba [⟨J,H,Q,0⟩,⟨L,p,T,0⟩] VI v) (Li ((a.filter c).flatMap λ x=>((h x).filter (t x)).map (f x))):=λ X w A M l s E R=>by
 simp only[Rl];refine aj λ Xg=>?_;refine ci (nc (E:=l) (g:=VI) λ n O=>R.cells n (by unfold KJ;refine(R.scope).symm▸?_;exact B.free n O)) λ cl WX WK WL=>?_;refine Xg (M' (use:=none) rfl (W3 l) WX B.kind B.names (Xe X w A M l s E _ R λ Xn Xp Xq Xk Xr St Xh N W8 W9 WQ Fd W4 WZ W7 _=>?_));refine tS (W2:=λ D G=>do
   let x<-He p G
   NJ p.pos let x<-Ad p G x let _<-UQ (.compStart (.ListComp ba [⟨J,H,Q,0⟩,⟨L,p,T,0⟩] VI v) 1 (<-Mh [x] (Ly x)) (.ref D) G) G) a U j c _ B WU WM W0 W5 M R none WK WL (λ _ _ _=>FS ..) (λ XX C D WT WS WR Y Xb Xa x m WW=>he.FR (h x) V r (t x) (f x) B M R WK WL (Xf x m WW) (WV x m) (W2 x m) (WM x m) (WO x m) (W1 x m) (WY x m) WT WS WR Y Xb Xa W6) W8 W9 WQ Fd W4 WZ W7 λ D C Xo W' _ WP Xm Y O Xd kp=>⟨W',O,λ h' WN=>⟨?_,?_⟩⟩;·exact(Xd.b0 λ b o Xc e=>WN.extBut b o (λ q=>Xc (.inr q)) e).mono λ b q=>.inl q
 ·exact kp.re λ b o e=>WN.extBut b o (λ q=>by obtain rfl:=q.symm;exact bN WP e) (kp.keep b o e)
theorem wN{w:ar}{A:aq}{E:ab->aa->Prop}{I b:ae}{a:Array ab}(m:A.handled=none)(j:b≠I):∀(n i:Nat)(s:aa)(Q:List ab->aa->Prop),s.heap.IsListIter I b i->s.heap.IsList b a->i+n<=a.size->(∀c,c.IsListIter I b (i+n)->Jq I s.heap c->Q ((a.toList.drop i).take n) {s with heap:=c})->aA (au P0 w) A (draw (.ref I) n) Q E s
 |0,i,s,Q,e,_,_,d=>ah (by simpa using d s.heap e (Nj ..))|n+1,i,s,Q,e,f,g,d=>by
  have h:i<a.size:=by exact jg g
  refine al (wpAny_pyNext_list_item e f (x:=a[i]) (by simp[h]) λ t o k=>?_);refine al (aK (wN m j n (i+1) _ _ o (f.extBut k.extBut j) (hD g) λ r p q=>ah ?_));have l:a.toList.drop i=a[i]::a.toList.drop (i+1):=by simp[ht,h]
  have :=d r (by simp only[show i+(n+1)=i+1+n by exact me];exact p) (k.trans q);simp only[l,K0]at this;exact this
def FU{Q:List ab->aa->Prop}(i:o.handled=none)(d:q.heap.IsList h Vz)(k:∀g r,(KO q.heap g)->Q Vz.toList {q with heap:=g,toks:=r}):aA (au P0 c) o (P5 (.ref h) Vz.size none) Q y q:=by
 have f:h≠q.heap.objs.size:=by refine ak d λ a n _=>?_;exact br (az n)
 have ne:∀b a,q.heap.get? b=some a->b≠q.heap.objs.size:=λ b a e=>br (az e);unfold P5;refine al ?_;unfold T3;refine al (NV d.typeIs slot_list_iter.lookup (ah ?_));simp only[cT,if_false];refine al (aK (M1 d (al (aK (wN i f Vz.size 0 _ _ ⟨_,aF _ rfl,rfl,rfl⟩ (d.push _) (iu sh) λ u m j=>?_)))));rw[show Va Vz.size (Sz 0 Vz.toList)=Vz.toList by rw[Lx];exact lu (aB _)];refine bT (by simp) ?_;refine al (aK ((Pz i _ h f Vz).done _ _ _ ⟨by simpa using m,(d.push _).extBut j.extBut f⟩ λ p t l=>?_));simp only[Q9,cT,if_false];exact ah (k p t λ b a e=>l b a (by simpa using ne b a e) (j.extBut b a (ne b a e) (ao _ e)))
def FB.wO(G:o.handled=none)(F:FB A w c o g E q i D Ve Vn Y H)(L:H.heap.IsList h #[U,V7])(WQ:RV (aL w E Y) H.heap U (.d VG))(WR:RV (aL w E Y) H.heap V7 (.d VZ))(T:ce g j=true)(V:ce g Vd=true)(C:∀k WL u,FB A w c o g E q ((Vd,.d VZ)::(j,.d VG)::i) (bu Vd (bu j D)) WL u Y k->aZ A o w E Y H Y k->VO () k):aA (au P0 c) o (Oo (.Tuple [.Name j v,.Name Vd J] a Vg) E (.ref h)) VO y H:=by
 simp only[T7];refine af (Iq ?_);unfold unpack;have M:(K3 [.Name j v,.Name Vd J] E).length=(#[U,V7]:Array ab).size:=rfl;have N:(K3 [.Name j v,.Name Vd J] E).findIdx? (·.1)=none:=rfl;simp only[M,N];refine af (aK (FU G L λ l p f=>?_));have kp:Kp H {H with heap:=l,toks:=p}:=⟨l,p,rfl,f⟩;exact Ij (assign_Name ((F.kp kp).store (dL T) (WQ.keeps f) λ WV WU WT r n=>(Ij (assign_Name (r.store (dL V) ((WR.keeps f).b0 λ VZ WO WN e=>n VZ WO (λ WP=>WN (.inl (.inr WP))) e) λ WS WM B t WK=>J6 (C WS WM B t ((aZ.bR F.hO kp).trans ((aZ.dn F.hO n).trans (.dn F.hO WK)))))))))
def St.FV(q:u.2=true)(h:Ev u g i z (Li [VG,VZ]))(B:ce g j=true)(C:ce g Vd=true)(r:autoParam (∀c,Ri [.Tuple [.Name j v,.Name Vd J] a Vg] z VA.line c=jq ap) cN)(t:autoParam (∀c,J8 [.Tuple [.Name j v,.Name Vd J] a Vg] z c=jq none) cN):St A u g i D (.Assign [.Tuple [.Name j v,.Name Vd J] a Vg] z VA) (.next ((Vd,.d VZ)::(j,.d VG)::i) (bu Vd (bu j D))):=λ X w U l c WN s E m WK O F=>by
 refine Mu (h.use l F.er (Kp.refl s) λ WP WM M kp _ _=>(aj λ T=>?_)) (r c) (t c);refine bI M.list λ Y vs V L WL H f=>?_;obtain rfl:=L;refine du (eT f) λ _ _ _ _ _ _ N f=>?_;obtain⟨_,_,_,_,rfl,_,Q,f⟩:=eT f;obtain⟨rfl,_⟩:=gi f;subst_vars;exact T ((F.kp kp).wO (a:=a) (l.calm q) H.isList ⟨_,N⟩ ⟨_,Q⟩ B C λ WO G o n p=>⟨rfl,G,o,O,n,(aZ.bR F.hO kp).trans p⟩)
def St.FW(C:u.2=true)(H:D.lookup Wn=some (.p [VG,VZ]))(WO:g.names.lookup Wn=some .local)(N:ce g j=true)(Q:ce g Vd=true)(G:autoParam ((Wn==("__debug__":Str))=ap) ew)(L:autoParam (∀c,Ri [.Tuple [.Name j J,.Name Vd Vg] a VA] (.Name Wn v) VT.line c=jq ap) cN)(M:autoParam (∀c,J8 [.Tuple [.Name j J,.Name Vd Vg] a VA] (.Name Wn v) c=jq none) cN):St A u g i D (.Assign [.Tuple [.Name j J,.Name Vd Vg] a VA] (.Name Wn v) VT) (.next ((Vd,.d VZ)::(j,.d VG)::i) (bu Vd (bu j D))):=λ X w Y B c WP s E m WM O F=>by
 refine aj λ f=>?_;obtain⟨WL,vs,q,r,WN,t,as,e⟩:=F.own Wn _ H;refine f ?_;refine Mu (L5 (Ol (by refine(F.er.scope).symm▸?_;exact F.er.kind) q F.ns r ?_) G) (L c) (M c);refine aj λ f=>du (eT e) λ _ _ _ _ _ _ U e=>?_;obtain⟨_,_,_,_,rfl,_,V,e⟩:=eT e;obtain⟨rfl,_⟩:=gi e;subst_vars;exact f (F.wO (a:=a) (B.calm C) t.isList ⟨_,U⟩ ⟨_,V⟩ N Q λ WQ T l h n=>⟨rfl,T,l,O,h,n⟩)
def gQ.wP(U:O.data=.func Wp)(D:ho Wp j V8 z g V3)(N:Wp.code=.ref Q)(WK:VQ.data=.fields Vz)(WM:Vz[1]?=some (.str j Vt))(S:vn g G V3)(Y:G.length=Vi.length)(J:∀Wp,ho Wp j V8 z g V3->∀l,l.length=Vi.length->J4 Wp ⟨l,[]⟩=jq (G.zip l))(T:∀(X:ae->Prop)(e:a7),(∀p∈VM,¬X p.1/\e.get? p.1=some p.2)->∀n p,i.lookup n=some p->g.names.lookup n=some .free/\∃t v,V3.lookup n=some t/\e.IsCell t (some v)/\RV X e v p)(H:Ev (a,M) g (G.zip Vi++i) z V):gQ (a+1,M) (.ref h) ((h,O)::(Q,VQ)::VM) Vi V:=λ X w A B s vs E L y f d=>by
 refine vm (i:=i) (G:=G) (Vi:=Vi) (f _ (.head _)).2 U ?_ D.body D.mY D.scope D.glob D.blt S.co S.gen S.kind S.cell S.loc S.nodup S.free B L y d Y (J Wp D vs d.len) (T X s.heap λ p WL=>f p (.tail _ (.tail _ WL))) λ u WQ WW m WS WT WU C R kp ns=>?_
 · simp only[N,D.qual];exact g2 Q VQ Vz Vt rfl ((f _ (.tail _ (.head _))).2) WK WM
 ·exact aG (H _ w _ C u _ _ R) (λ v WV WO=>by refine am WO λ d WN=>?_;exact dv (d.mono λ b j=>.inl j) (kp.trans WN)) λ _ _ x=>x
def gQ.l(h:gQ u U VM Vi V):h9 u U VM Vi V:=λ X w A e s j E c d T f i=>aG (h X w A e s j E c d f i) (λ v l g=>by refine am g λ a b=>?_;exact b3 a b.kq (c.keeps b.keep)) λ _ _ x=>x
def fT.one{C:ae->List (ae×Obj)->Prop}(WL:i.lookup j=some (.d VG))(V:g.names.lookup j=some .cell)(Y:(j,cM)∈VI.names)(WK:VI.names.lookup j=some .free)(U:∀b,VI.names.lookup b=some .free->b=j)(h:∀a o l q y B t k f,o.data=.func l->ho l eS V8 z VI k->l.code=.ref q->y.data=.fields B->B[1]?=some (.str eS t)->(∀b,VI.names.lookup b=some .free->(k.lookup b).isSome=true)->(∀(X:ae->Prop)(h:a7),(∀p∈f,¬X p.1/\h.get? p.1=some p.2)->∀b p,[(j,PV.d VG)].lookup b=some p->VI.names.lookup b=some .free/\∃r v,k.lookup b=some r/\h.IsCell r (some v)/\RV X h v p)->C a ((a,o)::(q,y)::f)):fT g i D V8 z VI C:=λ X w A WV WW s m WU O k F N Q=>by
 refine aj λ WT=>o2 (F.Eb WL V) λ r v f e H G=>ai (Q j Y) λ L E=>?_;have :=N j L E;cases aO e this;refine WT ?_;refine⟨f,H,λ a o l q y B t WM WN WO WP WQ=>h a o l q y B t k f WM WN WO WP WQ (λ b c=>by rw[U b c,E];rfl) λ J M T b p c=>?_⟩;simp only[aN]at c;refine gy (M:=b==j) (λ u=>?_) λ u=>?_;·rw[u]at c;exact aQ c
 · rw[u]at c;obtain rfl:=ax c;obtain rfl:=pV u;exact am (G J M T) λ WR WS=>⟨WK,r,v,E,WR,WS⟩
def fT.zero{C:ae->List (ae×Obj)->Prop}(h:∀a o b c d e t f,o.data=.func b->ho b eS V8 z VI f->b.code=.ref c->d.data=.fields e->e[1]?=some (.str eS t)->C a ((a,o)::(c,d)::[])):fT g i D V8 z VI C:=λ X w A r x s m q O f F u v=>⟨[],λ _ h=>(nomatch h),λ a o b c d e t j k l n p=>h a o b c d e t f j k l n p⟩
noncomputable abbrev bV:aw:=a0 [36]
noncomputable abbrev bZ:List Il:=bB [36]
noncomputable def eo(l:List Int):List Int:=l.take 4++[97,8364,55297,97,10,233]
noncomputable def et(l:List Int):List Int:=(l.drop 4).take 4++[233,97,57344,57343,8364]
def FX(l:List Vb):eE l none (some 4)=l.take 4:=by
 have e:Le l.length 4=min 4 l.length:=lB _ 4;show(l.drop 0).take (Le l.length 4-0)=_;simp only[e,Lx,KR];by_cases h:4<=l.length;·rw[IX h]
 ·rw[KU (j5 (j9 h)),lu (aB _),lu (j5 (j9 h))]
def FY(l:List Vb):eE l (some 4) (some 8)=(l.drop 4).take 4:=by
 have e:Le l.length 4=min 4 l.length:=lB _ 4;have b:Le l.length 8=min 8 l.length:=lB _ 8;show(l.drop (Le l.length 4)).take (Le l.length 8-Le l.length 4)=_;rw[e,b];by_cases h:8<=l.length;·rw[IX h,IX (by exact e3 h (aE true))]
 · by_cases a:4<=l.length;·rw[IX a,KU (j5 (j9 h)),lu (by simp),lu (by simp;exact j5 (j9 h))]
   · simp only[KU (j5 (j9 h)),KU (j5 (j9 a)),Ia (aB _),Ia (j5 (j9 a))];simp
noncomputable abbrev Lk:Lv:=(12,true)
noncomputable abbrev Dl(l:List Int):bP:=.list (l.map .int)
def lR(c:Ev Lk g i z (Ls B))(d:Ev Lk g i Vl (Ls VL))(h:B.length+VL.length<=1000):Ev Lk g i (.BinOp z .Add Vl v) (Ls (B++VL)):=by
 have :=Ev.bJ (v:=v) (bb.m8 (l:=B.map .int) (m:=VL.map .int) (by simpa using an h (by decide))) c d;rwa[<-fs]at this
def FZ(b:Ev Lk g i z (Ls B))(h:B.length<=1000):Ev Lk g i (.Subscript z (.Slice none (some (.Constant (.int 4) a J)) none v) Vg) (Ls (B.take 4)):=by
 have :=Ev.slice (v:=v) (J:=Vg) b .none (.some (Ev.int (C:=4) (a:=a) (v:=J))) (by simpa using an h (by decide));rw[FX,<-Oa]at this;exact this
def F0(c:Ev Lk g i z (Ls B))(h:B.length<=1000):Ev Lk g i (.Subscript z (.Slice (some (.Constant (.int 4) a J)) (some (.Constant (.int 8) b Vg)) none v) VA) (Ls ((B.drop 4).take 4)):=by
 have :=Ev.slice (v:=v) (J:=VA) c (.some (Ev.int (C:=4) (a:=a) (v:=J))) (.some (Ev.int (C:=8) (a:=b) (v:=Vg))) (by simpa using an h (by decide));rw[FY,<-Qc,<-Oa]at this;exact this
def F1(c:B.length<=63):St bH Lk bV [(nm "script",Ls B)] [] (bZ.getD 0 b2) (.next [(nm "rows",Li [Dl (eo B),Dl (et B)]),(nm "script",Ls B)] [(nm "told",.p [])]):=by
 have d:(1000:Nat)<=a9:=by decide
 refine St.u' (V:=Li [Dl (eo B),Dl (et B)]) (VX:=.p []) rfl (Ev.list (Vm:=[Dl (eo B),Dl (et B)]) (e:=by show 2<=a9;decide) (.cons ?_ (.cons ?_ .nil))) (ei.nil (.inl rfl)) (by rfl) (by rfl) (nO (by rfl) (by rfl) (by rfl) (by rfl) (by decide) (by rfl) (by rfl) (by rfl));·exact lR (B:=B.take 4) (VL:=[97,8364,55297,97,10,233]) (FZ Ev.nm (a2 c (aE true))) (Ev.list (Vm:=[.int 97,.int 8364,.int 55297,.int 97,.int 10,.int 233]) (e:=by decide) (.cons .int (.cons .int (.cons .int (.cons .int (.cons .int (.cons .int .nil))))))) (by simp;exact j4 fx bE)
 ·exact lR (B:=(B.drop 4).take 4) (VL:=[233,97,57344,57343,8364]) (F0 Ev.nm (a2 c (aE true))) (Ev.list (Vm:=[.int 233,.int 97,.int 57344,.int 57343,.int 8364]) (e:=by decide) (.cons .int (.cons .int (.cons .int (.cons .int (.cons .int .nil)))))) (by simp;exact j4 fx bE)
def og(x y:Str):Cp (x++y)=Cp x++Cp y:=by
 show(x.cps++y.cps).toList=_;simp
def oh(WK:Str):(Cp WK).length=WK.length:=by simp[Ou]
def wQ(WK:Str)(i:Nat):WK.cps[i]?=(Cp WK)[i]?:=by simp
theorem wR(l:List Int)(WK:Nat):∀j,∃R,Cp (bG l (WK+j)).1=Cp (bG l WK).1++R
 |0=>⟨[],(IW _).symm⟩|j+1=>by
  obtain⟨R,e⟩:=wR l WK j;refine⟨R++(Cp (cJ (WK+j) (l.getD (WK+j) 0))++Cp (hn (l.getD (WK+j) 0))),?_⟩;show Cp (((bG l (WK+j)).1++cJ (WK+j) (l.getD (WK+j) 0))++hn (l.getD (WK+j) 0))=_;simp only[og,og,e,jB,jB]
theorem wS(l:List Int)(WK:Nat):∀j,(bG l (WK+1+j)).2.getD WK 0=((bG l WK).1++cJ WK (l.getD WK 0)).length
 |0=>by
  show((bG l WK).2++[_]).getD WK 0=_;rw[av,I9 (by rw[(ia l WK).2];exact aB _),(ia l WK).2,Nd];rfl|j+1=>by
  simp only[<-wS l WK j];show((bG l (WK+1+j)).2++[_]).getD WK 0=_;rw[av,GZ (by rw[(ia l _).2];exact bA iy dG),av]
def F2:∀d,d<16->eg (lC.cps.getD d 0) d:=by
 intro d WK;have :∀d,d<16->(gM (lC.cps.getD d 0)=true/\Pd (lC.cps.getD d 0)=some d):=by decide+kernel
 exact b3 ((this d WK).1) ((this d WK).2) WK
def F3:∀d,d<16->eg (lD.cps.getD d 0) d:=by
 intro d WK;have :∀d,d<16->(gM (lD.cps.getD d 0)=true/\Pd (lD.cps.getD d 0)=some d):=by decide+kernel
 exact b3 ((this d WK).1) ((this d WK).2) WK
def F4(n:Int)(h:a<16):eg ((fk n).cps.getD a 0) a:=by
 unfold fk;split;·exact F2 a h
 ·exact F3 a h
noncomputable def hr(n:Int)(j:Nat):Nat:=(fk n).cps.getD (n/16^j%16).toNat 0
def oi(n:Int)(WL:Nat):eg (hr n WL) (n/16^WL%16).toNat:=F4 n sC
def F5(n:Int):Cp (hn n)=[hr n 3,hr n 2,hr n 1,hr n 0]:=rfl
def rs(m M:Int)(h:0<M):(m/16%M).toNat*16+(m%16).toNat=(m%(16*M)).toNat:=by
 have e:m%(16*M)=m%16+16*(m/16%M):=by rw[QV,QV m,QV (m/16),<-QA (by decide),Int.mul_sub,<-Int.mul_assoc,<-Int.add_sub_assoc,Mt]
 refine aj λ f=>ai (M0 (Jz (m/16) (Int.ne_of_gt h))) λ a c=>ai (M0 (Jz m (show(16:Int)≠0 by decide))) λ b d=>f ?_;simp only[e,c,d,show(b:Int)+16*(a:Int)=((b+16*a:Nat):Int)from rfl,b4,b4,b4,IC,Uj]
def F6(n:Int):((((n/16^3%16).toNat*16+(n/16^2%16).toNat)*16+(n/16^1%16).toNat)*16+(n/16^0%16).toNat)=(n%65536).toNat:=by
 have e:∀j,n/16^j/16=n/16^(j+1):=λ j=>by rw[QA (Mo (Int.pow_pos (by decide))),Int.pow_succ]
 simp only[<-e 2,rs _ 16 (by decide),<-e 1,rs _ (16*16) (by decide),<-e 0,rs _ (16*(16*16)) (by decide)];simp only[Int.pow_zero,QW];rfl
def F7{P R:List Nat}(h:Cp j=P++(Cp (cJ b C)++a::R))(l:eY a=ap)(g:a≠35):fh j P.length (P.length+(cJ b C).length):=by
 have d:∀i,j.cps[P.length+i]?=(Cp (cJ b C)++a::R)[i]?:=λ i=>by rw[wQ,h,I9 (dx _ _),Qv]
 have f:∀i,(Cp j)[P.length+i]?=(Cp (cJ b C)++a::R)[i]?:=λ i=>by rw[<-wQ];exact d i
 unfold cJ at d f⊢;have r:(((b:Int)+C/65536)%4).toNat<4:=oV;generalize(((b:Int)+C/65536)%4).toNat=s at r d f⊢;rcases mA r with rfl|rfl|rfl|rfl;·exact .lw (n:=1) (by decide) (λ i e=>(by rw[LF.mp e];exact bj (32) (d 0) rfl)) (d 1) l g (.stop (d 1) l g)
 ·exact .lw (n:=1) (by decide) (λ i e=>(by rw[LF.mp e];exact bj (10) (d 0) rfl)) (d 1) l g (.stop (d 1) l g)
 · refine .comment (n:=1) (q:=P.length+7) (λ i e=>(by rw[LF.mp e];exact bj (32) (d 0) rfl)) (d 1) (bX (by decide:2<=7) _) (f 7) (λ i o p=>?_) (.comment (n:=1) (q:=P.length+9) (λ i e=>(by rw[LF.mp e];exact bj (10) (d 7) rfl)) (d 8) (gx) (f 9) (λ i o p=>dR p o) ?_)
   · refine ai (Nat.exists_eq_add_of_le o) ?_;rintro m rfl;rcases m with _|_|_|_|_|m;·exact dU _ (f 2) (by decide) (by decide)
     ·exact dU _ (f 3) (by decide) (by decide)
     ·exact dU _ (f 4) (by decide) (by decide)
     ·exact dU _ (f 5) (by decide) (by decide)
     ·exact dU _ (f 6) (by decide) (by decide)
     ·exact absurd p (b'.mpr (gp (dx (P.length+2) m) 5))
   ·exact .lw (n:=1) (by decide) (λ i e=>(by rw[LF.mp e];exact bj (10) (d 9) rfl)) (d 10) l g (.stop (d 10) l g)
 · refine .lw (n:=3) (by decide) (λ i e=>?_) (d 3) l g (.stop (d 3) l g);rcases i with _|_|_|i;·exact bj (9) (d 0) rfl
   ·exact bj (10) (d 1) rfl
   ·exact bj (10) (d 2) rfl
   ·exact absurd e (b'.mpr (Iu 3 i))
noncomputable abbrev eK(N:List Int):Str:=(bG N N.length).1
noncomputable abbrev d2(N:List Int):List Nat:=(bG N N.length).2
noncomputable def lS(N:List Int)(WL:Nat):Nat:=(bG N WL).1.length
def wT(N:List Int)(g:a<N.length):fh (eK N) (lS N a) ((d2 N).getD a 0)/\gj (eK N) ((d2 N).getD a 0) (N.getD a 0%65536).toNat/\(d2 N).getD a 0+4=lS N (a+1):=by
 refine aj λ h=>ai (⟨N.length-(a+1),ym g⟩:∃j,N.length=a+1+j) λ j f=>?_;refine ai (wR N (a+1) j) λ R e=>h ?_;rw[<-f]at e;have d:Cp (eK N)=Cp (bG N a).1++(Cp (cJ a (N.getD a 0))++hr (N.getD a 0) 3::(hr (N.getD a 0) 2::hr (N.getD a 0) 1::hr (N.getD a 0) 0::R)):=by
   rw[e];show Cp (((bG N a).1++cJ a (N.getD a 0))++hn (N.getD a 0))++R=_;simp only[og,og,F5];simp
 have c:(d2 N).getD a 0=(Cp (bG N a).1).length+(cJ a (N.getD a 0)).length:=by
   have :=wS N a j;rw[<-f,IL,<-oh]at this;exact this
 have b:=oi (N.getD a 0) 3;refine b3 ?_ ⟨_,_,_,_,_,_,_,_,?_,b,oi _ 2,oi _ 1,oi _ 0,(F6 _).symm⟩ ?_
 · have :=F7 d b.facts.2.2.2.2.2.2.2.2.2.2.1 b.facts.2.2.2.2.2.2.2.2.2.2.2;simp only[c];unfold lS;rw[oh]at this⊢;exact this
 · rw[c,<-oh (cJ a _),d,<-jB,<-eH,List.drop_left];rfl
 · rw[c];show _=(((bG N a).1++cJ a (N.getD a 0))++hn (N.getD a 0)).length;simp only[IL,IL,qV,oh]
def F8(N:List Int):lS N N.length=(eK N).length:=rfl
noncomputable def fv(n:Int):Bool:=bF (n%65536<55296)||bF (57343<n%65536)
def F9(n:Int):hl ((n%65536).toNat:Int)=fv n:=by
 unfold hl fv;have a:0<=n%65536:=Jz _ (by decide);simp only[K5 a,decide_eq_true a,Qe,decide_eq_true (J0 (Mo (Jp _ (by decide))) (by decide:(65536:Int)<=1114111)),TA,decide_eq_decide.mpr (Int.lt_add_one_iff (b:=55295)).symm];rfl
noncomputable def sg(x:Int):Str:=⟨#[x.toNat]⟩
noncomputable def c3(N:List Int):List Str:=(b6 N).map sg
noncomputable def eu(N:List Int)(i:Nat):List Str:=((a1 i).filter λ j=>!fv (N.getD j 0)).map λ j=>eI (eK N) ((d2 N).getD j 0+4) fj
noncomputable def eL(N:List Int)(WL:Nat):List bP:=[.int (lS N WL),Ld (c3 (N.take WL)),Ld (eu N WL)]
def rt(a b:List Int):b6 (a++b)=b6 a++b6 b:=by unfold b6;simp only[IZ,fs]
def oj(N:List Int):(b6 N).length<=N.length:=by unfold b6;rw[be];exact Ei _ _
def F'(n:Int):b6 [n]=if fv n=true then[n%65536]else[]:=by
 unfold b6 fv;rw[H6];split<;>rfl
def ru(N:List Int)(h:N.length<=10):(eK N).length<=1000:=by have :=(ia N N.length).1;show(bG N N.length).1.length<=1000;exact an this (an (RS 14 h) (by decide))
def hs(b:a<B.length):B.take (a+1)=B.take a++[B.getD a 0]:=by simp only[Sb,av,ay b];rfl
def Ga(f:B.length<=10)(g:x<B.length):ef (Vs+4,true) (.ref 291) [S (eK B),Li (eL B x)] (Li (eL B (x+1))):=by
 refine a4 (wT B g) λ l m n=>?_;have d:=F9 (B.getD x 0);have p:=ru B f;have e:(eu B (x+1))=eu B x++if fv (B.getD x 0)=true then[]else[eI (eK B) ((d2 B).getD x 0+4) fj]:=by
   unfold eu;simp only[Nh,IZ,fs,H6];cases fv (B.getD x 0)<;>rfl
 have c:c3 (B.take (x+1))=c3 (B.take x)++if fv (B.getD x 0)=true then[⟨#[(B.getD x 0%65536).toNat]⟩]else[]:=by
   unfold c3;simp only[hs g,rt,fs,F'];split<;>rfl
 have q:(c3 (B.take x)).length<=1000:=by
   unfold c3;rw[be];have :=oj (B.take x);simp only[KQ]at this;exact j4 (oE this) (a2 f (aE true))
 have r:(eu B x).length<=1000:=by
   unfold eu;rw[be];have :=Ei (λ j=>!fv (B.getD j 0)) (a1 x);simp only[Lw]at this;exact j4 this (j4 (j5 g) (a2 f (aE true)))
 rcases o:fv (B.getD x 0)with _|_
 · rw[o]at d e c;have :=B3 (Vs:=Vs) (G:=c3 (B.take x)) (VJ:=eu B x) l m d (a2 p (aE true)) r;unfold eL;rw[e,c,<-n,if_neg (λ h=>by cases h),if_neg (λ h=>by cases h),IW];exact this
 · rw[o]at d e c;have :=B2 (Vs:=Vs) (G:=c3 (B.take x)) (VJ:=eu B x) l m d (a2 p (aE true)) q;unfold eL;rw[e,c,<-n,if_pos rfl,if_pos rfl,IW];exact this.t
def Tr.nC{j l:SS}(L:aD j V VS M)(N:aD l VS Ww We)(D:Ev u g i z V)(G:Ev u g i Vl VS)(H:Ev u g i Wd Ww)(J:autoParam (lastMarks [j,l] [Vl,Wd]=ap) gX):Tr u g i (.Compare z [j,l] [Vl,Wd] v) (M&&We):=λ X w A f WQ s E R=>isTrue_chain (D.use f R (Kp.refl s) λ WO WR WK _ T B=>test_link (G.use f B T λ t WM o O n m=>aG (L X w A f.gC WM WO t E m.ex (WK.keeps O.keep) o) (λ c WS⟨e,h⟩=>by
     subst e;refine zF ?_;rcases M with _|_;·exact⟨rfl,n.trans h⟩
     · refine test_last (H.use f (m.keeps h.keep) (n.trans h) λ WP WN WL Q U C=>(aG (N X w A f.gC WN t WP E C.ex ((o.keeps h.keep).keeps Q.keep) WL) (λ c WT⟨e,Y⟩=>?_) λ _ _ M=>M));subst e;exact zF ⟨rfl,U.trans Y⟩) λ _ _ M=>M)) J
noncomputable def fw:List Il:=(cE (bZ.getD 1 b2)).body
def Gb(P:a3):a5 P (nm "_law_text")=some (.ref 284):=by lia
def Gc(P:a3):a5 P (nm "_law_words")=some (.ref 303):=by lia
def wU(P:a3):a5 P (nm "_law_fit")=some (.ref 296):=by lia
def Gd(P:a3):a5 P (nm "_law_step")=some (.ref 291):=by lia
def wV(P:a3):a5 P (nm "reduce")=some (.ref 134):=by lia
noncomputable abbrev rv(N:List Int)(R:PV):List (Str×PV):=[(nm "numbers",Ls N),(nm "rows",R)]
noncomputable abbrev ol(N:List Int)(R:PV):List (Str×PV):=(nm "places",.d (.list (eZ (d2 N))))::(nm "src",S (eK N))::rv N R
noncomputable abbrev dq(T:List bP):List (Str×OL):=[(nm "told",.p T)]
def Ge(c:B.length<=10):St bH Lk bV (rv B V) (dq Vm) (fw.getD 0 b2) (.next (ol B V) (dq Vm)):=St.uY (VG:=.str (eK B)) (VZ:=.list (eZ (d2 B))) rfl (Ev.ed (de λ P=>⟨_,vb.fn P⟩) (CI (a:=11) (a2 c (aE true))) (Ev.gl Gb) (.cons Ev.nm .nil)) (by rfl) (by rfl)
def Gf(N:List Int)(c:N.length<=10):(iQ (N.map .int) (eZ (d2 N))).map PV.d=(a1 N.length).map λ j=>Tu [.int (N.getD j 0),.int ((d2 N).getD j 0:Nat)]:=by
 have b:(d2 N).length=N.length:=(ia N N.length).2;apply KA;intro i;unfold iQ eZ;by_cases WL:i<N.length
 · have a:i<(d2 N).length:=eO b WL;simp[P1,WL,a]
 · have a:¬i<(d2 N).length:=λ q=>WL (b▸q);simp[WL];exact j4 fx (j8 WL)
def Gg(a:B.length<=10):St bH Lk bV (ol B V) (dq Vm) (fw.getD 1 b2) (.next ((nm "words",Lt (eu B B.length))::ol B V) (dq Vm)):=by
 have e:Lt (eu B B.length)=Li (((a1 B.length).filter λ j=>!fv (B.getD j 0)).map λ j=>.str (eI (eK B) ((d2 B).getD j 0+4) fj)):=by unfold eu Lt;rw[ec];rfl
 rw[e];refine St.qP [nm "place",nm "x"] (a1 B.length) (λ j=>Tu [.int (B.getD j 0),.int ((d2 B).getD j 0:Nat)]) (λ j=>[(nm "place",I ((d2 B).getD j 0:Nat)),(nm "x",I (B.getD j 0))]) _ _ (by rfl) (by rfl) (by rfl) (by rfl) ?_ (λ _=>rfl) (λ j _=>.lb (by decide)) (λ j b=>?_) (λ j b _=>?_) (by simp;exact an a (by decide))
 · simp only[<-Gf B a];exact bg.zip rfl (Ev.bl t5) Ev.nm Ev.nm
 · have c:(!fv (B.getD j 0))=(bF ((55295:Int)<B.getD j 0%65536)&&bF (B.getD j 0%65536<57344)):=by
     unfold fv;rw[Pr];simp only[IR,Bool.or_eq_false_iff,kn,decide_eq_true_eq,decide_eq_false_iff_not];exact⟨λ q=>⟨Kn (by decide) (JO.mp q.1),Int.lt_add_one_of_le (JO.mp q.2)⟩,λ q=>⟨JO.mpr q.1,JO.mpr (Int.le_of_lt_add_one q.2)⟩⟩
   simp only[c];exact .one (Tr.nC aD.lt aD.lt .int (Ev.bJ (bb.iM (by decide)) Ev.nm .int) .int)
 · have d:=(wT B (cI.mp b)).2.1.h5;refine Ev.ed (de λ P=>⟨_,u3.fn P⟩) (B' (b:=11) (a2 (ru B a) (aE true)) d) (Ev.gl Gc) (.cons Ev.nm (.cons ?_ .nil));simp only[show(((d2 B).getD j 0+4:Nat):Int)=((d2 B).getD j 0:Nat)+4 by exact mf];exact Ev.bJ bb.fc Ev.nm .int
noncomputable abbrev om(N:List Int)(R:PV):List (Str×PV):=(nm "words",Lt (eu N N.length))::ol N R
noncomputable abbrev ko(N:List Int)(R:PV):List (Str×PV):=(nm "read",Li (eL N N.length))::om N R
def wW(h:(g.names.all λ q=>q.2 !=.free||q.1==j)=true):∀a,g.names.lookup a=some .free->a=j:=λ a e=>by
 have :=H7.mp h _ (eF e);exact pV (this)
def rw(h:(VI.names.all λ q=>q.2 !=.free||g.names.lookup q.1==some .cell)=true):∀n,(n,cM)∈VI.names->g.names.lookup n=some .cell:=λ n e=>by
 have :=H7.mp h _ e;exact pV (this)
def wX(h:x<=1000):eh (.gg 0 x 1) j ((a1 x).map λ(i:Nat)=>I (i:Int)):=by
 have :=eh.gg (j:=j) (C:=0) (Vq:=x) (Wa:=1) (a:=x) (RD (by decide) (by decide) (kM rfl) (fC h (aE true))) (by rw[Rk];exact oY dh);rwa[qR,ec]at this
def Gh(h:((a1 a).map λ(b:Nat)=>I (b:Int))[b]?=some V):b<a/\V=I (b:Int):=by
 rw[a']at h;refine aj λ g=>ak (bh.mp h) λ j e f=>ai (a8.mp e) λ d c=>?_;refine g ?_;simp at d c;exact⟨d,by rw[<-f,<-c]⟩
def wY(h:Ev u g i z (Ls B))(c:B.length<=1000)(f:cG g (nm "range")=true)(d:cG g (nm "len")=true)(j:autoParam (∀b a,bD (z::b) a=(ap,He z a)::bD b a) bc):Ev u g i (.Call (.Name (nm "range") v) [.Call (.Name (nm "len") J) [z] [] VA] [] Vg) (.gg 0 B.length 1):=Ev.gG Fn.range (Ev.bl h0 f) (.cons (Ev.cA (Fn.j0 (B:=B) (c6 c (aE true))) (Ev.bl dY d) (.cons h .nil j)) .nil)
def Gi(c:B.length<=10):St bH Lk bV (om B V) (dq Vm) (fw.getD 2 b2) (.next (ko B V) (dq Vm)):=by
 have m:((a1 B.length).map λ(i:Nat)=>I (i:Int)).length=B.length:=by simp
 have e:Li (eL B B.length)=Li (eL B ((a1 B.length).map λ(i:Nat)=>I (i:Int)).length):=by rw[m]
 show St bH Lk bV (om B V) (dq Vm) (fw.getD 2 b2) (.next ((nm "read",Li (eL B B.length))::om B V) (dq Vm));refine e.symm▸(St.q6 (cZ.v9 (a:=11) (V:=.gg 0 B.length 1) (l:=eL B) (fT.one (j:=nm "src") (VG:=.str (eK B)) (by rfl) (by rfl) (by decide) (by rfl) ?_ λ a o f A G J t C z r s u v w x y i p j=>?_) ?_ (λ E=>rfl) (Ev.gl wV) (.cons (wY Ev.nm (a2 c (aE true)) (by rfl) (by rfl)) (.cons ?_ .nil)) ?_) (by rfl));·exact wW (by rfl)
 · refine am (Gh j) ?_;rintro g rfl;exact h9.CU (a:=10) (G:=[nm "state",nm "k"]) (VN:=[(nm "src",S (eK B))]) r s u v w ⟨rfl,rfl,rfl,by decide,by decide,by decide,x⟩ rfl (λ f D H h=>by
       refine cP (d9 h) ?_;rintro a b rfl;unfold J4;rw[D.params,D.dflt,D.kw];lia) y (de λ P=>⟨_,qO.fn P⟩) (Ga (Vs:=6) c g) (Ev.gl Gd) (.cons Ev.nm (.cons Ev.nm .nil))
 ·exact rw (by rfl)
 ·exact Ev.list (Vm:=eL B 0) (e:=by show 3<=a9;decide) (.cons .int (.cons (Ev.list (Vm:=[]) .nil) (.cons (Ev.list (Vm:=[]) .nil) .nil)))
 ·exact wX (a2 c (aE true))
def aD.kr(a:cz VG):aD .NotEq (.d VG) (.d VG) ap:=by
 have :=aD.ne a a;rwa[PD _ a.1]at this
def lT(s:String):cs (ac s)=true:=by
 rw[Str.ofString_eq_toList];unfold cs;rw[List.all_toArray,List.all_map,H7];intro c _;have h:=c.valid;show bF (c.toNat<0x110000)=true;simp only[decide_eq_true_eq];refine aH h (λ h=>?_) λ a=>?_;·exact LC h (by decide)
 ·exact am a λ _ h=>h
def Gj(c:cs j=true)(d:cs Vd=true):cs (j++Vd)=true:=by
 show(j.cps++Vd.cps).all _=true;rw[Array.all_append];exact x4.mpr ⟨c,d⟩
theorem rx:∀{xs:List Str}{WK:Str},cs WK=true->(∀x∈xs,cs x=true)->cs (gN WK xs)=true
 |[],WK,h,_=>h|x::r,WK,h,H=>rx (xs:=r) (WK:=WK++x) (Gj h (H x (.head _))) λ y a=>H y (.tail _ a)
def Gk(WM:Str)(p:Nat)(WK:Str)(h:cs WK=true):cs (eI WM p WK)=true:=by
 have b:cs (fi WM p)=true:=by
   unfold fi;split;·exact lT _
   · refine rx (by decide+kernel) λ x a=>?_;simp only[aP,uR,or_false]at a;rcases a with rfl|rfl|rfl|rfl<;>exact lT _
 refine rx (by decide+kernel) λ x a=>?_;simp only[aP,uR,or_false]at a;rcases a with rfl|rfl|rfl|rfl;·exact h
 ·exact lT _
 ·exact b
 ·exact lT _
def wZ:∀w,fI w 296:=de λ P=>⟨cf P 296,by lia⟩
def w0(h:∀x∈G,cs x=true):(Ld G).canLay0=true/\(Ld G).depth<=8:=by
 refine⟨?_,?_⟩
 · show Lj (G.map .str)=true;rw[canLayAll_strs',H7];exact h
 · show JS (G.map .str)+1<=8;have :JS (G.map .str)=0:=by induction G with
     |nil=>rfl|cons a r c=>show max 0 (JS (r.map .str))=0;rw[c λ x b=>h x (.tail _ b)];rfl
   exact e4 (j6 this) gx (aE true)
def w1(l:List Int):(Dl l).canLay0=true/\(Dl l).depth<=8:=by
 refine⟨?_,?_⟩
 · show Lj (l.map .int)=true;induction l with
   |nil=>rfl|cons a r b=>show(true&&Lj (r.map .int))=true;refine b.symm▸?_;rfl
 · show JS (l.map .int)+1<=8;have :JS (l.map .int)=0:=by induction l with
     |nil=>rfl|cons a r b=>show max 0 (JS (r.map .int))=0;refine b.symm▸?_;rfl
   exact e4 (j6 this) gx (aE true)
def lU(h:C∈b6 B):0<=C/\C<65536/\(C<55296\/57343<C):=by
 unfold b6 at h;refine ak (hp.mp h) ?_;rintro y a rfl;have :=(hu.mp a).2;simp only[JW,decide_eq_true_eq]at this;exact b3 (Jz _ (by decide)) (Jp _ (by decide)) this
def ry:∀x∈c3 B,cs x=true:=λ x a=>by
 unfold c3 at a;refine ak (hp.mp a) ?_;rintro y b rfl;have :=lU b;unfold cs sg;simp;exact oX this rfl
def Gl:∀x∈eu B B.length,cs x=true:=λ x a=>by
 unfold eu at a;refine ak (hp.mp a) ?_;rintro y b rfl;exact Gk _ _ _ (lT _)
def rz(N:List Int):eL N N.length=[.int ((eK N).length:Nat),Ld (c3 N),Ld (eu N N.length)]:=by
 unfold eL;simp only[IJ,F8]
def Gm(d:B.length<=10)(f:hf [nm "x"] VI g=true)(b:cG (bQ VI g) (nm "chr")=true)(c:dX (bQ VI g) (nm "x")=true)(h:Ev Lk g i z (Ls (b6 B)))(j:autoParam (∀a x,Ad z a x=jq x) bc):Ev Lk g i (.ListComp (.Call (.Name (nm "chr") v) [.Name (nm "x") J] [] VA) [⟨.Name (nm "x") Vg,z,[],0⟩] VI VT) (Lt (c3 B)):=by
 have z:Lt (c3 B)=Li (((b6 B).filter λ _=>true).map λ x=>.str (sg x)):=by unfold c3 Lt;rw[ec,K2.mpr λ _ _=>rfl];rfl
 simp only[z];refine Ev.fe [nm "x"] (b6 B) (λ x=>I x) (λ x=>[(nm "x",I x)]) _ _ f (bg.iR rfl h) (λ _=>rfl) (λ _ _=>.name) (λ _ _=>.nil) (λ x k _=>?_) (an (an (oj B) d) (by decide)) j;have :=lU k;exact Ev.cA (Fn.nj (this.left) (Mo (oX this rfl))) (Ev.bl nn b) (.cons (Ev.nm (by rfl) c) .nil)
def Gn(a:B.length<=10):St bH Lk bV (ko B V) (dq Vm) (fw.getD 3 b2) (.next (ko B V) (dq Vm)):=by
 refine St.ite (M:=ap) ?_ (λ h=>by cases h) (λ _=>ag.nil);refine Tr.cmp (V:=.d (.list (eL B B.length))) (VS:=.d (.list (eL B B.length))) (aD.kr (jN λ d b=>?_)) Ev.nm ?_
 · rw[rz]at b;simp only[aP,uR,or_false]at b;rcases b with rfl|rfl|rfl;·exact⟨rfl,dk _⟩
   ·exact w0 ry
   ·exact w0 Gl
 · rw[rz];refine Ev.list (Vm:=[.int ((eK B).length:Nat),Ld (c3 B),Ld (eu B B.length)]) (e:=by show 3<=a9;decide) (.cons ?_ (.cons ?_ (.cons Ev.nm .nil)));·exact Ev.cA (Fn.hZ (c6 (ru B a) (aE true))) (Ev.bl dY) (.cons Ev.nm .nil)
   ·exact Gm a (by rfl) (by rfl) (by rfl) (Ev.ed wZ (uk (a:=11) (a2 a (aE true))) (Ev.gl wU) (.cons Ev.nm .nil))
def Gp(a:Vm.length<=10):St bH Lk bV (ko B V) (dq Vm) (fw.getD 4 b2) (.next (ko B V) (dq (Vm++[Ld (c3 B)]))):=by
 refine St.append (j:=nm "told") (l:=.p Vm) (B:=.p (Vm++[Ld (c3 B)])) (V:=.d (Ld (c3 B))) (by rfl) (.inl ?_) (by rfl) (an a (by decide));refine Ev.dI (Vm:=eL B B.length) (C:=1) Ev.nm .int (by decide) (by decide) ?_;rw[rz];rfl
noncomputable abbrev RR(l:List Int):PV:=Li [Dl (eo l),Dl (et l)]
noncomputable def ku(l:List Int):Nat->List Int|0=>eo l|_=>et l
noncomputable abbrev gS(l:List Int):List bP:=[Ld (c3 (eo l)),Ld (c3 (et l))]
def lV(l:List Int)(WL:Nat):(ku l WL).length<=10:=by
 rcases WL with _|_;·show(l.take 4++_).length<=10;simp;exact fx
 ·show((l.drop 4).take 4++_).length<=10;simp;exact j4 fx bE
def Gq:fw=[fw.getD 0 b2,fw.getD 1 b2,fw.getD 2 b2,fw.getD 3 b2,fw.getD 4 b2]:=by lia
def Gr:St bH Lk bV [(nm "rows",RR B)] (dq []) (bZ.getD 1 b2) (.next [(nm "rows",RR B)] (dq (gS B))):=by
 refine St.nt (v:=_) ([Dl (eo B),Dl (et B)].map .d) (λ _=>[(nm "rows",RR B)]) (λ i=>dq ((gS B).take i)) (λ i=>[(nm "numbers",Ls (ku B i))]) (λ i=>.next (ko (ku B i) (RR B)) (dq ((gS B).take (i+1)))) (bg.list rfl Ev.nm) (λ i p c=>?_) (λ i y q f=>?_) (λ i b=>?_) λ i b=>?_;·rcases sG c with⟨rfl,rfl⟩|⟨rfl,rfl⟩<;>exact .name
 · refine am (by simpa using f:y=nm "numbers"/\q=Ls (ku B i)) ?_;rintro rfl g;obtain rfl:=g;rfl
 · have a:=lV B i;have e:(gS B).take (i+1)=(gS B).take i++[Ld (c3 (ku B i))]:=by rcases oZ b with rfl|rfl<;>rfl
   show ag bH Lk bV (rv (ku B i) (RR B)) (dq ((gS B).take i)) fw _;rw[e,Gq];exact ag.cons (Ge a) (ag.cons (Gg a) (ag.cons (Gi a) (ag.cons (Gn a) (ag.cons (Gp (by rw[KQ];show min i 2<=10;exact j4 hG bE)) ag.nil))))
 ·exact⟨⟨rfl,trivial⟩,rfl⟩
noncomputable abbrev fA(l:List Int):List Int:=b6 (eo l)
noncomputable abbrev fB(l:List Int):List Int:=b6 (et l)
noncomputable abbrev sA(l:List Int):List Str:=c3 (eo l)
noncomputable abbrev sB(l:List Int):List Str:=c3 (et l)
noncomputable abbrev eM(l:List Int):List (Str×PV):=[(nm "second",Ls (fB l)),(nm "first",Ls (fA l)),(nm "two",Lt (sB l)),(nm "one",Lt (sA l))]
def Gs:St bH Lk bV [(nm "rows",RR B)] (dq (gS B)) (bZ.getD 2 b2) (.next [(nm "two",Lt (sB B)),(nm "one",Lt (sA B)),(nm "rows",RR B)] (dq (gS B))):=St.FW (VG:=Ld (sA B)) (VZ:=Ld (sB B)) rfl (by rfl) (by rfl) (by rfl) (by rfl)
def Gu:St bH Lk bV [(nm "two",Lt (sB B)),(nm "one",Lt (sA B)),(nm "rows",RR B)] (dq (gS B)) (bZ.getD 3 b2) (.next ((nm "second",Ls (fB B))::(nm "first",Ls (fA B))::[(nm "two",Lt (sB B)),(nm "one",Lt (sA B)),(nm "rows",RR B)]) (dq (gS B))):=by
 refine St.FV (VG:=Dl (fA B)) (VZ:=Dl (fB B)) rfl ?_ (by rfl) (by rfl);have e:Li [Dl (fA B),Dl (fB B)]=Li (([eo B,et B].filter λ _=>true).map λ N=>Dl (b6 N)):=rfl;simp only[e];refine Ev.fe [nm "numbers"] [eo B,et B] (λ N=>Ls N) (λ N=>[(nm "numbers",Ls N)]) (λ _=>true) (λ N=>Dl (b6 N)) (by rfl) (bg.list (Vm:=[Dl (eo B),Dl (et B)]) rfl Ev.nm) (λ _=>rfl) (λ _ _=>.name) (λ _ _=>.nil) (λ N c _=>?_) (by show 2<=a9;decide);have d:N.length<=10:=by
   refine aH (aP.mp c) ?_ λ c=>?_
   · rintro rfl;exact lV B 0
   ·cases aI.mp c;exact lV B 1
 exact Ev.ed wZ (uk (a:=11) (a2 d (aE true))) (Ev.gl wU) (.cons Ev.nm .nil)
def Gv(l:List Vb):eE l none none=l:=by
 show(l.drop 0).take (l.length-0)=l;simp
def w2(M:Ev u g i z (Lt G))(O:G.length<=1000)(n:Rm u o)(R:bq w c g E q.heap i)(L:∀b d m,(∀j f,q.heap.get? j=some f->j<b)->¬w b->m.heap.PlainList b d.toArray->Ke d G->Kp q m->bq w c g E m.heap i->Vf (.ref b) m):aA (au P0 c) o (He (.Subscript z (.Slice none none none v) J) E) Vf y q:=Ma (M.use n R (Kp.refl q) λ WS WR WN _ U C=>qa n .none .none C U λ b WT WU B Y WK N T t D=>by
  refine aj λ WO=>?_;refine bI ((WN.keeps T.keep).list) λ f d as WM WQ V x=>?_;obtain rfl:=WM;refine WO ?_;have r:=V.isList;have e:=cy x;refine Nw (ops:=[.ref b,.ref f]) r.typeIs JD.lookup (Rh r N Y WK .none (λ h=>by cases h) ?_ (by simp only[be]at e;simp[e];exact an O (by decide))) rfl;have H:slicePick d.toArray none none none=d.toArray:=by simp only[Us];simp
  refine H.symm▸?_;have kp:Kp q {B with heap:=B.heap.push (L2 "list" d.toArray 0)}:=t.trans Kp.push;exact L _ d _ (λ j f WL=>az (t.keep j f WL)) (D.ex.fresh (aB _)) ⟨_,aF _ rfl⟩ (hY x) kp (R.keeps kp.keep))
def Gw(P:a3):a5 P (nm "unorderable_list_difference")=some (.ref 191):=by lia
def cZ.Gx(WO:Ev (a+1,true) g i z (Lt G))(WP:Ev (a+1,true) g i Vl (Lt VJ))(y:G.length<=1000)(B:VJ.length<=1000)(WL:cG g (nm "unorderable_list_difference")=true):cZ bH (a+1,true) g i D (.Call (.Name (nm "unorderable_list_difference") v) [.Subscript z (.Slice none none none J) Vg,.Subscript Vl (.Slice none none none VA) VT] [] Wq) (Tu [Ld (bf G VJ G.length).1,Ld (bf G VJ G.length).2]):=λ X w A d T W3 s E Q m W2 O F Y=>by
 refine dr ((Ev.gl Gw WL:Ev (a+1,true) g i (.Name (nm "unorderable_list_difference") v) _).use d F.er (Kp.refl s) λ h WZ WW _ r e=>(aj λ W1=>?_));obtain rfl:h=.ref 191:=WW;have j:=F.kp r;refine aW ((de λ P=>⟨_,vj.fn P⟩) w _ e.left) λ o V WN WK=>W1 ?_;have U:aA (au P0 w) A (Qr (L7 Wq (bD [.Subscript z (.Slice none none none J) Vg,.Subscript Vl (.Slice none none none VA) VT] T))) (λ H C=>(C.heap.get? 191=some o/\o.data=.func V)/\aA (au P0 w) A (I1 (.ref 191) H) Q E C) E WZ:=by
  refine IM (w2 WO y d e λ N H W4 WM WQ WS WX t M=>(IM (w2 WP B d M λ b W6 W5 p WR WT WY u l=>(ai WS λ _ n=>?_)) rfl)) rfl;have f:=t.trans u;refine Lu ⟨⟨f.keep _ _ WN,WK⟩,?_⟩;refine aG (CT y B d l.left l.ex ((j.kp f).lA rfl) e.left f (λ c o q=>⟨WM c o q,p c o (t.keep c o q)⟩) (br (p N _ n)) WQ WR ⟨_,u.keep _ _ n⟩ WX WT WY) (λ h W0 WU=>(a4 WU λ WV K L=>?_)) λ _ _ x=>x;exact Y h W0 (j.kt rfl K L) WV ((Kp.kq r).trans K)
 exact rS (b1 U)
noncomputable def b5(a:List Int):List Int:=((a1 a.length).filter λ k=>!(a.take k).any (·==a.getD k 0)).map λ k=>a.getD k 0
noncomputable abbrev lW(l:List Int):List Int:=b5 (fA l++fB l)
def Gy(l:List Int)(a:Int):((l.map Pn).any λ y=>KD y (.int a))=l.any (·==a):=by
 rw[List.any_map];congr 1
def rA(l:List Int):cz (Dl l):=jN λ d a=>by
 refine ak (hp.mp a) ?_;rintro x _ rfl;exact⟨rfl,dk _⟩
def Tr.w3(c:Ev u g i z (I C))(d:Ev u g i Vl (Ls B))(e:autoParam (Lm .NotIn Vl=ap) gX):Tr u g i (.Compare z [.NotIn] [Vl] v) (!B.any (·==C)):=by
 have :=Tr.cmp (v:=v) (aD.Ay (VG:=.int C) (Vm:=B.map .int) cz.int (rA B)) c d e;rwa[Gy]at this
def gT(l:List Int):(fA l).length<=10/\(fB l).length<=10:=⟨an (oj _) (lV l 0),an (oj _) (lV l 1)⟩
def Gz(l:List Int):(lg (l.map .int)).map PV.d=(a1 l.length).map λ j=>Tu [.int (j:Nat),.int (l.getD j 0)]:=by
 apply KA;intro i;unfold lg;by_cases h:i<l.length;·simp[h]
 ·simp[h]
noncomputable abbrev i6(l:List Int):List (Str×PV):=(nm "firsts",Ls (lW l))::eM l
def GA:St bH Lk bV (eM B) [] (bZ.getD 4 b2) (.next (i6 B) []):=by
 refine am (gT B) λ c d=>?_;have m:(1000:Nat)<=a9:=by decide
 have h:(fA B++fB B).length<=20:=by rw[eH];exact e4 c d (aE true)
 have e:Ls (lW B)=Li (((a1 (fA B++fB B).length).filter λ k=>!((fA B++fB B).take k).any (·==(fA B++fB B).getD k 0)).map λ k=>.int ((fA B++fB B).getD k 0)):=by unfold lW b5 Ls;rw[ec];rfl
 show St bH Lk bV (eM B) [] (bZ.getD 4 b2) (.next ((nm "firsts",Ls (lW B))::eM B) []);rw[e];refine St.qP [nm "x",nm "k"] (a1 (fA B++fB B).length) (λ j=>Tu [.int (j:Nat),.int ((fA B++fB B).getD j 0)]) (λ j=>[(nm "x",I ((fA B++fB B).getD j 0)),(nm "k",I (j:Nat))]) _ _ (by rfl) (by rfl) (by rfl) (by rfl) ?_ (λ _=>rfl) (λ j _=>.lb (by decide)) (λ j f=>?_) (λ j f _=>Ev.nm) (by simp;exact e4 c d (aE true))
 · rw[<-Gz];exact bg.ng rfl (Ev.bl nl) (lR (B:=fA B) (VL:=fB B) Ev.nm Ev.nm (e4 c d (aE true)))
 · have g:j<(fA B++fB B).length:=cI.mp f;exact .one (Tr.w3 Ev.nm (Ev.u5 (B:=fA B++fB B) (a:=j) (lR (B:=fA B) (VL:=fB B) Ev.nm Ev.nm (e4 c d (aE true))) Ev.nm (j5 g) (a2 h (aE true))))
noncomputable def gU(F G:List Int):List Int:=(b5 (F++G)).filter λ x=>F.count x !=G.count x
noncomputable abbrev ik(F G:List Int)(x:Int):List bP:=[.int (F.count x:Nat),.int (G.count x:Nat),.int x]
def GB(a b:Nat):((a:Int)!=(b:Int))=(a !=b):=by
 rw[Pr,bne_iff_ne,bne_iff_ne];exact not_congr Oh
def GC(L:List Int)(F WM:List Int):cz (.list (L.map λ WK=>.tuple (ik F WM WK))):=jN λ d a=>by
 refine ak (hp.mp a) ?_;rintro WK _ rfl;exact⟨rfl,by show max 0 (max 0 (max 0 0))+1<=8;decide⟩
def lX(h:C∈b5 B):C∈B:=by
 unfold b5 at h;refine ak (hp.mp h) ?_;rintro k a rfl;have :=cI.mp (hu.mp a).1;simp only[av,ay this];exact IK this
def i7(WK:List Int):(b5 WK).length<=WK.length:=by
 unfold b5;rw[be];exact an (Ei _ _) (by rw[Lw];exact aB _)
def rB(h:C∈fA B++fB B):0<=C/\C<65536:=by rcases k9.mp h with h|h<;>(have q:=lU h;exact⟨q.1,q.2.1⟩)
def GD(F WL:List Int):(gU F WL).length<=(F++WL).length:=an (Ei _ _) (i7 _)
def on(l:List Int):(sA l).length<=10/\(sB l).length<=10:=by
 unfold sA sB c3;rw[be,be];exact gT l
def GF(P:a3):a5 P (nm "_count_diff_all_purpose")=some (.ref 279):=by lia
def w4(d:0<=C)(e:i.lookup j=some (S (sg C)))(a:dX g j=true)(b:cG g (nm "ord")=true):Ev u g i (.Call (.Name (nm "ord") v) [.Name j J] [] Vg) (I C):=by
 have :=Ev.cA (v:=v) (J:=Vg) (Fn.ni (u:=u) (a:=C.toNat)) (Ev.bl AD b) (.cons (Ev.nm (v:=J) e a) .nil);rwa[K5 d]at this
def oo(d:i.lookup j=some (Ls B))(e:i.lookup Vd=some (I C))(a:dX g j=true)(b:dX g Vd=true)(c:autoParam ((Vg.endLine==VA.line)=true) bc):Ev u g i (.Call (.Attribute (.Name j v) (ac "count") Vg) [.Name Vd J] [] VA) (I (B.count C:Nat)):=Ev.jK JI Ks Fn.jL (Ev.nm d a) (.cons (Ev.nm e b) .nil) (f:=by show 1<29;decide) (h:=c)
def GG(i:ie (sA B) (sB B)=(gU (fA B) (fB B)).map λ x=>((fA B).count x,(fB B).count x,sg x)):St bH Lk bV (i6 B) [] (bZ.getD 5 b2) (.next (i6 B) []):=by
 refine am (gT B) λ b d=>?_;have j:(1000:Nat)<=a9:=by decide
 have f:=GD (fA B) (fB B);have g:=i7 (fA B++fB B);simp only[eH]at f g;refine St.ite (M:=ap) ?_ (λ h=>by cases h) (λ _=>ag.nil);refine Tr.cmp (V:=Li ((gU (fA B) (fB B)).map λ x=>.tuple (ik (fA B) (fB B) x))) (VS:=Li ((gU (fA B) (fB B)).map λ x=>.tuple (ik (fA B) (fB B) x))) (aD.kr (GC _ _ _)) ?_ ?_
 · have e:Li ((gU (fA B) (fB B)).map λ x=>.tuple (ik (fA B) (fB B) x))=Li (((gU (fA B) (fB B)).filter λ _=>true).map λ x=>.tuple (ik (fA B) (fB B) x)):=by rw[K2.mpr λ _ _=>rfl]
   simp only[e];refine Ev.fe [nm "sign",nm "k",nm "j"] (gU (fA B) (fB B)) (λ x=>.inst (.ref 269) [.int ((fA B).count x:Nat),.int ((fB B).count x:Nat),.str (sg x)]) (λ x=>[(nm "sign",S (sg x)),(nm "k",I ((fB B).count x:Nat)),(nm "j",I ((fA B).count x:Nat))]) _ _ (by rfl) ?_ (λ _=>rfl) (λ x _=>.Ak (.inr rfl) (by decide) (by decide) (by decide)) (λ _ _=>.nil) (λ x a _=>?_) (j4 f (e4 b d (aE true)))
   · have e:(gU (fA B) (fB B)).map (λ x=>PV.inst (.ref 269) [.int ((fA B).count x:Nat),.int ((fB B).count x:Nat),.str (sg x)])=((ie (sA B) (sB B)).map n1).map λ r=>.inst (.ref 269) r:=by simp only[i,ec,ec];rfl
     simp only[e];exact bg.insts rfl (Ev.ed (de λ P=>⟨_,v1.fn P⟩) (D5 (a:=9) (G:=sA B) (VJ:=sB B) ry ry (by have :=(on B).1;exact a2 this (aE true)) (by have :=(on B).2;exact a2 this (aE true))) (Ev.gl GF) (.cons Ev.nm (.cons Ev.nm .nil)))
   ·exact Ev.tuple (Vm:=ik (fA B) (fB B) x) (f:=by show 3<=a9;decide) (.cons Ev.nm (.cons Ev.nm (.cons (w4 (rB (B:=B) (lX (hu.mp a).1)).1 (by rfl) (by rfl) (by rfl)) .nil)))
 · refine Ev.fe [nm "x"] (lW B) (λ x=>I x) (λ x=>[(nm "x",I x)]) (λ x=>(fA B).count x !=(fB B).count x) (λ x=>.tuple (ik (fA B) (fB B) x)) (by rfl) (bg.iR rfl Ev.nm) (λ _=>rfl) (λ _ _=>.name) (λ x a=>?_) (λ x a _=>?_) (j4 g (e4 b d (aE true)));·exact .one (Tr.eq (Tr.cmp aD.nE (oo (by rfl) (by rfl) (by rfl) (by rfl)) (oo (by rfl) (by rfl) (by rfl) (by rfl))) (GB _ _))
   ·exact Ev.tuple (Vm:=ik (fA B) (fB B) x) (f:=by show 3<=a9;decide) (.cons (oo (by rfl) (by rfl) (by rfl) (by rfl)) (.cons (oo (by rfl) (by rfl) (by rfl) (by rfl)) (.cons Ev.nm .nil)))
def GH(P:a3):a5 P (nm "_law_less")=some (.ref 308):=by lia
def GI(P:a3):a5 P (nm "sorted_list_difference")=some (.ref 184):=by lia
def w5(a b:List Int):cz (.list [Dl a,Dl b]):=jN λ d c=>by
 refine aH (aP.mp c) ?_ λ c=>?_
 · rintro rfl;exact w1 a
 ·cases aI.mp c;exact w1 b
def cZ.w6{c f h:aw}(j:u.2=true)(C:cZ bH u c i D z (Tu [Ld (B.map sg),Ld (VL.map sg)]))(w:∀x∈B,0<=x)(A:∀x∈VL,0<=x)(L:B.length<=1000)(M:VL.length<=1000)(s:hf [nm "row"] f c=true)(t:hf [nm "sign"] h (bQ f c)=true)(p:dX (bQ f c) (nm "row")=true)(q:dX (bQ h (bQ f c)) (nm "sign")=true)(r:cG (bQ h (bQ f c)) (nm "ord")=true)(G:autoParam (∀n x,Ad z n x=jq x) bc):cZ bH u c i D (.ListComp (.ListComp (.Call (.Name (nm "ord") v) [.Name (nm "sign") J] [] VA) [⟨.Name (nm "sign") Vg,.Name (nm "row") Wq,[],0⟩] h VT) [⟨.Name (nm "row") Wu,z,[],0⟩] f WH) (Li [Dl B,Dl VL]):=by
 have y:∀N∈[B,VL],(∀x∈N,0<=x)/\N.length<=1000:=λ N g=>by
   refine aH (aP.mp g) ?_ λ g=>?_
   · rintro rfl;exact⟨w,L⟩
   ·cases aI.mp g;exact⟨A,M⟩
 have e:Li [Dl B,Dl VL]=Li (([B,VL].filter λ _=>true).map λ N=>Dl N):=rfl;simp only[e];refine cZ.comp [nm "row"] [B,VL] (λ N=>.d (Ld (N.map sg))) (λ N=>[(nm "row",.d (Ld (N.map sg)))]) (λ _=>true) (λ N=>Dl N) j s C (eh.tuple (Vm:=[Ld (B.map sg),Ld (VL.map sg)])) (λ _=>rfl) (λ _ _=>.name) (λ _ _=>.nil) (λ N g _=>?_) (by show 2<=a9;decide) G;refine am (y N g) λ o E=>?_;have m:PV.d (Dl N)=Li ((N.filter λ _=>true).map λ x=>.int x):=by rw[K2.mpr λ _ _=>rfl]
 simp only[m];refine Ev.fe [nm "sign"] N (λ x=>S (sg x)) (λ x=>[(nm "sign",S (sg x))]) (λ _=>true) (λ x=>.int x) t ?_ (λ _=>rfl) (λ _ _=>.name) (λ _ _=>.nil) (λ x H _=>w4 (o x H) (by rfl) q r) (j4 E (by decide));have :=bg.strs (u:=u) (g:=bQ f c) (i:=[(nm "row",PV.d (Ld (N.map sg)))]++cj f i) (G:=N.map sg) (j:=nm "sign") (v:=Vg) j (Ev.nm (j:=nm "row") (v:=Wq) (by rfl) p);rwa[ec]at this
def GJ(d:bf (sA B) (sB B) (sA B).length=((da (fA B) (fB B)).map sg,(df (fA B) (fB B)).map sg))(g:∀x∈da (fA B) (fB B),0<=x)(j:∀x∈df (fA B) (fB B),0<=x)(m:(da (fA B) (fB B)).length<=1000)(n:(df (fA B) (fB B)).length<=1000):St bH Lk bV (i6 B) [] (bZ.getD 6 b2) (.next (i6 B) []):=by
 refine aj λ o=>am (gT B) λ f i=>am (on B) λ a b=>o (St.v8 (M:=ap) (lM.cmp (V:=Li [Dl (da (fA B) (fB B)),Dl (df (fA B) (fB B))]) (VS:=Li [Dl (da (fA B) (fB B)),Dl (df (fA B) (fB B))]) (aD.kr (w5 _ _)) ?_ ?_) (λ h=>by cases h) (λ _=>ag.nil))
 · refine cZ.w6 rfl ?_ g j m n (by rfl) (by rfl) (by rfl) (by rfl) (by rfl);have e:Tu [Ld ((da (fA B) (fB B)).map sg),Ld ((df (fA B) (fB B)).map sg)]=Tu [Ld (bf (sA B) (sB B) (sA B).length).1,Ld (bf (sA B) (sB B) (sA B).length).2]:=by rw[d]
   simp only[e];exact cZ.Gx (a:=11) Ev.nm Ev.nm (a2 a (aE true)) (a2 b (aE true)) (by rfl)
 · have e:Li [Dl (da (fA B) (fB B)),Dl (df (fA B) (fB B))]=Li (([da (fA B) (fB B),df (fA B) (fB B)].filter λ _=>true).map λ N=>Dl N):=rfl;simp only[e];exact Ev.fe [nm "row"] [da (fA B) (fB B),df (fA B) (fB B)] (λ N=>Ls N) (λ N=>[(nm "row",Ls N)]) (λ _=>true) (λ N=>Dl N) (by rfl) (bg.v7 (Vi:=[Ls (da (fA B) (fB B)),Ls (df (fA B) (fB B))]) rfl (Ev.ed (de λ P=>⟨_,u4.fn P⟩) (Cg (a:=11) (a2 f (aE true)) (a2 i (aE true))) (Ev.gl GH) (.cons Ev.nm (.cons Ev.nm .nil))) (eh.tuple (Vm:=[Dl (da (fA B) (fB B)),Dl (df (fA B) (fB B))]))) (λ _=>rfl) (λ _ _=>.name) (λ _ _=>.nil) (λ N _ _=>Ev.nm) (by show 2<=a9;decide)
noncomputable def bx(l:List Int):List Int:=l.mergeSort λ a b=>bF (a<=b)
def w7(p:B.Perm VL)(c:B.Pairwise (·<=·))(d:VL.Pairwise (·<=·)):B=VL:=Mm (λ _ _ _ _=>Me) c d p
def op(l:List Int):(bx l).Pairwise (·<=·):=by
 have :=List.pairwise_mergeSort (le:=λ a b:Int=>bF (a<=b)) (λ a b c d e=>by simp at d e⊢;exact r5 d e) (λ a b=>by simp;exact Int.le_total _ _) l;exact this.imp λ h=>by simpa using h
def ea(l:List Int):(bx l).Perm l:=List.mergeSort_perm ..
def w8(p:VL.Perm B)(h:VL.Pairwise (·<=·)):VL=bx B:=w7 (p.trans (ea B).symm) h (op B)
def il(l:List Int):(bx l).length=l.length:=(ea l).length_eq
def rC(h:Ev u g i z (Ls B))(d:B.length<64)(c:cG g (nm "sorted")=true)(f:autoParam (∀b a,bD (z::b) a=(ap,He z a)::bD b a) bc):Ev u g i (.Call (.Name (nm "sorted") v) [z] [] J) (Ls (bx B)):=Ev.cA (Fn.Av d λ m p q=>w8 p q) (Ev.bl lk c) (.cons h .nil f)
noncomputable def gq(WK G:List Int):List Int:=(bx (b5 WK)).filter λ x=>!G.any (·==x)
noncomputable abbrev oA(l:List Int):List Int:=gq (fA l++fB l) (fB l)
noncomputable abbrev oB(l:List Int):List Int:=gq (fA l++fB l) (fA l)
noncomputable abbrev rD(l:List Int):List (Str×PV):=(nm "only",Li [Dl (oA l),Dl (oB l)])::i6 l
def w9{n o t u s v r p q:Pos}(b:VL.length<=20)(l:hf [nm "x"] VI g=true)(m:i.lookup (nm "firsts")=some (Ls (b5 VL)))(d:dX g (nm "firsts")=true)(f:cG g (nm "sorted")=true)(k:∀x,([(nm "x",I x)]++cj VI i).lookup j=some (Ls B))(a:dX (bQ VI g) (nm "x")=true)(h:dX (bQ VI g) j=true):Ev Lk g i (.ListComp (.Name (nm "x") t) [⟨.Name (nm "x") s,.Call (.Name (nm "sorted") n) [.Name (nm "firsts") o] [] p,[.Compare (.Name (nm "x") u) [.NotIn] [.Name j v] q],0⟩] VI r) (Ls (gq VL B)):=by
 have w:(1000:Nat)<=a9:=by decide
 have c:=i7 VL;have e:Ls (gq VL B)=Li (((bx (b5 VL)).filter λ x=>!B.any (·==x)).map λ x=>.int x):=rfl;simp only[e];exact Ev.fe [nm "x"] (bx (b5 VL)) (λ x=>I x) (λ x=>[(nm "x",I x)]) _ _ l (bg.iR rfl (rC (Ev.nm m d) (bA (dt c) (iA b (aE true))) f)) (λ _=>rfl) (λ _ _=>.name) (λ x _=>.one (Tr.w3 (Ev.nm (by rfl) a) (Ev.nm (k x) h))) (λ x _ _=>Ev.nm (by rfl) a) (j4 (j6 (il (b5 VL))) (jo b c (aE true)))
def GK:St bH Lk bV (i6 B) [] (bZ.getD 7 b2) (.next (rD B) []):=by
 refine am (gT B) λ b c=>?_;have a:(fA B++fB B).length<=20:=by rw[eH];exact e4 b c (aE true)
 exact St.assign (Ev.list (Vm:=[Dl (oA B),Dl (oB B)]) (e:=by show 2<=a9;decide) (.cons (w9 a (by rfl) (by rfl) (by rfl) (by rfl) (λ _=>by rfl) (by rfl) (by rfl)) (.cons (w9 a (by rfl) (by rfl) (by rfl) (by rfl) (λ _=>by rfl) (by rfl) (by rfl)) .nil))) (by rfl)
noncomputable def aY(F:List Int):List Str:=(bx F).map sg++[sg 65536]
def GL(b:cG g (nm "chr")=true):Ev u g i (.Call (.Name (nm "chr") v) [.Constant (.int 65536) a J] [] Vg) (S (sg 65536)):=Ev.cA (Fn.nj (by decide) (by decide)) (Ev.bl nn b) (.cons .int .nil)
def w'(b:B.length<=10)(h:∀m:List Str,m.Perm (B.map sg)->M7 m=true->m=(bx B).map sg)(k:i.lookup j=some (Lt (B.map sg)))(c:dX g j=true)(d:cG g (nm "sorted")=true)(f:cG g (nm "chr")=true):Ev Lk g i (.BinOp (.Call (.Name (nm "sorted") v) [.Name j J] [] VT) .Add (.List [.Call (.Name (nm "chr") Vg) [.Constant (.int 65536) a VA] [] Wq] Wu) WH) (Lt (aY B)):=by
 have e:Lt (aY B)=Li (((bx B).map sg).map .str++[.str (sg 65536)]):=by unfold aY Lt;refine(fs).symm▸?_;rfl
 simp only[e];exact Ev.bJ (bb.m8 (by simp;exact an (gp ((il B)▸b) 1) (by decide))) (Ev.cA (Fn.t0 (G:=B.map sg) (by rw[be];exact c6 b (aE true)) h) (Ev.bl lk d) (.cons (Ev.nm k c) .nil)) (Ev.list (Vm:=[.str (sg 65536)]) (e:=by decide) (.cons (GL f) .nil))
def GN(j:∀m:List Str,m.Perm (sA B)->M7 m=true->m=(bx (fA B)).map sg)(k:∀m:List Str,m.Perm (sB B)->M7 m=true->m=(bx (fB B)).map sg)(H:cS (aY (fA B)) (sg 65536))(a:cS (aY (fB B)) (sg 65536))(b:(aM (aY (fA B)) (aY (fB B)) ((aY (fA B)).length+(aY (fB B)).length)).2.2=((oA B).map sg,(oB B).map sg))(f:∀x∈oA B,0<=x)(i:∀x∈oB B,0<=x)(o:(oA B).length<=1000)(r:(oB B).length<=1000):St bH Lk bV (rD B) [] (bZ.getD 8 b2) (.next (rD B) []):=by
 refine am (gT B) λ d g=>St.v8 (M:=ap) (lM.cmp (V:=Li [Dl (oA B),Dl (oB B)]) (VS:=Li [Dl (oA B),Dl (oB B)]) (aD.kr (w5 _ _)) ?_ Ev.nm) (λ h=>by cases h) (λ _=>ag.nil);refine cZ.w6 rfl ?_ f i o r (by rfl) (by rfl) (by rfl) (by rfl) (by rfl);have e:Tu [Ld ((oA B).map sg),Ld ((oB B).map sg)]=Tu [Ld (aM (aY (fA B)) (aY (fB B)) ((aY (fA B)).length+(aY (fB B)).length)).2.2.1,Ld (aM (aY (fA B)) (aY (fB B)) ((aY (fA B)).length+(aY (fB B)).length)).2.2.2]:=by rw[b]
 simp only[e];exact cZ.gG rfl (de λ P=>⟨_,vB.fn P⟩) (Dk (a:=11) H a) (Ev.gl GI) (.cons (w' d j (by rfl) (by rfl) (by rfl) (by rfl)) (.cons (w' g k (by rfl) (by rfl) (by rfl) (by rfl)) .nil))
def xa(P:a3):a5 P (nm "three_way_cmp")=some (.ref 198):=by lia
def GO(P:a3):a5 P (nm "cmp_to_key")=some (.ref 125):=by lia
def xb:∀w,fI w 198:=de λ P=>⟨cf P 198,by lia⟩
noncomputable def gV:List Il:=(cE (bZ.getD 9 b2)).body
noncomputable abbrev kv(F:List Int)(a:List (Str×PV)):List (Str×PV):=(nm "numbers",Ls F)::(nm "signs",Lt (F.map sg))::a
noncomputable abbrev cq(F:List Int)(i:Nat):Nat:=(F.getD i 0).toNat
noncomputable def rE(F:List Int)(i j:Nat):Int:=eX (bF (cq F j<cq F i)) (bF (cq F i<cq F j))
def xd(a b:Nat):bF ([a]<[b])=bF (a<b):=by
 rw[decide_eq_decide,QT];exact⟨λ h=>h.elim id λ h=>absurd h.2 (NE _),.inl⟩
def GP(F:List Int)(i j:Nat):bF (rE F i j<0)=d1 (cq F) i j:=by
 unfold rE d1;by_cases h:cq F i<cq F j;·rw[decide_eq_true h,decide_eq_false (b'.mpr (bn h))];rfl
 · rw[decide_eq_false h];cases bF (cq F j<cq F i)<;>rfl
def xe(F:List Int)(h:a<F.length):((F.map sg).map tl)[((a:Nat):Int).toNat]?=some (.str ⟨#[cq F a]⟩):=by
 simp only[b4,a',a',ay h];unfold cq;rw[av,ay h];rfl
noncomputable def hv(F:List Int):List Int:=bx (b5 F)
noncomputable def fX(F:List Int):List Nat:=(hv F).flatMap λ x=>(a1 F.length).filter λ k=>F.getD k 0==x
def GQ(h:Ev u g i z (Lt (B.map sg)))(c:B.length<=1000)(f:cG g (nm "range")=true)(d:cG g (nm "len")=true)(j:autoParam (∀b a,bD (z::b) a=(ap,He z a)::bD b a) bc):Ev u g i (.Call (.Name (nm "range") v) [.Call (.Name (nm "len") J) [z] [] VA] [] Vg) (.gg 0 B.length 1):=by
 have :=Fn.lh (u:=u) (Vm:=(B.map sg).map .str) (by simp;exact c6 c (aE true));simp only[be,be]at this;exact Ev.gG Fn.range (Ev.bl h0 f) (.cons (Ev.cA this (Ev.bl dY d) (.cons h .nil j)) .nil)
def GR(m:2<=B.length)(f:B.length<=10)(r:∀p:List Nat,p.Perm (a1 B.length)->p.Pairwise (dD (cq B))->p=fX B):St bH Lk bV (kv B i) [] (gV.getD 0 b2) (.next ((nm "places",Ls ((fX B).map Ll))::kv B i) []):=by
 refine St.q6 (cZ.FP (a:=8) (b:=B.length) (VU:=cq B) (WJ:=rE B) (fT.one (j:=nm "signs") (VG:=.list ((B.map sg).map .str)) (by rfl) (by rfl) (by decide) (by rfl) (wW (by rfl)) λ a o l G L N t H E s u v w z A C e j g h=>?_) (λ e j _ _=>GP B e j) (rw (by rfl)) (λ J=>rfl) (Ev.bl lk) ?_ (Ev.gl GO) m (c6 f (aE true)) r) (by rfl)
 · refine gQ.wP (a:=8) (G:=[nm "j",nm "k"]) (i:=[(nm "signs",Lt (B.map sg))]) s u v w z ⟨rfl,rfl,rfl,by decide,by decide,by decide,A⟩ rfl (λ l D M q=>by
       refine cP (d9 q) ?_;rintro a b rfl;unfold J4;rw[D.params,D.dflt,D.kw];lia) C ?_;have :=AM (j:=⟨#[cq B e]⟩) (Vd:=⟨#[cq B j]⟩) (a:=7) (M:=true);simp only[show bF ((⟨#[cq B j]⟩:Str).cps.toList<(⟨#[cq B e]⟩:Str).cps.toList)=bF (cq B j<cq B e)from xd _ _,show bF ((⟨#[cq B e]⟩:Str).cps.toList<(⟨#[cq B j]⟩:Str).cps.toList)=bF (cq B e<cq B j)from xd _ _]at this;exact Ev.ed xb this (Ev.gl xa) (.cons (Ev.dI (C:=e) Ev.nm Ev.nm (dh) (mi (iw g) (fC f (aE true))) (xe B g)) (.cons (Ev.dI (C:=j) Ev.nm Ev.nm (dh) (mi (iw h) (fC f (aE true))) (xe B h)) .nil))
 ·exact GQ (B:=B) Ev.nm (a2 f (aE true)) (by rfl) (by rfl)
def lY:Prop:=∀{k:Lv}{a:aw}{d:List (Str×PV)}{f g h i:Pos}{e:b7}{F:List Int},k.2=true->F.length<=10->Ev k a d e (Ls F)->cG a (nm "sorted")=true->cG a (nm "set")=true->(∀c b,bD (e::c) b=(ap,He e b)::bD c b)->Ev k a d (.Call (.Name (nm "sorted") f) [.Call (.Name (nm "set") g) [e] [] i] [] h) (Ls (hv F))
noncomputable abbrev i8(F:List Int):List Int:=(fX F).map Ll
def GS(F:List Int):(hv F).length<=F.length:=by
 unfold hv;rw[il];exact i7 F
def GU(c:B.length<=10):(fX B).length<=100:=by
 unfold fX;rw[List.length_flatMap];have :∀L:List Int,(L.map λ x=>((a1 B.length).filter λ k=>B.getD k 0==x).length).sum<=L.length*10:=λ L=>by induction L with
  |nil=>exact dk _|cons a r d=>
   have b:=Ei (λ k=>B.getD k 0==a) (a1 B.length);simp only[Lw]at b;simp only[uW,MJ,y3];exact by rw[Nat.succ_mul,IC];exact IU d (an b c)
 have :=this (hv B);exact an this (KN 10 (an (GS B) c))
def xf(F:List Int):Ls (i8 F)=Li (((hv F).filter λ _=>true).flatMap λ x=>((a1 F.length).filter λ k=>F.getD k 0==x).map λ(k:Nat)=>.int (k:Int)):=by
 rw[K2.mpr λ _ _=>rfl];unfold i8 fX Ls;rw[ec,List.map_flatMap];rfl
def GV(f:lY)(a:B.length<=10):St bH Lk bV ((nm "places",Ls (i8 B))::kv B VN) [] (gV.getD 1 b2) (.next ((nm "places",Ls (i8 B))::kv B VN) []):=by
 have m:(1000:Nat)<=a9:=by decide
 refine St.ite (M:=ap) (Tr.cmp (V:=Ls (i8 B)) (VS:=Ls (i8 B)) (aD.kr (rA _)) Ev.nm ?_) (λ h=>by cases h) (λ _=>ag.nil);have g:(((hv B).filter λ _=>true).flatMap λ x=>((a1 B.length).filter λ k=>B.getD k 0==x).map λ(k:Nat)=>Pn (k:Int)).length<=a9:=by
   have :=congrArg (λ p=>match p with|PV.d (.list l)=>l.length|_=>0) (xf B);simp only[<-this,be,be];exact a2 (GU a) (aE true)
 rw[xf];refine Ev.FT (hv B) (λ x=>I x) (λ x=>[(nm "x",I x)]) (λ _=>true) (λ _=>a1 B.length) (λ(k:Nat)=>I (k:Int)) (λ k=>[(nm "k",I (k:Int))]) (λ x k=>B.getD k 0==x) (λ _(k:Nat)=>.int (k:Int)) (dJ.of (G:=[nm "x",nm "k"]) (by rfl)).1 (bg.iR rfl (f rfl a Ev.nm (by rfl) (by rfl) (by intros;rfl))) (λ _ _=>.name) (λ x _ y q e=>?_) (λ _ _=>.nil) (λ x _ _=>?_) (λ _ _ _ _=>.name) (λ x _ z _ y q e=>?_) (λ x _ z _ y q e=>?_) (λ x _ j b=>?_) (λ x _ j b _=>Ev.nm) g
 · have h:=jM e;exact(dJ.of (VI:=bV) (G:=[nm "x",nm "k"]) (by rfl)).2 y (by simp at h⊢;exact .inl h)
 ·exact bg.v7 rfl (wY Ev.nm (a2 a (aE true)) (by rfl) (by rfl)) (wX (a2 a (aE true)))
 · have h:=jM e;exact(dJ.of (VI:=bV) (G:=[nm "x",nm "k"]) (by rfl)).2 y (by simp at h⊢;exact .inr h)
 · have h:=jM e;obtain rfl:y=nm "x":=aI.mp (h);rfl
 · have d:j<B.length:=cI.mp b;exact .one (Tr.cmp aD.jS (Ev.gO (B:=B) (a:=j) Ev.nm Ev.nm d (e5 d a (aE true))) Ev.nm)
noncomputable def kx(q:Str×Int×Int)(x:Str):Str×Int×Int:=if cY q.1 x=true then(x,q.2.1+q.2.2,1)else(q.1,q.2.1+(if cY x q.1=true then 1 else 0),q.2.2+(if(x==q.1)=true then 1 else 0))
noncomputable def d3(F:List Int):Nat->Str×Int×Int
 |0=>(aR,0,0)|WL+1=>kx (d3 F WL) (sg (F.getD WL 0))
noncomputable def d4(q:Str×Int×Int):List bP:=[.str q.1,.int q.2.1,.int q.2.2]
def im{q:Str×Int×Int}(h:i.lookup j=some (Li (d4 q)))(b:dX g j=true)(f:0<=C)(e:C<2^63)(c:(d4 q)[C.toNat]?=some VG):Ev u g i (.Subscript (.Name j v) (.Constant (.int C) a J) Vg) (.d VG):=Ev.dI (Vm:=d4 q) (C:=C) (Ev.nm h b) .int f e c
def GW(h:(((B.map sg).map tl).map PV.d)[a]?=some V):V=S (sg (B.getD a 0)):=by
 simp only[a',a',a']at h;refine ey (x:=B[a]?) (λ e=>?_) λ x e=>?_;·rw[e]at h;exact aQ h
 · rw[e]at h;rw[av,e];exact(ax h).symm
noncomputable abbrev ky(F:List Int)(a:List (Str×PV)):List (Str×PV):=(nm "places",Ls (i8 F))::kv F a
def GX(E:B.length<=10):St bH Lk bV (ky B i) [] (gV.getD 2 b2) (.next ((nm "most",Li (d4 (d3 B B.length)))::ky B i) []):=by
 have r:(((B.map sg).map tl).map PV.d).length=B.length:=by simp
 have e:Li (d4 (d3 B B.length))=Li (d4 (d3 B (((B.map sg).map tl).map PV.d).length)):=by rw[r]
 refine e.symm▸(St.q6 (cZ.v9 (a:=11) (V:=Lt (B.map sg)) (l:=λ d=>d4 (d3 B d)) (fT.zero λ a o g z G J t A s u v w y d p m=>?_) (rw (by rfl)) (λ C=>rfl) (Ev.gl wV) (.cons Ev.nm (.cons ?_ .nil)) eh.list) (by rfl))
 · obtain rfl:=GW m;refine(gQ.wP (a:=10) (G:=[nm "state",nm "sign"]) (i:=[]) s u v w y ⟨rfl,rfl,rfl,by decide,by decide,by decide,λ n h=>(by
     have :=eF h;simp at this)⟩ rfl (λ g D H j=>by
       refine cP (d9 j) ?_;rintro a b rfl;unfold J4;rw[D.params,D.dflt,D.kw];lia) (λ _ _ _ _ _ e=>by cases e) ?_).l;show Ev _ _ _ _ (Li (d4 (kx (d3 B d) (sg (B.getD d 0)))));generalize d3 B d=q;generalize sg (B.getD d 0)=x;have e:Li (d4 (kx q x))=if cY q.1 x=true then Li [.str x,.int (q.2.1+q.2.2),.int 1]else Li [.str q.1,.int (q.2.1+(if cY x q.1=true then 1 else 0)),.int (q.2.2+(if(x==q.1)=true then 1 else 0))]:=by unfold kx;split<;>rfl
   have f:∀c:Bool,I (if c=true then 1 else 0)=if c=true then I 1 else I 0:=λ c=>by cases c<;>rfl
   simp only[e];refine Ev.ite (Tr.cmp aD.k' Ev.nm (im (q:=q) (by rfl) (by rfl) (by decide) (by decide) rfl)) (λ _=>?_) (λ _=>?_);·exact Ev.list (Vm:=[.str x,.int (q.2.1+q.2.2),.int 1]) (e:=by show 3<=a9;decide) (.cons Ev.nm (.cons (Ev.bJ bb.fc (im (q:=q) (by rfl) (by rfl) (by decide) (by decide) rfl) (im (q:=q) (by rfl) (by rfl) (by decide) (by decide) rfl)) (.cons .int .nil)))
   · refine Ev.list (Vm:=[.str q.1,.int (q.2.1+(if cY x q.1=true then 1 else 0)),.int (q.2.2+(if(x==q.1)=true then 1 else 0))]) (e:=by show 3<=a9;decide) (.cons (im (q:=q) (by rfl) (by rfl) (by decide) (by decide) rfl) (.cons (Ev.bJ bb.fc (im (q:=q) (by rfl) (by rfl) (by decide) (by decide) rfl) ?_) (.cons (Ev.bJ bb.fc (im (q:=q) (by rfl) (by rfl) (by decide) (by decide) rfl) ?_) .nil)))
     · simp only[f];exact Ev.ite (Tr.cmp aD.jG Ev.nm (im (q:=q) (by rfl) (by rfl) (by decide) (by decide) rfl)) (λ _=>.int) (λ _=>.int)
     · simp only[f];exact Ev.ite (Tr.cmp aD.qD Ev.nm (im (q:=q) (by rfl) (by rfl) (by decide) (by decide) rfl)) (λ _=>.int) (λ _=>.int)
 ·exact Ev.list (Vm:=d4 (d3 B 0)) (e:=by show 3<=a9;decide) (.cons .str (.cons .int (.cons .int .nil)))
noncomputable def hw(F:List Int)(M:Int):Str×Int×Int:=(sg M,((F.filter λ x=>bF (x<M)).length:Nat),(F.count M:Nat))
def rF(e:u.2=true)(f:C∈B)(d:∀a,a∈B->a<=C)(h:i.lookup j=some (Ls B))(b:dX g j=true)(c:cG g (nm "max")=true):Ev u g i (.Call (.Name (nm "max") v) [.Name j J] [] Vg) (I C):=Ev.cA (Fn.CY e f d) (Ev.bl CX c) (.cons (Ev.nm h b) .nil)
def GY(j:B.length<=10)(k:0<=C)(g:C<65536)(f:C∈B)(b:∀a,a∈B->a<=C)(m:d3 B B.length=hw B C):St bH Lk bV ((nm "most",Li (d4 (d3 B B.length)))::ky B i) [] (gV.getD 3 b2) (.next ((nm "most",Li (d4 (d3 B B.length)))::ky B i) []):=by
 have n:(1000:Nat)<=a9:=by decide
 refine m.symm▸(St.ite (M:=ap) (Tr.cmp (V:=Li (d4 (hw B C))) (VS:=Li (d4 (hw B C))) (aD.kr (jN λ d e=>?_)) Ev.nm ?_) (λ h=>by cases h) (λ _=>ag.nil))
 · unfold d4 hw at e;simp only[aP,uR,or_false]at e;rcases e with rfl|rfl|rfl
   · refine⟨?_,dk _⟩;show cs (sg C)=true;unfold cs sg;simp;exact LI g (by decide)
   ·exact⟨rfl,dk _⟩
   ·exact⟨rfl,dk _⟩
 · refine Ev.list (Vm:=d4 (hw B C)) (e:=by show 3<=a9;decide) (.cons ?_ (.cons ?_ (.cons ?_ .nil)));·exact Ev.cA (Fn.nj (k) (Mo (LI g (by decide)))) (Ev.bl nn) (.cons (rF rfl f b (by rfl) (by rfl) (by rfl)) .nil)
   ·exact Ev.cA (Fn.j0 (B:=B.filter λ x=>bF (x<C)) (c6 (an (Ei _ _) j) (aE true))) (Ev.bl dY) (.cons (Ev.fe [nm "x"] B (λ x=>I x) (λ x=>[(nm "x",I x)]) (λ x=>bF (x<C)) (λ x=>.int x) (by rfl) (bg.iR rfl Ev.nm) (λ _=>rfl) (λ _ _=>.name) (λ x _=>.one (Tr.cmp aD.lt Ev.nm (rF rfl f b (by rfl) (by rfl) (by rfl)))) (λ x _ _=>Ev.nm) (a2 j (aE true))) .nil)
   ·exact Ev.jK JI Ks Fn.jL Ev.nm (.cons (rF rfl f b (by rfl) (by rfl) (by rfl)) .nil) (f:=by decide)
structure kz(F:List Int)(M:Int):Prop where
 two:2<=F.length
 oq:F.length<=10
 ps:∀p:List Nat,p.Perm (a1 F.length)->p.Pairwise (dD (cq F))->p=fX F
 low:0<=M
 high:M<65536
 mem:M∈F
 max:∀a,a∈F->a<=M
 most:d3 F F.length=hw F M
def G0:gV=[gV.getD 0 b2,gV.getD 1 b2,gV.getD 2 b2,gV.getD 3 b2]:=by lia
def xg(a:lY)(H:kz B C):ag bH Lk bV (kv B i) [] gV (.next ((nm "most",Li (d4 (d3 B B.length)))::ky B i) []):=by exact G0.symm▸(ag.cons (GR H.two H.oq H.ps) (ag.cons (GV a H.oq) (ag.cons (GX H.oq) (ag.cons (GY H.oq H.low H.high H.mem H.max H.most) ag.nil))))
noncomputable def lZ(l:List Int):Nat->List Int|0=>fA l|_=>fB l
def G1(a:lY)(d:kz (fA B) C)(e:kz (fB B) Vq):St bH Lk bV (eM B) [] (bZ.getD 9 b2) (.next (eM B) []):=by
 refine St.nt (v:=_) ([[Ld (sA B),Dl (fA B)],[Ld (sB B),Dl (fB B)]].map λ B=>Tu B) (λ _=>eM B) (λ _=>[]) (λ i=>[(nm "numbers",Ls (lZ B i)),(nm "signs",Lt ((lZ B i).map sg))]) (λ i=>.next ((nm "most",Li (d4 (d3 (lZ B i) (lZ B i).length)))::ky (lZ B i) (eM B)) []) (bg.D8 (x:=[[Ld (sA B),Dl (fA B)],[Ld (sB B),Dl (fB B)]]) rfl ?_) (λ i p f=>?_) (λ i y q c=>?_) (λ i b=>?_) λ i b=>?_;·refine Ev.list (Vm:=[.tuple [Ld (sA B),Dl (fA B)],.tuple [Ld (sB B),Dl (fB B)]]) (e:=by show 2<=a9;decide) (.cons (Ev.tuple (Vm:=[Ld (sA B),Dl (fA B)]) (f:=by show 2<=a9;decide) (.cons Ev.nm (.cons Ev.nm .nil))) (.cons (Ev.tuple (Vm:=[Ld (sB B),Dl (fB B)]) (f:=by show 2<=a9;decide) (.cons Ev.nm (.cons Ev.nm .nil))) .nil))
 ·rcases sG f with⟨rfl,rfl⟩|⟨rfl,rfl⟩<;>exact .lb (by decide)
 · have g:y=nm "numbers"\/y=nm "signs":=by
     simp only[aP,uR,or_false,LO]at c;exact c.imp (·.1) (·.1)
   rcases g with rfl|rfl<;>rfl
 · refine aH (oZ b) ?_ λ h=>?_
   · rintro rfl;exact xg a (B:=fA B) d
   · obtain rfl:=h;exact xg a (B:=fB B) e
 ·exact⟨⟨rfl,rfl,rfl,rfl,trivial⟩,rfl⟩
noncomputable def kA(F WL:List Int):List Int:=(((bx F).zip (bx WL)).filter λ q=>q.1 !=q.2).map λ q=>if q.2<q.1 then 1 else-1
noncomputable def io(F G:List Int):List Int:=kA F G++[eX (bF (G.length<F.length)) (bF (F.length<G.length))]
def G2(F G:List Int):(iQ (F.map .int) (G.map .int)).map PV.d=(F.zip G).map λ q=>Tu [.int q.1,.int q.2]:=by
 unfold iQ;simp only[List.zip_map,ec,ec];rfl
def G3:St bH Lk bV (eM B) [] (bZ.getD 10 b2) (.next ((nm "unlike",Ls (io (fA B) (fB B)))::eM B) []):=by
 refine am (gT B) λ c g=>?_;have t:(1000:Nat)<=a9:=by decide
 have f:=il (fA B);have i:((bx (fA B)).zip (bx (fB B))).length<=10:=by rw[List.length_zip];exact j4 fx (dS f c)
 have m:(kA (fA B) (fB B)).length<=10:=by unfold kA;rw[be];exact an (Ei _ _) i
 refine St.assign (V:=Ls (io (fA B) (fB B))) (lR (B:=kA (fA B) (fB B)) (VL:=[eX (bF ((fB B).length<(fA B).length)) (bF ((fA B).length<(fB B).length))]) ?_ (Ev.list (Vm:=[.int (eX (bF ((fB B).length<(fA B).length)) (bF ((fA B).length<(fB B).length)))]) (e:=by show 1<=a9;decide) (.cons ?_ .nil)) (by simp;exact a2 m (aE true))) (by rfl)
 · have e:Ls (kA (fA B) (fB B))=Li ((((bx (fA B)).zip (bx (fB B))).filter λ q=>q.1 !=q.2).map λ q=>.int (if q.2<q.1 then 1 else-1)):=by unfold kA Ls;rw[ec];rfl
   simp only[e];refine Ev.fe [nm "k",nm "j"] ((bx (fA B)).zip (bx (fB B))) (λ q=>Tu [.int q.1,.int q.2]) (λ q=>[(nm "k",I q.2),(nm "j",I q.1)]) (λ q=>q.1 !=q.2) (λ q=>.int (if q.2<q.1 then 1 else-1)) (by rfl) ?_ (λ _=>rfl) (λ _ _=>.lb (by decide)) (λ q _=>.one (Tr.cmp aD.nE Ev.nm Ev.nm)) (λ q _ _=>?_) (a2 i (aE true))
   · rw[<-G2];exact bg.zip rfl (Ev.bl t5) (rC Ev.nm (c6 c (aE true)) (by rfl)) (rC Ev.nm (c6 g (aE true)) (by rfl))
   · have j:I (if q.2<q.1 then 1 else-1)=if bF (q.2<q.1)=true then I 1 else I (-1):=by by_cases h:q.2<q.1<;>simp[h]
     simp only[j];exact Ev.ite (Tr.cmp aD.gt Ev.nm Ev.nm) (λ _=>.int) (λ _=>Ev.h7 .int)
 · have e:∀a b:Nat,bF ((a:Int)<(b:Int))=bF (a<b):=λ a b=>by rw[decide_eq_decide];exact Mn
   have d:∀{y:Str}{o s r:Pos}{F:List Int},F.length<=10->(eM B).lookup y=some (Ls F)->dX bV y=true->Ev Lk bV (eM B) (.Call (.Name (nm "len") o) [.Name y s] [] r) (I (F.length:Nat)):=λ k n f=>Ev.cA (Fn.j0 (c6 k (aE true))) (Ev.bl dY) (.cons (Ev.nm n f) .nil);simp only[<-e,<-e];exact Ev.bJ bb.qi (Ev.cmp aD.gt (d c (by rfl) (by rfl)) (d g (by rfl) (by rfl))) (Ev.cmp aD.lt (d c (by rfl) (by rfl)) (d g (by rfl) (by rfl)))
def G4(n:Nat):Le n (-1)=n-1:=by
 rcases n with _|n;·rfl
 · unfold Le;rw[if_pos (by decide),show(-1:Int)+((n+1:Nat):Int)=(n:Int)from Int.neg_add_cancel_left 1 n|>λ h=>by rw[Int.natCast_succ,Un (n:Int) 1];exact h,Te (JZ.mpr (I5 n)),Pl (IH _)];rfl
def G5(l:List Vb):eE l none (some (-1))=l.dropLast:=by
 show(l.drop 0).take (Le l.length (-1)-0)=_;simp only[(G4 _),Lx,KR,List.dropLast_eq_take]
def Ev.G6(f:Ev u g i z (Bo M))(h:M=true->Ev u g i Vl (Bo We)):Ev u g i (.BoolOp .And [z,Vl] v) (Bo (M&&We)):=λ X w A c n s E R=>BoolOp_and (f.use c R (Kp.refl s) λ r o l _ d e=>by
  obtain rfl:=l.bool;refine zF ?_;rcases M with _|_;·exact⟨.k8,d⟩
  ·exact BoolOp_one ((h rfl).use c e d λ q p m _ j _=>⟨m,j⟩))
def aD.xh(a:cz VG):aD .Eq (.d VG) (.d VG) true:=by
 have :=aD.eq a a;rwa[PD _ a.1]at this
noncomputable abbrev fY(WK WL:List Str):Int:=eX (ck WL WK) (ck WK WL)
noncomputable def fZ(l:List Int):List Int:=[fY ((bx (fA l)).map sg) ((bx (fB l)).map sg),fY ((bx (fB l)).map sg) ((bx (fA l)).map sg),fY (sA l) (sA l),fY (sA l).dropLast (sA l),fY (sA l) (sA l).dropLast]
noncomputable abbrev xi(l:List Int):List (Str×PV):=(nm "unlike",Ls (io (fA l) (fB l)))::eM l
noncomputable abbrev rG(l:List Int):List (Str×PV):=(nm "compared",Ls (fZ l))::xi l
def ot(d:B.length<=10)(f:∀m:List Str,m.Perm (B.map sg)->M7 m=true->m=(bx B).map sg)(h:Ev Lk g i z (Lt (B.map sg)))(c:cG g (nm "sorted")=true)(j:autoParam (∀b a,bD (z::b) a=(ap,He z a)::bD b a) bc):Ev Lk g i (.Call (.Name (nm "sorted") v) [z] [] J) (Lt ((bx B).map sg)):=Ev.cA (Fn.t0 (G:=B.map sg) (by rw[be];exact c6 d (aE true)) f) (Ev.bl lk c) (.cons h .nil j)
def l0(f:Ev Lk g i z (Lt G))(h:Ev Lk g i Vl (Lt VJ))(c:cG g (nm "three_way_cmp")=true)(d:autoParam (∀b a,bD (z::b) a=(ap,He z a)::bD b a) bc)(e:autoParam (∀b a,bD (Vl::b) a=(ap,He Vl a)::bD b a) bc):Ev Lk g i (.Call (.Name (nm "three_way_cmp") v) [z,Vl] [] J) (I (fY G VJ)):=Ev.ed xb (Cr (a:=11)) (Ev.gl xa c) (.cons f (.cons h .nil e) d)
def G7(b:Ev Lk g i z (Lt G))(c:G.length<=1000):Ev Lk g i (.Subscript z (.Slice none none none v) J) (Lt G):=by
 have :=Ev.slice (v:=v) (J:=J) b .none .none (by simpa using an c (by decide));rwa[Gv]at this
def xj(b:Ev Lk g i z (Lt G))(c:G.length<=1000):Ev Lk g i (.Subscript z (.Slice none (some (.UnaryOp .USub (.Constant (.int 1) a J) Vg)) none v) VA) (Lt G.dropLast):=by
 have :=Ev.slice (v:=v) (J:=VA) b .none (.some (Ev.h7 (v:=Vg) (Ev.int (C:=1) (a:=a) (v:=J)))) (by simpa using an c (by decide));rw[show(-(1:Int))=-1 from rfl,G5,<-List.map_dropLast]at this;exact this
def G8(d:∀m:List Str,m.Perm (sA B)->M7 m=true->m=(bx (fA B)).map sg)(e:∀m:List Str,m.Perm (sB B)->M7 m=true->m=(bx (fB B)).map sg):St bH Lk bV (xi B) [] (bZ.getD 11 b2) (.next (rG B) []):=by
 refine aj λ f=>am (gT B) λ b c=>am (on B) λ a g=>f ?_;exact St.assign (V:=Ls (fZ B)) (Ev.list (Vm:=(fZ B).map .int) (e:=by show 5<=a9;decide) (.cons (l0 (ot b d Ev.nm (by rfl)) (ot c e Ev.nm (by rfl)) (by rfl)) (.cons (l0 (ot c e Ev.nm (by rfl)) (ot b d Ev.nm (by rfl)) (by rfl)) (.cons (l0 Ev.nm (G7 Ev.nm (a2 a (aE true))) (by rfl)) (.cons (l0 (xj Ev.nm (a2 a (aE true))) Ev.nm (by rfl)) (.cons (l0 Ev.nm (xj Ev.nm (a2 a (aE true))) (by rfl)) .nil)))))) (by rfl)
def G9(g:(io (fA B) (fB B))[0]?=some C)(c:fZ B=[C,0-C,0,-1,1]):St bH Lk bV (rG B) [] (bZ.getD 12 b2) (.ret (Bo true)):=by
 have a:∀{b m k:Pos}{j:Nat},Ev Lk bV (rG B) (.Subscript (.Name (nm "unlike") m) (.Constant (.int 0) j b) k) (I C):=λ{_ _ _ _}=>Ev.dI (Vm:=(io (fA B) (fB B)).map .int) (C:=0) Ev.nm .int (by decide) (by decide) (by rw[a'];show Option.map _ (io (fA B) (fB B))[0]?=_;rw[g];rfl);refine St.ret (Ev.G6 (Ev.cmp (V:=Ls (fZ B)) (VS:=Ls (fZ B)) (aD.xh (rA _)) Ev.nm ?_) λ _=>?_)
 · rw[c];exact Ev.list (Vm:=[.int C,.int (0-C),.int 0,.int (-1),.int 1]) (e:=by show 5<=a9;decide) (.cons a (.cons (Ev.bJ bb.sub .int a) (.cons .int (.cons (Ev.h7 .int) (.cons .int .nil)))))
 · refine Ev.cmp (V:=Li []) (VS:=Li []) (aD.xh (jN λ d f=>by cases f)) ?_ (Ev.list (Vm:=[]) .nil);have e:Li []=Li (((fZ B).filter λ _=>ap).map λ x=>Pn x):=by rw[show(fZ B).filter (λ _=>ap)=[]by rfl];rfl
   simp only[e];exact Ev.fe [nm "number"] (fZ B) (λ x=>I x) (λ x=>[(nm "number",I x)]) (λ _=>ap) (λ x=>.int x) (by rfl) (bg.iR rfl Ev.nm) (λ _=>rfl) (λ _ _=>.name) (λ x _=>.one (Tr.cmp (aD.C1 (VF:="int")) (Ev.gG Fn.C0 (Ev.bl CZ) (.cons Ev.nm .nil)) (Ev.bl ql))) (λ _ _ h=>by cases h) (by show 5<=a9;decide)
structure xk(l:List Int):Prop where
 cd:ie (sA l) (sB l)=(gU (fA l) (fB l)).map λ x=>((fA l).count x,(fB l).count x,sg x)un:bf (sA l) (sB l) (sA l).length=((da (fA l) (fB l)).map sg,(df (fA l) (fB l)).map sg)G':∀x∈da (fA l) (fB l),0<=x
 Ha:∀x∈df (fA l) (fB l),0<=x
 xl:∀m:List Str,m.Perm (sA l)->M7 m=true->m=(bx (fA l)).map sg
 xm:∀m:List Str,m.Perm (sB l)->M7 m=true->m=(bx (fB l)).map sg
 Hb:cS (aY (fA l)) (sg 65536)Hc:cS (aY (fB l)) (sg 65536)sd:(aM (aY (fA l)) (aY (fB l)) ((aY (fA l)).length+(aY (fB l)).length)).2.2=((oA l).map sg,(oB l).map sg)eo:∃M,kz (fA l) M
 et:∃M,kz (fB l) M
 cmp:∃u,(io (fA l) (fB l))[0]?=some u/\fZ l=[u,0-u,0,-1,1]
def Hf:bZ=[bZ.getD 0 b2,bZ.getD 1 b2,bZ.getD 2 b2,bZ.getD 3 b2,bZ.getD 4 b2,bZ.getD 5 b2,bZ.getD 6 b2,bZ.getD 7 b2,bZ.getD 8 b2,bZ.getD 9 b2,bZ.getD 10 b2,bZ.getD 11 b2,bZ.getD 12 b2]:=by lia
def Hg(WK WL:List Int):(da WK WL).length<=WK.length/\(df WK WL).length<=WL.length:=by
 unfold da df;simp only[be,be];exact⟨an (Ei _ _) (by simp),an (Ei _ _) (by simp)⟩
def xn(h:C∈gq B VL):C∈B:=lX ((ea _).mem_iff.mp (hu.mp h).1)
def xo(WK WL:List Int):(gq WK WL).length<=WK.length:=an (Ei _ _) (by rw[il];exact i7 _)
def ag.Hh(h:ag A u g i [] Vp VY):ag A u g i D Vp VY:=λ X w a d c f s E m b O F=>h X w a d c f s E m b O {F with own:=λ _ _ e=>(nomatch e),nodup:=ND,apart:=λ _ _ _ _ _ e=>(nomatch e)}
def Hi(f:lY)(i:B.length<=63)(P:xk B):Bd bH Lk bV [(nm "script",Ls B)] bZ (Bo true):=by
 refine aj λ n=>am (gT B) λ a b=>am (Hg (fA B) (fB B)) λ k m=>?_;have c:(fA B++fB B).length<=20:=by rw[eH];exact e4 a b (aE true)
 refine ai P.eo λ o d=>ai P.et λ p e=>ak P.cmp λ u j g=>n ?_;unfold Bd;exact Hf.symm▸(ag.cons (F1 i) (ag.weaken (VN:=[(nm "rows",RR B)]) (ag.cons Gr (ag.cons Gs (ag.cons Gu (ag.Hh (ag.weaken (VN:=eM B) (ag.cons GA (ag.cons (GG P.cd) (ag.cons (GJ P.un P.G' P.Ha (jo a k (aE true)) (jo b m (aE true))) (ag.cons GK (ag.cons (GN P.xl P.xm P.Hb P.Hc P.sd (λ x h=>(rB (xn h)).1) (λ x h=>(rB (xn h)).1) (jo c (xo (fA B++fB B) (fB B)) (aE true)) (jo c (xo (fA B++fB B) (fA B)) (aE true))) (ag.weaken (VN:=eM B) (ag.cons (G1 f d e) (ag.cons G3 (ag.cons (G8 P.xl P.xm) (ag.last (G9 j g) trivial)))) ⟨rfl,rfl,rfl,rfl,trivial⟩)))))) ⟨rfl,rfl,rfl,rfl,trivial⟩))))) ⟨rfl,trivial⟩))
noncomputable abbrev rH:OpenLaw:=Lg
noncomputable abbrev ou:RowW:=rH.row.toRowW
def xp:rH.wellSaid=true:=by decide+kernel
def xq:ou.promised:=⟨[.list []],by decide+kernel,by decide+kernel⟩
def Hj:opensWell P0=true:=by decide+kernel
def Hk:P0.bare:=⟨rfl,rfl,rfl,rfl,rfl,by decide+kernel⟩
theorem xr:∀{c:List TK},O4 [] c .int=true->∃l:List Int,c=l.map .int
 |[],_=>⟨[],rfl⟩|x::c,h=>by
  have h:(WShape.has [] x .int&&O4 [] c .int)=true:=by unfold O4 at h;exact h
  refine am (x4.mp h) λ a WK=>?_;refine ai (xr WK) ?_;rintro l rfl;cases x with
  |int i=>exact⟨i::l,rfl⟩|_=>exact(Jn (show ap=true from a)).elim
def Hl{f:List TK}(h:ou.claim.pre f=true):∃l:List Int,f=[.list (l.map .int)]/\l.length<=63:=by
 refine am (pre_splitW h) λ a b=>?_;refine bS (hasAllW_cons (show WShape.hasAll [] f [.list .int]=true from a)) λ d r j g i=>?_;obtain rfl:=j;have :r=[]:=by
  rcases r with _|⟨_,_⟩;·rfl
  ·exact(Jn (show ap=true from i)).elim
 subst this;cases d with
 |list m=>
  refine ai (xr (c:=m) ((Tz _).symm.trans g)) ?_;rintro l rfl;refine bj l rfl ?_;have b:WTm.holds [] (.and (.not (.lt (.lit (.int 63)) (.len (.arg 0)))) (.lit (.bool true))) {args:=[.list (l.map .int)]}=true:=b;have k:∀c:Bool,WTm.holds [] (.and (.not (.lit (.bool c))) (.lit (.bool true))) {args:=[]}=true->c=ap:=λ c h=>by
   cases c;·rfl
   ·exact(Jn (show ap=true from h)).elim
  have e:=of_decide_eq_false (k (bF ((63:Int)<((l.map WData.int).length:Int))) b);rw[be]at e;exact JZ.mp (JO.mp e)|_=>exact(Jn (show ap=true from g)).elim
def kY.tabs(H:kY c VV V6):∀b,bC b->V6.abs.heap.get? b=some (Jw #[]):=by
 have tab:∀P,IF P 314=true->(P,Jw #[])∈d8 c.params->V6.abs.heap.get? P=some (Jw #[]):=λ P h g=>by
  refine ak (bh.mp (OQ.mp H.objs _ g)) λ o j e=>?_;have :o=Jw #[]:=by
   obtain⟨k,d,f,l⟩:=o;cases f<;>first|exact e|cases e
  subst this;exact db (by rw[H.size];exact h) j rfl
 intro b a;unfold bC c8 at a;simp only[JW]at a;rcases a with(a|a)|a<;>obtain rfl:=Ky a;·exact tab _ rfl (ct (i:=62) (by lia))
 ·exact tab _ rfl (ct (i:=76) (by lia))
 ·exact tab _ rfl (ct (i:=265) (by lia))
def Hm(h:pR V'=1):V'=#[.finished]:=by
 obtain⟨l⟩:=V';obtain _|⟨a,_|⟨b,r⟩⟩:=l;·cases h
 ·cases a<;>first|rfl|cases h
 ·cases a<;>cases h
def xt(w:ar):(∃s,AfterRun (opening P0) w s)/\∀s,AfterRun (opening P0) w s->∃f,fenceModules? P0 s=some f/\f.gens=#[]/\∃c,TopRan P0 w f c/\c.asleep/\Qf c.gens=ap/\c.heap.isNs FG=true/\c.heap.isNs IT=true/\c.heap.bltView=Rn/\c.heap.bmainOk=true/\aC w c.heap/\c.heap.objs.size=314/\∀b,bC b->c.heap.get? b=some (Jw #[]):=by
 have h:=boot_open (p:=P0) (N:=600) zZ rfl z0 w;refine aj λ C=>ak (bh.mp h) λ f u T=>?_;unfold fencedOpening at u;rw[<-table_eq_tree]at u;refine ak (dg.mp u) λ s WZ WL=>C ?_;have A:=U9 WZ;refine dv ⟨s,A⟩ (λ Xb W3=>(aj λ C=>?_));obtain rfl:Xb=s:=U8 W3 A;have WM:f.asleep:=Qg (fence_lifeW WL) A.life;simp only[LO]at T;refine iB T λ i r D E=>?_;have WQ:f=(pQ w.params f.os).abs:=by
   obtain⟨Xd,g,d,t,os⟩:=f;dsimp only at i r D E;subst i r D E;show _=(⟨R2 (pP w.params) 11 {},#[],boot_drawn,boot_toks,os⟩:aa);rw[zK]
 refine ai (zW w f.os) λ S H=>?_;have R:=H.runs;rw[<-WQ]at R;have G:=Hm H.gens;have L:Qf S.abs.gens=ap:=by
   show Qf S.gens=ap;rw[G];lia
 refine ai ((halts_iff (M:=au P0 w) (st:=[])).mpr ⟨R,L⟩) λ n W2=>bI (zR WM W2) λ m Xc c k W4 W0 O=>?_;have e:c=S.abs:=Shared.eq_of_forget_eq' W0 λ g W1=>by
   have :g∈S.gens:=W1;rw[G]at this;obtain rfl:g=.finished:=by simpa using this
   rfl
 subst e;have v:=H.kX;unfold pS at v;simp only[kn]at v;refine am v λ j U=>?_;refine am j λ j B=>?_;refine am j λ j y=>?_;obtain⟨⟨⟨⟨W6,W7⟩,W8⟩,W9⟩,W'⟩:=j;have Q:=H.old;simp only[uW,Kg,OC,and_true]at Q;refine sH Q λ WR WS WU WV WW WX WY WT=>C ?_;have WK:∀{a:Nat},IF a 314=true->IF a S.n=true:=λ h=>by rw[H.size];exact h
 refine⟨f,WL,r,S.abs,⟨⟨m,Xc,k,W4⟩,O,Shared.rest_eq H.zS,λ b o J l=>?_,?_,?_,Pin.keysAreStrs_of y,λ x W5=>(Pin.builtinOf_eq B x).trans (Heap.of_bltView B H.blt x W5),?_,gens_of_done W8,names_of_bound W7,?_⟩,Qg O WM,L,y,B,H.blt,U,H.left,(PC _ _ _).trans H.size,H.tabs⟩
 · rw[i]at J l;have k:=z1 w.params J (λ q=>l (.inr (.inl q))) (λ q=>l (.inl q)) (λ q=>l (.inr (.inr (by rw[PE (tB _).1,(tB _).2,q]))));simp only[aP,LO,uR,or_false]at k;rcases k with⟨rfl,rfl⟩|⟨rfl,rfl⟩|⟨rfl,rfl⟩|⟨rfl,rfl⟩|⟨rfl,rfl⟩|⟨rfl,rfl⟩|⟨rfl,rfl⟩|⟨rfl,rfl⟩;·exact db (WK rfl) WR rfl
   ·exact db (WK rfl) WS rfl
   ·exact db (WK rfl) WU rfl
   ·exact db (WK rfl) WV rfl
   ·exact db (WK rfl) WW rfl
   ·exact db (WK rfl) WX rfl
   ·exact db (WK rfl) WY rfl
   ·exact db (WK rfl) WT rfl
 ·rw[tA];exact Heap.accountedI_of_ok W'
 ·rw[tA,i];exact statics_of_ok W6
 · obtain⟨bm,ob,V,_,Y,WN,WO,_⟩:=Heap.bmainOk_spec U;exact kO bm ob ((PE y _).trans V) Y WN WO
 ·rw[i];exact laid_of_kept W9
def rI:cu 313 312 bZ bV [nm "script"]:=.mk' (λ P=>by lia) (λ P=>by lia) (λ P=>⟨by lia,by lia,by lia,by lia,by lia,by lia⟩) (by decide) (by rfl) (by rfl) ⟨rfl,rfl⟩ rfl rfl rfl
def Hn(h:Bd bH Lk bV [(nm "script",Ls B)] bZ (Bo true)):ef (13,true) (.ref 313) [Ls B] (Bo true):=ef.of (j:=bH.qual) rI (λ P doc b a=>by
  refine ai (k2 a) ?_;rintro v rfl;lia) rfl (λ P=>by lia) h
def Ho(L:aC c s)(i:s.isNs FG=true):isTheDefsW P0 s (nm "law"):=by
 refine aj λ k=>aW (L.fn (rI.fn c.params) rfl) λ o doc j g=>mB (rI.ok c.params) λ l a b d e f=>k ?_;refine⟨313,o,_,(cf c.params 313).params,bZ,bV,((by refine(L.mg.eq_nsMap).symm▸?_;exact PE i _:globalOf s (nm "law")=a5 c.params (nm "law"))).trans (by lia),j,g,by lia,by lia,by lia,rfl,a,d,e,b,f,.inl ⟨by lia,by lia⟩,[],by lia,.inl ⟨rfl,by lia⟩⟩
def xu(L:aC c s)(f:bC h):isCodeTable s h/\∃g,s.get? h=some (Jw g):=by
 unfold bC c8 at f;simp only[JW]at f;have i:∀{j P:ae},U3 s j P->isCodeTable s P:=λ q=>by
  obtain⟨o,k,_,_,_,_,_,_,_,a,h,d,e,_⟩:=q;exact kP _ o k a h d e
 rcases f with(f|f)|f<;>obtain rfl:=Ky f;·exact dv (i L.qF) (let⟨g,e,_⟩:=L.g8;⟨g,e⟩)
 ·exact dv (i L.BC) (by rcases L.g' with e|⟨_,e,_⟩<;>exact⟨_,e⟩)
 ·exact dv (i L.qG) (let⟨g,e,_⟩:=L.g9;⟨g,e⟩)
def xv(P:a3)(h:a7)(v:ab):TK->Prop
 |.int n=>∃t,v=.int n t|.list l=>∃a b,v=.ref a/\h.get? a=some {cls:=.type "list",data:=.seq b.toArray}/\Qu P h b l|_=>True
def xw{d:TK}(r:Well Vv s U d):xv Vv s U d:=Well.casesOn (motive_1:=λ U d _=>xv Vv s U d) r trivial (λ _=>trivial) (λ _ t=>⟨t,rfl⟩) (λ _ _=>trivial) (λ _ _=>trivial) (λ _ _=>trivial) (λ _=>trivial) (λ a b=>⟨_,_,rfl,a,b⟩) (λ _ _=>trivial) (λ _ _=>trivial) (λ _ _ _ _=>trivial) (λ _ _ _ _=>trivial) (λ _ _ _ _=>trivial)
def xx(P:a3)(h:a7)(b:List ab):List TK->Prop
 |[]=>b=[]|d::l=>∃v a,b=v::a/\Well P h v d/\Qu P h a l
def ov{l:List TK}(r:Qu Vv s Vc l):xx Vv s Vc l:=WellAll.casesOn (motive_2:=λ Vc l _=>xx Vv s Vc l) r rfl (λ a b=>⟨_,_,rfl,a,b⟩)
def Hp:∀{l:List Int}{a:List ab},Qu Vv s a (l.map .int)->∃b,ga (cb bC s) a (l.map .int) b:=by
 intro l;induction l with
 |nil=>intro a W;rw[show a=[]from ov W];exact⟨[],.nil⟩|cons n l c=>
  intro a W;refine bS (ov W) λ v e d x r=>?_;obtain rfl:=d;refine ai (xw x) ?_;rintro t rfl;exact ai (c r) λ b s=>⟨_,.cons (.int _ _) s⟩
def Hq:Rm (13,true) callerA:=⟨by decide,by decide,λ _=>rfl⟩
def Hr(WW:∀l:List Int,l.length<=63->Bd bH Lk bV [(nm "script",Ls l)] bZ (Bo true)):rH.Holds:=by
 refine⟨xp,row_said xp,xq,⟨Hk,Hj,rfl⟩,xq.witness,λ WM=>⟨(xt WM).1,λ W7 WZ=>(aj λ B=>?_)⟩⟩;obtain⟨W8,O,T,s,M,W1,U,Q,_,_,_,L,Xd,W0⟩:=(xt WM).2 W7 WZ;refine B ⟨W8,O,T,s,M,λ n Y=>?_,λ WO WQ=>(nomatch WQ),λ WO WQ=>(nomatch WQ),?_⟩
 · obtain rfl:n=nm "law":=by simpa using(show n∈[nm "law"]from Y)
   exact Ho L Q
 refine ClaimW.callFrom_of_specN (c:=ou.claim) (tree:=λ g=>do match<-nsGet mainNs (nm "law")with
     |some f=>do ret (<-I1 f g)|none=>unsupported "claim.caller:no-such-global") W1 U λ k WU V ni D=>?_;refine aj λ B=>?_;refine ai (KZ.mp (layAllW_isSome (R:=[]) (cl:=classAt s.heap) (P:=WM.params) (ord:=ni) (λ c p=>by cases p) k ou.args s (pre_splitW WU).1)) λ W4 WP=>?_;obtain⟨g,d⟩:=W4;have keeps:=layAllW_keeps _ _ _ WP;refine ci (reads_layAllW D _ _ _ WP V d.heap (λ _ _ e=>e)) λ G WY Xb Xc=>?_;have W:Qu WM.params d.heap g k:=well_layAllW D k s _ WP _ λ _ _ e=>e;refine ak (Hl WU) ?_;rintro l rfl WX;have WS:aC WM d.heap:=L.keeps keeps;have A:∀WK,bC WK->d.heap.get? WK=some (Jw #[]):=λ WK WT=>keeps _ _ (W0 WK WT);obtain⟨v,rfl,a,j,C,u⟩:∃v,g=[v]/\∃a j,d.heap.get? a=some {cls:=.type "list",data:=.seq j.toArray}/\v=.ref a/\Qu WM.params d.heap j (l.map .int):=by
   refine bS (ov W) λ v j z WO W'=>?_;obtain rfl:=z;refine bS (xw WO) λ a g z e WK=>?_;obtain rfl:=z;exact⟨_,congrArg _ (ov W'),_,_,e,rfl,WK⟩
 obtain⟨rfl,u⟩:=u;obtain⟨bs,N⟩:=Hp u;refine B ?_;have W6:aU bC d.heap [.ref a] [Ls l]:=.cons ⟨_,Reads.list (dW.mpr ⟨(λ WL=>by have :=A a WL;rw[C]at this;cases this),⟨rfl,rfl⟩,C⟩) rfl rfl N⟩ .nil;have WV:∀WK,¬FA callerA WK:=λ WK W5=>by obtain⟨l',e,WO,WQ,_⟩:=W5;cases(show some []=some l' from e);cases WQ
 refine⟨_,d,WP,al (wpAny_nsGet (m:=a5 WM.params) WS.mg ?_)⟩;rw[show a5 WM.params (nm "law")=some (.ref 313)by lia];refine al (aG (Hn (WW l WX) bC WM callerA Hq {d with gens:=#[]} [.ref a] _ WS (λ WK WT=>WS.tabs WT) ⟨λ _ WL=>WL,λ WK WL=>(WV WK WL).elim,⟨[],rfl,λ _ h=>by cases h⟩,λ _ _ WL n=>(n WL).elim⟩ W6) (λ v W9⟨r,K,E⟩=>ah ⟨_,rfl,?_,?_,?_,(λ WL=>nomatch WL)⟩) λ _ _ WO=>WO)
 · obtain rfl:=r.bool;have kp:KX bC d.heap W9.heap:=λ WK WR n e=>K.ext.keep WK WR (λ _=>⟨n,WV WK⟩) e;refine .inl ⟨_,rfl,λ _=>rfl,⟨.bool true,[.list (l.map .int)],[],G,.bool true,WY.keepsK λ WK WR e p=>?_,by lia,λ _=>⟨.nil,(λ _ h=>nomatch h),(λ _ h=>nomatch h)⟩,λ _ _=>ident_freeW rfl rfl rfl _ _⟩,(λ i t=>nomatch(show none=some i from t)),(λ WK WR e _ _=>?_),(λ i t=>nomatch(show i∈[]from t))⟩
   · refine kp WK WR (λ WL=>?_) e;rw[A WK WL]at e;obtain rfl:=ax e;exact p rfl
   · by_cases WL:bC WK
     · refine am (xu WS WL) λ c1 _=>?_;obtain⟨_,W3,J⟩:=xu E WL;rw[A WK WL]at e;obtain rfl:=ax e;exact .inr (.inl ⟨c1,rfl,#[],W3,rfl,by rw[J];simp[Jw]⟩)
     ·exact .inl (kp WK WR WL e)
 ·refine aW K λ _ _ e _=>?_;subst e;exact(layAllW_rest _ _ _ WP).2.2.1
 ·refine aW K λ _ _ e _=>?_;subst e;rfl
structure TOk(led:Bool)(n:Nat)(t:cr):Prop where
 plain:t.plain=true
 led:t.led=led
 l3:t.dummies=#[]size:t.place.size=n
 rise:t.place.toList.Pairwise (·<·)
def ow(h:VP.toList.Pairwise (·<·))(g:VP[a]?=some x)(j:VP[b]?=some Vs)(q:a<b):x<Vs:=by
 refine ai (eB.mp g) λ c e=>?_;refine ai (eB.mp j) λ d f=>?_;have :=Mw.mp h a b (by simpa using c) (by simpa using d) q;simp only[Array.getElem_toList]at this;simp only[e,f]at this;exact this
theorem rJ{b:Array Nat}{j:Nat}(h:b.toList.Pairwise (·<·)):∀(c lo a:Nat),a<=lo+c->a<=b.size->lo<=a->(∀i v,b[i]?=some v->i<lo->v<j)->(∀i v,b[i]?=some v->a<=i->j<=v)->∃r,M5 b j c lo a=r/\r<=b.size/\(∀i v,b[i]?=some v->i<r->v<j)/\(∀i v,b[i]?=some v->r<=i->j<=v)
 |0,lo,a,k,f,n,l,m=>⟨lo,rfl,j4 n f,l,λ i v e q=>m i v e (j4 k q)⟩|c+1,lo,a,k,f,n,l,m=>by
   show∃r,(if lo<a then(if b.getD ((lo+a)/2) j<j then M5 b j c ((lo+a)/2+1) a else M5 b j c lo ((lo+a)/2))else lo)=r/\_;by_cases q:lo<a
   · rw[if_pos q];have o:(lo+a)/2<b.size:=yN f q;have d:b[(lo+a)/2]?=some b[(lo+a)/2]:=hq o;have t:b.getD ((lo+a)/2) j=b[(lo+a)/2]:=by rw[e0,d];rfl
     refine t.symm▸?_;split
     · rename_i s;refine rJ h c _ a (j4 (yM k) (gp (H8 (sj q)) c)) f (yA q o) (λ i v e r=>?_) m;by_cases g:i=(lo+a)/2;·subst g;rw[d]at e;obtain rfl:=ax e;exact s
       ·exact LC (ow h e d (jd r g)) s
     · rename_i p;refine rJ h c lo _ (dF (bA (kL (aB _) (oD q)) k)) (j5 o) (sj q) l (λ i v e r=>?_);by_cases g:i=(lo+a)/2;·subst g;rw[d]at e;obtain rfl:=ax e;exact j8 p
       ·have :=ow h d e (mn g (oC r));exact j4 (j8 p) (j5 this)
   · rw[if_neg q];exact o8 lo rfl (j4 n f) l (λ i v e r=>m i v e (j4 (j8 q) r))
def rK(j:Nat)(h:VP.toList.Pairwise (·<·)):uX VP j<=VP.size/\(∀i v,VP[i]?=some v->i<uX VP j->v<j)/\(∀i v,VP[i]?=some v->uX VP j<=i->j<=v):=by
 refine aj λ b=>?_;obtain⟨r,e,a⟩:=rJ (j:=j) h VP.size 0 VP.size (bE) (gx) (bE) (λ _ _ _ q=>hC q) (λ i v e q=>by obtain⟨a,_⟩:=eB.mp e;exact dR a q);refine b ?_;unfold uX;refine e.symm▸?_;exact a
def Hs:∀{m:List Nat},Wc.Nodup->(∀x∈Wc,x∈m)->Wc.length<=m.length:=by induction Wc with
 |nil=>intro m _ _;exact dk _|cons a Wc i=>
  intro m g h;refine am (Jd.mp g) λ d f=>?_;have b:=h a (.head _);have :=i (m:=m.erase a) f λ x c=>(List.mem_erase_of_ne (λ(e:x=a)=>d (e▸c))).mpr (h x (.tail _ c));simp only[List.length_erase_of_mem b]at this;have :0<m.length:=Qz b;simp only[y3];exact an (H8 ‹_›) (Ja (Lh this))
def TOk.slot(T:TOk M a Vy)(j:Nat):(j∈Vy.place.toList/\∃i,Vy.slot j=.live i)\/(j∉Vy.place.toList/\Vy.slot j=.empty):=by
 refine aj λ l=>a4 (rK j T.rise) λ m b c=>l ?_;unfold SetTable.slot;by_cases q:Vy.place[uX Vy.place j]?=some j;·left;exact⟨by rw[<-Array.mem_def];exact Array.mem_of_getElem? q,uX Vy.place j,by simp[q]⟩
 · right;refine⟨λ k=>?_,?_⟩
   · refine ai (Io k) λ i d=>?_;rw[Jg]at d;by_cases r:i<uX Vy.place j;·exact absurd (b i j d r) (Iw _)
     · by_cases f:i=uX Vy.place j;·rw[<-f]at q;exact q d
       · have h:uX Vy.place j<Vy.place.size:=by refine ai (eB.mp d) λ x _=>?_;exact c5 (j8 r) x
         have e:=hq h;exact dR (ow T.rise e d (mn f r)) (c _ _ e (aB _))
   · have g:PL Vy.dummies j=ap:=by rw[T.l3];rfl
     simp[(by simpa using q),g]
def TOk.room(T:TOk M a Vy)(c:a<=Vy.mask):∃j,j<=Vy.mask/\Vy.slot j=.empty:=by
 apply II;intro d;have all:∀j∈a1 (Vy.mask+1),j∈Vy.place.toList:=λ j b=>by
   refine aH (T.slot j) (λ f=>?_) λ g=>?_;·exact am f λ m _=>m
   · refine am g λ _ e=>?_;exact(d ⟨j,by have :=cI.mp b;exact dF this,e⟩).elim
 have :=Hs Sx all;simp only[Lw,aX,T.size]at this;exact dR (dt c) this
noncomputable abbrev d5(t:cr)(h:Int):Nat->La->Option So:=TL t (λ _=>h+1) h
noncomputable abbrev hx(t:cr)(i p:Nat):La:={j:=i,more:=Ih t.mask i-i,i,perturb:=p,dummy:=none}
def xy(t:cr)(h:Int)(a:Nat)(p:La):d5 t h (a+1) p=(match t.slot p.j with|.empty=>some (.empty p.j p.dummy)|.dummy=>d5 t h a (t.advance {p with dummy:=some p.j})|.live i=>if h+1==h then some (.candidate p.j i (t.advance p))else d5 t h a (t.advance p)):=rfl
def TOk.go(T:TOk M a Vy)(b:Nat)(p:La):(Vy.slot p.j=.empty/\d5 Vy C (b+1) p=some (.empty p.j p.dummy))\/((Vy.slot p.j≠.empty)/\d5 Vy C (b+1) p=d5 Vy C b (Vy.advance p)):=by
 refine aH (T.slot p.j) (λ c=>?_) λ d=>?_
 · obtain⟨_,i,e⟩:=c;right;refine⟨(by rw[e];exact λ q=>by cases q),?_⟩;rw[xy,e];dsimp only;rw[if_neg (by simp;exact λ q=>Um (Int.lt_succ C) q.symm)]
 · obtain⟨_,e⟩:=d;left;refine⟨e,?_⟩;rw[xy,e]
theorem TOk.xz(T:TOk M a Vy):∀(c:Nat)(p:La)(m:So),p.dummy=none->d5 Vy C c p=some m->∃j,m=.empty j none/\Vy.slot j=.empty
 |0,p,m,_,e=>aQ e|c+1,p,m,d,e=>by
   refine aH (T.go (C:=C) c p) (λ g=>?_) λ i=>?_
   · refine am g λ f b=>?_;rw[b]at e;obtain rfl:=ax e;exact bj _ (by rw[d]) f
   · refine am i λ f b=>?_;rw[b]at e;refine T.xz c _ m ?_ e;unfold Q4;split;·exact d
     ·exact d
theorem TOk.xA(T:TOk M a Vy):∀(c k:Nat)(p:La),d5 Vy C (c+k) p=none->d5 Vy C c p=none
 |0,_,_,_=>rfl|c+1,k,p,e=>by
   rw[show c+1+k=c+k+1 by exact hE]at e;refine aH (T.go (C:=C) (c+k) p) (λ d=>?_) λ f=>?_
   · refine am d λ g b=>?_;rw[b]at e;exact c7 e
   · refine am f λ g b=>?_;rw[b]at e;refine aH (T.go (C:=C) c p) (λ d=>?_) λ f=>?_;·exact am d λ i j=>(g i).elim
     · refine am f λ i j=>?_;rw[j];exact T.xA c k _ e
theorem TOk.xB(T:TOk M a Vy):∀(more c j:Nat),d5 Vy C (more+1+c) ⟨j,more,b,x,none⟩=none->d5 Vy C c (hx Vy ((b*5+1+x/32)%(Vy.mask+1)) (x/32))=none
 |0,c,j,e=>by
   rw[show 0+1+c=c+1 from IC 1 c]at e;rcases T.go (C:=C) c ⟨j,0,b,x,none⟩with⟨f,d⟩|⟨f,d⟩;·rw[d]at e;exact c7 e
   ·rw[d]at e;exact e|more+1,c,j,e=>by
   rw[show more+1+1+c=more+1+c+1 by exact hE]at e;refine aH (T.go (C:=C) (more+1+c) ⟨j,more+1,b,x,none⟩) (λ g=>?_) λ k=>?_
   · refine am g λ f d=>?_;rw[d]at e;exact c7 e
   · refine am k λ f d=>?_;rw[d]at e;exact T.xB more c (j+1) (by
       have :Vy.advance ⟨j,more+1,b,x,none⟩=⟨j+1,more,b,x,none⟩:=by
         unfold Q4;rw[if_pos (Js more)];rfl
       refine this▸?_;exact e)
def TOk.xC(T:TOk M a Vy)(e:d5 Vy C (10+Vs) (hx Vy b x)=none):d5 Vy C Vs (hx Vy ((b*5+1+x/32)%(Vy.mask+1)) (x/32))=none:=by
 have c:Ih Vy.mask b-b<=9:=by unfold Ih;split<;>first|exact j6 mr|(rw[Nd];decide)
 refine T.xB (Ih Vy.mask b-b) Vs b (T.xA _ (9-(Ih Vy.mask b-b)) _ ?_);rw[show Ih Vy.mask b-b+1+Vs+(9-(Ih Vy.mask b-b))=10+Vs from yX c];exact e
theorem TOk.xD(T:TOk M a Vy):∀(m b i:Nat),d5 Vy C (10*m+b) (hx Vy i 0)=none->d5 Vy C b (hx Vy (dz (Vy.mask+1) m i) 0)=none
 |0,b,i,e=>by rw[show 10*0+b=b by exact fz bE]at e;exact e|m+1,b,i,e=>by
  rw[show 10*(m+1)+b=10+(10*m+b)by exact su]at e;exact T.xD m b _ (T.xC e)
theorem TOk.xE(T:TOk M a Vy):∀(m b i q:Nat),i<=Vy.mask->q<32^m->d5 Vy C (10*m+b) (hx Vy i q)=none->∃f,f<=Vy.mask/\d5 Vy C b (hx Vy f 0)=none
 |0,b,i,q,d,c,e=>by
  obtain rfl:q=0:=by simpa using c
  exact bj i d (by rw[show 10*0+b=b by exact fz bE]at e;exact e)|m+1,b,i,q,d,c,e=>by
  rw[show 10*(m+1)+b=10+(10*m+b)by exact su]at e;refine T.xE m b _ (q/32) (Mb.mp (Ng _ (Js _))) ?_ (T.xC e);simp only[Ui]at c;exact sf c
def TOk.free(T:TOk M a Vy)(k:fD (Vy.mask+1)=true/\dz (Vy.mask+1) (Vy.mask+1) 0=0)(q:a<=Vy.mask)(h:Int):∃j,Vy.freeSlot h=some (j,ap)/\Vy.slot j=.empty:=by
 refine ey (x:=Vy.probe (λ _=>h+1) h (Vy.probeStart h)) (λ e=>?_) λ m e=>?_
 · exfalso;refine ak (T.room q) λ j o c=>?_;have e:d5 Vy h (10*Jm Vy.mask) (hx Vy (Jh h%(Vy.mask+1)) (Jh h))=none:=e;rw[show 10*Jm Vy.mask=10*13+(10*(Vy.mask+1)+10)by unfold Jm;exact yY]at e;refine ak (T.xE 13 _ _ _ (Mb.mp (Ng _ (Js _))) (aJ (s6 h) (by decide)) e) λ r l f=>?_;refine ak (sV k (b:=r) (x:=j) (dt l) (dt o)) λ m p g=>?_;rw[show 10*(Vy.mask+1)+10=10*m+(10*(Vy.mask+1-m)+9+1)from y1 p]at f;have :=T.xD m _ _ f;rw[g]at this;refine aH (T.go (C:=h) (10*(Vy.mask+1-m)+9) (hx Vy j 0)) (λ s=>?_) λ u=>?_
   · refine am s λ d b=>?_;rw[b]at this;exact c7 this
   ·exact am u λ d b=>d c
 · refine aj λ w=>?_;refine ak (T.xz _ _ m rfl e) λ j v c=>?_;obtain rfl:=v;refine w ?_;exact bj j (by unfold SetTable.freeSlot;refine e.symm▸?_;rfl) c
structure gW(a:Bool)(n:Nat)(t:cr):Prop extends TOk a n t where b6:(t.mask=7/\n<=4)\/(t.mask=31/\n<=18)
def gW.zero:gW M 0 (.fresh 0 0 M):=⟨⟨rfl,rfl,rfl,rfl,.nil⟩,.inl ⟨rfl,by decide⟩⟩
def TOk.fits(T:TOk M a Vy)(b:a<=Vy.mask):Vy.fits a=true:=by
 unfold Kc Jy;rw[T.size,T.l3];simp[b]
def gW.fits(T:gW M a Vy):Vy.fits a=true:=T.toTOk.fits (by rcases T.b6 with⟨c,b⟩|⟨c,b⟩<;>(simp only[c];exact j4 b (bW rfl)))
def xF:fD 32=true/\dz 32 32 0=0:=by decide+kernel
def xG(a:Array Vb)(p:Nat)(x:Vb):(Kl a p x).size=a.size+1:=by rw[<-aX,(SetTable.insertAt_perm a p x).length_eq,aX,Pm]
def Ht(h:VP.toList.Pairwise (·<·))(k:a∉VP.toList):(Kl VP (uX VP a) a).toList.Pairwise (·<·):=by
 refine a4 (rK a h) λ o b c=>?_;rw[SetTable.toList_insertAt];have e:VP.toList=VP.toList.take (uX VP a)++VP.toList.drop (uX VP a):=(LU _ _).symm;have lo:∀v∈VP.toList.take (uX VP a),v<a:=λ v f=>by
   refine ai (Io f) λ i d=>?_;rw[Kh]at d;split at d;·rename_i q;exact b i v (by rw[<-Jg];exact d) q
   ·exact aQ d
 have d:∀v∈VP.toList.drop (uX VP a),a<v:=λ v f=>by
   refine ai (Io f) λ i d=>?_;rw[Mq]at d;exact mn (λ e=>k (e▸KH f)) (oC (c _ v (by rw[<-Jg];exact d) (dx _ _)))
 rw[e]at h;refine a4 (NB.mp h) λ l m n=>NB.mpr ⟨l,Mp.mpr ⟨d,m⟩,λ u g v f=>(aH (aP.mp f) ?_ λ f=>?_)⟩
 · rintro rfl;exact lo u g
 ·exact n u g v f
def gW.lay(T:gW M VR.size Vy)(r:VR.size<=10):∃g c,QI Vy VR C U=(g,c,ap,ap)/\g.toList.Perm (VR.push (C,U)).toList/\TOk M (VR.size+1) c/\c.mask=Vy.mask:=by
 have o:fD (Vy.mask+1)=true/\dz (Vy.mask+1) (Vy.mask+1) 0=0:=by
   rcases T.b6 with⟨a,_⟩|⟨a,_⟩<;>refine a.symm▸?_;·exact sU
   ·exact xF
 have l:VR.size+1<=Vy.mask:=by rcases T.b6 with⟨a,b⟩|⟨a,b⟩<;>(simp only[a];first|exact iA b rfl|exact iA r rfl)
 refine aj λ w=>ak (T.toTOk.free o (gv l) C) λ j e s=>?_;refine w ?_;have m:=SH Vy VR C U;have q:j∉Vy.place.toList:=by
   refine aH (T.toTOk.slot j) (λ u=>?_) λ v=>?_
   · obtain⟨_,i,f⟩:=u;rw[s]at f;cases f
   ·exact am v λ a _=>a
 have p:PL Vy.dummies j=ap:=by rw[T.l3];rfl
 have d:TOk M (VR.size+1) (Vy.put j).1:=by
   refine⟨T.plain,T.led,?_,?_,Ht T.rise q⟩
   · show(if PL Vy.dummies j=true then _ else Vy.dummies)=#[];rw[if_neg (by rw[p];decide),T.l3]
   · show(Kl Vy.place _ j).size=_;rw[xG,T.size]
 have n:(Vy.put j).1.fits (VR.size+1)=true:=d.fits l;have k:QI Vy VR C U=(Kl VR (Vy.put j).2 (C,U),(Vy.put j).1,ap,ap):=by
   unfold QI;rw[e];dsimp only;rw[xG,n];unfold SetTable.orStandIn;rw[if_pos n];rfl
 rw[k]at m;exact kO _ _ k m d rfl
def Hu{d:Array Int}(h:KP a b x M We d=some (Vy,VP)):Vy.plain=We/\Vy.led=M/\Vy.dummies=#[]/\Vy.mask=a/\Vy.place.toList.Pairwise (·<·):=by
 unfold KP at h;refine aj λ j=>ak (dg.mp h) λ n _ e=>?_;cases e;refine j (g1 rfl rfl rfl rfl ?_);rw[Sc];refine Ul _ (R:=(·<·)) (λ k l c p g y i=>?_) Qy;refine ak (bh.mp g) ?_;rintro _ _ rfl;refine ak (bh.mp i) ?_;rintro _ _ rfl;exact c
def TOk.Hv(T:TOk M VR.size Vy)(v:Vy.mask=7)(c:VR.size=5):∃d k,Mk Vy VR (Ii VR.size)=(d,k,ap)/\d.toList.Perm VR.toList/\gW M VR.size k:=by
 have g:=Rj Vy VR (Ii VR.size);refine aj λ u=>?_;refine bS (s8 (a:=31) xF Vy.finger (Vy.movedTo 31) Vy.led Vy.plain (b:=VR.map (·.1)) (by refine(Lr).symm▸?_;exact j4 (j6 c) bE)) λ j o e b a=>?_;rw[Lr]at b a;refine d6 (Hu e) λ n p q r s=>u ?_;have l:Vy.relaid (VR.map (·.1)) (Ii VR.size)=some (j,o):=by
  unfold Rq;rw[c,show J7 (Ii 5)-1=31 by decide];exact e
 have m:(o.filterMap (VR[·]?)).size=VR.size:=by
  have f:(o.toList.filterMap λ i=>VR.toList[i]?).Perm ((a1 VR.toList.length).filterMap λ i=>VR.toList[i]?):=List.Perm.filterMap _ (by simp only[aX];exact b);simp only[List.filterMap_getElem?_range_length]at f;rw[<-aX,Qp];simpa using f.length_eq
 have h:Mk Vy VR (Ii VR.size)=(o.filterMap (VR[·]?),j,ap):=by
  unfold Mk;refine l.symm▸?_;dsimp only;rw[m,a,if_pos];rw[TA];exact List.isPerm_iff.mpr b
 rw[h]at g;refine⟨_,_,h,g,⟨n.trans T.plain,p.trans T.led,q,?_,s⟩,.inr ⟨r,j4 (j6 c) bE⟩⟩;unfold Kc at a;rw[kn,beq_iff_eq]at a;exact a.1
def TOk.Hw(T:TOk M a Vy)(h:(Vy.mask=7/\a<=5)\/(Vy.mask=31/\a<=18)):(Vy.tooFull=ap/\gW M a Vy)\/(Vy.tooFull=true/\Vy.mask=7/\a=5):=by
 unfold SetTable.tooFull Jy;rw[T.size,T.l3];refine aH h (λ d=>?_) λ e=>?_
 · refine am d λ c b=>?_;by_cases q:a=5;·right;exact⟨by rw[c,q];decide,c,q⟩
   ·left;exact⟨by rw[c];simp;exact sD (IB (Ir b q)) rfl,T,.inl ⟨c,dF (jc b q)⟩⟩
 · refine am e λ c b=>?_;left;exact⟨by rw[c];simp;exact sD b rfl,T,.inr ⟨c,b⟩⟩
noncomputable def ip(w:ar):Bool:=!(w.params.followText "set-order")
noncomputable def rL:ab->Int
 |.int n _=>n|_=>0
noncomputable abbrev cw(b:Array (Int×ab))(a:Nat)(t:cr):Obj:={cls:=.type "set",dict:=none,data:=.set b a t,slots:=#[]}
structure dP(WK:ar)(a:Array (Int×ab))(t:cr)(b:List Int):Prop where
 l4:OI (NM P0 WK) a.toList
 perm:(a.toList.map λ e=>rL e.2).Perm b
 tab:gW (ip WK) a.size t
def dP.len(I:dP c VR Vy B):VR.size=B.length:=by simp only[<-I.perm.length_eq,be,aX]
def dP.none(I:dP c VR Vy B)(h:C∉B):K6 (λ e=>(NM P0 c).is C e.2) VR.toList=none:=JV.mpr λ e b=>by
 rcases q:(NM P0 c).is C e.2 with _|_;·rfl
 · refine ai (Ot q) λ d a=>?_;exact absurd (I.perm.mem_iff.mp (hp.mpr ⟨e,b,by refine a.symm▸?_;rfl⟩)) h
def dP.found(I:dP c VR Vy B)(h:C∈B):∃j,K6 (λ e=>(NM P0 c).is C e.2) VR.toList=some j:=by
 refine ak (hp.mp (I.perm.mem_iff.mpr h)) λ e b q=>?_;refine am (I.l4 e b) λ f _=>?_;refine ak f λ k a _=>?_;refine ai (Ot a) λ g d=>?_;rw[d]at q;obtain rfl:k=C:=q;refine ey (x:=K6 (λ e=>(NM P0 c).is k e.2) VR.toList) (λ r=>?_) λ j r=>?_
 · rw[r];rw[JV.mp r e b]at a;cases a
 · rw[r];exact⟨j,rfl⟩
def Hx(k:q.heap.get? h=some (cw VR a Vy))(I:dP c VR Vy B)(u:B.length<=10)(G:∀b H Y WU WQ,Jq h q.heap H->H.get? h=some (cw Y WU WQ)->dP c Y WQ (if C∈B then B else B++[C])->V2 b {q with heap:=H,toks:=q.toks+1}):aA (au P0 c) VW (RY h (.int C Vt)) V2 y q:=by
 have p:=I.len;have WM:=I.tab.fits;have J:=intKind_is P0 c C Vt;have N:(UA C Vt).scannable=true:=rfl;have WX:K7=4096:=rfl;unfold RY;refine aK (af ((NM P0 c).pyHash J ?_));unfold RX QF;refine aK (af (gE (o:=cw VR a Vy) k rfl WM ?_));dsimp only;rw[T6 N (c5 (j6 p) (c6 u (aE true))) I.l4];simp only[↓reduceIte];unfold setAddByScan;refine af (af (Ju (af (PP (o:=cw VR a Vy) J k rfl WM I.l4 ?_))));by_cases l:C∈B
 · refine ai (I.found l) λ j e=>?_;rw[e];exact ah (ah (G _ q.heap VR a Vy (Nj _ _) k (by rw[if_pos l];exact I)))
 · rw[I.none l];refine aj λ V=>di (I.tab.lay (C:=(NM P0 c).hash C) (U:=.int C Vt) (dS p u)) λ d f WS r n WV=>?_;refine V (WS.symm▸?_);dsimp only;simp only[Mx]at r;have z:d.size=VR.size+1:=by rw[<-aX,r.length_eq,eH,aX];rfl
   have WL:OI (NM P0 c) d.toList:=(I.l4.push J N).perm r;have WN:(d.toList.map λ e=>rL e.2).Perm (B++[C]):=(r.map _).trans (by rw[fs];exact I.perm.append_right _);rw[<-z]at n;rw[if_pos n.plain];refine af (m:=jq ()) (ah (af ?_));simp only[Sm 8 N];refine ah ?_;simp only[plainKind,↓reduceIte];have WK:d.size<=a9:=M4 (by simp only[WX,z,p];exact bz (H8 u) (by decide));refine af (J3 (o:=cw VR a Vy) k rfl ?_ WK);have L:(q.heap.update h (JN d f)).get? h=some (cw d (a+1) f):=by
     have :=cQ (JN d f) k (by rw[L6 d f rfl];rfl);rw[L6 d f rfl]at this;exact this
   have WP:=gR q.heap h (JN d f);have fin:(f.mask=7/\d.size<=5)\/(f.mask=31/\d.size<=18):=by
     refine WV.symm▸(aH I.tab.b6 (λ T=>?_) λ U=>?_);·exact am T λ x WR=>.inl ⟨x,j4 (j6 z) (iA WR (aE true))⟩
     · refine am U λ x WR=>?_;exact .inr ⟨x,by simp only[z,p];exact an (H8 u) (by decide)⟩
   refine aH (n.Hw fin) (λ T=>?_) λ U=>?_
   · refine am T λ O D=>?_;rw[if_neg (by rw[O];decide)];exact ah (ah (G _ _ d _ f WP L (by rw[if_neg l];exact⟨WL,WN,D⟩)))
   · refine a4 U λ O WZ WY=>?_;rw[if_pos (by rw[O];rfl)];refine aj λ V=>bS (n.Hv WZ WY) λ g i WT M D=>V ?_;rw[WT];dsimp only;have WO:g.size=d.size:=by rw[<-aX,M.length_eq,aX]
     refine af (m:=jq ()) (ah ?_);refine af (J3 (o:=cw d (a+1) f) L rfl ?_ (by rw[WO];exact WK));have WW:((q.heap.update h (JN d f)).update h (JN g i)).get? h=some (cw g (a+1+1) i):=by
       have :=cQ (JN g i) L (by rw[L6 g i rfl];rfl);rw[L6 g i rfl]at this;exact this
     exact ah (ah (G _ _ g _ i (WP.trans (gR _ h _)) WW (by rw[if_neg l];exact⟨WL.perm M,(M.map _).trans WN,WO▸D⟩)))
def i9(l:List Int)(v:Int):b5 (l++[v])=if v∈b5 l then b5 l else b5 l++[v]:=by
 have g:v∈b5 l↔v∈l:=by
   refine⟨lX,λ h=>(ai (Io h) λ k WL=>?_)⟩;have :∃k:Nat,l[k]?=some v/\∀j:Nat,j<k->l[j]?≠some v:=by
     have H:∀n k:Nat,k<=n->l[k]?=some v->∃k:Nat,l[k]?=some v/\∀j:Nat,j<k->l[j]?≠some v:=by
       intro n;induction n with
       |zero=>intro k WL e;exact⟨k,e,λ j WM=>hC (bA WM WL)⟩|succ n p=>
         intro k WL e;by_cases q:∃j:Nat,j<k/\l[j]?=some v;·refine ak q λ j WM b=>?_;exact p j (dF (bA WM WL)) b
         ·exact⟨k,e,λ j WM b=>q ⟨j,WM,b⟩⟩
     exact H k k (aB _) WL
   refine ak this λ k WL m=>?_;have i:k<l.length:=by refine ai (a8.mp WL) λ a _=>?_;exact a
   have f:l.getD k 0=v:=by rw[av,WL];rfl
   unfold b5;refine hp.mpr ⟨k,hu.mpr ⟨cI.mpr i,?_⟩,f⟩;rw[f];simp only[IR,MD,beq_iff_eq];intro x d;refine ai (Io d) λ j WM=>?_;rw[Kh]at WM;split at WM
   · rename_i q;intro e;obtain rfl:=e.symm;exact m j q WM
   ·exact aQ WM
 have o:((a1 l.length).filter λ k=>!((l++[v]).take k).any (·==(l++[v]).getD k 0)).map (λ k=>(l++[v]).getD k 0)=b5 l:=by
   unfold b5;have e:∀k∈a1 l.length,(l++[v]).getD k 0=l.getD k 0/\(l++[v]).take k=l.take k:=λ k WL=>by
     have :=cI.mp WL;exact⟨by simp only[av,av,GZ this],List.take_append_of_le_length (j5 this)⟩
   rw[MC λ k WL=>by rw[(e k WL).1,(e k WL).2]];exact Ix λ k WL=>(e k (hu.mp WL).1).1
 have c:(l++[v]).getD l.length 0=v:=by rw[av,I9 (aB _)];simp
 show((a1 (l++[v]).length).filter _).map _=_;simp only[eH,Kw,Nh,IZ,fs,o];by_cases h:v∈l
 · rw[if_pos (g.mpr h)];have :(!((l++[v]).take l.length).any (·==(l++[v]).getD l.length 0))=ap:=by
     rw[c,Tc];simpa using h
   rw[Qn (λ q=>by rw[this]at q;cases q)];simp
 · rw[if_neg λ q=>h (g.mp q)];have :(!((l++[v]).take l.length).any (·==(l++[v]).getD l.length 0))=true:=by
     rw[c,Tc,IR,MD];exact λ x d e=>h (pV e▸d)
   rw[Qm (by exact this),Pq,Of,c]
def Hy{I:ae}{G:Array KG->Array KG->Prop}{P:Nat->ab->Prop}{St:Nat->aa->Prop}(W:WalksS P0 c o.in1 I Y V4 G a P St)(S:ae)(E:S∉Y)(N:List Int)(y:N.length=a)(WQ:∀i v,P i v->∃t,v=.int (N.getD i 0) t)(d:a<=10):∀(k i:Nat)(s:aa)(g:Array (Int×ab))(l:Nat)(t:cr),a-i=k->i<=a->St i s->s.heap.get? S=some (cw g l t)->dP c g t (b5 (N.take i))->(∀f p x u,Moved (S::V4) G s f->f.heap.get? S=some (cw p x u)->dP c p u (b5 N)->Wf (.ok (.ret .none)) f)->JM (au P0 c) o (.builtin "set.update.loop" ⟨[.ref S,.ref I],[]⟩) Wf s:=by
 have H:S∉V4:=λ h=>E (W.sub _ h);intro k;induction k with
 |zero=>
   intro i s g l t r J D B q z;obtain rfl:i=a:=hA J (iu r);refine hN MG ?_;rw[fH Kt _];refine af (m:=KI (.ref I)) (W.done s _ _ D λ f j=>(ah (z f g l t (j.mono λ b d=>.tail _ d) (j.heap S _ H B) ?_)));rw[<-y,IJ]at q;exact q|succ k WR=>
   intro i s g l t r J D B q z;have C:i<a:=iv r;refine hN MG ?_;rw[fH Kt _];refine af (m:=KI (.ref I)) (W.item i s _ _ C D λ v f V WO j=>?_);obtain⟨M,rfl⟩:=WQ i v V;have WP:(b5 (N.take i)).length<=10:=an (i7 _) (by rw[KQ];exact j4 hG (dS y d));refine af (m:=Mh [UA (N.getD i 0) M] (RY S (.int (N.getD i 0) M))) (aK (Hx (j.heap S _ H B) q WP λ b h' p x u L WK T=>?_));have WN:N.take (i+1)=N.take i++[N.getD i 0]:=by rw[Sb,av,ay (eO y C)];rfl
   refine ah ⟨I0 Kt _,WR (i+1) _ p x u (hB r) C (W.frame _ f _ _ WO (I5 _) λ b d WS e=>?_) WK (by simp only[WN,i9];exact T) λ WT Q O WU WM WL U=>?_⟩;·rw[L.2 b (λ h:b=S=>E (by rw[<-h];exact d))];exact e
   · refine z WT Q O WU (Moved.trans W.gtrans ((j.mono λ b d=>.tail _ d).then_heap (I5 _) λ b WS d e=>?_) WM) WL U;rw[L.2 b (λ h:b=S=>d (by rw[h];exact List.mem_cons_self))];exact e
noncomputable abbrev i'(WK:ar):Obj:=cw #[] 0 (.fresh 0 0 (ip WK))
def Hz(a:ab)(h:Vf (.ref q.heap.objs.size) {q with heap:=q.heap.push (i' c)}):JM (au P0 c) o (.call (.builtin "set.__new__") ⟨[.type "set",a],[]⟩) (wants Vf y) q:=by
 refine Ms (al (cx (F.newCall_set_1 a) (ah ⟨I0 TQ _,hN F.entry_set_new ?_⟩)));rw[fH TQ _];unfold Builtin.«set.__new__»SW;have e:=sub_set_self;obtain⟨b,g,d,f,os⟩:=q;wp_walk;refine IP (ah ?_);dsimp only;simp only[UT];exact al (P4 (ah (ah h)))
def HA(WR:o.handled=none)(WT:q.heap.IsList h Vc.toArray)(J:M8 Vc B)(k:B.length<=10)(WN:∀d m a f t,d.get? q.heap.objs.size=some (cw a f t)->dP c a t (b5 B)->(KO q.heap d)->Vf (.ref q.heap.objs.size) {q with heap:=d,toks:=m}):aA (au P0 c) o (I1 (.type "set") [.ref h]) Vf y q:=by
 refine aj λ j=>?_;obtain⟨W0,Xf,W7⟩:=K4.mro;refine j ?_;have W6:=K4.made;have Xa:=K4.sub;refine Je (Ms ?_);refine ah ⟨Lb _ (by decide+kernel),hN Q6 ?_⟩;rw[Q8 (Sl "set" [.ref h] []) rfl];have W1:=K4.notType;have W2:=K4.canCreate;have W4:=F.typeCall_set_1 (.ref h);repeat(any_goals(first|assumption|wp_step))
 refine Mz (Hz (.ref h) (y:=y) (Vf:=λ U Y=>U=.ref q.heap.objs.size/\Y={q with heap:=q.heap.push (i' c)}) ⟨rfl,rfl⟩) λ r Y u=>?_;have T:Vc.length=B.length:=IntsAre.length J;rcases r with e|WL;·exact u
 ·cases WL with
   |ret U=>
     obtain⟨rfl,rfl⟩:=u;have D:(q.heap.push (i' c)).get? q.heap.objs.size=some (i' c):=aF _ rfl;have WP:Shared.TypeIs {q with heap:=q.heap.push (i' c)} (.ref q.heap.objs.size) "set":=⟨_,D,rfl⟩;have W5:=K4.init.lookup;have W3:=K4.init.bind (.ref q.heap.objs.size);repeat(any_goals(first|assumption|wp_step))
     refine Mz (Ig (R:=wants (λ r WK=>r=.none/\∃d m a f t,WK={q with heap:=d,toks:=m}/\d.get? q.heap.objs.size=some (cw a f t)/\dP c a t (b5 B)/\(KO q.heap d)) y) K4.init.plain F.entry_set_init (check_set_init_1 WP ?_)) λ WY WK x=>?_
     · refine aj λ j=>?_;obtain⟨WX,O,G,WV,H⟩:=WT;obtain⟨Xb,Xd,Xc,Xe⟩:=WX;simp only at G H;subst G H;refine j ?_;have W':=F.sub_list_set;have W9:=F.sub_list_frozenset;have W8:(Iv "list"==Iv "dict")=ap:=by decide
       have L:(q.heap.push (i' c)).IsList h Vc.toArray:=⟨_,ao _ O,rfl,WV,rfl⟩;unfold Builtin.«set.__init__»noKeywords OW;generalize WO:Ly=WZ;wp_walk;subst WO;refine M1 L ?_;refine af (Oj ?_);have M:h<q.heap.objs.size:=az O;have z:(q.heap.push (i' c)).objs.size=q.heap.objs.size+1:=IE _ _;refine Hy ((Pz (by simp[WR]) _ h (by rw[z];exact br (gb M)) Vc.toArray).toS) q.heap.objs.size (λ g=>by
         rcases aP.mp g with e|g;·exact absurd (e.trans z) (br (H9 _))
         ·exact absurd (aI.mp g) (IA M)) B (by simp[T]) (λ i v WU=>IntsAre.int_at J i v (by rw[<-No];exact WU)) (by simp[T];exact k) Vc.toArray.size 0 _ #[] 0 (.fresh 0 0 (ip c)) rfl (dk _) ⟨⟨_,aF _ rfl,rfl,rfl⟩,L.push _⟩ (ao _ D) ⟨λ e WQ=>(nomatch WQ),.nil,gW.zero⟩ λ V a f t g p n=>?_;rw[S9 g];refine ah ?_;refine ah ⟨rfl,V.heap,V.toks,a,f,t,rfl,p,n,λ b WW e=>?_⟩;have k:=az e;exact g.heap b WW (λ C=>by
         rcases aP.mp C with e|C;·exact absurd e (br k)
         ·exact absurd ((aI.mp C).trans z) (br (gb k))) (ao _ (ao _ e))
     ·cases WY with
       |error e=>exact x|ok WM=>cases WM with
         |ret r=>
           refine aj λ j=>?_;obtain⟨rfl,d,m,a,f,t,rfl,p,n,WS⟩:=x;refine j ?_;repeat(any_goals(first|assumption|wp_step))
           exact WN _ _ a f t p n WS|_=>exact x.elim
   |_=>exact u.elim
theorem xH{b:Type}:∀(l:List b)(i:Nat)(x:b),l[i]?=some x->(x::l.eraseIdx i).Perm l
 |a::l,0,x,h=>by obtain rfl:=ax h;exact .rfl|a::l,i+1,x,h=>(Ry a x _).trans ((xH l i x h).cons a)
set_option tactic.hygienic true in theorem xI{f:Type}(b:Nat->Nat):∀(n k:Nat)(l:List f)(c:Array f),l.length<=n->(Pu b n k l c).toList.Perm (c.toList++l)
 |0,k,l,c,h=>by
   obtain rfl:l=[]:=Ql.mp (hA h bE);show c.toList.Perm (c.toList++[]);simp|n+1,k,l,c,h=>by
   show(match l[b k%l.length]? with|some x=>Pu b n (k+1) (l.eraseIdx (b k%l.length)) (c.push x)|none=>c).toList.Perm _;rcases e:l[b k%l.length]? with _|x;rotate_left;·
     have d:b k%l.length<l.length:=by refine ai (a8.mp e) λ a _=>?_;exact a
     refine(xI b n (k+1) _ _ (by rw[PO d];exact dF (mq h d))).trans ?_;simp only[Mx,jB];exact List.Perm.append_left _ (xH l _ x e)
   · have :l=[]:=by
       apply II;intro q;have :=Ng (b k) (N0.mpr q);rw[ay this]at e;exact c7 e
     subst this;simp
noncomputable def f0(w:ar)(S b:Nat)(a:Array (Int×ab)):Array (Int×ab):=if ip w then a else RE (w.params.setOrder S b) a
def kB(WN:ar)(S ep:Nat)(WK:Array (Int×ab)):(f0 WN S ep WK).toList.Perm WK.toList:=by
 unfold f0;split;·exact .rfl
 · have :=xI (WN.params.setOrder S ep) WK.size 0 WK.toList #[] (by simp);unfold RE;simpa using this
noncomputable def eN(w:ar)(t:cr)(i:Nat):Nat:=if ip w then(if i=0 then 0 else t.place.getD (i-1) 0+1)else 0
noncomputable abbrev gr(WM:ar)(S:ae)(b:Array (Int×ab))(a:Nat)(t:cr)(WK:Nat):Obj:={cls:=.type "set_iterator",data:=.fields #[JG (eN WM t WK),JG WK,.ref S,JG b.size,JG a]}
def HB(T:TOk M a Vy)(g:b<=a):uX Vy.place (if b=0 then 0 else Vy.place.getD (b-1) 0+1)=b:=by
 refine a4 (rK (if b=0 then 0 else Vy.place.getD (b-1) 0+1) T.rise) λ d e c=>?_;simp only[T.size]at d;have bt:∀k,k<a->Vy.place[k]?=some (Vy.place.getD k 0):=λ k h=>by rw[e0,hq (by rw[T.size];exact h)];rfl
 generalize uX Vy.place (if b=0 then 0 else Vy.place.getD (b-1) 0+1)=r at d e c⊢;by_cases f:b=0
 · subst f;rw[if_pos rfl]at e;apply II;intro q;exact absurd (e 0 _ (bt 0 (aJ (Oz q) d)) (c5 bE (oK q))) (PK _)
 · rw[if_neg f]at e c;refine ez (LB r b) (λ q=>?_) (λ q=>?_) λ q=>?_
   · have :=c (b-1) _ (bt _ (mq g q)) (jn q);exact dR (dt this) (ix this)
   ·exact q
   ·exact yn (ow T.rise (bt (b-1) (c5 ji (bA q d))) (bt b (bA q d)) (oK f)) (e b _ (bt b (bA q d)) q)
def xJ{Q:Option (ab×Nat)->aa->Prop}(m:q.heap.get? h=some (cw VR a Vy))(I:dP c VR Vy B)(p:b<=VR.size)(d:Q ((f0 c h a VR)[b]?.map λ e=>(e.2,eN c Vy (b+1))) q):aA (au P0 c) VW (TG h (eN c Vy b) b a) Q y q:=by
 have l:=I.tab.fits;unfold TG;refine al (gE (o:=cw VR a Vy) m rfl l ?_);unfold NK;refine al (al (IP (ah ?_)));unfold f0 at d;rcases f:ip c with _|_
 · have j:c.params.followText "set-order"=true:=by unfold ip at f;simpa using f
   rw[f]at d;simp only[cT,if_false]at d;refine eP j (J1 (λ g=>by simp at g) (λ _=>?_));unfold setWalk;refine al (al (gE (o:=cw VR a Vy) m rfl l ?_));unfold NK;refine al (al (IP (ah (eP j (al (IP (ah (ah ?_))))))));have e:eN c Vy b=eN c Vy (b+1):=by unfold eN;rw[f];rfl
   refine e.symm▸?_;exact d
 · have j:¬c.params.followText "set-order"=true:=by unfold ip at f;simpa using f
   rw[f]at d;simp only[if_true]at d;refine bT j (J1 (λ g=>?_) (λ _=>?_))
   · have g:(!Vy.plain&&bF (VR.size>1))=true:=g;rw[I.tab.plain]at g;cases g
   · refine al ?_;show aA _ _ (if(!Vy.led&&!VR.isEmpty)=true then _ else _) _ _ _;rw[I.tab.led,f,if_neg (by simp)];refine ah (ah ?_);have e:uX Vy.place (eN c Vy b)=b:=by unfold eN;rw[f];exact HB I.tab.toTOk p
     refine e.symm▸?_;by_cases g:b<VR.size
     · have k:VR[b]?=some VR[b]:=hq g;have n:Vy.place[b]?=some (Vy.place.getD b 0):=by rw[e0,hq (by rw[I.tab.size];exact g)];rfl
       rw[k]at d⊢;refine n.symm▸?_;have :eN c Vy (b+1)=Vy.place.getD b 0+1:=by unfold eN;refine f.symm▸?_;rfl
       rw[this]at d;exact d
     · have k:VR[b]?=none:=H' (j8 g);rw[k]at d⊢;exact d
def kC:Rp "set_iterator" "__next__" "set_iterator.__next__":=.of (owner:="set_iterator") (n:="__next__") (by rw[I4,FF];lia) (by decide+kernel) (by decide+kernel) (by decide+kernel) (.inl (by decide+kernel)) (by rw[kF];lia)
def xK:Rp "set_iterator" "__iter__" "set_iterator.__iter__":=.of (owner:="set_iterator") (n:="__iter__") (by rw[I4,FF];lia) (by decide+kernel) (by decide+kernel) (by decide+kernel) (.inl (by decide+kernel)) (by rw[kF];lia)
def xL:KE Kj "set_iterator.__next__"=some Builtin.«set_iterator.__next__»:=Jv (by lia)
def HC:KE Kj "set_iterator.__iter__"=some Builtin.«dict_keyiterator.__iter__»:=U0 (id':="dict_keyiterator.__iter__") (by lia) rfl (by decide+kernel) (by lia)
def HD:KE Kj "set.__iter__"=some Builtin.«frozenset.__iter__»:=U0 (id':="frozenset.__iter__") (by lia) rfl (by decide+kernel) (by lia)
def xM:Manifest.owners.lookup (String.ofList ['r','o','t','a','r','e','t','i','_','t','e','s'].reverse)=some Manifest.sig_set_iterator:=by lia
def xN(a:ab):L8 "set_iterator.__next__" ⟨[a],[]⟩:=by unfold L8;rw[Mg (id:="set_iterator.__next__") (n:=['_','_','t','x','e','n','_','_']) (o:=['r','o','t','a','r','e','t','i','_','t','e','s']) (by lia) xM];lia
def HE(a:ab):L8 "set_iterator.__iter__" ⟨[a],[]⟩:=by unfold L8;rw[Mg (id:="set_iterator.__iter__") (n:=['_','_','r','e','t','i','_','_']) (o:=['r','o','t','a','r','e','t','i','_','t','e','s']) (by lia) xM];lia
def HF(b:q.heap.get? h=some (cw VR a Vy))(I:dP c VR Vy B)(e:Vf (.ref q.heap.objs.size) {q with heap:=q.heap.push (gr c h VR a Vy 0)}):aA (au P0 c) VW (Ly (.ref h)) Vf y q:=by
 have f:=I.tab.fits;have g:q.TypeIs (.ref h) "set":=⟨_,b,rfl⟩;refine TC g TP (IN TP g HD ?_ (F.args_set_iter_1 _));unfold Builtin.«frozenset.__iter__»;refine af (m:=SV _ _) (ah ?_);unfold LS;refine af (af (JJ (o:=cw VR a Vy) b rfl f (ah ?_)));unfold setDrawn;refine af (af (gE (o:=cw VR a Vy) b rfl f ?_));unfold NK;refine af (af (IP (ah (ah (J1 (λ d=>?_) (λ _=>?_))))))
 · have d:(!c.params.followText "set-order"&&(!Vy.plain&&bF (VR.size>1)))=true:=d;rw[I.tab.plain]at d;simp at d
 · refine af (m:=jq (JG 0)) (ah (af (LY (o:=cw VR a Vy) b rfl f ?_)));have i:eN c Vy 0=0:=by unfold eN;split<;>rfl
   refine af (m:=T4 _ _) (Ie (ah ⟨_,rfl,"set_iterator",_,⟨_,aF _ rfl,rfl⟩,kC.lookup,?_⟩));unfold gr at e;rw[i]at e;exact e
def HG{S I:ae}{e:Int×ab}(d:q.heap.get? I=some (gr c S VR a Vy b))(k:q.heap.get? S=some (cw VR a Vy))(G:dP c VR Vy B)(m:b<=VR.size)(l:(f0 c S a VR)[b]?=some e)(h:∀f,f.get? I=some (gr c S VR a Vy (b+1))->Jq I q.heap f->WD (some e.2) {q with heap:=f}):aA (au P0 c) VW (KI (.ref I)) WD y q:=by
 have j:q.TypeIs (.ref I) "set_iterator":=⟨_,d,rfl⟩;unfold KI;refine al (Mf (JB (name:=ac "__next__") j kC (IN kC j xL ?_ (xN _))));show aA _ _ (fieldsOf (.ref I)>>=_) _ _ q;refine al (UL d rfl ?_);show aA _ _ (setEntries S>>=_) _ _ q;refine al (JJ (o:=cw VR a Vy) k rfl G.tab.fits (J1 (λ n=>by simp at n) (λ _=>?_)));show aA _ _ (TG S (eN c Vy b:Int).toNat (b:Int).toNat (a:Int).toNat>>=_) _ _ q;rw[b4,b4,b4];refine al (xJ k G m (l.symm▸(al (Ki d rfl (by simp) ?_))));have g:=cQ (MN (·.setIfInBounds 0 (JG (eN c Vy (b+1))))) d rfl;refine al (Ki g rfl (by simp) (ah ⟨_,rfl,ah (h _ ?_ ((gR ..).trans (gR ..)))⟩));exact cQ _ g rfl
def HH{S I:ae}(i:VW.handled=none)(d:q.heap.get? I=some (gr c S VR x Vy VR.size))(g:q.heap.get? S=some (cw VR x Vy))(G:dP c VR Vy B)(h:∀e,I3 I q.heap e->WD none {q with heap:=e}):aA (au P0 c) VW (KI (.ref I)) WD y q:=by
 have f:q.TypeIs (.ref I) "set_iterator":=⟨_,d,rfl⟩;unfold KI;refine af (Mf (JB (name:=ac "__next__") f kC (IN kC f xL ?_ (xN _))));show aA _ _ (fieldsOf (.ref I)>>=_) _ _ q;refine af (UL d rfl ?_);show aA _ _ (setEntries S>>=_) _ _ q;refine af (JJ (o:=cw VR x Vy) g rfl G.tab.fits (J1 (λ j=>by simp at j) (λ _=>?_)));show aA _ _ (TG S (eN c Vy VR.size:Int).toNat (VR.size:Int).toNat (x:Int).toNat>>=_) _ _ q;simp only[b4,b4,b4];refine af (xJ g G (aB _) ((H' (by rw[<-aX,(kB c S x VR).length_eq,aX];exact aB _)).symm▸(af (Ki d rfl (by simp) ?_))));refine af (m:=UV (.type "StopIteration") []) ?_;simp only[UV,US];refine af (Ie ?_ (by size_fits));refine af (m:=L0 _ _) (cx (a:=I7) (by first|rfl|(simp only[L0];rfl)) ?_);refine Ie ?_ (by size_fits);rw[UR];refine af (Rg ?_);rw[show VW.in1.handled=none from i];refine af (ah (Oi ?_));refine af (JP (T:="StopIteration") (b:=true) ⟨_,aF _ rfl,rfl⟩ UY ?_);exact ah (h _ (((gR ..).extBut.push _).push _))
def HI{S I:ae}(u:o.handled=none)(z:S≠I)(G:dP c VR Vy B):U2 P0 c o I [I,S] [I] VR.size (λ i v=>((f0 c S a VR)[i]?).map (·.2)=some v) (λ i h=>h.get? I=some (gr c S VR a Vy i)/\h.get? S=some (cw VR a Vy)/\i<=VR.size)where
 sub:=λ b d=>by simp at d;simp[d]
 frame:=λ _ _ _ st p=>⟨p I (by simp) _ st.1,p S (by simp) _ st.2.1,st.2.2⟩;item:=λ i s Q E n st f=>by
  have C:(f0 c S a VR).size=VR.size:=by rw[<-aX,(kB c S a VR).length_eq,aX]
  have x:i<(f0 c S a VR).size:=C.symm▸n;have l:(f0 c S a VR)[i]?=some (f0 c S a VR)[i]:=hq x;refine HG st.1 st.2.1 G st.2.2 l λ g y q=>?_;exact f _ g s.toks (by simp only[l];rfl) ⟨y,q.extBut S _ z st.2.1,n⟩ λ b k d e=>q.extBut b k (λ h=>d (by simp[h])) e
 done:=λ s Q E st f=>HH u st.1 st.2.1 G λ g r=>f g s.toks λ b k d e=>r b k (λ h=>d (by simp[h])) e;self:=λ i s Q E st f=>by
  have j:s.TypeIs (.ref I) "set_iterator":=⟨_,st.1,rfl⟩;exact TC j xK (IN xK j HC (af (m:=slotArgs _ _ _) (ah (ah ⟨_,rfl,"set_iterator",_,j,kC.lookup,f⟩))) (HE _))
def HJ(i:q.heap.get? h=some (cw VR a Vy))(g:V2 ap q):aA (au P0 c) o (N7 (.ref h)) V2 y q:=by
 have d:q.TypeIs (.ref h) "set":=⟨_,i,rfl⟩;unfold N7;refine af (NV d F.slot_set_len.lookup ?_);generalize f:("set.__len__":String)=j;wp_delta;rw[show splitId j=some ("set","__len__")from by subst f;decide+kernel];subst f;refine af (JP (T:="set") (b:=true) d sub_set_self (J1 (λ e=>absurd e (by decide)) (λ _=>?_)));refine J1 (λ _=>?_) (λ e=>absurd (by decide+kernel) e);exact af (LX d (ah g))
def HK(WP:o.handled=none)(k:q.heap.get? h=some (cw VR a Vy))(G:dP c VR Vy B)(WM:VR.size<=10)(WN:∀r WS E U,(KO q.heap r)->r.get? q.heap.objs.size=some {cls:=.type "list",dict:=none,data:=.seq E U,slots:=#[]}->E.toList=(f0 c h a VR).toList.map (·.2)->Wf (.ok (.ret (.ref q.heap.objs.size))) {q with heap:=r,toks:=WS}):JM (au P0 c) o (.builtin "proto.collect" ⟨[.ref h],[]⟩) Wf q:=by
 have O:=az k;refine hN RP ?_;rw[fH RN _];refine al (Ie (ah ⟨I0 LR _,hN Pf ?_⟩));rw[fH LR _];have L:(q.heap.push {cls:=.type "list",data:=.seq ([]:List ab).toArray}).get? q.heap.objs.size=some {cls:=.type "list",data:=.seq ([]:List ab).toArray}:=aF _ rfl;have m:(q.heap.push {cls:=.type "list",data:=.seq ([]:List ab).toArray}).objs.size=q.heap.objs.size+1:=IE _ _;have n:KO q.heap (q.heap.push {cls:=.type "list",data:=.seq ([]:List ab).toArray}):=λ b f e=>ao _ e;generalize(q.heap.push {cls:=.type "list",data:=.seq ([]:List ab).toArray})=H at L m n⊢;have z:q.heap.objs.size≠h:=IA O;show aA _ o.in1 (N8 (.ref q.heap.objs.size) (.ref h) (.ref q.heap.objs.size)) _ _ {q with heap:=H};unfold N8;refine al (LX (T:="set") ⟨_,n _ _ k,rfl⟩ ?_);have Y:OK (.ref q.heap.objs.size) (.ref h)=ap:=by simp[OK,z]
 have WK:(Iv "set"==Iv "list")=ap:=by decide
 have WL:(Iv "set"==Iv "tuple")=ap:=by decide
 simp only[Y,WK,WL,Tz,cT,if_false];refine al (HF (q:={q with heap:=H}) (n _ _ k) G ?_);have u:=ao (gr c h VR a Vy 0) L;have v:(H.push (gr c h VR a Vy 0)).get? H.objs.size=some (gr c h VR a Vy 0):=aF _ rfl;have p:KO q.heap (H.push (gr c h VR a Vy 0)):=λ b f e=>ao _ (n b f e);generalize x:H.objs.size=I at v⊢;generalize(H.push (gr c h VR a Vy 0))=D at u v p⊢;refine al (aK (HJ (p _ _ k) (J1 (λ _=>?_) (λ d=>absurd (by decide+kernel) d))));refine al (Ju (al (al (Uq u rfl ?_))));have M:=cQ (wx (·.push I7)) u rfl;refine Uq M rfl ?_;have N:q.heap.objs.size≠I:=by simp only[<-x,m];exact br (H9 _)
 have C:∀b f,b≠q.heap.objs.size->D.get? b=some f->((D.update q.heap.objs.size (wx (·.push I7))).update q.heap.objs.size (wx (·.pop))).get? b=some f:=λ b f i e=>(JE _ _ (J' i)).trans ((JE _ _ (J' i)).trans e);refine ah ⟨I0 F.plain_extend_loop _,codeAny_extend_loopS ((HI (a:=a) (o:=o.in1) WP (by simp only[<-x,m];exact br (gb O)) G).toS) (by simp only[LK];exact a2 WM (aE true)) q.heap.objs.size (λ g=>by
     rcases aP.mp g with e|g;·exact N e
     ·exact z (aI.mp g)) _ VR.size 0 _ _ _ rfl (dk _) ⟨C _ _ (J' N) v,C _ _ (J' z) (p _ _ k),dk _⟩ (cQ (wx (·.pop)) M rfl) (ItemsOf.nil _) λ Q l V g WO y=>?_⟩;rw[S9 g];refine WN Q.heap Q.toks l V (λ b f e=>g.heap b f (λ d=>?_) (C b f (br (az e)) (p b f e))) WO ?_
 · have i:=az e;rcases aP.mp d with e|d;·exact absurd e (br i)
   · have d:=aI.mp d;simp only[<-x,m]at d;exact absurd d (br (gb i))
 · have WR:(f0 c h a VR).toList.length=VR.size:=by simp only[(kB c h a VR).length_eq,aX]
   refine KA λ j=>?_;simp only[a',Jg,Jg];by_cases d:j<VR.size
   · have WQ:j<l.size:=by simp only[y.1];exact d
     have J:l[j]?=some l[j]:=hq WQ;simp only[J];exact(y.2 j _ J).symm
   ·simp only[H' (by rw[y.1];exact j8 d),H' (by rw[<-aX,WR];exact j8 d)];rfl
def HL{VR:List (Int×ab)}(h:OI (NM P0 c) VR):M8 (VR.map (·.2)) (VR.map λ e=>rL e.2):=by induction VR with
 |nil=>exact .nil|cons e r d=>
  refine aj λ i=>?_;refine am (h e (.head _)) λ f _=>?_;refine ak f λ k a _=>?_;refine ai (Ot a) λ g q=>i ?_;have :=d λ x b=>h x (.tail _ b);simp only[uW,uW,q];exact .cons k g this
def HM(N:o.handled=none)(O:q.heap.get? h=some (cw VR a Vy))(G:dP c VR Vy B)(u:VR.size<=10)(J:∀d r j e(g:Array ab)f,q.heap.get? j=none->d.get? j=some (L2 "list" g e)->M8 g.toList f->f.Perm B->f.Pairwise (·<=·)->(KO q.heap d)->Vf (.ref j) {q with heap:=d,toks:=r}):aA (au P0 c) o (I1 (.builtin "sorted") [.ref h]) Vf y q:=by
 refine Q7 kind_sorted plain_sorted entry_sorted (args_sorted1 _) ?_;unfold Builtin.«sorted»;refine af (m:=checkCount "sorted" 1 1 _) (ah (af ?_));unfold RZ;refine af (Oj (HK (by simpa using N) O G u λ d r k T l L v=>?_));refine af (ML L (ah ?_));have z:k.toList.length<64:=by simp only[v,be,(kB c h a VR).length_eq,aX];exact c6 u (aE true)
 refine af (Rf ?_ (an (bn z) (bW rfl)));have n:(d.push (L2 "list" k.toList.toArray 0)).get? d.objs.size=some (L2 "list" k.toList.toArray 0):=aF _ rfl;refine af (aK (IN U' ⟨_,n,rfl⟩ UE (list_sort_tree n (by rw[v];exact HL (G.l4.perm (kB c h a VR))) z λ g f C D H=>⟨_,rfl,(ai (sortedHeap_at (out:=g) n) λ e M=>(ah ⟨_,rfl,J _ r _ e g f ?_ M C (D.trans (((kB c h a VR).map _).trans G.perm)) H λ b p i=>?_⟩))⟩) (args_list_sort _)))
 · rcases i:q.heap.get? d.objs.size with _|p;·rfl
   ·exact absurd (az (l _ _ i)) (Iw _)
 · have x:=az (l b p i);rw[sortedHeap_old (br x) (by rw[IE];exact gb x)];exact ao _ (l b p i)
def HN:lY:=λ{k sc WL np WO W0 W1 e F}h g y B z M X w A c d s E R=>by
 refine dr ((Ev.bl (u:=k) (i:=WL) (v:=np) lk B).use c R (Kp.refl s) λ v W3 Y _ O m=>?_);obtain rfl:v=.builtin "sorted":=Y;have N:∀(p:Pos),L7 p (bD [e] d)=[(ap,He e d)]:=λ p=>by rw[M];rfl
 refine Ip (by rfl) (b1 (N5 ?_));refine dr ((Ev.bl (u:=k) (i:=WL) (v:=WO) AE z).use c m O λ v W4 WQ _ Q n=>?_);obtain rfl:v=.type "set":=WQ;rw[N];refine IY rfl (b1 (N5 (y.use c n Q λ v j WR _ T o=>Ov (aj λ WT=>?_))));refine bI (RV.list WR) λ a vs as V WX U WP=>?_;obtain rfl:=V;refine WT (HA (c.calm h) U.isList (nh WP) g λ f l WW ep t H G C=>?_);have i:Kp j {j with heap:=f,toks:=l}:=⟨f,l,rfl,C⟩;refine Ov ?_;refine HM (c.calm h) H G (by rw[G.len];exact an (i7 F) g) λ r WS b q WZ WY x u WM J L D=>?_;obtain rfl:=w8 J L;exact⟨.gD ((o.keeps i.keep).ex.jU x) ⟨q,u⟩ (qh _ WM),T.trans (i.trans ⟨r,WS,rfl,D⟩)⟩
abbrev Nn(F:List Int):Prop:=∀y∈F,0<=y
def hy(a:0<=C)(b:0<=Vq):cY (sg C) (sg Vq)=bF (C<Vq):=by
 show bF ([C.toNat]<[Vq.toNat])=_;refine decide_eq_decide.mpr ?_;rw[QT];constructor
 · rintro(h|⟨_,h⟩);·exact Si.mp λ q=>absurd h (b'.mpr (Int.toNat_le_toNat q))
   ·exact absurd h (NE _)
 ·intro h;left;exact sk a h
def xO(a:0<=C)(b:0<=Vq)(h:sg C=sg Vq):C=Vq:=by
 have :C.toNat=Vq.toNat:=by
  have :=congrArg (λ s:Str=>s.cps.toList) h;simpa[sg]using this
 exact(K5 a).symm.trans ((congrArg (λ n:Nat=>(n:Int)) this).trans (K5 b))
def l5(a:0<=C)(b:0<=Vq):(sg C==sg Vq)=(C==Vq):=by
 by_cases h:C=Vq;·subst h;simp
 · have :sg C≠sg Vq:=λ q=>h (xO a b q);simp only[beq_eq_false_iff_ne.mpr this,beq_eq_false_iff_ne.mpr h]
theorem l6:∀{G:List Int},Nn G->∀{WK:Int},0<=WK->(G.map sg).count (sg WK)=G.count WK
 |[],_,_,_=>rfl|g::G,h,WK,a=>by simp only[uW,IV,IV,l6 (λ y b=>h y (.tail _ b)) a,l5 (h g (.head _)) a]
section
variable{a:Type}[DecidableEq a]
noncomputable def e2:List a->(a->Nat)->List a
 |[],_=>[]|b::r,c=>if 0<c b then e2 r (λ z=>if z=b then c z-1 else c z)else b::e2 r c
def l7(b:a)(r:List a)(c:a->Nat):e2 (b::r) c=if 0<c b then e2 r (λ z=>if z=b then c z-1 else c z)else b::e2 r c:=rfl
theorem xP:∀l:List a,e2 l (λ _=>0)=l
 |[]=>rfl|b::r=>by rw[l7,if_neg (Iw 0),xP r]
theorem rM:∀(l:List a)(WL:a->Nat)(y:a),(e2 l WL).erase y=e2 l λ z=>if z=y then WL z+1 else WL z
 |[],_,_=>rfl|b::r,WL,y=>by
   rw[l7,l7];by_cases h:0<WL b
   · rw[if_pos h,if_pos (show 0<if b=y then WL b+1 else WL b by split<;>first|exact kJ h|exact h),rM r];congr 1;funext z;by_cases d:z=b
     · subst d;by_cases WK:z=y;·simp[WK];simp only[WK]at h;exact r2 h
       ·simp[WK]
     · by_cases WK:z=y;·subst WK;simp[d]
       ·simp[d,WK]
   · rw[if_neg h];by_cases WK:b=y
     · subst WK;rw[List.erase_cons_head,if_pos (by simp)];congr 1;funext z;by_cases d:z=b;·subst d;simp
       ·simp[d]
     ·rw[List.erase_cons_tail (by simpa using WK),if_neg (show¬0<if b=y then WL b+1 else WL b by rw[if_neg WK];exact h),rM r]
theorem rN:∀(l:List a)(WK:a->Nat)(y:a),(e2 l WK).count y=l.count y-WK y
 |[],_,_=>by show List.count _ ([]:List a)=_;simp|b::r,WK,y=>by
   rw[l7];by_cases h:0<WK b
   · rw[if_pos h,rN r,IV];by_cases d:y=b;·subst d;simp;exact yj h
     · have :(b==y)=ap:=by simpa using λ q:b=y=>d q.symm
       simp[d,this]
   · rw[if_neg h,IV,rN r,IV];by_cases d:y=b;·subst d;simp;rw[LG h];rfl
     · have :(b==y)=ap:=by simpa using λ q:b=y=>d q.symm
       simp[this]
theorem xQ(d:a):∀(l:List a)(c:a->Nat),e2 l c=((a1 l.length).filter λ k=>bF (c (l.getD k d)<(l.take (k+1)).count (l.getD k d))).map λ k=>l.getD k d
 |[],_=>rfl|b::r,c=>by
   simp only[y3,Qx,H6,List.filter_map];have m:bF (c ((b::r).getD 0 d)<((b::r).take (0+1)).count ((b::r).getD 0 d))=bF (¬0<c b):=by
     have :(b::r).getD 0 d=b:=rfl;refine this.symm▸?_;simp only[Ik,K0,Tb,List.count_singleton_self];exact decide_eq_decide.mpr ⟨λ q=>b'.mpr (IB q),λ q=>LD (b'.mp q)⟩
   refine m.symm▸?_;have i:∀g:a->Nat,(∀k,k<r.length->(c ((b::r).getD (k+1) d)<((b::r).take (k+1+1)).count ((b::r).getD (k+1) d)↔g (r.getD k d)<(r.take (k+1)).count (r.getD k d)))->(((a1 r.length).filter ((λ k=>bF (c ((b::r).getD k d)<((b::r).take (k+1)).count ((b::r).getD k d)))∘Nat.succ)).map Nat.succ).map (λ k=>(b::r).getD k d)=e2 r g:=λ g h=>by
     simp only[xQ d r g,ec];exact congrArg (Td λ k=>r.getD k d) (MC λ k f=>decide_eq_decide.mpr (h k (cI.mp f)))
   have j:∀k,(b::r).getD (k+1) d=r.getD k d:=λ k=>rfl;rw[l7];by_cases h:0<c b
   · rw[if_pos h,if_neg (by simpa using Nat.pos_iff_ne_zero.mp h)];refine(i _ λ k f=>?_).symm;rw[j,K0,IV];by_cases e:r.getD k d=b;·refine e.symm▸?_;simp;exact⟨λ q=>aJ (Km h Kf) (IB q),λ q=>LD (Nat.le_of_pred_lt q)⟩
     · have :(b==r.getD k d)=ap:=by simpa using λ q:b=_=>e q.symm
       simp only[e,if_false,this,cT,KV]
   · rw[if_neg h,if_pos (by simpa using LG h),uW];congr 1;refine(i _ λ k f=>?_).symm;rw[j,K0,IV];by_cases e:r.getD k d=b
     · have n:b∈r.take (k+1):=by
         simp only[<-e,av,ay f];exact List.mem_take_iff_getElem.mpr ⟨k,mh iy f,rfl⟩
       have :=Mr.mpr n;refine e.symm▸?_;simp;simp only[LG h];exact iff_of_true (Js _) this
     · have :(b==r.getD k d)=ap:=by simpa using λ q:b=_=>e q.symm
       simp only[this,cT,if_false,KV]
end
theorem xR(WK as:List Str):∀WL,WL<=WK.length->(bf WK as WL).2=e2 as (λ z=>(WK.drop (WK.length-WL)).count z)/\(bf WK as WL).1=(((a1 WL).map λ j=>WK.length-1-j).filter λ k=>bF (as.count (WK.getD k aR)<(WK.drop k).count (WK.getD k aR))).map λ k=>WK.getD k aR
 |0,_=>by
   refine⟨?_,rfl⟩;simp only[KR,List.drop_length];exact(xP as).symm|WL+1,WO=>by
   refine am (xR WK as WL (by exact gv WO)) λ b g=>?_;have d:WK.drop (WK.length-1-WL)=WK.getD (WK.length-1-WL) aR::WK.drop (WK.length-WL):=by simp only[ht (by exact hF (gY WO)),av,ay (by exact hF (gY WO)),show WK.length-1-WL+1=WK.length-WL by exact yi WO];rfl
   have m:WK.drop (WK.length-(WL+1))=WK.getD (WK.length-1-WL) aR::WK.drop (WK.length-WL):=by simp only[<-d,show WK.length-(WL+1)=WK.length-1-WL by exact r0 WO]
   refine m.symm▸?_;have n:(((a1 (WL+1)).map λ j=>WK.length-1-j).filter λ k=>bF (as.count (WK.getD k aR)<(WK.drop k).count (WK.getD k aR))).map (λ k=>WK.getD k aR)=(bf WK as WL).1++(if as.count (WK.getD (WK.length-1-WL) aR)<(WK.drop (WK.length-1-WL)).count (WK.getD (WK.length-1-WL) aR)then[WK.getD (WK.length-1-WL) aR]else[]):=by
     simp only[g,Nh,fs,IZ,fs];congr 1;simp only[Of,H6];split;·rename_i WN;rw[if_pos (of_decide_eq_true WN)];rfl
     ·rename_i WN;rw[if_neg λ r=>WN (decide_eq_true r)];rfl
   simp only[n,d,Rd];have e:=@vg WK as WL;have f:=@vh WK as WL;generalize WK.getD (WK.length-1-WL) aR=y at e f⊢;have c:=rN as (λ z=>(WK.drop (WK.length-WL)).count z) y;have l:e2 as (λ z=>(y::WK.drop (WK.length-WL)).count z)=(e2 as (λ z=>(WK.drop (WK.length-WL)).count z)).erase y:=by
     simp only[rM];congr 1;funext z;simp only[IV];by_cases WN:z=y;·obtain rfl:=WN.symm;simp
     · have :(y==z)=ap:=by simpa using λ r:y=z=>WN r.symm
       simp[WN,this]
   rw[l];by_cases a:y∈(bf WK as WL).2
   · rw[e a];refine⟨?_,?_⟩;·rw[<-b];exact(List.erase_eq_eraseIdx_of_idxOf (List.idxOf_lt_length_iff.mpr a|>λ _=>rfl)).symm
     · rw[b]at a;have :=Mr.mpr a;rw[if_neg (b'.mpr (Sv (c▸this))),IW]
   · rw[f a];refine⟨?_,?_⟩;·rw[<-b];exact(List.erase_of_not_mem a).symm
     · rw[b]at a;have :=JL.mpr a;rw[if_pos (LD (Nat.le_of_sub_eq_zero (c.symm.trans this)))]
def l8(b:a<B.length):(B.map sg).getD a aR=sg (B.getD a 0):=by simp only[av,av,a',ay b];rfl
def f'(b:a<B.length):B.getD a 0∈B:=by simp only[av,ay b];exact IK b
def HO{F G:List Int}:(∀x∈da F G,x∈F)/\∀x∈df F G,x∈G:=by
 refine⟨λ x b=>?_,λ x b=>?_⟩
 · refine ak (hp.mp b) ?_;rintro k a rfl;refine ak (hp.mp (hu.mp a).1) ?_;rintro j c rfl;have :=cI.mp c;exact f' (hF this)
 · refine aj λ d=>?_;refine ak (hp.mp b) ?_;rintro k a rfl;exact d (f' (cI.mp (hu.mp a).1))
def HP(c:Nn B)(d:Nn VL):bf (B.map sg) (VL.map sg) (B.map sg).length=((da B VL).map sg,(df B VL).map sg):=by
 refine am (xR (B.map sg) (VL.map sg) (B.map sg).length (aB _)) λ g f=>MS ?_ ?_
 · simp only[f];unfold da;rw[be,ec];have b:∀k∈(a1 B.length).map λ j=>B.length-1-j,k<B.length:=λ k b=>by
     refine ak (hp.mp b) ?_;rintro j i rfl;have :=cI.mp i;exact hF this
   rw[MC (q:=λ k=>bF (VL.count (B.getD k 0)<(B.drop k).count (B.getD k 0))) λ k h=>?_];·exact Ix λ k h=>l8 (b k (hu.mp h).1)
   · have :=b k h;have a:=c _ (f' this);rw[l8 this,l6 d a,<-Qc,l6 (λ y e=>c y (KH e)) a]
 · simp only[g,Nd,Lx,xQ aR];unfold df;simp only[be,ec];rw[MC (q:=λ k=>bF (B.count (VL.getD k 0)<(VL.take (k+1)).count (VL.getD k 0))) λ k h=>?_];·exact Ix λ k h=>l8 (cI.mp (hu.mp h).1)
   · have :=cI.mp h;have a:=d _ (f' this);rw[l8 this,l6 c a,<-Oa,l6 (λ y e=>d y (Ra e)) a]
abbrev ox(a b:Str):Prop:=cY b a=ap
theorem xS:∀(r:List Str)(p:Str),risingS p r=true->(p::r).Pairwise ox
 |[],_,_=>Qj _ _|x::r,p,h=>by
   unfold risingS at h;refine am (x4.mp h) λ a d=>?_;have c:=xS r x d;have WL:ox p x:=by
     simp only[IR]at a;show bF (x.cps.toList<p.cps.toList)=ap;rw[lt_meets];exact a
   refine am (Mp.mp c) λ WM _=>Mp.mpr ⟨λ WN WK=>(aH (aP.mp WK) ?_ λ WK=>?_),c⟩
   · rintro rfl;exact WL
   · have b:=NC.mp (of_decide_eq_false (WM WN WK));exact decide_eq_false (NC.mpr (List.le_trans (NC.mp (of_decide_eq_false WL)) b))
def HQ(e:Nn B):((bx B).map sg).Pairwise ox:=by
 rw[Sc];refine(op B).imp_of_mem λ{a b}c d h=>?_;have c:=e a ((ea B).mem_iff.mp c);have d:=e b ((ea B).mem_iff.mp d);show cY (sg b) (sg a)=ap;rw[hy d c];exact decide_eq_false (oH h)
def xT(e:Nn B)(f:G.Perm (B.map sg))(g:M7 G=true):G=(bx B).map sg:=by
 have c:G.Pairwise ox:=by
  rcases G with _|⟨x,r⟩;·exact .nil
  ·exact xS r x g
 exact Mm (λ a b _ _ c d=>q1 d c) c (HQ e) (f.trans ((ea B).map sg).symm)
def rO(c:∀x∈B,0<=x/\x<65536/\(x<55296\/57343<x))(e:B.length<=10):cS (aY B) (sg 65536):=by
 have d:∀x∈bx B,x∈B:=λ x b=>(ea B).mem_iff.mp b;refine⟨⟨_,rfl,λ y a=>?_⟩,λ y a=>?_,?_⟩
 · refine aj λ f=>?_;refine ak (hp.mp a) ?_;rintro x b rfl;refine f ?_;have :=c x (d x b);rw[hy (by exact this.left) (by exact dh)];exact decide_eq_true (this.right.left)
 · rcases k9.mp a with a|a
   · refine ak (hp.mp a) ?_;rintro x b rfl;have :=c x (d x b);show(#[x.toNat].all _)=true;simp;exact oX this rfl
   ·rw[aI.mp a];decide+kernel
 · unfold aY;simp only[eH,be,il,Kw];exact iA e (aE true)
def HR(a b:Bool):eX a b=0-eX b a:=by unfold eX;exact((Int.zero_sub _).trans (Int.neg_sub _ _)).symm
def HS(a:Bool):eX a a=0:=by unfold eX;exact Int.sub_self _
theorem xU:∀{a b:List Int},Nn a->Nn b->((((a.zip b).filter λ WM=>WM.1 !=WM.2).map λ WM=>if WM.2<WM.1 then(1:Int)else-1)++[eX (bF (b.length<a.length)) (bF (a.length<b.length))])[0]?=some (fY (a.map sg) (b.map sg))
 |[],[],_,_=>rfl|[],WL::b,_,_=>by simp[fY,ck]|WK::a,[],_,_=>by simp[fY,ck]|WK::a,WL::b,f,g=>by
   have c:=f WK (.head _);have d:=g WL (.head _);unfold fY;simp only[uW,uW,Oe,H6];unfold ck;simp only[l5 c d,l5 d c];by_cases h:WK=WL
   · subst h;simp only[bne_self_eq_false,cT,if_false,beq_self_eq_true,if_true,y3,Nat.add_lt_add_iff_right];exact xU (λ z e=>f z (.tail _ e)) (λ z e=>g z (.tail _ e))
   · have k:(WK==WL)=ap:=by simpa using h
     have l:(WL==WK)=ap:=by simpa using λ WM:WL=WK=>h WM.symm
     simp only[bne,k,l,Bool.not_false,if_true,cT,if_false];have i:bF ((sg WK).cps.toList<(sg WL).cps.toList)=bF (WK<WL):=hy c d;have j:bF ((sg WL).cps.toList<(sg WK).cps.toList)=bF (WL<WK):=hy d c;simp only[i,j];show some _=_;unfold eX;by_cases WM:WL<WK
     · have :¬WK<WL:=oH (gw WM);simp[WM,this]
     · have :WK<WL:=mz (JO.mp WM) h;simp[WM,this]
theorem xV:∀{s:List Str},s≠[]->ck s.dropLast s=true/\ck s s.dropLast=ap
 |[],WK=>(WK rfl).elim|[x],_=>⟨rfl,rfl⟩|x::y::r,_=>by
  refine am (xV (s:=y::r) (by simp)) λ a b=>?_;refine(List.dropLast_cons_cons).symm▸?_;unfold ck;simp only[beq_self_eq_true,if_true];exact⟨a,b⟩
def HT(d:Nn (fA B))(e:Nn (fB B))(f:sA B≠[]):∃u,(io (fA B) (fB B))[0]?=some u/\fZ B=[u,0-u,0,-1,1]:=by
 have c:∀{F:List Int},Nn F->Nn (bx F):=λ h x g=>h x ((ea _).mem_iff.mp g);refine bj (fY ((bx (fA B)).map sg) ((bx (fB B)).map sg)) ?_ ?_
 · have :=xU (c d) (c e);rw[il,il]at this;exact this
 · refine am (xV f) λ a b=>?_;unfold fZ fY;simp only[a,b,HS,HR (ck ((bx (fA B)).map sg) ((bx (fB B)).map sg))];rfl
noncomputable def cU(F P:List Int):List (Option Str):=F.map λ WK=>if WK∈P then none else some (sg WK)
noncomputable def l9(F G L:List Int):List d':=(L.filter λ x=>F.count x !=G.count x).map λ x=>(F.count x,G.count x,sg x)
def oy:(cU B VL)[a]?=B[a]?.map λ x=>if x∈VL then none else some (sg x):=by unfold cU;simp only[a']
def HU(F P:List Int):(cU F P).length=F.length:=by unfold cU;rw[be]
def xW(h:a<B.length):(cU B VL).getD a none=if B.getD a 0∈VL then none else some (sg (B.getD a 0)):=by rw[av,oy,av,ay h];rfl
def xX(a:0<=C)(b:0<=Vq):((some (sg C):Option Str)==some (sg Vq))=(C==Vq):=by simp only[Option.some_beq_some,l5 a b]
theorem xY{P:List Int}{x:Int}(b:0<=x)(a:x∉P):∀{F:List Int},Nn F->(cU F P).count (some (sg x))=F.count x
 |[],_=>rfl|y::F,h=>by
   have e:cU (y::F) P=(if y∈P then none else some (sg y))::cU F P:=rfl;simp only[e,IV,IV,xY b a λ z c=>h z (.tail _ c)];congr 1;by_cases q:y∈P
   · rw[if_pos q];have :(y==x)=ap:=by simpa using λ e:y=x=>a (e▸q)
     refine this.symm▸?_;rfl
   ·rw[if_neg q,xX (h y (.head _)) b]
def rP(d:Nn B)(i:0<=C)(g:∀j y,j<a->B[j]?=some y->y∈VL):bv (sg C) (cU B VL) a ((cU B VL).length-a)=cU B (VL++[C]):=by
 refine KA λ j=>?_;simp only[ib,oy,oy,HU];rcases e:B[j]? with _|y;·rfl
 · have f:j<B.length:=by refine ai (a8.mp e) λ c _=>?_;exact c
   simp only[ID,Kb];by_cases q:y∈VL
   · rw[if_pos q,if_pos (Im _ q)];simp
   · have b:a<=j:=S2 λ r=>q (g j y r e);simp only[if_neg q,xX (d y (ct e)) i,decide_eq_true b,decide_eq_true (yC f b)];by_cases r:y=C;·subst r;simp
     · have :(y==C)=ap:=by simpa using r
       have h:y∉VL++[C]:=λ m=>by
         rcases k9.mp m with m|m;·exact q m
         ·exact r (aI.mp m)
       rw[this,if_neg h];simp
def rQ(f:Nn B)(i:0<=C)(g:C∉VL)(h:∀j y,j<b->B[j]?=some y->y∈VL):cL (sg C) (cU B VL) b ((cU B VL).length-b)=B.count C:=by
 unfold cL;rw[lu (by rw[MU];exact aB _),<-xY i g f];have d:((cU B VL).take b).count (some (sg C))=0:=by
   refine JL.mpr λ m=>ai (Io m) λ j c=>?_;rw[Kh]at c;split at c
   · rename_i q;rw[oy]at c;refine ak (bh.mp c) λ y k e=>?_;rw[if_pos (h j y q k)]at e;exact aQ e
   ·exact aQ c
 have :=KC (a:=some (sg C)) (l₁:=(cU B VL).take b) (l₂:=(cU B VL).drop b);simp only[LU,d]at this;exact(this.trans (Ik _)).symm
def rR{F P a:List Int}(h:∀x,x∈P↔x∈a):cU F P=cU F a:=by
 unfold cU;refine Ix λ x _=>?_;by_cases q:x∈P;·rw[if_pos q,if_pos ((h x).mp q)]
 ·rw[if_neg q,if_neg λ r=>q ((h x).mpr r)]
def kD:C∈b5 B↔C∈B:=by
 refine⟨lX,λ h=>?_⟩;have H:∀n,C∈B.take n->C∈b5 (B.take n):=by
   intro n;induction n with
   |zero=>intro h;simp at h|succ n a=>
     intro h;by_cases q:n<B.length
     · rw[hs q]at h⊢;rw[i9];split
       · rename_i r;rcases k9.mp h with h|h;·exact a h
         ·simp only[aI.mp h];exact r
       · refine aH (k9.mp h) (λ h=>?_) λ h=>?_;·exact Im _ (a h)
         ·exact iq _ h
     · rw[lu (j4 (j8 q) dG)]at h⊢;rw[lu (j8 q)]at a;exact a h
 have :=H B.length;rw[IJ]at this;exact this h
def ma:∀j y,j<a->B[j]?=some y->y∈B.take a:=λ j y b e=>ct (i:=j) (by rw[Kh,if_pos b];exact e)
theorem xZ{F G:List Int}(a:Nn F)(c:Nn G):∀i,i<=F.length->ch (F.map sg) (G.map sg) i=(cU F (F.take i),cU G (F.take i),l9 F G (b5 (F.take i)))
 |0,_=>by
   have e:∀L:List Int,(L.map sg).map some=cU L []:=λ L=>by unfold cU;rw[ec];exact Ix λ x _=>by simp
   show((F.map sg).map some,(G.map sg).map some,[])=_;simp only[e,e];rfl|i+1,h=>by
   have d:i<F.length:=gY h;have b:=a _ (f' d);unfold ch;rw[(xZ a c i (gv h))];unfold c1;rw[xW d,hs d];generalize F.getD i 0=x at*;by_cases q:x∈F.take i
   · rw[if_pos q];dsimp only;have l:∀z,z∈F.take i↔z∈F.take i++[x]:=λ z=>⟨Im _,λ m=>by
       rcases k9.mp m with m|m;·exact m
       ·simp only[aI.mp m];exact q⟩;rw[i9,if_pos (kD.mpr q),rR l,rR (F:=G) l]
   · rw[if_neg q];dsimp only;have k:∀j y,j<0->G[j]?=some y->y∈F.take i:=λ j y n=>absurd n (PK _);have f:=rP (C:=x) c b k;have g:=rQ c b q k;simp only[KR]at f g;simp only[(rP (C:=x) a b (ma (B:=F) (a:=i))),rQ a b q (ma (B:=F) (a:=i)),f,g,i9,if_neg λ m=>q (kD.mp m)];refine MS rfl (MS rfl ?_);unfold l9;simp only[IZ,fs,H6];unfold bne;cases F.count x==G.count x<;>simp
theorem x0{F G:List Int}(a:Nn G):∀i,i<=G.length->d0 (cU G F,l9 F G (b5 F)) i=(cU G (F++G.take i),l9 F G (b5 (F++G.take i)))
 |0,_=>by simp only[Tb,IW];rfl|i+1,h=>by
   have b:i<G.length:=gY h;have f:=a _ (f' b);unfold d0;rw[(x0 (F:=F) a i (gv h))];unfold c2;rw[xW b,hs b,<-jB];have k:=f' b;generalize G.getD i 0=x at*;by_cases q:x∈F++G.take i
   · rw[if_pos q];dsimp only;have n:∀z,z∈F++G.take i↔z∈(F++G.take i)++[x]:=λ z=>⟨Im _,λ m=>by
       rcases k9.mp m with m|m;·exact m
       ·simp only[aI.mp m];exact q⟩;rw[i9,if_pos (kD.mpr q),rR n]
   · rw[if_neg q];dsimp only;have d:∀j y,j<i->G[j]?=some y->y∈F++G.take i:=λ j y l e=>iq _ (ma j y l e);rw[rP a f d,rQ a f q d,i9,if_neg λ m=>q (kD.mp m)];refine MS rfl ?_;have c:F.count x=0:=JL.mpr λ m=>q (Im _ m);have g:0<G.count x:=Mr.mpr k;unfold l9;rw[IZ,fs,H6,if_pos (by rw[c];simp;exact yf (rY g)),Pq,Of,c]
def HV(b:Nn B)(a:Nn VL):ie (B.map sg) (VL.map sg)=(gU B VL).map λ x=>(B.count x,VL.count x,sg x):=by
 unfold ie;simp only[be,be,xZ b a _ (aB _),IJ,x0 a _ (aB _),IJ];rfl
def x1(l:List Int):(b5 l).Nodup:=by
 have H:∀n,(b5 (l.take n)).Nodup:=by
   intro n;induction n with
   |zero=>exact ND|succ n a=>
     by_cases WL:n<l.length
     · simp only[hs WL,i9];split;·exact a
       · rename_i r;refine Sd.mpr ⟨a,Jd.mpr ⟨(λ h=>by cases h),ND⟩,λ x b y c e=>?_⟩;rw[aI.mp c]at e;exact r (e▸b)
     · rw[lu (by first|exact j8 WL|exact j4 (j8 WL) dG)]at a⊢;exact a
 have :=H l.length;rwa[IJ]at this
def x2(h:B.Nodup):(bx B).Pairwise (·<·):=((op B).and ((ea B).nodup_iff.mpr h)).imp λ c=>by refine am c λ a b=>?_;exact mz a b
def x3(c:B.Pairwise (·<·))(d:VL.Pairwise (·<·))(h:∀x,x∈B↔x∈VL):B=VL:=by
 have e:∀{l:List Int},l.Pairwise (·<·)->l.Nodup:=λ h=>h.imp λ q=>ye q;exact w7 ((PN (e c) (e d)).mpr h) (c.imp λ q=>gw q) (d.imp λ q=>gw q)
structure kE(a:List Int)(i b:Nat)(x:Int):Prop where
 len:b<=a.length
 lt:i<b
 HW:x∈a.take b
 old:∀z,z∈a.take b->z∈a.take i\/z=x
 new:∀z,z∈a.drop b->x<z
def kE.sub(S:kE B a b C):(∀z,z∈B.take a->z∈B.take b)/\∀z,z∈B.drop b->z∈B.drop a:=by
 refine⟨λ z h=>?_,λ z h=>?_⟩
 · have :=(List.take_prefix_take_left (l:=B) (bn S.lt)).subset h;exact this
 · have e:B.drop b=(B.drop a).drop (b-a):=by simp only[List.drop_drop];congr 1;have :=S.lt;exact(Jb (bn this)).symm
   rw[e]at h;exact KH h
structure gs(a b:List Int)(i j:Nat)(m u:List Int):Prop where
 hi:i<=a.length
 hj:j<=b.length
 pm:m.Pairwise (·<·)pu:u.Pairwise (·<·)mm:∀x,x∈m↔x∈a.take i/\x∉b
 mu:∀x,x∈u↔x∈b.take j/\x∉a
 sep:∀x,x∈a.take i\/x∈b.take j->∀y,y∈a.drop i\/y∈b.drop j->x<y
def gs.swap{m u:List Int}(H:gs B VL a b m u):gs VL B b a u m:=⟨H.hj,H.hi,H.pu,H.pm,H.mu,H.mm,λ x h y g=>H.sep x h.symm y g.symm⟩
def gs.less{m u:List Int}(H:gs B VL a b m u)(S:kE B a x C)(e:C∈B.drop a)(d:∀z,z∈VL.drop b->C<z):gs B VL x b (m++[C]) u:=by
 refine am S.sub λ p q=>?_;have l:C∉VL:=λ h=>by
   rw[<-LU b VL]at h;rcases k9.mp h with h|h;·exact absurd (H.sep C (.inr h) C (.inl e)) (Qo _)
   ·exact absurd (d C h) (Qo _)
 refine⟨S.len,H.hj,?_,H.pu,λ z=>⟨λ h=>?_,λ⟨f,k⟩=>?_⟩,H.mu,λ z h y g=>?_⟩
 · refine NB.mpr ⟨H.pm,Qj _ _,λ z o y n=>?_⟩;simp only[aI.mp n];exact H.sep z (.inl ((H.mm z).mp o).1) C (.inl e)
 · rcases k9.mp h with h|h;·have :=(H.mm z).mp h;exact⟨p z this.1,this.2⟩
   ·rw[aI.mp h];exact⟨S.HW,l⟩
 · refine aH (S.old z f) (λ h=>?_) λ h=>?_;·exact Im _ ((H.mm z).mpr ⟨h,k⟩)
   ·exact iq _ (aI.mpr h)
 · have c:y∈B.drop a\/y∈VL.drop b:=g.imp_left (q y);rcases h with h|h
   · refine aH (S.old z h) (λ h=>?_) λ h=>?_;·exact H.sep z (.inl h) y c
     · obtain rfl:=h.symm;refine aH g (λ g=>?_) λ g=>?_;·exact S.new y g
       ·exact d y g
   ·exact H.sep z (.inr h) y c
def gs.same{m u:List Int}(H:gs B VL a b m u)(S:kE B a x C)(c:kE VL b Vs C)(l:C∈B.drop a)(n:C∈VL.drop b):gs B VL x Vs m u:=by
 refine aj λ s=>am S.sub λ o p=>am c.sub λ q r=>s ?_;refine⟨S.len,c.len,H.pm,H.pu,λ z=>⟨λ h=>⟨o z ((H.mm z).mp h).1,((H.mm z).mp h).2⟩,λ⟨e,d⟩=>?_⟩,λ z=>⟨λ h=>⟨q z ((H.mu z).mp h).1,((H.mu z).mp h).2⟩,λ⟨e,d⟩=>?_⟩,λ z h y g=>?_⟩
 · rcases S.old z e with h|h;·exact(H.mm z).mpr ⟨h,d⟩
   ·exact(d (h▸(KH n))).elim
 · rcases c.old z e with h|h;·exact(H.mu z).mpr ⟨h,d⟩
   ·exact(d (h▸(KH l))).elim
 · have f:y∈B.drop a\/y∈VL.drop b:=g.imp (p y) (r y);have k:C<y:=g.elim (S.new y) (c.new y);refine aH h (λ h=>?_) λ h=>?_
   · rcases S.old z h with h|h;·exact H.sep z (.inl h) y f
     ·rw[h];exact k
   · rcases c.old z h with h|h;·exact H.sep z (.inr h) y f
     ·rw[h];exact k
structure ja(a:List Int):Prop where
 rT:a.Pairwise (·<=·)bd:∀x∈a,0<=x/\x<65536
 ok:cS (a.map sg++[sg 65536]) (sg 65536)
noncomputable abbrev c4(a:List Int):List Str:=a.map sg++[sg 65536]
def rU(h:a<B.length):(c4 B).getD a aR=sg (B.getD a 0):=by rw[av,GZ (by simpa using h),<-av,l8 h]
def HX:(c4 B).getD B.length aR=sg 65536:=by rw[av,I9 (by simp)];simp
def kG:(c4 B).length=B.length+1:=by simp
def rV(h:B[a]?=some C):a<B.length/\B.getD a 0=C:=by
 refine ai (a8.mp h) λ q _=>?_;exact⟨q,by rw[av,h];rfl⟩
def HY(h:a<B.length):B[a]?=some (B.getD a 0):=by rw[av,ay h];rfl
def rW(h:B.Pairwise (·<=·))(q:a<=b)(c:b<B.length):B.getD a 0<=B.getD b 0:=by
 by_cases e:a=b;·subst e;exact NU _
 · have :=Mw.mp h a b (c5 q c) c (jc q e);simp only[av,av,ay c,ay (c5 q c)];exact this
def ja.skip(R:ja B)(m:a<B.length):kE B a (bY (c4 B) (sg (B.getD a 0)) (a+1)) (B.getD a 0):=by
 have n:=R.bd _ (f' m);have d:bY (c4 B) (sg (B.getD a 0)) (a+1)<(c4 B).length:=R.ok.skip (by simp only[kG];exact sa m) (by rw[hy (by exact n.left) (by exact dh)];exact decide_eq_true (by exact n.right));have p:∀k,a+1<=k->k<bY (c4 B) (sg (B.getD a 0)) (a+1)->B.getD k 0=B.getD a 0:=λ k f c=>by
   have v:k-(a+1)<(((c4 B).drop (a+1)).takeWhile (·==sg (B.getD a 0))).length:=by unfold bY at c;exact se c f
   refine am (q0 v) λ j g=>?_;rw[show a+1+(k-(a+1))=k by exact fz f]at j g;have b:k<B.length:=by simp only[kG]at d;exact bA c (dF d)
   rw[rU b]at g;exact xO (R.bd _ (f' b)).1 n.1 g
 have l:=@vx (c4 B) (sg (B.getD a 0)) (a+1) d;have h:a+1<=bY (c4 B) (sg (B.getD a 0)) (a+1):=by unfold bY;exact dG
 generalize bY (c4 B) (sg (B.getD a 0)) (a+1)=r at d p l h⊢;simp only[kG]at d;refine⟨by exact dF d,by exact gY h,ma a _ (by exact gY h) (HY m),λ z o=>?_,λ z o=>?_⟩
 · refine ai (Io o) λ k b=>?_;rw[Kh]at b;split at b
   · rename_i q;by_cases s:k<a;·exact .inl (ma k z s b)
     · right;refine am (rV b) λ _ e=>?_;by_cases t:k=a;·obtain rfl:=t.symm;exact e.symm
       ·refine e▸?_;exact p k (by exact hz (mn t s)) q
   ·exact aQ b
 · refine ai (Io o) λ k b=>?_;rw[Mq]at b;refine am (rV b) λ f e=>?_;have c:r<B.length:=by exact fy f
   rw[rU c]at l;have j:B.getD r 0≠B.getD a 0:=λ q=>l (by rw[q]);have g:=rW R.rT (by exact gv h) c;have u:=rW R.rT (by exact dG) f;refine e▸?_;exact Kn (mz g j.symm) (e▸u)
def x5(R:ja B)(h:C∈B.drop a):a<B.length/\B.getD a 0<=C:=by
 refine aj λ d=>ai (Io h) λ k c=>?_;rw[Mq]at c;refine am (rV c) λ b e=>d ?_;exact⟨fy b,by simp only[<-e];exact rW R.rT (dG) b⟩
def oz(h:a<B.length):B.getD a 0∈B.drop a:=by simp only[ht h,av,ay h];exact .head _
def x6(R:ja B)(h:a<=B.length):∃x,(c4 B).getD a aR=sg x/\0<=x/\((a<B.length/\x=B.getD a 0/\x<65536)\/(a=B.length/\x=65536)):=by
 by_cases q:a<B.length
 · have :=R.bd _ (f' q);exact dU _ (rU q) this.1 (.inl ⟨q,rfl,this.2⟩)
 · obtain rfl:a=B.length:=gu h q;exact dU (65536) HX (dh) (.inr ⟨rfl,rfl⟩)
theorem x7{a b:List Int}(o:ja a)(p:ja b):∀t,∃m u,(aM (c4 a) (c4 b) t).2.2=(m.map sg,u.map sg)/\gs a b (aM (c4 a) (c4 b) t).1 (aM (c4 a) (c4 b) t).2.1 m u
 |0=>⟨[],[],rfl,dk _,dk _,.nil,.nil,λ x=>by simp[aM],λ x=>by simp[aM],λ x h=>by simp[aM]at h⟩|t+1=>by
   refine aj λ L=>aW (x7 o p t) λ m u e H=>L ?_;unfold aM;rcases r:dN (c4 a) (c4 b) (aM (c4 a) (c4 b) t)with _|_
   · rw[if_neg (by simp)];generalize aM (c4 a) (c4 b) t=q at*;obtain⟨i,j,M,U⟩:=q;dsimp only at e H;refine am (JU e) ?_;rintro rfl J;obtain rfl:=J;refine ci (x6 o H.hi) λ x E B f=>ci (x6 p H.hj) λ y G C c=>?_;unfold fR;dsimp only;rw[E,G,hy B C,hy C B];by_cases l:x<y
     · simp only[if_pos (decide_eq_true l)];rcases f with⟨g,rfl,f⟩|⟨_,rfl⟩
       · refine dw (m++[a.getD i 0]) u (by simp) (H.less (o.skip g) (oz g) λ z k=>?_);refine am (x5 p k) λ d k=>?_;rcases c with⟨_,rfl,_⟩|⟨rfl,_⟩;·exact r4 l k
         ·exact mj d d
       ·rcases c with⟨_,_,c⟩|⟨_,rfl⟩<;>first|exact oI l (gw c)|exact dR (kI l) bE
     · rw[if_neg (by simpa using l)];by_cases n:y<x
       · simp only[if_pos (decide_eq_true n)];rcases c with⟨d,rfl,c⟩|⟨_,rfl⟩
         · refine dw m (u++[b.getD j 0]) (by simp) ((H.swap.less (p.skip d) (oz d) λ z k=>?_).swap);refine am (x5 o k) λ g k=>?_;rcases f with⟨_,rfl,_⟩|⟨rfl,_⟩;·exact r4 n k
           ·exact mj g g
         ·rcases f with⟨_,_,f⟩|⟨_,rfl⟩<;>first|exact oI n (gw f)|exact dR (kI n) bE
       · rw[if_neg (by simpa using n)];obtain rfl:x=y:=r7 (oG n) (oG l);rcases f with⟨g,D,f⟩|⟨rfl,rfl⟩
         · rcases c with⟨d,A,c⟩|⟨_,rfl⟩
           · have S:=o.skip g;have s:=p.skip d;have v:=oz g;have w:=oz d;rw[<-D]at S v;rw[<-A]at s w;exact dw m u rfl (H.same S s v w)
           ·exact dR (kI f) bE
         · rcases c with⟨d,A,c⟩|⟨rfl,_⟩;·exact dR (kI c) bE
           · unfold dN at r;simp only[kG,beq_self_eq_true,Bool.and_self]at r;cases r
   ·rw[if_pos rfl];exact dw m u e H
def HZ(b:∀x∈B,0<=x/\x<65536/\(x<55296\/57343<x))(E:∀x∈VL,0<=x/\x<65536/\(x<55296\/57343<x))(z:B.length<=10)(A:VL.length<=10):(aM (aY B) (aY VL) ((aY B).length+(aY VL).length)).2.2=((gq (B++VL) VL).map sg,(gq (B++VL) B).map sg):=by
 have r:∀{B:List Int},(∀x∈B,0<=x/\x<65536/\(x<55296\/57343<x))->B.length<=10->ja (bx B):=λ b h=>⟨op _,λ x J=>by have :=b x ((ea _).mem_iff.mp J);exact⟨this.1,this.2.1⟩,rO b h⟩;have i:=r b z;have j:=r E A;have f:=ka i.ok j.ok ((aY B).length+(aY VL).length);refine aj λ g=>aW (x7 i j ((aY B).length+(aY VL).length)) λ m u e H=>d6 f λ M N Q T f=>g ?_;have k:dN (aY B) (aY VL) (aM (aY B) (aY VL) ((aY B).length+(aY VL).length))=true:=by
   rcases q:dN (aY B) (aY VL) (aM (aY B) (aY VL) ((aY B).length+(aY VL).length))with _|_
   · have C:(aM (aY B) (aY VL) ((aY B).length+(aY VL).length)).2.1<(aY VL).length:=N;have D:(aY B).length+(aY VL).length<=(aM (aY B) (aY VL) ((aY B).length+(aY VL).length)).1+(aM (aY B) (aY VL) ((aY B).length+(aY VL).length)).2.1:=f q;exact sE M C D
   ·rfl
 refine e.symm▸?_;have H:gs (bx B) (bx VL) (aM (aY B) (aY VL) ((aY B).length+(aY VL).length)).1 (aM (aY B) (aY VL) ((aY B).length+(aY VL).length)).2.1 m u:=H;unfold dN at k;refine aj λ g=>am (x4.mp k) λ c d=>?_;have c:=pV c;have d:=pV d;have O:(aM (aY B) (aY VL) ((aY B).length+(aY VL).length)).1=(bx B).length:=ml (jf c) (hB kG);have l:=H.mm;have n:=H.mu;rw[O,IJ]at l;rw[(ml (jf d) (hB kG)),IJ]at n;have o:∀(all X:List Int),(gq all X).Pairwise (·<·)/\∀x,x∈gq all X↔x∈all/\x∉X:=λ all X=>by
   refine⟨(x2 (x1 all)).filter _,λ x=>?_⟩;unfold gq;rw[hu,(ea _).mem_iff,kD,IR,MD];exact and_congr_right λ _=>⟨λ h q=>h x q (beq_self_eq_true x),λ h y L e=>h (pV e▸L)⟩
 refine am (o (B++VL) VL) λ s t=>am (o (B++VL) B) λ v w=>g ?_;rw[x3 H.pm s λ x=>by rw[l,t,(ea B).mem_iff,(ea VL).mem_iff,k9];exact⟨λ a=>(by refine am a λ p q=>?_;exact⟨.inl p,q⟩),λ a=>by refine am a λ p q=>?_;exact⟨p.resolve_right q,q⟩⟩];rw[x3 H.pu v λ x=>by rw[n,w,(ea B).mem_iff,(ea VL).mem_iff,k9];exact⟨λ a=>(by refine am a λ p q=>?_;exact⟨.inr p,q⟩),λ a=>by refine am a λ p q=>?_;exact⟨p.resolve_left q,q⟩⟩]
def H0:a∈fX B↔a<B.length:=by
 unfold fX;rw[List.mem_flatMap];constructor
 · rintro⟨x,_,h⟩;exact cI.mp (hu.mp h).1
 · intro h;refine bj (B.getD a 0) ?_ (hu.mpr ⟨cI.mpr h,beq_self_eq_true _⟩);unfold hv;exact(ea _).mem_iff.mpr (kD.mpr (f' h))
def H1(f:Nn B):(fX B).Pairwise (dD (cq B)):=by
 unfold fX;rw[List.pairwise_flatMap];refine⟨λ x _=>?_,?_⟩
 · refine(Qy.filter _).imp_of_mem λ{i j}c d h=>.inr ⟨?_,h⟩;have a:B.getD i 0=x:=pV (hu.mp c).2;have b:B.getD j 0=x:=pV (hu.mp d).2;show(B.getD i 0).toNat=(B.getD j 0).toNat;rw[a,b]
 · refine(x2 (x1 B)).imp_of_mem λ{x y}e g h i c j d=>.inl ?_;have a:B.getD i 0=x:=pV (hu.mp c).2;have b:B.getD j 0=y:=pV (hu.mp d).2;have e:0<=x:=f x (lX ((ea _).mem_iff.mp e));show(B.getD i 0).toNat<(B.getD j 0).toNat;simp only[a,b];exact sk e h
def H2(m:Nn B)(n:Wc.Perm (a1 B.length))(h:Wc.Pairwise (dD (cq B))):Wc=fX B:=by
 have o:∀a,¬dD (cq B) a a:=λ a q=>by rcases q with q|⟨_,q⟩<;>exact Iw _ q
 have g:∀{l:List Nat},l.Pairwise (dD (cq B))->l.Nodup:=λ h=>h.imp λ{a b}(q:dD (cq B) a b)(e:a=b)=>o a (by simp only[<-e]at q;exact q);have f:=H1 m;exact Mm (λ a b _ _ c d=>by rcases c with c|⟨c,i⟩<;>rcases d with d|⟨d,j⟩<;>first|exact mj c d|exact dR c (j6 d)|exact dR d (j6 c)|exact mj i j) h f ((PN (g h) (g f)).mpr λ k=>by rw[n.mem_iff,cI,H0])
theorem H3:∀{m:List Int},m≠[]->∃M,M∈m/\∀WL,WL∈m->WL<=M
 |[],WK=>(WK rfl).elim|[x],_=>⟨x,.head _,λ WL WK=>by rw[aI.mp WK];exact NU _⟩|x::y::r,_=>by
  refine ak (H3 (m:=y::r) (by simp)) λ M b WM=>?_;by_cases WN:M<=x;·exact⟨x,.head _,λ WL WK=>by
   rcases aP.mp WK with rfl|WK;·exact NU _
   ·exact J0 (WM WL WK) WN⟩
  ·exact⟨M,.tail _ b,λ WL WK=>by
   rcases aP.mp WK with rfl|WK;·exact gw (yd WN)
   ·exact WM WL WK⟩
theorem x8{F:List Int}(f:Nn F):∀i,i<F.length->∃m,m∈F.take (i+1)/\(∀a,a∈F.take (i+1)->a<=m)/\d3 F (i+1)=hw (F.take (i+1)) m
 |0,h=>by
   refine dU (F.getD 0 0) ?_ ?_ ?_;·rw[hs h];simp
   ·rw[hs h];intro a b;rw[aI.mp (show a∈[F.getD 0 0]from b)];exact NU _
   · have :cY aR (sg (F.getD 0 0))=true:=by exact decide_eq_true (List.nil_lt_cons _ _)
     unfold d3 kx;show(if cY aR (sg (F.getD 0 0))=true then _ else _)=_;rw[if_pos this];unfold hw;rw[hs h];simp[d3]|i+1,h=>by
   refine aj λ s=>ci (x8 f i (fy h)) λ m k d p=>?_;refine s ?_;have j:=f _ (f' h);have g:=f m (Ra k);unfold d3;rw[p,hs h];generalize F.getD (i+1) 0=x at*;generalize F.take (i+1)=T at*;unfold kx hw;rw[hy g j,hy j g,l5 j g];by_cases q:m<x
   · rw[if_pos (decide_eq_true q)];refine dU x (by simp) (λ a b=>?_) ?_
     · rcases k9.mp b with b|b;·have :=d a b;exact r5 this (gw q)
       ·rw[aI.mp b];exact NU _
     · have o:∀U:List Int,(∀a∈U,a<=m)->(U.filter λ y=>bF (y<m)).length+U.count m=(U.filter λ y=>bF (y<x)).length:=by
         intro U;induction U with
         |nil=>intro _;rfl|cons u U e=>
           intro l;have n:=l u (.head _);have e:=e λ a b=>l a (.tail _ b);simp only[H6,H6,IV,if_pos (c:=bF (u<x)=true) (decide_eq_true (yc n q))];by_cases r:u=m
           · obtain rfl:=r.symm;rw[if_neg (by simp)];simp;exact congrArg (·+1) e
           · have :(u==m)=ap:=by simpa using r
             rw[if_pos (decide_eq_true (mz n r)),this];simp;exact(OY _ _).trans (congrArg (·+1) e)
       have :=o T d;refine MS rfl (MS ?_ ?_)
       · simp only[IZ];simp;exact congrArg Ll this
       · simp only[KC,(JL.mpr λ r=>by have :=d x r;exact oI q this)];simp
   · rw[if_neg (by simpa using q)];refine dU m (Im _ k) (λ a b=>?_) ?_
     · rcases k9.mp b with b|b;·exact d a b
       ·rw[aI.mp b];exact oG q
     · refine MS rfl (MS ?_ ?_)
       · rw[IZ,eH,H6];by_cases r:x<m;·simp[r]
         ·simp[r]
       · rw[KC,NG];dsimp only;by_cases r:x=m;·obtain rfl:=r.symm;simp
         · have :(x==m)=ap:=by simpa using r
           simp[this]
def x9(c:2<=B.length)(j:B.length<=10)(b:∀x∈B,0<=x/\x<65536):∃M,kz B M:=by
 have f:Nn B:=λ x l=>(b x l).1;refine aj λ n=>ai (⟨B.length-1,si (e3 c (aE true))⟩:∃i,B.length=i+1) λ i g=>?_;refine ci (x8 f i (bA iy (j7 g))) λ m a d e=>?_;refine n ?_;rw[<-g,IJ]at a d e;exact⟨m,c,j,λ p k h=>H2 f k h,(b m a).1,(b m a).2,a,d,e⟩
def plain(l:List Int):xk l:=by
 have WN:∀WK∈fA l,0<=WK/\WK<65536/\(WK<55296\/57343<WK):=λ WK WL=>lU WL;have WO:∀WK∈fB l,0<=WK/\WK<65536/\(WK<55296\/57343<WK):=λ WK WL=>lU WL;have a:Nn (fA l):=λ WK WL=>(WN WK WL).1;have b:Nn (fB l):=λ WK WL=>(WO WK WL).1;refine am (gT l) λ c d=>?_;have WP:5<=(fA l).length:=by
  show 5<=(b6 (eo l)).length;unfold eo;simp only[rt,eH,show(b6 [97,8364,55297,97,10,233]).length=5 by decide];exact bE
 have e:4<=(fB l).length:=by
  show 4<=(b6 (et l)).length;unfold et;simp only[rt,eH,show(b6 [233,97,57344,57343,8364]).length=4 by decide];exact bE
 refine am (@HO (fA l) (fB l)) λ m1 m2=>?_;exact⟨HV a b,HP a b,λ WK WL=>a WK (m1 WK WL),λ WK WL=>b WK (m2 WK WL),λ m=>xT a,λ m=>xT b,rO WN c,rO WO d,HZ WN WO c d,x9 (e3 WP (aE true)) c λ WK WL=>⟨(WN WK WL).1,(WN WK WL).2.1⟩,x9 (e3 e (aE true)) d λ WK WL=>⟨(WO WK WL).1,(WO WK WL).2.1⟩,HT a b λ q=>by
   have :(sA l).length=(fA l).length:=by show((b6 _).map sg).length=_;rw[be]
   rw[q]at this;have f:([]:List Str).length=0:=rfl;exact dR g0 (jh this WP)⟩
def the_law:Lg.Holds:=Hr λ l a=>Hi HN a (plain l)
end Mine
theorem PySem.Challenge.cw_in0064_01_holds : PySem.Challenge.rw_in0064_01.Holds :=
  Mine.the_law
