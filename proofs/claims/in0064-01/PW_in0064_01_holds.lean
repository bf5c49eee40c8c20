import PyProof.Rows.All
import PyProof.ListOps
import PyProof.IsRules
import PyProof.NeKinds
import PyProof.ExcBaseAll.ValueError
import PyProof.StationsW
import PyProof.ExcStrAll.ValueError
import PyProof.ExcStrCall
import PyProof.InstEq
import PyProof.ListIndexOut
import PyProof.ListRange
import PyProof.ListTruth
import PyProof.RulesAs
import PyProof.Rows.TupAssign
import PyProof.TupleCall
import PyProof.Rows.Catch
import PyProof.Rows.StrSplitCount
import PyProof.RulesFinally
import PyProof.Rows.ListCopyD
import PyProof.Rows.MinMaxN
import PyProof.TypeOfCall
import PyProof.TypeEq
import PyProof.Rows.SetFrom
import PyProof.Rows.ExtendIn
import KE.KLam
import KE.KDictIter
import KE.KIntText
import KE.KSortKey
import KE.KSortAsk
import KE.KStateDown
import KE.KSuperObj
import Wide.FinOn
import OpenK.AllK
import Wide.All
import Lean
import PySem.Challenge.RW_in0064_01
set_option Elab.async false
set_option maxRecDepth 100000
set_option linter.all false
set_option autoImplicit false
set_option tactic.hygienic false
set_option genSizeOf false
set_option compiler.extract_closed false
set_option maxHeartbeats 4000000
local macro_rules |`(tactic|lia)=>`(tactic|kernel_rfl)
open PySem PySem.W PyProof.Rows PySem.Calls PySem.Builtin.Frozenset PySem.Builtin.Str PySem.StrLaws PySem.SeqAt PySem.Builtin.BaseException PySem.Builtin.Exceptions PySem.Builtin.Getset_descriptor
namespace Mine
open _root_.PySem renaming Shared->aa,Value->ab,Addr->ae,wpAny_bind->af,wpAny_pure->ah,Around->aq,World->ar,model->au,Scope->aw,wpAny->aA,wpAny_mono->aG,wpAny_holding->aK,Params->a3,Heap->a7,sizeLine->a9,starEach->bD,PyData->bP,Expr->b7,SetTable->cr,wpAny_of_eq->cx,wpAny_Call_ofName->dr,Program->eH,ReadsAll->ga,wpAny_setState_of->gE,codeAny_builtin->hN,wpAny_execs_cons->iq,isSubtype_type->kF,wpAny_truthy_bool->zF,foldedSetIterable->Ad,builtinLookup_eq_fast->FF,mainGlobals->FG,eval->He,wpAny_newObj_type->Ih,codeAny_call_builtin->Ii,Stmt->Io,wpAny_standAt->It,FuncData->Iv,compEnvC->IB,strLen_append->IN,wpAny_items_cons->IP,wpAny_call_entry->IQ,wpAny_askSetting->IR,builtinsNs->IV,plainId_quiet->I2,call->I3,typeLookup_type->I6,wpAny_call->Jg,wpAny_Assign_Name->Jh,Arguments->Jk,Fin->Jl,wpAny_field->Jm,letOwnedTupleGo->Jn,NameKind->Jt,wpAny_rule->Jw,entryFor_of_tree->Jx,wpAny_callSpecial?_slot->JD,wpAny_Call_method_lateS->JE,slot_list_getitem->JF,typeIs_str->JH,rawInt->JI,Result->JJ,wpAny_setEntries_of->JL,codeAny->JO,wpAny_isInstance->JR,fromIndex->JS,wpAny_isTrue_Compare1->JZ,wpAny_ite_split->J3,wpAny_execs_nil->J4,wpAny_storeSet_of->J5,bindArgs->J6,OsState->J7,swappedStores->J',attributeBase->Ka,wpAny_setField->Kk,table->Kl,isSubtype->Km,call_meets->KA,entryFor->KH,GenState->KI,pyNext->KN,assignEach->K5,scanBound->K9,denote->Lf,clipAt->Lg,behindInMarks->Lo,wpAny_items_nil->Lx,pyIter->LA,sizeLine_eq->LM,Model->LN,ClassData->LO,wpAny_typeOf->LZ,wpAny_setEpoch_of->L0,wpAny_assign_Name->L1,firstArgMember->L2,wpAny_Name->L7,putSet_of->L8,backTo->L9,argsOk->L',wpAny_attempt->Mh,signature?_of->Mi,holding->Mj,Comprehension->Mk,subscripted->Ml,relayAll->Mm,codeAny_of_tree->Mu,wpAny_Assign_stores->Mw,plainExc_IndexError->Mx,codeAny_mono->MB,swapsWith->MG,codeAmong->MH,wpAny_load->MN,wpAny_pyIter_list->M3,wpAny_Return_some->M4,richCompare->M5,fits_of_scanBound->M6,wpCode_iff_wp->Na,wpAny_comprehension_free->Nb,typeOf->Nc,wpAny_Try_except->Nr,noteFrame->Nt,Code->Nx,standAt->NL,setsByText->NM,isInstance->NN,intKind->NO,getItem->NP,closureFor->NQ,cameBackBy->NR,wpAny_specialOf->NX,wpAny_storeName_local->N4,runN->N5,wpAny_throw->Ok,wpAny_runValue->Ol,wpAny_newFunctionEnv->Om,wpAny_loadName_local->On,wpAny_ite_true->Oo,interactive->Op,assign->Oq,storeName->OF,leaving->OG,TriplesOk->OI,ElemsOf->OK,DictEntry->OM,wpAny_Tuple_spliced->OV,wpAny_onRaise->O3,cLine->O5,wpAny_setField_rec->Pa,wpAny_Expr->Pb,defaultsOf->Pc,wpAny_If->Px,operate->Pz,notedBy->PA,compPost->PB,Flow->PI,wpAny_setScan_of->PS,specialOf->PT,opaqueClassAbove->PU,checkBuiltinCall->PW,wpAny_alloc->P7,unpackItems->P8,callSpecialIfBoundUnlessNone?->P9,Drawn->Qb,leftWithCleanup->Qi,wpAny_richCompare_same_room->Qt,spliced->Qu,relabel->Qv,getAttr->Qw,wpAny_tryCatch->QF,wpAny_seqItems->QG,setAddHashedIn->QH,recursionLimit->QI,qualnameIn->QJ,layNew->QK,compTurn->QL,Reads->QO,wpAny_tryCompare_declines->Q2,wpAny_newList->Rh,wpAny_handled->Ri,wpAny_getItem_list_slice->Rj,swapsWithSole->Rk,relayAll_perm->Rl,rangeSize_one->Rn,eval_ListComp->Ro,bltViewBooted->Rp,assignInOrder->Rq,Slot->Rr,wpAny_list_append_plain->RD,wpAny_listSubscript_int->RE,small_one->RF,pickOrder->RG,execs->RH,cellsFrom->RI,wpAny_handleBy_builtin->RY,setAddHashed->RZ,setAdd->R0,collect->R1,cellOf->R2,callSpecial?->R3,IsRange->R8,IsPart->R9,wpAny_allTrue_Or_cons->Sm,weight_type_call_type->Sn,hashByValue_scannable->So,codeAny_call_function->Sq,wpAny_point->SG,setMerge->SH,numAt->SI,layNew_perm->SJ,Meets->SS,CmpOp->SV,wpAny_Constant_bool->S6,codeAny_forLoop_any->S7,call_enumerate_list->S8,builtinType_eq_fast->S9,wpAny_getItem_list->Th,wpAny_evalAll_cons->Ti,wpAny_assign_Tuple->Tj,wpAny_Constant_str->Tk,wpAny_Call_Name_kw->Tl,typeLookup->Tm,frameCount->Tn,call_gives->Tp,Args->Tz,wpAny_sequenceKey->TD,wpAny_pyIter_slot->TE,wpAny_pyIter_enum->TF,wpAny_Try_finally->TG,slot_list_setitem->TH,setNext->TJ,codeAny_whileLoop->TK,Gives->TQ,wpAny_pyIter_str->T0,wpAny_enterFrame->T1,wpAny_For->T2,strValues->T3,setFlight->T4,notIterableAtAll->T5,newFields->T6,compareOp->T7,byScan_of->T8,arm_assign_Tuple->T9,Runs->Ub,wpAny_updateSeq->Us,wpAny_seqItemAt->Ut,slicePick_plain->Uu,raiseErrorWords->Uv,getAttrByItsOwn->Uw,wpAny_fieldsOf->UN,wpAny_cRoomFor->UO,storeSet->UP,stack->UQ,setField->UR,runOwn->US,raiseNew->UT,newTuple->UU,newObj->UV,newFunctionEnv->UW,newExc->UX,mroOf->UY,loadName->UZ,isSubtype_stop->U0,isSame->U1,entryFor_alias->U2,constantsAlone->U3,Walks->U4,Thread->U6
open _root_.PySem.Str renaming ofString->ac,empty->aR,length->Ox,join->PY
open _root_.Nat renaming le_trans->an,le_refl->aB,lt_of_lt_of_le->aJ,le_of_lt->bn,ne_of_lt->br,lt_of_le_of_lt->bz,le_of_ble_eq_true->bW,add_le_add_left->bX,not_lt->b',zero_le->dk,le_add_right->dx,lt_succ_of_lt->gb,add_le_add_right->gp,succ_le_succ->H',lt_succ_self->Ia,le_sub_one_of_lt->Ie,zero_add->Im,lt_of_le_of_ne->Iu,le_add_left->Iw,lt_irrefl->Iy,ne_of_gt->IC,le_of_lt_succ->ID,add_comm->IE,blt->IH,not_le->IS,add_le_add->IW,min_eq_left->IZ,le_succ->I7,zero_lt_of_lt->Jb,le_of_eq->Jc,add_sub_of_le->Jd,succ_pos->Ju,le_succ_of_le->J0,one_pos->Kh,sub_lt->Ko,eq_of_beq_eq_true->KC,mul_le_mul_right->KQ,sub_zero->KU,min_le_right->KV,min_eq_right->KW,add_zero->KY,add_assoc->La,sub_add_cancel->Ll,sub_eq_zero_iff_le->LC,lt_trichotomy->LD,lt_trans->LF,lt_succ_of_le->LG,lt_one_iff->LH,eq_zero_of_not_pos->LI,ble->LJ,lt_succ_iff->Md,le_antisymm->Me,sub_sub->MK,succ_add_eq_add_succ->MQ,lt_succ_iff_lt_or_eq->MR,succ_pred_eq_of_pos->MZ,lt_of_not_le->M0,lt_add_of_pos_right->M1,sub_self->Ng,sub_le->Nh,mod_lt->Ni,min_le_left->Nm,div_lt_iff_lt_mul->Nz,ble_eq_true_of_le->NA,two_pos->NT,mul_two->NU,add_lt_add_right->NV,sub_lt_sub_left->Oa,add_lt_add_left->Oc,pos_of_ne_zero->OB,lt_of_lt_of_eq->OC,add_right_comm->OD,succ_sub_succ->OZ,succ_add->O0,sub_pos_of_lt->O1,not_lt_zero->PN,add_lt_add_of_lt_of_le->P2,sub_lt_left_of_lt_add->Qd,add_sub_cancel_left->Qy,le_total->QQ,beq->QR,le_div_iff_mul_le->Rb,le_sub_of_add_le->Rv,div_lt_of_lt_mul->Rw,sub_le_sub_left->RT,mul_le_mul_left->RU,add_sub_cancel->Sc,lt_of_sub_pos->Sx,le_of_succ_le->Sy,succ_lt_succ->S1,sub_sub_self->S2,lt_add_right->S3,le_of_not_lt->S4,pow_succ->Uk,mul_comm->Ul,min_self->Um,mul_add->UI
open _root_.PySem.Heap renaming get?_push_of_some->ao,lt_size->az,get?_push_size->aF,get?_update_self->cQ,size_push->IG,ExtBut->I5,SameBut->Js,get?_update_other->JG,get?_some_iff->JM,mk->MC,FlyingW->M8,get?_update_ne->N0,size_update->O7,get?_none_of_le->Q7
open _root_.Bool renaming false->ap,false_eq_true->cT,and_eq_true->ii,and_eq_true_iff->x4,not_eq_true'->IT,false_ne_true->Jp,or_eq_true->JY,and_false->NK,eq_iff_iff->Pu,true_and->Qh,or_false->TB,and_true->TC
open _root_.List renaming getD_eq_getElem?_getD->av,getElem?_eq_getElem->ay,mem_singleton->aI,lookup_cons->aN,mem_cons->aP,range->a1,getElem?_eq_some_iff->a8,getElem?_map->a',length_map->be,mem_of_getElem?->ct,mem_range->cI,map_map->dQ,length_append->eB,map_append->fs,mem_map->hp,drop_eq_getElem_cons->ht,mem_filter->hu,mem_append_right->jq,append_assoc->kn,mem_append->k9,take_of_length_le->lu,not_mem_nil->uR,map_cons->uW,length_cons->y3,length_filter_le->Ei,getElem?_append_left->GZ,filter_cons->H8,all_eq_true->H9,drop_of_length_le->Ic,mem_append_left->Ip,getElem?_of_mem->Iq,map_congr_left->Iz,forall_mem_cons->II,take_length->IL,getElem_mem->IM,count_cons->IX,append_nil->IY,filter_append->I1,size_toArray->I',getElem?_append_right->Ja,filterMap_cons->Je,nodup_cons->Jf,count_eq_zero->JN,findIdx?_eq_none_iff->JX,map_nil->Ki,getElem?_take->Kj,forIn_cons->Kw,length_singleton->Ky,ext_getElem?->KD,count_append->KE,mem_of_mem_drop->KJ,length_take->KS,take_succ_cons->K2,mem_map_of_mem->K3,filter_eq_self->K4,findIdx?->K8,length_range->Ly,drop_zero->Lz,take_append_drop->LW,map_fst_zip->LY,of_mem_zip->L5,length_nil->L6,takeWhile_cons->Mf,pairwise_cons->Mr,getElem?_drop->Ms,count_pos_iff->Mt,pairwise_iff_getElem->My,reverse_cons->MD,filter_congr->ME,any_eq_false->MF,sum_cons->ML,getElem?_take_of_lt->MM,mem_reverse->MV,length_drop->MW,isEmpty_nil->MX,range_succ->Nj,mem_iff_getElem?->No,lookup_cons_self->Np,getElem?_toArray->Nq,range'->NC,pairwise_append->ND,not_lt->NE,nodup_nil->NF,lt_irrefl->NG,getElem_toArray->NH,count_singleton->NI,count_le_length->NJ,length_reverse->N1,length_pos_iff->N2,map_take->Od,zip_cons_cons->Og,map_singleton->Oh,take_succ_eq_append_getElem->OQ,sum_nil->OR,map_inj_left->OS,getElem_drop->OT,getElem?_set->OU,isEmpty_iff->O9,cons_append->O',lookup->Pm,nil_append->Ps,filter_nil->Pt,perm_ext_iff_of_nodup->PQ,length_eraseIdx_of_lt->PR,mem_of_find?_eq_some->P4,getElem?_zip_eq_some->P5,mem_of_mem_eraseIdx->Qe,map_drop->Qf,filterMap_cons_some->Qg,pairwise_singleton->Qm,pairwise_lt_range'->Qn,length_eq_zero_iff->Qo,filter_cons_of_pos->Qp,filter_cons_of_neg->Qq,toArray->Qz,range_succ_eq_map->QA,pairwise_lt_range->QB,length_pos_of_mem->QC,getElem?_reverse->QS,countP_singleton->QT,contains_iff_mem->QU,cons_lt_cons_iff->QV,mem_of_mem_take->Rc,getElem?_zipIdx->Rd,getElem?_append->Rf,count_cons_self->Rg,getElem?_range->Rx,flatMap_append->Ry,dropWhile_cons->RA,range'_concat->RW,countP_append->RX,take_add_one->Sd,pairwise_map->Se,nodup_append->Sf,mem_range'_1->Sg,getElem?_inj->Sh,flatMap_cons->Si,nodup_range->Sz,map_reverse->SA,drop->SE,find?_some->S5,take_zero->Td,take_left->Te,map->Tf,map_set->TZ,take->Vc
open _root_.Option.some renaming inj->ax,injEq->Kd
open _root_.Eq renaming refl->aE
open _root_.Array renaming length_toList->aX,getElem?_eq_some_iff->ec,getD_eq_getD_getElem?->e0,getElem?_eq_getElem->hq,getElem?_eq_none->Ib,getElem?_modify->IU,getElem?_toList->Ji,getElem?_push->KZ,ext_getElem?->Lb,size_map->Lw,getElem?_setIfInBounds_ne->LL,toList_push->Mz,isEmpty_iff->MA,size_empty->MS,getD->Of,size_push->Po,eraseIdxIfInBounds->P6,toList_filterMap->Qs,getElem?_mapIdx->QE,toList_extract->Q0,toArray_toList->Q1,replicate->SF,map->UM
open _root_.Option renaming map_eq_some_iff->bh,bind_eq_some_iff->dg,map_some->IF,isSome_iff_exists->K1,bind_some->LR,isNone_iff_eq_none->PM,isSome_none->Ra,elim->TA
open _root_.Decidable renaming decide->bF
open _root_.PySem.AutoSeq1 renaming wpAny_loadPart'->bK,sub_list_list->PP
open _root_.PySem.Calls renaming evalArgs_plain->b1,callWith_function->rS,callWith_builtin->Ir,spliced_cons->N7,spliced_nil->Oy,call_function_entry->Q9
open _root_.Inhabited renaming default->b2
open _root_.Int renaming toNat_natCast->b4,natCast_nonneg->IJ,emod_lt_of_pos->Jr,emod_nonneg->JB,not_lt->JQ,ofNat_le->J1,le_trans->J2,lt_of_lt_of_le->Kr,lt_of_le_of_lt->Ks,natCast_add->Kx,toNat_of_nonneg->K7,ofNat->Ln,lt_trans->LK,le_antisymm->Mg,ofNat_lt->Mp,le_of_lt->Mq,sub_add_cancel->Mv,eq_ofNat_of_zero_le->M2,le_refl->NW,ofNat_sub->Oi,ofNat_inj->Oj,toNat_lt->O2,max_eq_right->Pn,lt_irrefl->Qr,ediv_ediv_of_nonneg->QD,emod_def->QX,ediv_one->QY,sub_eq_add_neg->Sj,not_le->Sk,min_eq_left->Tg,ne_of_lt->Uo,add_comm->Uq,mul_one->UL
open _root_.PySem.PyData renaming strOk->cs,keyHash->mM,str->tl,depthAll->JU,eqv->KG,canLayAll0->Lm,int->Pq
open _root_.PySem.SetTable.layClean renaming free->cF
open _root_.PySem.NameKind renaming free->cM,cell->LB
open _root_.PySem.W renaming SharedT->fl,tabObj->Jy,Looks->Jz,emptyDict->JT,looks_findIn->K',kas_item->Lp,boot_o_0->MO,through->MT,boot_heap->Nu,looks_mroIn->Ot,looks_field->Ou,specialIn->OH,findIn->Pd,kas_rev->PD,boot_o_4->PE,absHeap_size->PF,looks_clsIn->P',WellAll->Qx,kas_desc->QM,boot_o_1->QN,kas_place->RK,boot_o_10->RL,absHeap->R4,boot_o_9->SK,boot_o_8->SM,boot_o_7->SN,boot_o_5->SO,absHeap_ins->SP,check_slot->Tq,instObj->TL,WData->TM,looks_specialIn->Ux,CodeHd->U5
open _root_.PySem.Around renaming under_plainId->fH,under_plain->Q'
open _root_.PySem.Heap.SameBut renaming update->gR,refl->Nl
open _root_.PySem.Value renaming ref->hk,type->Ix,str->I4,none->I9,builtin->NY,isInt_shape->Ov,isStrOf->PX,bool->T',int->UC
open _root_.Pure renaming pure->jB
open _root_.LawfulBEq renaming eq_of_beq->pW
open _root_.PySem.SetTable renaming below->uX,runEnd->Ij,grown->Ik,bits->Jj,turns->Jo,fill->JA,eraseAt->JC,sizeAbove->J9,fits->Ke,insertAt->Kn,laid->KR,Probe->Lc,layClean->NZ,has->PO,roomFor->Q5,advance->Q6,relaid->Rs,road->R5,leap->R6,Met->Sr
open _root_.PyProof.Rows.ReadsAll renaming keeps->vr
open _root_.PySem.Obj renaming mapSeq->wx,putSet->JP,data_mapFields->Lh,mapFields->MP,isFreed_of_fields->Nv,cls_mapFields->Ss
open _root_.PySem.Builtin.Range renaming rangeSize->Ig,small->Jq
open _root_.PyProof.Rows renaming assignInOrder_cons->Il,callWith_type->I0,assignInOrder_nil->J8,StrsAre->Kg,seqObj->L4,Subscript_->Mc,sortedS->M9,IntsAre->M',tail_any->Ny,oneType'->Oz,Assign_Tuple_swapped->OA,bindName_->OO,assign_Name->OP,listUpdate_at->O8,unpackItems_tuple->PL,get?_update_seq->Ql,isTrue_plain->Sb,FormattedValue_plain->S0,arrOf->TX,evalArgs_empty->UF,entry_list_sort->UG,add_str->UH,slot_list_sort->Vb
open _root_.PySem.MeetsSeq3 renaming plain_eq_loop->IA,entry_eq_loop->K0
open _root_.Classical renaming byContradiction->IK,choose_spec->Kf,choose->Oe
open _root_.ForInStep renaming yield->I8
open _root_.PySem.F renaming plainAttrs_list->Jv,slot_list_count->JK,slot_tuple_iterator_next->JV,type_list_count->Ku,called_set->K6,slot_list_remove->LS,plain_list_iadd->LU,slot_str_split->Nf,ks_slot_super_ga->OW,args_str_split_2->OX,entry_str_split->Pg,entry_list_iadd->Pj,type_list_remove->PJ,slot_list_extend->PK,args_tuple_iterator_next_1->PZ,entry_tuple_iterator_next->Qa,called_tuple->Qk,entry_type_call->Q8,plain_proto_collect->RQ,entry_proto_collect->RS,excBase_ValueError->R',args_list_remove_2->Sa,entry_list_remove->Sv,slot_str_getitem->SU,slot_tuple_iter->Tb,slot_str_rindex->Tc,slot_str_index->Tt,slot_str_count->Tv,slot_set_iter->TR,plain_set_new->TS,slot_list_lt->Uc,slot_list_gt->Ud
open _root_.Prod.mk renaming inj->JW,injEq->LQ
open _root_.Ne renaming symm->Kb
open _root_.PyProof.Rows.Reads renaming keeps->Kc
open _root_.PySem.W.FB renaming owner_frozenset->Kt
open _root_.PyProof.Rows.F renaming plain_set_update_loop->Kv,entry_set_update_loop->MI
open _root_.PySem.Env renaming kindOf->KP,blockKind->TV
open _root_.PySem.Code renaming quiet_builtin->Le,builtin->TW
open _root_.PySem.Challenge renaming rw_in0064_01->Lj,pw_in0064_01->Tw
open _root_.PySem.W.Looks renaming ld->Lq,of_pure->LX
open _root_.PySem.Builtin.Frozenset renaming oneOther->Lr,addrOf->Lu,sizeOf->LV,isAnySet->Mn,updateFrom->OY,withSetAsKey->SW,slot0->SX,newClass->SY
open _root_.PySem.Builtin.Str renaming occurrences->LP,lastOccurrence->QP,strSliceIndices->UE,strOf->U9
open _root_.PySem.NumText renaming prefix?->L3,blank->NB,digit?->Pf,digits?->RN,based->Su,step->SQ,sign->SR
open _root_.PySem.Unicode renaming numberText->Ma
open _root_.PySem.StrLaws renaming sliceText->Mb
open _root_.List.Perm renaming eq_of_pairwise->Mo,swap->RB,cons->RC
open _root_.Nat.succ renaming inj->MJ
open _root_.Prod renaming ext->MU
open _root_.PUnit renaming unit->MY
open _root_.PySem.SetTable.below renaming go->M7
open _root_.PySem.W.SharedT renaming abs->Nd
open _root_.PySem.W.KT renaming len_num->Nk
open _root_.PySem.Meets renaming of_wp->Nw
open _root_.PySem.Sem renaming wp->NS,wp_mono->Rt,wp_bind->Ru
open _root_.Iff renaming rfl->N3
open _root_.PySem.SetTable.sizeAbove renaming go->N6
open _root_.PySem.Builtin.List renaming listSubscript?->N8,listLengthHint->N9,listExtendWith->N',listSameRef->ON
open _root_.List.cons renaming injEq->OE
open _root_.PySem.IsRange renaming new->OJ
open _root_.PySem.swappedStores renaming match_5->O4
open _root_.PySem.W.WShape renaming hasItems->O6
open _root_.PySem.Txt renaming split->Pe
open _root_.PySem.Expr renaming Lambda->Pk
open _root_.PySem.Bind renaming madeBy->Pl,staticBase->Pr,madeHere->Qc
open _root_.And renaming intro->Pp
open _root_.ToString renaming toString->Pw
open _root_.PySem.pickOrder renaming go->Py
open _root_.PySem.Walks renaming list->PC
open _root_.PySem.SeqAt renaming eqv_refl->PG
open _root_.PySem.Pin renaming globalOf_eq->PH
open _root_.PyProof renaming noPylong_small->P1
open _root_.PySem.Shared renaming asleep_of_life->Qj
open _root_.LawfulMonad renaming bind_assoc->QW
open _root_.ForIn renaming forIn->QZ
open _root_.PySem.callAny renaming viaDunder->Q3
open _root_.PySem.W.KF renaming slot_mset->Q4
open _root_.PySem.WalksT renaming enumerate->RJ
open _root_.PySem.Value.ref renaming inj->RM
open _root_.PySem.Manifest renaming find?->RP
open _root_.PySem.P renaming gt_str->R7
open _root_.Function renaming comp->Sl
open _root_.PySem.Data.set renaming inj->Sw
open _root_.PySem.Stmt.FunctionDef renaming elim->S'
open _root_.PySem.Moved renaming eq_with->Ta
open _root_.PySem.NumText.prefix? renaming match_1->Ts
open _root_.PySem.Builtin.Getset_descriptor renaming descrCheckInstance->Tx
open _root_.PySem.SetTable.probe renaming go->TN
open _root_.PySem.SeqAt.EqAt renaming str_str->TO
open _root_.PySem.Heap.IsSliceOf renaming new->TP
open _root_.PySem.Expr.Attribute renaming elim->TU
open _root_.PyProof.Rows.SortSt renaming mk'->TY
open _root_.PySem.Stmt.ClassDef renaming elim->Ua
open _root_.PySem.Expr.Constant renaming elim->Ue
open _root_.PySem.Builtin.Slots renaming target->Uf,slotNamesOf->Ug,bestBase->Uh,Plan->Ui
open _root_.PySem.BindsTo renaming of_defaults->Uj
open _root_.List.Pairwise renaming filterMap->Un
open _root_.False renaming elim->Ur
open _root_.PySem.W.Fast renaming tw14364793385576792824->Uy,tw11892475500146522536->Uz,te14364793385576792824->UA,te11892475500146522536->UB
open _root_.PySem.NumText.sign renaming match_1->UD
open _root_.List.Sublist renaming map->UJ,length_le->UK
open _root_.PySem.Stmt.Return renaming elim->U7
open _root_.PySem.Stmt.Assign renaming elim->U8
open _root_.PySem.AfterImport renaming unique->U',of_importEnds->Va
variable{a b x Vu:Nat}{c:ar}{g VK:aw}{h Q Vq Vw VD VE:ae}{j Vf:Str}{o:aq}{q H VJ:aa}{s Vm:a7}{v J Vi VC:Pos}{w VG:ae->Prop}{y Vh:ab->aa->Prop}{z Vn:b7}{B:List Int}{C Vs:Int}{E:Env}{G:List Str}{M:Bool}{O:Obj}{U:ab}{Y:List ae}{Vd:Type}{Ve:List ab}{Vg Vp:Str->Option ab}{Vj:Prop}{Vl:eH}{Vo:List bP}{Vr:List Io}{Vt:List b7}{Vv:Tok}{Vx:a3}{Vy:Nat->Tok}{Vz:Nat->ae}{VA:cr}{VB:Array ab}{VF:Nat->ab}{VH:String}{VI:bP}
open Lean in def bc:Syntax:=Unhygienic.run `(tacticSeq|intros;rfl)
open Lean in def cN:Syntax:=Unhygienic.run `(tacticSeq|intro _;rfl)
open Lean in def ew:Syntax:=Unhygienic.run `(tacticSeq|decide)
open Lean in def gX:Syntax:=Unhygienic.run `(tacticSeq|with_unfolding_all rfl)
open Lean in def ir:Syntax:=Unhygienic.run `(tacticSeq|intro _ _;with_unfolding_all rfl)
def bA(h:a<b)(g:b<=x):a<x:=aJ h g
def c5(h:a<=b)(g:b<x):a<x:=bz h g
def j3(h:a<b)(g:b<x):a<x:=LF h g
def j4(h:a<=b)(g:b<=x):a<=x:=an h g
def j5(h:a<b):a<=b:=bn h
def j6(h:a=b):a<=b:=Jc h
def j7(h:b=a):a<=b:=Jc h.symm
def j8(h:¬b<a):a<=b:=b'.mp h
def j9(h:¬b<=a):a<b:=IS.mp h
def hz(h:a<b):a+1<=b:=h
def dt(h:a<=b):a<b+1:=LG h
def gY(h:a+1<=b):a<b:=h
def dF(h:a<b+1):a<=b:=ID h
def md(h:a+1<b+1):a<b:=Nat.lt_of_succ_lt_succ h
def x'(h:a+1<=b+1):a<=b:=Nat.le_of_succ_le_succ h
def gu(h:a<=b)(g:¬a<b):a=b:=Me h (b'.mp g)
def hA(h:a<=b)(g:b<=a):a=b:=Me h g
def a2(h:a<=b)(g:LJ b x=true):a<=x:=an h (bW g)
def me(h:a<b)(g:LJ b x=true):a<x:=aJ h (bW g)
def e3(h:x<=a)(g:LJ b x=true):b<=a:=an (bW g) h
def rX:a+1-(b+1)=a-b:=OZ a b
def jb(h:b<a):a+1-(b+1)<a+1-b:=by rw[OZ,Nat.succ_sub (bn h)];exact Ia _
def hB(h:a-b=x+1):a-(b+1)=x:=by rw[Nat.sub_succ,h];rfl
def hC(h:a<0):Vj:=absurd h (PN _)
def dR(h:a<b)(g:b<=a):Vj:=absurd h (b'.mpr g)
def rY(h:a<b):a≠b:=br h
def oD(h:a<=b):¬b<a:=b'.mpr h
def oE(h:a<b):¬b<=a:=IS.mpr h
def jc(h:a<=b)(g:a≠b):a<b:=Iu h g
def jd(h:a<b+1)(g:¬a=b):a<b:=Iu (ID h) g
def eO(e:b=x)(h:a<x):a<b:=e▸h
def je(e:x=b)(h:a<x):a<b:=e▸h
def kH(e:a=x)(h:x<b):a<b:=e▸h
def gZ(h:a<b):0<b:=Jb h
def hD(h:a+(b+1)<=x):a+1+b<=x:=by rw[OD];exact h
def mf:a+(b+1)=a+1+b:=(MQ a b).symm
def hE:a+1+b=a+b+1:=O0 a b
def hF(h:b<a):a-1-b<a:=by rw[MK];exact Ko (Jb h) (Jb (S3 _ Kh))
def dh:0<=(a:Int):=IJ a
def mh:((a+4:Nat):Int)=a+4:=rfl
def iu(h:a-b=0):a<=b:=LC.mp h
def rZ(h:a<=min b x):a<=b:=an h (Nm _ _)
def oF(h:a<=min b x):a<=x:=an h (KV _ _)
def fx:min a b<=a:=Nm _ _
def hG:min a b<=b:=KV _ _
def mi(h:a<b)(g:a<x):a<min b x:=Nat.lt_min.mpr ⟨h,g⟩
def iv(h:b-a=x+1):a<b:=Nat.lt_of_sub_eq_succ h
def r0(h:b+1<=a):a-(b+1)=a-1-b:=by rw[MK,IE]
def jf(h:a+1=b):a=b-1:=Nat.eq_sub_of_add_eq h
def gv(h:a+b<=x):a<=x:=an (dx a b) h
def ya(h:a+b<=x):b<=x:=an (Iw b a) h
def fy(h:a+b<x):a<x:=bz (dx a b) h
def jg(h:a+(x+1)<=b):a<b:=aJ (M1 (Ju x)) h
def r1(h:a<=x)(g:b<=Vu):a+b<=x+Vu:=IW h g
def r2(h:0<a):a-1+1=a:=MZ h
def fz(h:a<=b):a+(b-a)=b:=Jd h
def yb(h:b<a):a-b=a-(b+1)+1:=(MZ (O1 h)).symm
def kI(h:(a:Int)<b):a<b:=Mp.mp h
def iw(h:a<b):(a:Int)<b:=Mp.mpr h
def oG(h:a<=b):(a:Int)<=b:=J1.mpr h
def r3(h:(a:Int)<=b):a<=b:=J1.mp h
def mj{a b c:Int}(h:a<b)(g:b<c):a<c:=LK h g
def r4{a b c:Int}(h:a<b)(g:b<=c):a<c:=Kr h g
def yc{a b c:Int}(h:a<=b)(g:b<c):a<c:=Ks h g
def r5{a b c:Int}(h:a<=b)(g:b<=c):a<=c:=J2 h g
def gw(h:C<Vs):C<=Vs:=Mq h
def oH(h:¬C<Vs):Vs<=C:=JQ.mp h
def yd(h:¬C<=Vs):Vs<C:=Sk.mp h
def oI(h:C<=Vs):¬Vs<C:=JQ.mpr h
def ye(h:C<Vs):C≠Vs:=Uo h
def r6(h:Vs<C):C≠Vs:=λ e=>Qr _ (e▸h)
def r7(h:C<=Vs)(g:Vs<=C):C=Vs:=Mg h g
def oJ(h:C<Vs)(g:Vs<=C):Vj:=absurd h (JQ.mpr g)
def ml(h:a<b)(g:b<a):Vj:=absurd h (b'.mpr (bn g))
def jh(e:b=x)(h:a<=x):a<=b:=e▸h
def dS(e:a=x)(h:x<=b):a<=b:=e▸h
def r8(e:x=a)(h:x<=b):a<=b:=e▸h
def mn(h:a=x)(g:x=b):a=b:=h.trans g
def mo(h:¬a=b)(g:¬a<b):b<a:=Iu (b'.mp g) (Kb h)
def r9(h:a+1<=b):a<=b:=Sy h
def kJ(h:a<b):a<b+1:=gb h
def ix(h:a<=b):a<=b+x:=Nat.le_add_right_of_le h
def r'(h:a<=b):a<=x+b:=Nat.le_add_left_of_le h
def dG:a<=a+b:=dx _ _
def bE:a<=b+a:=Iw _ _
def gx:a<=a:=aB _
def g0:0<a+1:=Ju _
def iy:a<a+1:=Ia _
def sa(h:b<x):b+a<x+a:=NV h a
def sb(h:x+a<b):a<b-x:=Nat.lt_sub_of_add_lt (IE x a▸h)
def yf(h:a≠b):¬a=b:=h
def ji:a-b<=a:=Nh _ _
def hH(h:0<a)(g:0<b):a-b<a:=Ko h g
def se(h:a<b+x)(g:b<=a):a-b<x:=Qd g h
def yg:((a+1:Nat):Int)=a+1:=rfl
def jj(h:a<=b)(g:IH (b+1) C.toNat=true):(a:Int)+1<C:=Int.lt_toNat.mp (bz (H' h) (bW g))
def jk:(0:Int)<=a+1:=Int.le_add_one (IJ a)
def c6(h:a<=b)(g:IH b x=true):a<x:=bz h (bW g)
def fC(h:a<=b)(g:bF ((b:Int)<C)=true):(a:Int)<C:=Ks (J1.mpr h) (of_decide_eq_true g)
def mq(h:a<=b):min a b=a:=IZ h
def jl(h:min b x-a=0)(g:b<=x):b<=a:=by rw[IZ g]at h;exact LC.mp h
def jm(h:min x b-a=0)(g:b<=x):b<=a:=by rw[KW g]at h;exact LC.mp h
def sf(h:a<b*32):a/32<b:=Rw (Ul b 32▸h)
def yh(h:b<a):a-1-(a-1-b)=b:=S2 (Ie h)
def yi(h:b+1<=a):a-1-b+1=a-b:=by rw[MK,IE 1 b];exact MZ (O1 h)
def yj(h:0<b):a-(b-1)=a+1-b:=by
 rcases b with _|b;·exact absurd h (Iy 0)
 ·exact(OZ a b).symm
def jn(h:a<b):a<=b-1:=Ie h
def oK(h:a<b)(g:¬a+1=b):a+1<b:=Iu h g
def iz(h:a<b-x):x+a<b:=IE a x▸Nat.add_lt_of_lt_sub h
def yk(h:a=b)(g:¬a=b):Vj:=absurd h g
def kK(h:a+(b+1)=x):a<x:=h▸M1 (Ju b)
def e4{a b c n m:Nat}(h:a<=n)(g:b<=m)(k:LJ (n+m) c=true):a+b<=c:=an (IW h g) (bW k)
def iA(h:a<=b)(k:LJ (b+x) Vu=true):a+x<=Vu:=an (gp h x) (bW k)
def yl(h:a<=b)(k:IH (b+x) Vu=true):a+x<Vu:=bz (gp h x) (bW k)
def jo(h:a<=x)(g:b<=a)(k:LJ x Vu=true):b<=Vu:=an g (an h (bW k))
def mr(h:a<=b)(g:x<a):a-1<b:=aJ (Ko (Jb g) Kh) h
def oL(h:¬a=0):a-1<a:=Ko (OB h) Kh
def ym(h:a<b):b=a+1+(b-(a+1)):=(Jd h).symm
def ms:a+b-a=b:=Qy ..
def sh:a+b-b=a:=Sc ..
def si(h:b<=a):a=a-b+b:=(Ll h).symm
def sj(h:a<b):a<=(a+b)/2:=(Rb NT).mpr (by rw[NU];exact bX (bn h) a)
def yn(h:a<b)(g:b<a+1):Vj:=absurd h (b'.mpr (ID g))
def e5(h:a<b)(g:b<=x)(k:LJ x Vu=true):a<Vu:=aJ h (an g (bW k))
def hI(h:a<b)(g:bF ((b:Int)<=C)=true):(a:Int)<C:=Kr (Mp.mpr h) (of_decide_eq_true g)
def yo(h:a<=x)(g:b<=a)(k:IH x b=true):Vj:=absurd (an g h) (IS.mpr (bW k))
def oM(h:a=x)(g:b=x):a<=b:=Jc (h.trans g.symm)
def sk(h:0<=C)(g:C<Vs):C.toNat<Vs.toNat:=(Int.toNat_lt_toNat (Ks h g)).mpr g
def dT{p:Vd->Prop}:∀q∈([]:List Vd),p q:=λ _ h=>absurd h uR
def aV{p:Vd->Prop}{a:Vd}{l:List Vd}(h:p a)(g:∀q∈l,p q):∀q∈a::l,p q:=λ q m=>(aP.mp m).elim (λ e=>e▸h) (g q)
def yp(h:C<Vs):¬Vs<=C:=Sk.mpr h
def sl(h:b<a):(0<=a-1-b)/\(a-1-b<0+(a+1-0)):=⟨dk _,by rw[Im,KU];exact bz (an (Nh _ _) (Nh _ _)) (Ia _)⟩
def aO{x:Option Vd}{a b:Vd}(e:x=some a)(q:x=some b):a=b:=ax (e.symm.trans q)
def bN{x:Option Vd}{a:Vd}(e:x=none)(q:x=some a):Vj:=by rw[e]at q;cases q
def yq(h:b<=a)(g:IH x b=true):x<a:=aJ (bW g) h
def sm(h:¬0<a):a=0:=LI h
def mv(h:a<b)(g:¬a=b-1):a<b-1:=Iu (Ie h) g
def sn(h:¬a<b):¬(a<b/\Vj):=λ q=>h q.1
def oN(h:¬a<=b):¬(a<=b/\Vj):=λ q=>h q.1
def yr(h:a<=b)(g:x<Vu):a<=b/\x<Vu:=⟨h,g⟩
def yt(h:a<b)(g:x<a):a-1<b-1:=aJ (Ko (Jb g) Kh) (Ie h)
def oO(h:1<=a):a-1<a:=Ko h Kh
def mw(h:a<b):a+1+(b-(a+1))<=b:=Jc (Jd h)
def yu(h:¬b<=a):(a+b)/2+1<=b:=Rw (Nat.two_mul b▸NV (M0 h) b)
def so(h:x<b)(g:b<a):0+a-1-b<0+a-1-x:=by
 rw[Im];exact Oa (aJ h (Ie g)) h
def sp(h:b<x)(g:x<a):0+a-1-b<a:=by
 rw[Im,MK];exact Ko (Jb g) (Jb (S3 _ Kh))
def sq(h:a<=b):a+(0+1)<=b+1+x:=an (H' h) (dx _ _)
def sr(h:a<x)(g:x<b):0<=a/\a<b:=⟨dk _,LF h g⟩
def ss(h:a<b):0<=a/\a<b:=⟨dk _,h⟩
def yv(h:¬b<x)(g:a<=x)(k:¬a<b):a=b:=Me (an g (b'.mp h)) (b'.mp k)
def yw(h:¬b<a)(g:¬a<b):a=b:=Me (b'.mp h) (b'.mp g)
def kL(h:b<=x)(g:¬b<=a):(a+b)/2<x:=by
 rw[Nz NT,NU];exact P2 (aJ (IS.mp g) h) h
def oP(h:¬b<=a):a<=(a+b)/2:=by
 rw[Rb NT,NU];exact bX (bn (IS.mp h)) a
def oQ(e:x=b)(h:a<b+1)(g:Vu<a):a-1<b:=aJ (Ko (Jb g) Kh) (ID h)
def yx{a b c d e:Nat}(h:a<=b+d):a+1<=b+1+c+(d+1+e):=an (H' h) (IW (an (I7 b) (dx _ c)) (dx (d+1) e))
def yy(h:a<=b+Vu):a+1<=b+1+x+Vu:=an (an (H' h) (Jc (O0 b Vu).symm)) (gp (dx (b+1) x) Vu)
def yz(h:a<=b+x):a+1<=b+(x+1+Vu):=an (H' h) (bX (dx (x+1) Vu) b)
def su:10*(a+1)+b=10+(10*a+b):=by rw[Nat.mul_succ,IE (10*a) 10,La]
def yA(h:a<b)(g:(a+b)/2<x):(a+b)/2+1<=b:=by
 refine Nat.succ_le_of_lt ?_;rw[Nz NT,NU];exact NV h b
def yB(h:x<=a)(g:a-x<=0)(k:x<=b):a<=b:=an (LC.mp (Nat.le_zero.mp g)) k
def yC(h:a<x)(g:b<=a):a<b+(x-b):=by rw[Jd (an g (bn h))];exact h
def yD(h:x<b)(g:x=a):a<=b-1:=Ie (g▸h)
def aQ{a:Vd}(h:none=some a):Vj:=by cases h
def c7{a:Vd}(h:some a=none):Vj:=by cases h
def aj(h:(Vj->False)->False):Vj:=IK h
def mx(h:a<=b+1+x):a<=b+(x+1):=by rw[<-MQ];exact h
def yE(h:x<=b):¬(a<=b/\b<x):=λ q=>b'.mpr h q.2
def oR(h:a<=x)(g:x<b):a+b-1-x<b:=Qd (Ie (aJ g (Iw b a))) (aJ (Ko (aJ (Jb g) (Iw b a)) Kh) (gp h b))
def oS(h:x<b):a<=a+b-1-x:=Rv (Ie (Oc h a))
def yF(h:x<Vu)(g:Vu<b):a+b-1-Vu<a+b-1-x:=Oa (aJ h (Ie (aJ g (Iw b a)))) h
def sv:¬(Vj/\a<a):=λ h=>Iy _ h.2
def yG(h:b+1<=a):a-(b+1)<=a-1/\a-1<a:=⟨RT (Iw 1 b) a,Ko (aJ (Ju b) h) Kh⟩
def yH(h:b+1<=a)(g:0<b):a-(b+1)+a-1-(a-1)<a-1:=by
 rw[Nat.add_sub_assoc (an (Iw 1 b) h),Sc];exact Oa (aJ (S1 g) h) (S1 g)
def yI(h:b-a<=x+1)(e:¬b<=a):(a+b)/2-a<=x:=ID (aJ (Nat.sub_lt_sub_right (oP e) (kL (aB _) e)) h)
def yJ(h:b-a<=x+1)(e:¬b<=a):b-((a+b)/2+1)<=x:=an (RT (H' (oP e)) b) (by show b-(a+1)<=x;rw[Nat.sub_add_eq];exact Nat.sub_le_of_le_add h)
def yK(d:x<=b)(c:a<b+1)(e:¬a=x)(f:¬(x<a/\a<=b)):a<b:=aJ (Iu (b'.mp λ g=>f ⟨g,ID c⟩) e) d
def yL(h:a<b)(e:a=x):¬b=x:=λ q=>br h (e.trans q.symm)
def sw(h:b<a):¬a=b:=IC h
def yM(h:a<=b+(x+1)):a<=b+1+x:=by rw[MQ];exact h
def yN(h:b<=x)(g:a<b):(a+b)/2<x:=by
 rw[Nz NT,NU];exact P2 (aJ g h) h
def oT(h:a+10*(b+1)+20<x):a+1+10*b+20<x:=bz (gp (by rw[La,IE 1];exact bX (bX (by decide:1<=10) (10*b)) a) 20) h
def yO(h:a+10*(b+1)+20<x):a+10*b+20<x:=bz (gp (bX (dx (10*b) 10) a) 20) h
def my(h:a+60*(b+1)+200<x)(g:LJ Vu 60=true):a+Vu+60*b+200<x:=bz (gp (by rw[La,IE Vu];exact bX (bX (bW g) (60*b)) a) 200) h
def sx(h:a+60*b+200<x)(g:LJ Vu 200=true):a+Vu<x:=bz (IW (dx a (60*b)) (bW g)) h
def yP(h:a+Vu<b)(g:LJ x Vu=true):a+x<b:=bz (bX (bW g) a) h
def oU{u c x y n:Nat}(h:u+n<c)(a:x<=9)(g:LJ 9 n=true):u+min x y<c:=bz (bX (an (Nm x y) (an a (bW g))) u) h
def yQ(h:a+200<b)(d:Vu<=9):a+1+min x Vu<b:=bz (by rw[La];exact bX (an (bX (an (KV x Vu) d) 1) (by decide)) a) h
def kM(h:bF (C<=0)=true):C<=(a:Int):=J2 (of_decide_eq_true h) (IJ a)
def yR(h:bF (C<=-1)=true):C<=(a:Int)-1:=J2 (of_decide_eq_true h) (Int.sub_le_sub_right (IJ a) 1)
def yS(h:b<a):(a:Int)-1+b*-1=((a-1-b:Nat):Int):=by rw[Int.mul_neg_one,<-Sj,Oi (Ie h),Oi (bz (dk b) h)];rfl
def yT(h:b<a):(b:Int)+1=a-((a-1-b:Nat):Int):=by rw[MK,IE 1,Oi h,Int.sub_sub_self];rfl
def mz(h:a<=b)(g:IH (b+1) x=true):((a:Int)+1).natAbs<x:=bz (H' h) (bW g)
def sy(h:a<=10)(g:b<=10):0+(5+(a+(9+(b+0))))<=40:=an (bX (bX (IW h (bX g 9)) 5) 0) (by decide)
def yU:(1:Int)<=a+1:=Int.add_le_add_right (IJ a) 1
def yV:(-1+((a:Int)+1)).toNat=a:=by rw[Uq (-1),<-Sj,Int.add_sub_cancel];rfl
def yW(c:(a:Int)+x<2^62)(d:b<=x):((a+b:Nat):Int)<2^63:=Ks (Int.add_le_add_left (J1.mpr d) (a:Int)) (LK c (by decide))
def oV(h:a+b<x)(g:x<=Vu)(k:bF ((Vu:Int)<C)=true):(a:Int)+b<C:=Ks (J1.mpr (an (bn h) g):((a+b:Nat):Int)<=Vu) (of_decide_eq_true k)
def oW:(C%4).toNat<4:=(O2 (JB _ (by decide))).mpr (Jr _ (by decide))
def sC:(C%16).toNat<16:=(O2 (JB _ (by decide))).mpr (Jr _ (by decide))
def oX(h:a<=14*x)(d:x<Vu)(e:Vu<=100)(c:b<=10):a+b<=1410:=IW (an h (RU 14 (an (bn d) e))) c
def yX(h:a<=9):a+1+b+(9-a)=10+b:=(by rw[OD,OD a 1,Jd h]:a+1+b+(9-a)=9+1+b)
def yY:10*(a+15)=10*13+(10*(a+1)+10):=(congrArg (10*·) (IE (a+2) 13)).trans (UI 10 13 (a+2))
def yZ(h:x+1<=b-a):a+(x+1)<=b:=(Nat.le_sub_iff_add_le' (bn (Sx (aJ (Ju x) h)))).mp h
def y0(h:a-1-b<x)(c:x<a):a-1-x<b:=M0 λ d=>IS.mpr h (Rv (by rw[IE];exact Nat.add_le_of_le_sub (Ie c) d))
def y1(h:a<b+1):10*(b+1)+10=10*a+(10*(b+1-a)+9+1):=(congrArg (λ x=>10*x+10) (Jd (bn h)).symm).trans (congrArg (·+10) (UI 10 a (b+1-a)))
def y2(c:b<a)(q:¬b<=x):a-b+x<a:=OC (Oc (IS.mp q) (a-b)) (Ll (bn c))
def mA(h:C<=Vs)(g:¬C=Vs):C<Vs:=Int.lt_iff_le_and_ne.mpr ⟨h,g⟩
def oY{c m:Int}(h:0<=C/\C<c/\Vj)(g:bF (c<=m)=true):C<m:=Kr h.2.1 (of_decide_eq_true g)
def sD(h:a<=b)(g:IH (b*5) x=true):a*5<x:=bz (KQ 5 h) (bW g)
def sE(e:a<x)(f:b<Vu)(g:x+Vu<=a+b):Vj:=absurd g (IS.mpr (Nat.add_lt_add e f))
def sF(h:a*5<21):a<64:=bz (Nat.le_mul_of_pos_right a (by decide)) (LF h (by decide))
def H6(h:a<=x)(k:LJ x b=true)(g:¬(a:Int)<b):a=b:=Me (an h (bW k)) (J1.mp (JQ.mp g))
def oZ(a:0<=C):(if 0<C then C-0 else 0)=(C.toNat:Int):=by
 rw[K7 a];split;·exact Int.sub_zero C
 ·rename_i q;exact Mg a (JQ.mp q)
def o2(h:a<2):a=0\/a=1:=(MR.mp h).imp LH.mp id
def mB(h:a<4):a=0\/a=1\/a=2\/a=3:=(MR.mp h).elim (λ h=>(MR.mp h).elim (λ h=>(o2 h).elim .inl λ e=>.inr (.inl e)) λ e=>.inr (.inr (.inl e))) λ e=>.inr (.inr (.inr e))
def sG{c b p:Vd}(h:[c,b][a]?=some p):(a=0/\c=p)\/(a=1/\b=p):=by
 rcases a with _|a;·exact .inl ⟨rfl,ax h⟩
 ·cases a with
  |zero=>exact .inr ⟨rfl,ax h⟩|succ a=>exact aQ h
def ey{x:Option Vd}(f:x=none->Vj)(g:∀a,x=some a->Vj):Vj:=by
 rcases x with _|a;·exact f rfl
 ·exact g a rfl
def gy(f:M=ap->Vj)(g:M=true->Vj):Vj:=by
 rcases M with _|_;·exact f rfl
 ·exact g rfl
def am{P0 a:Prop}(h:P0/\a)(f:P0->a->Vj):Vj:=by
 obtain⟨b,c⟩:=h;exact f b c
def a4{P0 a b:Prop}(h:P0/\a/\b)(f:P0->a->b->Vj):Vj:=by
 obtain⟨c,d,e⟩:=h;exact f c d e
def iB{P0 a b c:Prop}(h:P0/\a/\b/\c)(f:P0->a->b->c->Vj):Vj:=by
 obtain⟨d,e,g,i⟩:=h;exact f d e g i
def d6{P0 a b c d:Prop}(h:P0/\a/\b/\c/\d)(f:P0->a->b->c->d->Vj):Vj:=by
 obtain⟨e,g,i,j,k⟩:=h;exact f e g i j k
def mC{P0 a b c d e:Prop}(h:P0/\a/\b/\c/\d/\e)(f:P0->a->b->c->d->e->Vj):Vj:=by
 obtain⟨g,i,j,k,l,m⟩:=h;exact f g i j k l m
def sH{P0 a b c d e g i:Prop}(h:P0/\a/\b/\c/\d/\e/\g/\i)(f:P0->a->b->c->d->e->g->i->Vj):Vj:=by
 obtain⟨j,k,l,m,n,o,p,q⟩:=h;exact f j k l m n o p q
def ai.{c}{d:Sort c}{P0:d->Prop}(h:∃a,P0 a)(f:∀a,P0 a->Vj):Vj:=by
 obtain⟨a,b⟩:=h;exact f a b
def ak.{e}{g:Sort e}{P0 b:g->Prop}(h:∃a,P0 a/\b a)(f:∀a,P0 a->b a->Vj):Vj:=by
 obtain⟨a,c,d⟩:=h;exact f a c d
def ci.{i}{j:Sort i}{P0 b c:j->Prop}(h:∃a,P0 a/\b a/\c a)(f:∀a,P0 a->b a->c a->Vj):Vj:=by
 obtain⟨a,d,e,g⟩:=h;exact f a d e g
def mD.{k}{l:Sort k}{P0 b c d:l->Prop}(h:∃a,P0 a/\b a/\c a/\d a)(f:∀a,P0 a->b a->c a->d a->Vj):Vj:=by
 obtain⟨a,e,g,i,j⟩:=h;exact f a e g i j
def sI.{q}{r:Sort q}{P0 b c d e g i:r->Prop}(h:∃a,P0 a/\b a/\c a/\d a/\e a/\g a/\i a)(f:∀a,P0 a->b a->c a->d a->e a->g a->i a->Vj):Vj:=by
 obtain⟨a,j,k,l,m,n,o,p⟩:=h;exact f a j k l m n o p
def cP.{d,e}{g:Sort d}{i:Sort e}{P0:g->i->Prop}(h:∃a b,P0 a b)(f:∀a b,P0 a b->Vj):Vj:=by
 obtain⟨a,b,c⟩:=h;exact f a b c
def aW.{g,i}{j:Sort g}{k:Sort i}{P0 c:j->k->Prop}(h:∃a b,P0 a b/\c a b)(f:∀a b,P0 a b->c a b->Vj):Vj:=by
 obtain⟨a,b,d,e⟩:=h;exact f a b d e
def bS.{j,k}{l:Sort j}{m:Sort k}{P0 c d:l->m->Prop}(h:∃a b,P0 a b/\c a b/\d a b)(f:∀a b,P0 a b->c a b->d a b->Vj):Vj:=by
 obtain⟨a,b,e,g,i⟩:=h;exact f a b e g i
def di.{l,m}{n:Sort l}{o:Sort m}{P0 c d e:n->o->Prop}(h:∃a b,P0 a b/\c a b/\d a b/\e a b)(f:∀a b,P0 a b->c a b->d a b->e a b->Vj):Vj:=by
 obtain⟨a,b,g,i,j,k⟩:=h;exact f a b g i j k
def mE.{n,o}{p:Sort n}{q:Sort o}{P0 c d e g:p->q->Prop}(h:∃a b,P0 a b/\c a b/\d a b/\e a b/\g a b)(f:∀a b,P0 a b->c a b->d a b->e a b->g a b->Vj):Vj:=by
 obtain⟨a,b,i,j,k,l,m⟩:=h;exact f a b i j k l m
def iC.{e,g,i}{j:Sort e}{k:Sort g}{l:Sort i}{P0:j->k->l->Prop}(h:∃a b c,P0 a b c)(f:∀a b c,P0 a b c->Vj):Vj:=by
 obtain⟨a,b,c,d⟩:=h;exact f a b c d
def eb.{i,j,k}{l:Sort i}{m:Sort j}{n:Sort k}{P0 d:l->m->n->Prop}(h:∃a b c,P0 a b c/\d a b c)(f:∀a b c,P0 a b c->d a b c->Vj):Vj:=by
 obtain⟨a,b,c,e,g⟩:=h;exact f a b c e g
def o3.{k,l,m}{n:Sort k}{o:Sort l}{p:Sort m}{P0 d e:n->o->p->Prop}(h:∃a b c,P0 a b c/\d a b c/\e a b c)(f:∀a b c,P0 a b c->d a b c->e a b c->Vj):Vj:=by
 obtain⟨a,b,c,g,i,j⟩:=h;exact f a b c g i j
def bI.{m,n,o}{p:Sort m}{q:Sort n}{r:Sort o}{P0 d e g:p->q->r->Prop}(h:∃a b c,P0 a b c/\d a b c/\e a b c/\g a b c)(f:∀a b c,P0 a b c->d a b c->e a b c->g a b c->Vj):Vj:=by
 obtain⟨a,b,c,i,j,k,l⟩:=h;exact f a b c i j k l
def o5.{o,p,q}{r:Sort o}{s:Sort p}{t:Sort q}{P0 d e g i:r->s->t->Prop}(h:∃a b c,P0 a b c/\d a b c/\e a b c/\g a b c/\i a b c)(f:∀a b c,P0 a b c->d a b c->e a b c->g a b c->i a b c->Vj):Vj:=by
 obtain⟨a,b,c,j,k,l,m,n⟩:=h;exact f a b c j k l m n
def o6.{l,m,n,o}{p:Sort l}{q:Sort m}{r:Sort n}{s:Sort o}{P0 e g:p->q->r->s->Prop}(h:∃a b c d,P0 a b c d/\e a b c d/\g a b c d)(f:∀a b c d,P0 a b c d->e a b c d->g a b c d->Vj):Vj:=by
 obtain⟨a,b,c,d,i,j,k⟩:=h;exact f a b c d i j k
def du.{n,o,p,q}{r:Sort n}{s:Sort o}{t:Sort p}{u:Sort q}{P0 e g i:r->s->t->u->Prop}(h:∃a b c d,P0 a b c d/\e a b c d/\g a b c d/\i a b c d)(f:∀a b c d,P0 a b c d->e a b c d->g a b c d->i a b c d->Vj):Vj:=by
 obtain⟨a,b,c,d,j,k,l,m⟩:=h;exact f a b c d j k l m
def o7.{p,q,r,s}{t:Sort p}{u:Sort q}{v:Sort r}{w:Sort s}{P0 e g i j:t->u->v->w->Prop}(h:∃a b c d,P0 a b c d/\e a b c d/\g a b c d/\i a b c d/\j a b c d)(f:∀a b c d,P0 a b c d->e a b c d->g a b c d->i a b c d->j a b c d->Vj):Vj:=by
 obtain⟨a,b,c,d,k,l,m,n,o⟩:=h;exact f a b c d k l m n o
def o8.{q,r,s,t,u}{v:Sort q}{w:Sort r}{x:Sort s}{y:Sort t}{z:Sort u}{P0 g i j k:v->w->x->y->z->Prop}(h:∃a b c d e,P0 a b c d e/\g a b c d e/\i a b c d e/\j a b c d e/\k a b c d e)(f:∀a b c d e,P0 a b c d e->g a b c d e->i a b c d e->j a b c d e->k a b c d e->Vj):Vj:=by
 obtain⟨a,b,c,d,e,l,m,n,o,p⟩:=h;exact f a b c d e l m n o p
def aH{A B G:Prop}(h:A\/B)(f:A->G)(g:B->G):G:=h.elim f g
def ez{A B C G:Prop}(h:A\/B\/C)(f:A->G)(g:B->G)(k:C->G):G:=h.elim f λ h=>h.elim g k
def dv{P0 a:Prop}(b:P0)(c:a):P0/\a:=⟨b,c⟩
def b3{P0 a b:Prop}(c:P0)(d:a)(e:b):P0/\a/\b:=⟨c,d,e⟩
def iD{P0 a b c:Prop}(d:P0)(e:a)(f:b)(g:c):P0/\a/\b/\c:=⟨d,e,f,g⟩
def g1{P0 a b c d:Prop}(e:P0)(f:a)(g:b)(h:c)(i:d):P0/\a/\b/\c/\d:=⟨e,f,g,h,i⟩
def bj.{f}{c:Sort f}{P0 b:c->Prop}(a:c)(d:P0 a)(e:b a):∃a,P0 a/\b a:=⟨a,d,e⟩
def dU.{h}{d:Sort h}{P0 b c:d->Prop}(a:d)(e:P0 a)(f:b a)(g:c a):∃a,P0 a/\b a/\c a:=⟨a,e,f,g⟩
def o9.{j}{e:Sort j}{P0 b c d:e->Prop}(a:e)(f:P0 a)(g:b a)(h:c a)(i:d a):∃a,P0 a/\b a/\c a/\d a:=⟨a,f,g,h,i⟩
def dw.{h,i}{d:Sort h}{e:Sort i}{P0 c:d->e->Prop}(a:d)(b:e)(f:P0 a b)(g:c a b):∃a b,P0 a b/\c a b:=⟨a,b,f,g⟩
def kN.{j,k}{e:Sort j}{f:Sort k}{P0 c d:e->f->Prop}(a:e)(b:f)(g:P0 a b)(h:c a b)(i:d a b):∃a b,P0 a b/\c a b/\d a b:=⟨a,b,g,h,i⟩
def kO.{l,m}{f:Sort l}{g:Sort m}{P0 c d e:f->g->Prop}(a:f)(b:g)(h:P0 a b)(i:c a b)(j:d a b)(k:e a b):∃a b,P0 a b/\c a b/\d a b/\e a b:=⟨a,b,h,i,j,k⟩
def o'.{p,q}{h:Sort p}{i:Sort q}{P0 c d e f g:h->i->Prop}(a:h)(b:i)(j:P0 a b)(k:c a b)(l:d a b)(m:e a b)(n:f a b)(o:g a b):∃a b,P0 a b/\c a b/\d a b/\e a b/\f a b/\g a b:=⟨a,b,j,k,l,m,n,o⟩
def mF.{j,k,l}{e:Sort j}{f:Sort k}{g:Sort l}{P0 d:e->f->g->Prop}(a:e)(b:f)(c:g)(h:P0 a b c)(i:d a b c):∃a b c,P0 a b c/\d a b c:=⟨a,b,c,h,i⟩
def sJ.{l,m,n}{f:Sort l}{g:Sort m}{h:Sort n}{P0 d e:f->g->h->Prop}(a:f)(b:g)(c:h)(i:P0 a b c)(j:d a b c)(k:e a b c):∃a b c,P0 a b c/\d a b c/\e a b c:=⟨a,b,c,i,j,k⟩
def kP.{n,o,p}{g:Sort n}{h:Sort o}{i:Sort p}{P0 d e f:g->h->i->Prop}(a:g)(b:h)(c:i)(j:P0 a b c)(k:d a b c)(l:e a b c)(m:f a b c):∃a b c,P0 a b c/\d a b c/\e a b c/\f a b c:=⟨a,b,c,j,k,l,m⟩
def sK.{p,q,r}{h:Sort p}{i:Sort q}{j:Sort r}{P0 d e f g:h->i->j->Prop}(a:h)(b:i)(c:j)(k:P0 a b c)(l:d a b c)(m:e a b c)(n:f a b c)(o:g a b c):∃a b c,P0 a b c/\d a b c/\e a b c/\f a b c/\g a b c:=⟨a,b,c,k,l,m,n,o⟩
def sL.{r,s,t}{i:Sort r}{j:Sort s}{k:Sort t}{P0 d e f g h:i->j->k->Prop}(a:i)(b:j)(c:k)(l:P0 a b c)(m:d a b c)(n:e a b c)(o:f a b c)(p:g a b c)(q:h a b c):∃a b c,P0 a b c/\d a b c/\e a b c/\f a b c/\g a b c/\h a b c:=⟨a,b,c,l,m,n,o,p,q⟩
def g2.{p,q,r,s}{h:Sort p}{i:Sort q}{j:Sort r}{k:Sort s}{P0 e f g:h->i->j->k->Prop}(a:h)(b:i)(c:j)(d:k)(l:P0 a b c d)(m:e a b c d)(n:f a b c d)(o:g a b c d):∃a b c d,P0 a b c d/\e a b c d/\f a b c d/\g a b c d:=⟨a,b,c,d,l,m,n,o⟩
section
set_option genInjectivity false
abbrev Bq{b c:Type}(M:LN)(A:aq)(f:b->Sem c)(Q:c->aa->Prop)(E:ab->aa->Prop)(a:b)(s:aa):Prop:=aA M A (f a) Q E s
def al{M:LN}{a b:Type}{x:Sem a}{f:a->Sem b}{Q:b->aa->Prop}(h:aA M o x (Bq M o f Q y) y q):aA M o (x>>=f) Q y q:=af h
structure Ob where
 Γ:Ctx
 p:Pos
 before:fl
 r:JJ
 after:fl
noncomputable def SharedT.gen(s:fl)(g:Nat)(x:KI):fl:=⟨s.tree,s.n,s.life,s.gens.setIfInBounds g x,s.drawn,s.toks,s.os⟩
noncomputable def d7(b:Bool)(x:Option Vd):Option Vd:=match b with
 |true=>x|ap=>none
def gc{x:Option Vd}{y:Vd}(h:d7 M x=some y):M=true/\x=some y:=by
 cases M;·exact aQ h
 ·exact⟨rfl,h⟩
def e6{b c:Type}{x:Option b}{f:b->Option c}{y:c}(h:x.bind f=some y):∃a,x=some a/\f a=some y:=dg.mp h
def y4{c b:Type}{x:Option c}{d:Option b}{f:c->Option b}{y:b}(h:x.elim d f=some y):(x=none/\d=some y)\/∃a,x=some a/\f a=some y:=by
 cases x;·exact .inl ⟨rfl,h⟩
 ·exact .inr ⟨_,rfl,h⟩
noncomputable def pa(s:fl)(a:ae):Option Obj:=d7 (IH a s.n) ((s.tree.get a).bind alive)
noncomputable def pb(s:fl)(a:ae):Option (Option Obj):=match IH a s.n with
 |true=>(s.tree.get a).map alive|ap=>some none
noncomputable def sM:Resume->Bool
 |.send .none=>true|_=>ap
abbrev e7:=End×fl×List Ob
noncomputable def kQ(VR:Nx->Sem Fin)(z:eH)(w:ar)(u:Ctx->Pos->fl->Option (JJ×fl))(n:Nat):Ctx->Pos->fl->List Ob->Sem Fin->Option e7:=n.rec (motive:=λ _=>Ctx->Pos->fl->List Ob->Sem Fin->Option e7) (λ _ _ _ _ _=>none) λ _ R b p VL d t=>t.casesOn (motive:=λ _=>Option e7) (λ f=>f.casesOn (motive:=λ _=>Option e7) (λ f=>some (.ret (.ok f),VL,d)) λ VN=>d7 VN.quiet (R (b.goto VN) p VL d (VR VN))) (λ e=>some (.ret (.error e),VL,d)) (λ _=>none) (λ _=>none) (λ _ k=>R b p VL d (k ())) (λ y k=>R b y VL d (k ())) (λ VP _ k=>(pa VL VP).bind λ VQ=>R b p VL d (k VQ)) (λ VP _ g k=>(pa VL VP).bind λ _=>R b p ⟨VL.tree.set VP g,VL.n,VL.life,VL.gens,VL.drawn,VL.toks,VL.os⟩ d (k ())) (λ VQ k=>d7 ((VL.tree.ins VL.n VQ).get VL.n).isSome (R b p ⟨VL.tree.ins VL.n VQ,VL.n+1,VL.life,VL.gens,VL.drawn,VL.toks,VL.os⟩ d (k VL.n))) (λ VP k=>(pb VL VP).bind λ VQ=>R b p VL d (k VQ)) (λ _ k=>R b p VL d (k ())) (λ _ _=>none) (λ k=>R b p ⟨VL.tree,VL.n,VL.life,VL.gens,VL.drawn,VL.toks+1,VL.os⟩ d (k VL.toks)) (λ k=>R b p VL d (k ⟨z,w.params⟩)) (λ _ _ _=>none) (λ _ _ _=>none) (λ VN h _ _ k=>(u (b.enter VN h p) p VL).elim ((R (b.enter VN h p) p VL d (VR VN)).bind λ x=>match x with|(e,i,j)=>match e with
     |.ret r=>R b p i j (k r)|.susp ..=>none) λ x=>match x with|(r,i)=>R b p i (⟨b.enter VN h p,p,VL,r,i⟩::d) (k r)) (λ own k=>R b p VL d (k (if own then b.own else b.handled))) (λ VN k=>R b p ⟨VL.tree,VL.n,VL.life,VL.gens.push (.fresh VN),VL.drawn,VL.toks,VL.os⟩ d (k VL.gens.size)) (λ g k=>(VL.gens[g]?).bind λ st=>R b p VL d (k st.seen)) (λ g r _ k=>(VL.gens[g]?).bind λ st=>match st with
   |.fresh VN=>d7 (sM r) ((R (b.wake VN p) p (SharedT.gen VL g .running) d (VR VN)).bind λ x=>match x with|(e,i,j)=>d7 e.quiet (R b p (SharedT.gen i g e.genState) j (k e.result)))|.suspended VS _ VN q m _=>d7 m.isEmpty ((R (b.wake VN p) q (SharedT.gen VL g .running) d (VS r)).bind λ x=>match x with|(e,i,j)=>d7 e.quiet (R b p (SharedT.gen i g e.genState) j (k e.result)))|.finished=>R b p VL d (k .finished)|.running=>none) (λ v g l k=>some (.susp v g l k b.code p [],VL,d)) (λ k=>R b p VL d (k ((b.code,p)::b.below))) (λ _ _=>none) (λ k=>R b p VL d (k 0)) (λ _ _ _ _ _=>none)
def Ob.Valid(VL:eH)(VM:ar)(o:Ob):Prop:=Returns (au VL VM) o.Γ o.p o.before.abs o.r o.after.abs
def Ob.g3(a:Ctx->Pos->fl->Option (JJ×fl))(o:Ob):Prop:=a o.Γ o.p o.before=some (o.r,o.after)
def db{s:fl}{o b:Obj}(c:IH h s.n=true)(d:s.tree.get h=some o)(e:alive o=some b):s.abs.heap.get? h=some b:=by
 show(R4 s.tree s.n s.life).get? h=some b;rw[abs_get (bW c) d,e]
def sO{s:fl}(b:pa s h=some O):s.abs.heap.get? h=some O/\∃x,s.tree.get h=some x:=by exact aj λ f=>am (gc b) λ d b=>ak (e6 b) λ x c e=>f ⟨db d c e,x,c⟩
def y5{s:fl}{o:Option Obj}(b:pb s h=some o):s.abs.heap.get? h=o:=by
 show(R4 s.tree s.n s.life).get? h=o;unfold pb at b;rcases c:IH h s.n with _|_
 · rw[c]at b;obtain rfl:=ax b;exact abs_get_none λ q=>by rw[show IH h s.n=true from NA q]at c;cases c
 · rw[c]at b;refine ak (bh.mp b) λ x d e=>?_;rw[abs_get (bW c) d,e]
def hJ(VL:eH)(VM:ar)(b:Ctx->Pos->fl->Option (JJ×fl))(c:Ctx)(p:Pos)(s:fl)(a:List Ob)(t:Sem Fin)(y:e7):Prop:=(∃new,y.2.2=new++a/\∀o∈new,o.g3 b)/\((∀o∈y.2.2,o.Valid VL VM)->Ub (au VL VM) c p t [] s.abs y.1 y.2.1.abs)
def hJ.map{b:Ctx->Pos->fl->Option (JJ×fl)}{g h:Ctx}{s d:fl}{a:List Ob}{t e:Sem Fin}{y:e7}(T:hJ Vl c b g v s a t y)(f:Ub (au Vl c) g v t [] s.abs y.1 y.2.1.abs->Ub (au Vl c) h J e [] d.abs y.1 y.2.1.abs):hJ Vl c b h J d a e y:=⟨T.1,λ i=>f (T.2 i)⟩
def hJ.two{d:Ctx->Pos->fl->Option (JJ×fl)}{n r:Ctx}{s i:fl}{h:List Ob}{t k:Sem Fin}{x y:e7}(T:hJ Vl c d n v s h t x)(z:hJ Vl c d r J i x.2.2 k y){u:Ctx}{j:fl}{l:Sem Fin}(f:Ub (au Vl c) n v t [] s.abs x.1 x.2.1.abs->Ub (au Vl c) r J k [] i.abs y.1 y.2.1.abs->Ub (au Vl c) u Vi l [] j.abs y.1 y.2.1.abs):hJ Vl c d u Vi j h l y:=by
 refine aj λ H=>?_;refine am T λ e A=>?_;refine ak e λ E g C=>?_;refine am z λ e B=>?_;refine ak e λ G a D=>?_;refine H ?_;rw[g,<-kn]at a;refine⟨⟨G++E,a,λ o b=>?_⟩,λ m=>f (A λ o b=>m o ?_) (B m)⟩
 · refine aH (k9.mp b) (λ q=>?_) λ q=>?_;·exact D o q
   ·exact C o q
 ·simp only[a,kn,<-g];exact jq _ b
def y6{r:Resume}(h:sM r=true):r=.send .none:=by cases r with
 |throw=>cases h|send v=>cases v<;>first|rfl|cases h
def sP(J:eH)(w:ar)(H:Ctx->Pos->fl->Option (JJ×fl))(n:Nat):∀(A:Ctx)(p:Pos)(s:fl)(u:List Ob)(t:Sem Fin)(y:e7),kQ (Lf Kl) J w H n A p s u t=some y->hJ J w H A p s u t y:=by induction n with
 |zero=>intro _ _ _ _ _ _ VL;exact aQ VL|succ n VM=>
   intro A p s u t y VL;cases t with
   |pure f=>cases f with
     |done f=>obtain rfl:=ax VL;exact⟨⟨[],rfl,λ _ VL=>nomatch VL⟩,λ _=>.done⟩|again c=>exact am (gc VL) λ m VL=>(VM _ _ _ _ _ _ VL).map (.again m)
   |raise x=>obtain rfl:=ax VL;exact⟨⟨[],rfl,λ _ VL=>nomatch VL⟩,λ _=>.raise⟩|rule VU k=>exact(VM _ _ _ _ _ _ VL).map .rule|«at»q k=>exact(VM _ _ _ _ _ _ VL).map .at|point l k=>exact(VM _ _ _ _ _ _ VL).map .point|load a q k=>exact aj λ d=>ak (e6 VL) λ o VO VL=>d ((VM _ _ _ _ _ _ VL).map (.load (sO VO).1))|update a q g k=>
     refine ak (e6 VL) λ o VO VL=>?_;obtain⟨L,x,M⟩:=sO VO;refine(VM _ _ _ _ _ _ VL).map λ VN=>.update (by rw[L];rfl) ?_;unfold Nd at VN;dsimp only at VN;rw[absHeap_set M]at VN;exact VN|alloc o k=>
     refine am (gc VL) λ VO VL=>(VM _ _ _ _ _ _ VL).map λ VN=>.alloc ?_;unfold Nd at VN;dsimp only at VN;rw[SP VO]at VN;show Ub _ _ _ (k (R4 s.tree s.n s.life).objs.size) _ _ _ _;rw[PF];exact VN|loadIfAlive a k=>
     refine ak (e6 VL) λ o VO VL=>(VM _ _ _ _ _ _ VL).map λ VN=>.loadIfAlive ?_;rw[y5 VO];exact VN|fresh k=>exact(VM _ _ _ _ _ _ VL).map λ VN=>.fresh VN|ask k=>exact(VM _ _ _ _ _ _ VL).map .ask|handled own k=>exact(VM _ _ _ _ _ _ VL).map .handled|stack k=>exact(VM _ _ _ _ _ _ VL).map .stack|thread k=>exact(VM _ _ _ _ _ _ VL).map .thread|newGen c k=>exact(VM _ _ _ _ _ _ VL).map λ VN=>.newGen VN|genState g k=>exact ak (e6 VL) λ st VO VL=>(VM _ _ _ _ _ _ VL).map (.genState VO)|«yield»VR g l k=>obtain rfl:=ax VL;exact⟨⟨[],rfl,λ _ VL=>nomatch VL⟩,λ _=>.yield⟩|call c N g l k=>
     refine aH (y4 VL) (λ T=>?_) λ U=>?_
     · refine am T λ _ VL=>aj λ d=>?_;refine ak (e6 VL) λ i VP VL=>?_;obtain⟨e,z,G⟩:=i;cases e with
       |susp=>exact aQ VL|ret r=>exact d ((VM _ _ _ _ _ _ VP).two (VM _ _ _ _ _ _ VL) .call)
     · refine ak U λ q Q VL=>aj λ d=>?_;obtain⟨r,z⟩:=q;refine am (VM _ _ _ _ _ _ VL) λ i VN=>?_;refine ak i λ new E O=>?_;refine d ?_;refine⟨⟨new++[_],by rw[E];exact(kn new [_] u).symm,λ o j=>?_⟩,λ VR=>.call ?_ (VN VR)⟩;rotate_left;·exact VR ⟨A.enter c N p,p,s,r,z⟩ (by rw[E];exact jq _ (.head _))
       refine aH (k9.mp j) (λ j=>?_) λ j=>?_;·exact O o j
       ·simp only[aI.mp j];exact Q|resume g r l k=>
     refine ak (e6 VL) λ st C VL=>?_;cases st with
     |running=>exact aQ VL|finished=>exact(VM _ _ _ _ _ _ VL).map (.resumeFinished C)|fresh c=>
       refine aj λ d=>am (gc (show d7 _ _=some y from VL)) λ D VO=>?_;obtain rfl:=y6 D;refine ak (e6 VO) λ i VP B=>?_;obtain⟨e,z,G⟩:=i;exact am (gc (show d7 _ _=some y from B)) λ m VQ=>d ((VM _ _ _ _ _ _ VP).two (VM _ _ _ _ _ _ VQ) λ a VN=>.resumeFresh C a m VN)|suspended VS VT c q Y V=>
       refine aj λ d=>am (gc (show d7 _ _=some y from VL)) λ D VO=>?_;refine ak (e6 VO) λ i VP B=>?_;obtain⟨e,z,G⟩:=i;refine am (gc (show d7 _ _=some y from B)) λ m VQ=>?_;obtain rfl:=O9.mp D;exact d ((VM _ _ _ _ _ _ VP).two (VM _ _ _ _ _ _ VQ) λ a VN=>.resumeSuspended C a m VN)
   |_=>exact aQ VL
end
def bT{M:LN}[Decidable Vj]{a b:Sem Vd}{Q:Vd->aa->Prop}(h:¬Vj)(k:aA M o b Q y q):aA M o (if Vj then a else b) Q y q:=by rw[if_neg h];exact k
def eP{M:LN}[Decidable Vj]{a b:Sem Vd}{Q:Vd->aa->Prop}(h:Vj)(k:aA M o a Q y q):aA M o (if Vj then a else b) Q y q:=by rw[if_pos h];exact k
def gz{d:LN}{a b:Sem Vd}{Q:Vd->aa->Prop}(h:M=ap)(k:aA d o b Q y q):aA d o (if M=true then a else b) Q y q:=by subst h;exact k
def y7{d:LN}{a b:Sem Vd}{Q:Vd->aa->Prop}(h:M=true)(k:aA d o a Q y q):aA d o (if M=true then a else b) Q y q:=by subst h;exact k
noncomputable def dy:Data->Array (Int×ab)
 |.set a _ _=>a|_=>#[]
noncomputable def kR:Data->Nat
 |.set _ n _=>n|_=>0
noncomputable def eA:Data->cr
 |.set _ _ t=>t|_=>b2
noncomputable def g4(P:a3)(o:Obj)(x:Str)(v:ab):Array (Int×ab)×cr×Nat:=let L:=QK (eA o.data) (dy o.data) (mM P x) v;let a:cr:=if L.2.1.plain=true then{L.2.1 with plain:=ap}else L.2.1;if(!L.2.2.1&&a.tooFull)=true then let R:=Mm a L.1 (Ik L.1.size);(R.1,R.2.1,kR o.data+1+1)else(L.1,a,kR o.data+1)
noncomputable def cV(P:a3)(VO:Str)(VN:ab)(VL:Obj):Obj:=⟨VL.cls,VL.dict,.set (g4 P VL VO VN).1 (g4 P VL VO VN).2.2 (g4 P VL VO VN).2.1,VL.slots⟩
def mG{f g:Obj->Obj}(c:s.get? h=some O)(e:f O=g O):s.update h f=s.update h g:=by
 obtain⟨b,l⟩:=s;show MC (b.modify h f) l=MC (b.modify h g) l;have :b.modify h f=b.modify h g:=by
   apply Lb;intro i;simp only[IU,IU];by_cases q:h=i
   · subst q;rw[if_pos rfl,if_pos rfl];rw[((JM.mp c).1)];simp[e]
   ·rw[if_neg q,if_neg q]
 rw[this]
def sQ(h:a7)(a:ae)(f g:Obj->Obj):(h.update a f).update a g=h.update a (λ VM=>g (f VM)):=by
 obtain⟨b,l⟩:=h;show MC ((b.modify a f).modify a g) l=MC (b.modify a λ VM=>g (f VM)) l;have :(b.modify a f).modify a g=b.modify a λ VM=>g (f VM):=by
  apply Lb;intro i;rw[IU,IU,IU];by_cases q:a=i;·subst q;rw[if_pos rfl,if_pos rfl,if_pos rfl];cases b[a]?<;>rfl
  ·rw[if_neg q,if_neg q,if_neg q]
 rw[this]
def sR(VL:eH)(VM:ar)(a:Array (Int×ab))(b:List Str):Prop:=∀k,k∈b↔∃e∈a.toList,(strKind VL VM).is k e.2=true
inductive bk(VL:eH)(VM:ar)(o:Obj)(b:List Str):Prop|mk(c:o.cls=.type "frozenset")(d:o.dict=none)(k:o.slots=#[])(a:Array (Int×ab))(e:Nat)(t:cr)(f:o.data=.set a e t)(g:OK (strKind VL VM) a.toList)(i:sR VL VM a b)(j:a.size=b.length)(h:t.fits a.size=true)
def bk.cls(g:bk Vl c O G):O.cls=.type "frozenset":=by
 obtain⟨a,_⟩:=g;exact a
def bk.kS(x:bk Vl c O G)(n:s.get? h=some O):FrozAt (strKind Vl c) s h (λ k=>bF (k∈G)) G.length:=by
 refine aj λ q=>?_;obtain⟨b,d,f,i,g,t,e,j,m,p,l⟩:=x;obtain⟨r,u,v,y⟩:=O;dsimp only at b d f e;subst b d f e;refine q ?_;exact sK i g t n j (λ k=>by simp only[decide_eq_true_eq];exact m k) p l
def iE(x:Str)(a:Tok):(strKind Vl c).is x (.str x a)=true:=isStrOf_self x a
def mH(g:bk Vl c O G)(VM:j∉G):bk Vl c (cV c.params j (.str j Vv) O) (G++[j]):=by
 refine aj λ U=>?_;obtain⟨B,d,T,b,s,t,u,m,J,M,VL⟩:=g;refine U ?_;have fin:∀{b s t},(cV c.params j (.str j Vv) O).data=.set b s t->OK (strKind Vl c) b.toList/\sR Vl c b (G++[j])/\b.size=(G++[j]).length/\t.fits b.size=true->bk Vl c (cV c.params j (.str j Vv) O) (G++[j]):=λ h k=>⟨B,d,T,_,_,_,h,k.1,k.2.1,k.2.2.1,k.2.2.2⟩;refine fin rfl ?_;have H:mM c.params j=(strKind Vl c).hash j:=rfl;have i:=SJ t b ((strKind Vl c).hash j) (.str j Vv);have n:=layNew_fits t b ((strKind Vl c).hash j) (.str j Vv);have C:dy O.data=b:=by rw[u];rfl
 have D:eA O.data=t:=by rw[u];rfl
 unfold g4;rw[C,D,H];generalize QK t b ((strKind Vl c).hash j) (.str j Vv)=L at i n⊢;obtain⟨a,l,VO,V⟩:=L;dsimp only at i n⊢;simp only[Mz]at i;have v:OK (strKind Vl c) a.toList:=(m.push (iE j Vv) rfl).perm i;have z:∀k,k∈G++[j]↔∃e∈a.toList,(strKind Vl c).is k e.2=true:=λ k=>by
   have :=mem_push_iff (S:=λ k=>bF (k∈G)) (iE (Vl:=Vl) (c:=c) j Vv) (λ Q=>by simp only[decide_eq_true_eq];exact J Q) i k;simp only[<-this];simp
 have A:a.size=(G++[j]).length:=by rw[<-aX,i.length_eq,eB,aX,M,eB];rfl
 have y:(if l.plain=true then{l with plain:=ap}else l:cr).fits a.size=true:=by
   split;·exact SetTable.fits_plain_off n
   ·exact n
 generalize(if l.plain=true then{l with plain:=ap}else l:cr)=r at y⊢;split
 · have f:=Rl r a (Ik a.size);have p:=relayAll_fits r a (Ik a.size);generalize Mm r a (Ik a.size)=R at f p⊢;obtain⟨E,VN,Y⟩:=R;dsimp only at f p⊢;have N:E.size=a.size:=by rw[<-aX,f.length_eq,aX]
   exact iD (v.perm f) (λ k=>(z k).trans ⟨λ⟨e,m,q⟩=>⟨e,f.mem_iff.mpr m,q⟩,λ⟨e,m,q⟩=>⟨e,f.mem_iff.mp m,q⟩⟩) (N.trans A) p
 ·exact iD v z A y
def sS{Q:Bool->aa->Prop}(g:bk Vl c O G)(m:q.heap.get? h=some O)(VO:j∉G)(VL:G.length+1<K9)(J:Q true {q with heap:=q.heap.update h (cV c.params j (.str j Vv))}):aA (au Vl c) o (RZ h (.str j Vv) ((strKind Vl c).hash j)) Q y q:=by
 have V1:=mH (Vv:=Vv) g VO;obtain⟨V0,d,V4,p,u,t,k,T,VT,VM,U⟩:=g;have VN:(I4 j Vv).scannable=true:=rfl;unfold RZ QH;refine aK (af (gE m k U ?_));dsimp only;rw[T8 VN (by rw[VM];exact fy VL) T];simp only[↓reduceIte];unfold setAddByScan;refine af (af (Jw (af (PS (iE (Vl:=Vl) (c:=c) j Vv) m k U T ?_))));have VU:K8 (λ e=>(strKind Vl c).is j e.2) p.toList=none:=JX.mpr λ e VS=>by
   rcases VX:(strKind Vl c).is j e.2 with _|_;·rfl
   ·exact absurd ((VT j).mpr ⟨e,VS,VX⟩) VO
 rw[VU];have V:∀(b:Bool){C:aa}{z:Unit->aa->Prop},z () C->aA (au Vl c) o (match b with|true=>rule "set.scan.the-table-gave-way"|ap=>jB ()) z y C:=λ b C z n=>by cases b<;>first|exact ah n|exact Jw n
 have v:=SJ t p ((strKind Vl c).hash j) (.str j Vv);have N:cV c.params j (.str j Vv) O=⟨O.cls,O.dict,.set (g4 c.params O j (.str j Vv)).1 (g4 c.params O j (.str j Vv)).2.2 (g4 c.params O j (.str j Vv)).2.1,O.slots⟩:=rfl;have l:g4 c.params O j (.str j Vv)=(let L:=QK t p ((strKind Vl c).hash j) (.str j Vv);let i:cr:=if L.2.1.plain=true then{L.2.1 with plain:=ap}else L.2.1;if(!L.2.2.1&&i.tooFull)=true then let R:=Mm i L.1 (Ik L.1.size);(R.1,R.2.1,u+1+1)else(L.1,i,u+1)):=by unfold g4;refine k.symm▸?_;rfl
 generalize QK t p ((strKind Vl c).hash j) (.str j Vv)=L at v l⊢;obtain⟨f,D,VZ,V2⟩:=L;dsimp only at v l⊢;simp only[Mz]at v;have M:f.size<=a9:=by
   have :f.size=p.size+1:=by rw[<-aX,v.length_eq,eB,aX];rfl
   refine M6 ?_;exact by rw[this,VM];exact VL
 refine af (V _ ?_);have VQ:∀i:cr,(if D.plain=true then{D with plain:=ap}else D:cr)=i->aA (au Vl c) o (do
     UP h f i if(!VZ&&i.tooFull)=true then do
         (match(Mm i f (Ik f.size)).2.2 with|true=>rule "set.scan.the-table-gave-way"|ap=>jB ())UP h (Mm i f (Ik f.size)).1 (Mm i f (Ik f.size)).2.1
         jB (some true)else jB (some true)) (λ r VY=>aA (au Vl c) o (match r with|some VR=>jB VR|none=>QH h (.str j Vv) ((strKind Vl c).hash j) 99999) Q y VY) y q:=by
   intro i VW;rw[VW]at l;refine af (J5 m k ?_ M);have VV:(q.heap.update h (JP f i)).get? h=some {O with data:=.set f (u+1) i}:=by
     have :=cQ (JP f i) m (by rw[L8 f i k];rfl);rw[L8 f i k]at this;exact this
   split
   · rename_i n;rw[if_pos n]at l;have Y:=Rl i f (Ik f.size);generalize Mm i f (Ik f.size)=R at Y l⊢;obtain⟨H,VP,V3⟩:=R;refine af (V _ ?_);refine af (J5 VV rfl (ah (ah ?_)) (by rw[<-aX,Y.length_eq,aX];exact M));dsimp only;rw[sQ];have :q.heap.update h (λ O=>JP H VP (JP f i O))=q.heap.update h (cV c.params j (.str j Vv)):=mG m (by rw[L8 f i k,L8 (o:={O with data:=.set f (u+1) i}) H VP rfl,N,l]);refine this.symm▸?_;exact J
   · rename_i n;rw[if_neg n]at l;refine ah (ah ?_);have :q.heap.update h (JP f i)=q.heap.update h (cV c.params j (.str j Vv)):=mG m (by rw[L8 f i k,N,l]);rw[this];exact J
 split
 · rename_i B;refine af ?_;rw[So 8 VN];exact ah (VQ _ (if_pos B))
 · rename_i B;refine af (ah ?_);simp only[↓reduceIte];exact VQ _ (if_neg B)
def y8{Q:Bool->aa->Prop}(g:bk Vl c O G)(d:q.heap.get? h=some O)(f:j∉G)(e:G.length+1<K9)(b:Q true {q with heap:=q.heap.update h (cV c.params j (.str j Vv)),toks:=q.toks+1}):aA (au Vl c) o (R0 h (.str j Vv)) Q y q:=by
 unfold R0;exact aK (al ((strKind Vl c).pyHash (iE j Vv) (sS (q:={q with toks:=q.toks+1}) g d f e b)))
noncomputable def sT(M i:Nat):Nat:=(i*5+1)%M
noncomputable def dz(VM:Nat):Nat->Nat->Nat
 |0,VL=>VL|m+1,VL=>dz VM m (sT VM VL)
noncomputable def fD(M:Nat):Bool:=(a1 M).all λ j=>(a1 M).any λ m=>dz M m 0==j
def sU:fD 8=true/\dz 8 8 0=0:=by decide+kernel
def y9:fD 128=true/\dz 128 128 0=0:=by decide+kernel
theorem mI(VM:Nat):∀(VL b VN:Nat),dz VM (VL+b) VN=dz VM b (dz VM VL VN)
 |0,b,VN=>by rw[Im];rfl|VL+1,b,VN=>by rw[show VL+1+b=(VL+b)+1 by exact hE];exact mI VM VL b (sT VM VN)
def sV(h:fD a=true/\dz a a 0=0)(o:b<a)(p:x<a):∃m,m<a/\dz a m b=x:=by
 refine aj λ u=>am h λ f s=>?_;unfold fD at f;rw[H9]at f;have bt:∀e,e<a->∃m,m<a/\dz a m 0=e:=λ e t=>by exact ak (List.any_eq_true.mp (f e (cI.mpr t))) λ m r q=>bj m (cI.mp r) (beq_iff_eq.mp q)
 refine ak (bt b o) λ c l g=>ak (bt x p) λ d n k=>u ?_;by_cases q:c<=d
 · refine bj (d-c) (by exact c5 ji n) ?_;rw[<-g,<-mI,show c+(d-c)=d by exact fz q,k]
 · refine bj (a-c+d) (y2 l q) ?_;rw[<-g,<-mI,show c+(a-c+d)=a+d from by rw[<-La,Jd (bn l)],mI,s,k]
def sW{b:Array (Option Nat)}{d i p:Nat}(h:cF a b (d+1) i p=none):((a1 (Ij a i+1-i)).find? λ k=>(b.getD (i+k) (some 0)).isNone)=none/\cF a b d ((i*5+1+p/32)%(a+1)) (p/32)=none:=by
 have c:((a1 (Ij a i+1-i)).find? λ k=>(b.getD (i+k) (some 0)).isNone).elim (cF a b d ((i*5+1+p/32)%(a+1)) (p/32)) (λ k=>some (i+k))=none:=Eq.trans (by lia) h;refine ey (x:=(a1 (Ij a i+1-i)).find? λ k=>(b.getD (i+k) (some 0)).isNone) (λ e=>⟨e,?_⟩) λ k e=>?_;·rw[e]at c;exact c
 ·rw[e]at c;exact c7 c
def y'{c:Array (Option Nat)}:∀(b i p:Nat),cF a c b i p=none->0<b->(c.getD i (some 0)).isNone=ap
 |b+1,i,p,h,_=>by
   · have :=List.find?_eq_none.mp (sW h).1 0 (cI.mpr (by unfold Ij;split<;>exact O1 (LG (by first|exact dx _ _|exact aB _))));simp only[KY]at this;rcases z:(c.getD i (some 0)).isNone with _|_;·rfl
     ·exact absurd z this
def sX{c:Array (Option Nat)}(h:cF a c (b+1) x Vu=none):cF a c b ((x*5+1+Vu/32)%(a+1)) (Vu/32)=none:=by exact(sW h).2
theorem sY{b:Nat}{c:Array (Option Nat)}:∀(m a i:Nat),cF b c (m+a) i 0=none->cF b c a (dz (b+1) m i) 0=none
 |0,a,i,h=>by rw[Im]at h;exact h|m+1,a,i,h=>by
  rw[show m+1+a=(m+a)+1 by exact hE]at h;have :=sX h;rw[Nat.zero_div,KY]at this;exact sY m a _ this
theorem sZ{c:Nat}{f:Array (Option Nat)}:∀(m a i p:Nat),i<=c->p<32^m->cF c f (m+a) i p=none->∃e,e<=c/\cF c f a e 0=none
 |0,a,i,p,d,b,h=>by
  obtain rfl:p=0:=by simpa using b
  rw[Im]at h;exact bj i d h|m+1,a,i,p,d,b,h=>by
  rw[show m+1+a=(m+a)+1 by exact hE]at h;have :=sX h;refine sZ m a _ _ ?_ ?_ this;·exact Md.mp (Ni _ (Ju _))
  ·simp only[Uk]at b;exact sf b
def za{c:Array (Option Nat)}(k:fD (a+1)=true/\dz (a+1) (a+1) 0=0)(l:b<=a)(s:x<2^64)(o:Vu<=a)(q:(c.getD Vu (some 0)).isNone=true):∃r,cF a c (Jo a) b x=some r:=by
 rcases h:cF a c (Jo a) b x with _|r
 · exfalso;rw[show Jo a=13+(a+2)by unfold Jo;exact IE (a+2) 13]at h;refine ak (sZ 13 (a+2) b x l (aJ s (by decide)) h) λ g n d=>?_;refine ak (sV k (b:=g) (x:=Vu) (dt n) (dt o)) λ m f e=>?_;rw[show a+2=m+(a+2-m)from(Jd (bn (gb f))).symm]at d;have z:=sY m (a+2-m) g d;rw[e]at z;have :=y' _ _ _ z (c5 bE (jb f));rw[q]at this;cases this
 ·exact⟨r,rfl⟩
set_option tactic.hygienic true in theorem s0{c:Nat}{d:Array (Option Nat)}:∀(e i p r:Nat),i<=c->cF c d e i p=some r->r<=c/\(d.getD r (some 0)).isNone=true
 |e+1,i,p,r,j,h=>by
   have h:(match(a1 (Ij c i+1-i)).find? λ k=>(d.getD (i+k) (some 0)).isNone with|some k=>some (i+k)|none=>cF c d e (R6 c i p).1 (R6 c i p).2)=some r:=h;rcases q:(a1 (Ij c i+1-i)).find? (λ k=>(d.getD (i+k) (some 0)).isNone)with _|k<;>rw[q]at h;rotate_left
   · obtain rfl:=ax h;have g:=S5 q;have f:=cI.mp (P4 q);refine⟨?_,g⟩;unfold Ij at f;split at f;·exact an (bX (ID (OC f (ms (a:=i) (b:=10)))) i) ‹_›
     ·exact an (bX (ID (OC f (ms (a:=i) (b:=1)))) i) j
   ·exact s0 e _ _ r (Md.mp (Ni _ (Ju _))) h
noncomputable def hK(a:Nat)(b:Array (Option Nat)):List (Nat×Nat):=(a1 (a+1)).filterMap λ j=>(b.getD j none).map (j,·)
theorem s1{a c:Type}{f g:a->Option c}:∀{l:List a},(∀y∈l,g y=f y)->l.filterMap g=l.filterMap f
 |[],_=>rfl|i::l,h=>by simp only[Je,Je,h i (.head _),s1 λ y b=>h y (.tail _ b)]
theorem s2{f g:Nat->Option (Nat×Nat)}{j:Nat}{x:Nat×Nat}(b:f j=none)(c:g j=some x)(h:∀i,i≠j->g i=f i):∀{l:List Nat},l.Nodup->j∈l->(l.filterMap g).Perm (x::l.filterMap f)
 |[],_,a=>(by cases a)|i::l,m,a=>by
   have d:=Jf.mp m;by_cases e:i=j
   · subst e;have :l.filterMap g=l.filterMap f:=s1 λ y n=>h y λ q=>d.1 (q▸n);rw[Je,c,Je,b,this]
   · have k:=s2 b c h d.2 ((aP.mp a).resolve_left λ q=>e q.symm);simp only[Je,Je,h i e];rcases f i with _|y;·exact k
     ·exact(RC y k).trans (RB _ _ _)
def s3(a:Array (Option Nat))(j:Nat)(b:j<a.size):((a.getD j (some 0)).isNone=true)↔a.getD j none=none:=by
 simp only[e0,e0,hq b];simp
structure iF(VL k:Nat)(VM:Array (Option Nat)):Prop where
 size:VM.size=VL+1
 perm:((hK VL VM).map (·.2)).Perm (a1 k)
def s4{c:Array (Option Nat)}(x:iF a b c):(hK a c).length=b:=by have :=x.perm.length_eq;simpa using this
theorem s5{f:Nat->Option (Nat×Nat)}:∀{l:List Nat},(∀j∈l,(f j).isSome=true)->(l.filterMap f).length=l.length
 |[],_=>rfl|i::l,h=>by
  refine ai (K1.mp (h i (.head _))) λ y b=>?_;simp only[Je,b];show(l.filterMap f).length+1=l.length+1;rw[s5 λ j a=>h j (.tail _ a)]
def zb{c:Array (Option Nat)}(x:iF a b c)(f:b<=a):∃j,j<=a/\(c.getD j (some 0)).isNone=true:=by
 apply IK;intro g;have all:∀j∈a1 (a+1),((c.getD j none).map (j,·)).isSome=true:=λ j e=>by
  have d:=cI.mp e;have :¬(c.getD j (some 0)).isNone=true:=λ q=>g ⟨j,dF d,q⟩;simp only[s3 c j (by rw[x.size];exact d)]at this;rcases h:c.getD j none with _|y;·exact absurd h this
  ·rfl
 have :=s5 all;simp only[show(a1 (a+1)).filterMap (λ j=>(c.getD j none).map (j,·))=hK a c from rfl,s4 x,Ly]at this;exact dR (dt f) (j7 this)
def s6(h:Int):Jj h<2^64:=by
 unfold Jj;have a:h%(2^64:Int)<2^64:=Jr _ (by decide);exact(O2 (JB _ (by decide))).mpr (Jr _ (by decide))
def zc{c:Array (Option Nat)}(o:fD (a+1)=true/\dz (a+1) (a+1) 0=0)(x:iF a b c)(p:b<=a)(h:Int):∃j,cF a c (Jo a) (Jj h%(a+1)) (Jj h)=some j/\iF a (b+1) (c.setIfInBounds j (some b)):=by
 refine aj λ q=>ak (zb x p) λ r l m=>?_;have d:Jj h%(a+1)<=a:=Md.mp (Ni _ (Ju _));refine ai (za (c:=c) o d (s6 h) l m) λ j f=>am (s0 _ _ _ _ d f) λ e n=>q ?_;have g:j<c.size:=by simp only[x.size];exact dt e
 refine⟨j,f,by simp[x.size],?_⟩;have P:(hK a (c.setIfInBounds j (some b))).Perm ((j,b)::hK a c):=by
  refine s2 (j:=j) (x:=(j,b)) (by rw[((s3 c j g).mp n)];rfl) ?_ (λ i d=>?_) Sz (cI.mpr (dt e));·rw[e0,Array.getElem?_setIfInBounds_self_of_lt g];rfl
  ·simp only[e0,e0,LL (Kb d)]
 refine(P.map _).trans ?_;simp only[uW,Nj];exact((RC b x.perm).trans (List.perm_append_comm (l₁:=[b]) (l₂:=a1 b)))
theorem s7{a:Nat}(f:fD (a+1)=true/\dz (a+1) (a+1) 0=0):∀(b:List Int)(c:Array (Option Nat))(k:Nat),iF a k c->k+b.length<=a+1->∃g,(b.foldl (init:=some (c,k)) λ i h=>do
     let(c,k)<-i let j<-cF a c (Jo a) (Jj h%(a+1)) (Jj h)jB (c.setIfInBounds j (some k),k+1))=some (g,k+b.length)/\iF a (k+b.length) g
 |[],c,k,x,_=>⟨c,rfl,x⟩|h::b,c,k,x,d=>by
   simp only[y3]at d;refine aj λ o=>ak (zc f x (by exact j4 dG (x' d)) h) λ j l n=>?_;refine ak (s7 f b _ _ n (by exact hD d)) λ m e y=>?_;refine o (bj m ?_ ?_)
   · simp only[List.foldl_cons,y3,show k+(b.length+1)=k+1+b.length by exact mf,<-e];congr 1;show(cF a c (Jo a) (Jj h%(a+1)) (Jj h)).bind _=_;refine l.symm▸?_;rfl
   ·simp only[y3,show k+(b.length+1)=k+1+b.length by exact mf];exact y
def zd(a:Nat):iF a 0 (SF (a+1) none):=by
 refine⟨by simp,?_⟩;have :hK a (SF (a+1) none)=[]:=by
  unfold hK;rw[List.filterMap_eq_nil_iff];intro j b;rw[e0,Array.getElem?_replicate,if_pos (cI.mp b)];rfl
 refine this.symm▸?_;exact .nil
def s8(g:fD (a+1)=true/\dz (a+1) (a+1) 0=0)(f i:Nat)(h k:Bool){b:Array Int}(c:b.size<=a):∃t d,KR a f i h k b=some (t,d)/\d.toList.Perm (a1 b.size)/\t.fits b.size=true:=by
 refine aj λ l=>?_;refine ak (s7 g b.toList _ 0 (zd a) (by simp;exact ix c)) λ j e x=>?_;refine l ?_;simp only[aX,Im]at x;have q:NZ a b=some j:=by
   unfold NZ;rw[<-Array.foldl_toList];rw[e];rfl
 unfold KR;refine q.symm▸(kN _ _ rfl ?_ ?_);·exact x.perm
 · unfold Ke JA;have :=s4 x;unfold hK at this;simp only[I',be,this,beq_self_eq_true,Qh,decide_eq_true_eq,MS,KY];exact c
noncomputable def dj(P:a3):cr:=.fresh 0 0 (!(P.followText "set-order"))
noncomputable def bO(P:a3)(n:Nat):cr×Nat:=match(dj P).roomFor n with
 |some a=>(match(dj P).relaid #[] a with|some r=>r.1|none=>dj P,1)|none=>(dj P,0)
noncomputable def iG(P:a3)(o:Obj):Array (Int×ab)×cr×Nat:=let R:=bO P (dy o.data).size;let a:=eA o.data;match R.1.road a with
 |.slotForSlot=>(dy o.data,{a with finger:=R.1.finger,led:=R.1.led&&a.led,moves:=R.1.moves,plain:=R.1.plain&&a.plain},R.2+1)|_=>match KR R.1.mask R.1.finger R.1.moves (R.1.led&&a.led) (R.1.plain&&a.plain) ((dy o.data).map (·.1))with
  |some r=>(r.2.filterMap ((dy o.data)[·]?),r.1,R.2+1)|none=>b2
noncomputable def g5(P:a3):Obj:=⟨.type "frozenset",none,.set #[] 0 (dj P),#[]⟩
noncomputable def bp(P:a3)(VM:Obj):Obj:=⟨.type "frozenset",none,.set (iG P VM).1 (iG P VM).2.2 (iG P VM).2.1,#[]⟩
def Met(n:Nat):Prop:=(n*5<21/\n<=7)\/(21<=n*5/\32<=n/\n<=63)
def kT(n k s:Nat):N6 n (k+1) s=if s<=n then N6 n k (s*2)else s:=rfl
def s9(b:32<=a)(c:a<=63):J9 (a*2)=128:=by
 unfold J9;rw[kT,if_pos (by exact j4 (e3 b (aE true)) bE),kT,if_pos (by exact j4 (e3 b (aE true)) bE),kT,if_pos (by exact r' b),kT,if_pos (by exact r1 (r' b) b),kT,if_neg (IS.mpr (bz (KQ 2 c) (by decide)))]
def mJ(P:a3)(h:Met a):(((dj P).roomFor a=none/\bO P a=(dj P,0)/\a<=7)\/∃f,(dj P).roomFor a=some f/\f=a*2/\(dj P).relaid #[] f=some ((bO P a).1,#[])/\(bO P a).2=1/\(bO P a).1.mask=127/\32<=a/\a<=63)/\(bO P a).1.place=#[]/\(bO P a).1.dummies=#[]:=by
 have e:∀m,(dj P).roomFor m=if m*5>=21 then some (m*2)else none:=λ m=>by
   unfold Q5 dj SetTable.fresh JA;simp
 refine aH h (λ k=>?_) λ l=>?_
 · refine am k λ d c=>?_;have :(dj P).roomFor a=none:=by rw[e,if_neg (by exact oE d)]
   have r:bO P a=(dj P,0):=by unfold bO;rw[this]
   exact b3 (.inl ⟨this,r,c⟩) (by rw[r];rfl) (by rw[r];rfl)
 · refine a4 l λ d c g=>?_;have q:(dj P).roomFor a=some (a*2):=by rw[e,if_pos (by exact d)]
   have o:J9 (a*2)=128:=s9 c g;have i:(dj P).relaid #[] (a*2)=some ({mask:=127,place:=#[],dummies:=#[],finger:=0,led:=!(P.followText "set-order"),moves:=1,plain:=true},#[]):=by
     unfold Rs;refine o.symm▸?_;generalize j:(!(P.followText "set-order"))=b;unfold dj;refine j.symm▸?_;cases b<;>lia
   have r:bO P a=({mask:=127,place:=#[],dummies:=#[],finger:=0,led:=!(P.followText "set-order"),moves:=1,plain:=true},1):=by unfold bO;rw[q];dsimp only;rw[i]
   refine b3 (.inr ⟨a*2,q,rfl,?_,by rw[r],by rw[r],c,g⟩) (by rw[r]) (by rw[r]);rw[r];exact i
def ze{t a:cr}(b:t.place=#[])(c:t.dummies=#[]):(t.road a=.slotForSlot/\t.mask=a.mask/\a.dummies=#[])\/t.road a=.clean:=by
 unfold R5 JA;rw[b,c];simp only[MS,KY,bne_self_eq_false,cT,if_false];split
 · rename_i q;rw[ii,beq_iff_eq,MA]at q;exact .inl ⟨rfl,q.1,q.2⟩
 ·exact .inr rfl
inductive zf(o:Obj)(R:cr×Nat)(a:Array (Int×ab))(b:Nat)(t:cr):Prop|slots(q:R.1.road (eA o.data)=.slotForSlot)(d:a=dy o.data)(e:b=R.2+1)(h:t={eA o.data with finger:=R.1.finger,led:=R.1.led&&(eA o.data).led,moves:=R.1.moves,plain:=R.1.plain&&(eA o.data).plain})|clean(q:R.1.road (eA o.data)=.clean)(c:Array Nat)(f:KR R.1.mask R.1.finger R.1.moves (R.1.led&&(eA o.data).led) (R.1.plain&&(eA o.data).plain) ((dy o.data).map (·.1))=some (t,c))(d:a=c.filterMap ((dy o.data)[·]?))(g:a.size=(dy o.data).size)(e:b=R.2+1)
inductive zg(d:eH)(w:ar)(o:Obj)(a:List Str):Prop|mk(h:bk d w (bp w.params o) a)(c:Array (Int×ab))(b:Nat)(t:cr)(e:(bp w.params o).data=.set c b t)(g:t.mask=(bO w.params a.length).1.mask)(f:t.dummies=#[])(R:cr×Nat)(i:R=bO w.params a.length)(j:zf o R c b t)
def kU(g:bk Vl c O G)(T:Met G.length):zg Vl c O G:=by
 refine aj λ C=>?_;obtain⟨VP,d,VT,a,ep,t,D,j,E,n,Q⟩:=g;refine a4 (mJ c.params T) λ J U N=>C ?_;have f:dy O.data=a:=by rw[D];rfl
 have h:eA O.data=t:=by rw[D];rfl
 refine aH (ze (a:=t) U N) (λ s=>?_) λ q=>?_
 · refine a4 s λ q VN VM=>?_;have v:iG c.params O=(a,{t with finger:=(bO c.params G.length).1.finger,led:=(bO c.params G.length).1.led&&t.led,moves:=(bO c.params G.length).1.moves,plain:=(bO c.params G.length).1.plain&&t.plain},(bO c.params G.length).2+1):=by unfold iG;rw[f,h,n];simp only[q]
   have m:(bp c.params O).data=.set a ((bO c.params G.length).2+1) {t with finger:=(bO c.params G.length).1.finger,led:=(bO c.params G.length).1.led&&t.led,moves:=(bO c.params G.length).1.moves,plain:=(bO c.params G.length).1.plain&&t.plain}:=by unfold bp;rw[v]
   exact⟨⟨rfl,rfl,rfl,a,_,_,m,j,E,n,by subst t;exact Q⟩,a,_,_,m,VN.symm,VM,_,rfl,.slots (h▸q) f.symm rfl (by rw[h])⟩
 · have M:fD ((bO c.params G.length).1.mask+1)=true/\dz ((bO c.params G.length).1.mask+1) ((bO c.params G.length).1.mask+1) 0=0:=by
     refine aH J (λ s=>?_) λ A=>?_
     · refine a4 s λ _ r _=>?_;refine r.symm▸?_;exact sU
     · obtain⟨_,_,_,_,_,r,_⟩:=A;refine r.symm▸?_;exact y9
   have V:(a.map (·.1)).size<=(bO c.params G.length).1.mask:=by
     simp only[Lw,n];refine aH J (λ s=>?_) λ A=>?_
     · refine a4 s λ _ r L=>?_;refine r.symm▸?_;exact L
     · refine sI A λ _ _ _ _ _ r L VO=>?_;refine r.symm▸?_;exact a2 VO (aE true)
   refine aj λ C=>bS (s8 M (bO c.params G.length).1.finger (bO c.params G.length).1.moves ((bO c.params G.length).1.led&&t.led) ((bO c.params G.length).1.plain&&t.plain) V) λ u p b Y VL=>C ?_;have v:iG c.params O=(p.filterMap (a[·]?),u,(bO c.params G.length).2+1):=by unfold iG;rw[f,h,n];simp only[q,b]
   have H:u.mask=(bO c.params G.length).1.mask/\u.dummies=#[]:=by
     unfold KR at b;refine ey (x:=NZ (bO c.params G.length).1.mask (a.map (·.1))) (λ z=>?_) λ VS z=>?_;·rw[z]at b;exact aQ b
     ·rw[z]at b;cases b;exact⟨rfl,rfl⟩
   have P:(p.filterMap (a[·]?)).toList.Perm a.toList:=by
     rw[Qs];refine(Y.filterMap _).trans ?_;rw[Lw];have :((a1 a.size).filterMap λ i=>a[i]?)=a.toList:=by
       have :∀(l:List (Int×ab)),(a1 l.length).filterMap (λ i=>l[i]?)=l:=by
         intro l;induction l with
         |nil=>rfl|cons x l VR=>
           rw[y3,QA,Je];simp only[List.getElem?_cons_zero,List.filterMap_map];congr 1
       have z:=this a.toList;rw[aX]at z;simpa using z
     rw[this]
   have y:(p.filterMap (a[·]?)).size=a.size:=by rw[<-aX,P.length_eq,aX]
   have m:(bp c.params O).data=.set (p.filterMap (a[·]?)) ((bO c.params G.length).2+1) u:=by unfold bp;rw[v]
   exact⟨⟨rfl,rfl,rfl,_,_,_,m,j.perm P,λ k=>(E k).trans ⟨λ B=>(by refine ak B λ e j q=>?_;exact⟨e,P.mem_iff.mpr j,q⟩),λ B=>by refine ak B λ e j q=>?_;exact⟨e,P.mem_iff.mp j,q⟩⟩,y.trans n,by rw[y];simpa using VL⟩,_,_,_,m,H.1,H.2,_,rfl,.clean (h▸q) p (by rw[f,h];exact b) (by rw[f]) (by rw[f];exact y) rfl⟩
def zh(h:a7)(a:ae):h.update a id=h:=by
 obtain⟨b,l⟩:=h;show MC (b.modify a id) l=MC b l;have :b.modify a id=b:=by
  apply Lb;intro i;rw[IU];split<;>simp
 rw[this]
def zi(h:Vh (.ref q.heap.objs.size) {q with heap:=q.heap.push (g5 c.params)}):aA (au Vl c) o (newSet (.type "frozenset")) Vh y q:=by
 unfold newSet NM;refine al (al (IR (ah ?_)));dsimp only;unfold UV;exact al (P7 (ah h))
def zj{M:Unit->aa->Prop}{VW:Sem Unit}(ne:h≠Q)(m:q.heap.get? h=some (g5 c.params))(VZ:q.heap.get? Q=some O)(g:bk Vl c O G)(n:Met G.length)(VY:G≠[])(VX:M () {q with heap:=q.heap.update h (λ _=>bp c.params O)}):aA (au Vl c) o (SH h Q VW) M y q:=by
 refine aj λ VM=>?_;obtain⟨Wj,Wi,Wh,Wc,cd,Wf,We,R,N,V0⟩:=kU g n;refine a4 (mJ c.params n) λ V2 VR VQ=>?_;obtain⟨Wd,d,Wm,C,ep,t,T,Wk,Wl,D,V1⟩:=g;refine VM ?_;have z:dy O.data=C:=by rw[T];rfl
 have B:eA O.data=t:=by rw[T];rfl
 have VS:0<C.size:=by simp only[D];exact N2.mpr VY
 unfold SH;refine bT (by simpa using ne) ?_;refine af (gE VZ T V1 ?_);refine bT (by rw[MA];intro i;rw[i]at VS;exact absurd VS (by simp)) ?_;refine af (aG (Q:=λ(_:Unit)(L:aa)=>∃(p:cr)(l:Nat),(p,l)=R/\L={q with heap:=q.heap.update h (λ _=>⟨.type "frozenset",none,.set #[] l p,#[]⟩)}) ?first (λ _ L V3=>?rest) (λ _ _ x=>x));case rest=>
   refine aj λ VM=>aW V3 λ p l H V=>VM ?_;have u:R.1=p:=by rw[<-H]
   have VN:R.2=l:=by rw[<-H]
   simp only[<-N,u]at VR VQ;have VT:L.heap.get? h=some ⟨.type "frozenset",none,.set #[] l p,#[]⟩:=by rw[V];exact cQ (λ _=>_) m rfl
   refine af (gE VT rfl (by unfold Ke JA;rw[VR,VQ];simp) ?_);dsimp only;have store:∀(e:Array (Int×ab))(j:cr),(bp c.params O)=⟨.type "frozenset",none,.set e (l+1) j,#[]⟩->e.size=C.size->aA (au Vl c) o (UP h e j) M y L:=λ e j i U=>by
     refine J5 VT rfl ?_ (by simp only[U,D];rcases n with n|n<;>exact M6 (by unfold K9;first|exact c6 n.right (aE true)|exact c6 n.right.right (aE true)));refine V.symm▸?_;rw[sQ];have :(λ VU:Obj=>JP e j ((λ _=>(⟨.type "frozenset",none,.set #[] l p,#[]⟩:Obj)) VU))=λ _=>bp c.params O:=by
       funext VU;rw[i];rfl
     rw[this];exact VX
   have co:∀e k j,(bp c.params O).data=.set e k j->bp c.params O=⟨.type "frozenset",none,.set e k j,#[]⟩:=λ e k j i=>by
     show(⟨.type "frozenset",none,(bp c.params O).data,#[]⟩:Obj)=_;rw[i]
   rcases V0 with⟨i,v,Y,V'⟩|⟨i,V4,J,v,VL,Y⟩
   · rw[u,B]at i;rw[i];refine store _ _ ?_ rfl;rw[co _ _ _ cd,v,z,Y,V',VN,u,B]
   · rw[u,B]at i;rw[i];rw[u,z,B]at J;rw[J];rw[v,z]at VL;rw[z]at v;refine af (cx (a:=(V4.filterMap (C[·]?),Wc)) (if_neg (by rw[VL];simp)) ?_);refine store _ _ ?_ VL;rw[co _ _ _ cd,v,Y,VN]
 unfold setRoomFor;refine aH V2 (λ V7=>?_) λ V8=>?_
 · refine a4 V7 λ i r _=>af (gE m rfl rfl ?_);rw[D,i];refine ah (dw (dj c.params) (0) (by rw[N,r]) ?_);have :q.heap.update h (λ _=>(⟨.type "frozenset",none,.set #[] 0 (dj c.params),#[]⟩:Obj))=q.heap:=by rw[mG (f:=λ _=>(⟨.type "frozenset",none,.set #[] 0 (dj c.params),#[]⟩:Obj)) (g:=id) m rfl,zh]
   rw[this]
 · refine sI V8 λ VV i Wa J H V V5 V6=>af (gE m rfl rfl ?_);rw[D,i];unfold setRelay;refine af (gE m rfl rfl ?_);have U:¬J9 VV>a9:=by
     rw[Wa];have Wb:J9 (G.length*2)=128:=s9 V5 V6;rw[Wb];decide
   refine bT U ?_;have V9:(dj c.params).relaid (UM (λ x:Int×ab=>x.fst) #[]) VV=some ((bO c.params G.length).1,#[]):=by rw[show UM (λ x:Int×ab=>x.fst) #[]=#[]from by simp];exact J
   rw[V9];refine af (cx (a:=((#[]:Array (Int×ab)),(bO c.params G.length).1)) rfl (J5 m rfl ?_ (by decide)));refine dw ((bO c.params G.length).1) (1) (by rw[N,<-H]) ?_;congr 1;exact mG m rfl
def s':Km (.type "frozenset") (.type "set")=jB ap:=by rw[kF];lia
def zk:Km (.type "frozenset") (.type "frozenset")=jB true:=by rw[kF];lia
def bk.type(g:bk Vl c O G)(b:q.heap.get? h=some O):q.TypeIs (.ref h) "frozenset":=⟨O,b,g.cls⟩
def iH{Q:Bool->aa->Prop}(a:q.TypeIs U "frozenset")(h:Q true q):aA (au Vl c) o (Mn U) Q y q:=by
 unfold Mn;exact al (JR a s' (JR a zk h))
def ta(e:q.heap.get? h=some O)(g:bk Vl c O G)(m:Met G.length)(k:G≠[])(j:Vh (.ref q.heap.objs.size) {q with heap:=q.heap.push (bp c.params O)}):aA (au Vl c) o (copyOf h) Vh y q:=by
 unfold copyOf baseOf;refine al (al (JR (g.type e) s' (ah (al (zi (al (cx (a:=q.heap.objs.size) rfl ?_)))))));refine al (zj (O:=O) (IC (az e)) (aF _ rfl) (ao _ e) g m k ?_);refine ah ?_;have :(q.heap.push (g5 c.params)).update q.heap.objs.size (λ _=>bp c.params O)=q.heap.push (bp c.params O):=by
  obtain⟨⟨d,l⟩,_,_,_,_⟩:=q;show MC ((d.push _).modify d.size _) l=MC (d.push _) l;have :(d.push (g5 c.params)).modify d.size (λ _=>bp c.params O)=d.push (bp c.params O):=by
   apply Lb;intro i;simp only[IU,KZ,KZ];by_cases f:d.size=i;·subst f;simp
   ·simp[f,Kb f]
  rw[this]
 exact this.symm▸j
def mK(g:bk Vl c O [j]):∃f t h,O.data=.set #[((strKind Vl c).hash j,.str j h)] f t/\t.fits 1=true:=by
 obtain⟨E,d,G,q,f,t,s,u,A,n,v⟩:=g;obtain⟨l⟩:=q;rcases l with _|⟨e,r⟩;·cases n
 ·cases r with
  |cons=>simp at n|nil=>
   refine aj λ D=>?_;refine am (u e (.head _)) λ C _=>?_;obtain⟨k,z,i⟩:=C;refine ak ((A j).mp (.head _)) λ y B m=>?_;obtain rfl:y=e:=by simpa using B
   refine ai (Value.isStrOf_shape m) λ h p=>?_;have :k=j:=(strKind Vl c).inj _ _ _ z m;obtain rfl:=this.symm;refine D (mF f t h ?_ v);simp only[s];obtain⟨a,b⟩:=y;dsimp only at p i;simp only[p,i]
def zl(f:Nat->Nat)(e:Vd):RG f #[e]=#[e]:=by
 have h:RG f #[e]=([e][f 0%1]?).elim #[] λ x=>Py f 0 1 ([e].eraseIdx (f 0%1)) (#[].push x):=by lia
 rw[h,Nat.mod_one];rfl
def zm{e:Int×ab}{Q:Array (Int×ab)->aa->Prop}(f:q.heap.get? h=some O)(g:O.data=.set #[e] b VA)(i:VA.fits 1=true)(d:Q #[e] q):aA (au Vl c) o (setWalk h) Q y q:=by
 unfold setWalk NM;refine af (gE f g i (af (af (IR (ah ?_)))));split
 · refine af (IR (ah ?_));rw[zl];exact d
 · refine bT (by show¬(!VA.plain&&bF ((#[e]:Array (Int×ab)).size>1))=true;simp) ?_;refine af (cx (a:=()) (if_neg (by simp)) ?_);exact ah d
def tb{f:Option ae}{e:Int×ab}{d:Array (Int×ab)->aa->Prop}(g:q.heap.get? Q=some O)(i:O.data=.set #[e] a VA)(j:VA.fits 1=true)(k:d #[e] q):aA (au Vl c) o (setWalkUnseen Q [h] f) d y q:=by
 unfold setWalkUnseen NM;refine al (gE g i j (al (al (IR (ah (eP (by simp) ?_))))));exact zm g i j k
def tc{x:Vd}{f:Vd->PUnit->Sem (ForInStep PUnit)}{Q:PUnit->aa->Prop}(h:aA (au Vl c) o (f x ⟨⟩) (λ r a=>r=.yield ⟨⟩/\Q ⟨⟩ a) y q):aA (au Vl c) o (QZ #[x] MY f) Q y q:=by
 rw[<-Array.forIn_toList];rw[Kw];refine al (aG h (λ r a d=>?_) λ _ _ e=>e);obtain⟨rfl,b⟩:=d;exact ah b
def zn{u g:Obj}{D:Sem Unit}{B:Unit->aa->Prop}(ne:h≠Q)(m:q.heap.get? h=some u)(n:q.heap.get? Q=some g)(J:bk Vl c u G)(N:bk Vl c g [j])(VP:j∉G)(T:G≠[])(V:G.length<64)(VN:∀l i t,u.data=.set l i t->t.roomFor 1=none)(U:∀(v:aa)(C:Unit->aa->Prop),v.heap.get? Q=some g->C () v->aA (au Vl c) o D C y v)(O:∀e i t,g.data=.set #[((strKind Vl c).hash j,.str j e)] i t->B () {q with heap:=q.heap.update h (cV c.params j (.str j e))}):aA (au Vl c) o (SH h Q D) B y q:=by
 refine aj λ VQ=>eb (mK N) λ H z e k r=>?_;have M:=J;obtain⟨VR,d,VU,l,i,t,p,VS,VT,VO,f⟩:=J;refine VQ ?_;have Y:0<l.size:=by simp only[VO];exact N2.mpr T
 unfold SH;refine bT (by simpa using ne) ?_;refine af (gE n k r ?_);dsimp only;refine bT (by simp) ?_;unfold setRoomFor;refine af (af (gE m p f ?_));have VL:t.roomFor (#[((strKind Vl c).hash j,I4 j e)]:Array (Int×ab)).size=none:=VN _ _ _ p;rw[VL];refine ah (af (gE m p f ?_));have VM:t.road z=.oneByOne:=by
  unfold R5;rw[if_pos];unfold Ke at f;rw[ii,beq_iff_eq]at f;unfold JA;rw[bne_iff_ne,ne_eq];exact IC (aJ (f.1.symm▸Y) (dx _ _))
 refine VM.symm▸(af (tb n k r (af (tc ?_))));refine af (aK (sS M m VP (by unfold K9;exact bA (sa V) bE) ?_));have L:(q.heap.update h (cV c.params j (.str j e))).get? Q=some g:=(N0 _ _ _ _ (Kb ne)).trans n;refine af (U _ _ L (af (gE (es:=#[((strKind Vl c).hash j,.str j e)]) (ep:=H) (t:=z) L k r (bT (by simp) ?_))));exact ah ⟨rfl,(ah (O e H z k))⟩
noncomputable def pc(o:Obj):Obj:=⟨.type "frozenset",none,.set (dy o.data) (kR o.data) (eA o.data),#[]⟩
def bk.zo(g:bk Vl c O G):pc O=O:=by
 obtain⟨a,d,e,h,f,t,b,_⟩:=g;obtain⟨i,j,k,l⟩:=O;dsimp only at a d e b;subst a d e b;rfl
noncomputable def e8(P:a3)(VM a:Obj):Obj:=pc (match((dy a.data)[0]?:Option (Int×ab))with
 |some (_,.str x b)=>cV P x (.str x b) (bp P VM)|_=>bp P VM)
def td{b d:Obj}(g:bk Vl c b G)(k:Met G.length)(l:j∉G)(i:d.data=.set #[(C,.str j Vv)] a VA):e8 c.params b d=cV c.params j (.str j Vv) (bp c.params b)/\bk Vl c (e8 c.params b d) (G++[j]):=by
 have e:dy d.data=#[(C,.str j Vv)]:=by rw[i];rfl
 have f:=mH (Vv:=Vv) (kU g k).1 l;have :e8 c.params b d=cV c.params j (.str j Vv) (bp c.params b):=by
  unfold e8;refine e.symm▸?_;exact f.zo
 exact⟨this,this▸f⟩
def te{f:Obj->Obj}:(q.heap.push O).update q.heap.objs.size f=q.heap.push (f O):=by
 obtain⟨⟨a,l⟩,_,_,_,_⟩:=q;show MC ((a.push _).modify a.size _) l=MC (a.push _) l;have :(a.push O).modify a.size f=a.push (f O):=by
  apply Lb;intro i;simp only[IU,KZ,KZ];by_cases b:a.size=i;·subst b;simp
  ·simp[b,Kb b]
 rw[this]
def zp{d i:Obj}{J:Fin->aa->Prop}(ne:h≠Q)(O:q.heap.get? h=some d)(n:q.heap.get? Q=some i)(g:bk Vl c d G)(k:bk Vl c i [j])(f:Met G.length)(N:G≠[])(VQ:G.length<=3\/32<=G.length)(V:j∉G)(VM:J (.done (.ret (.ref q.heap.objs.size))) {q with heap:=q.heap.push (e8 c.params d i)}):aA (au Vl c) o (Builtin.«frozenset.__or__» ⟨[.ref h,.ref Q],[]⟩) J y q:=by
 have L:=kU g f;have U:G.length<64:=by rcases f with⟨b,_⟩|⟨_,_,b⟩<;>first|exact dt b|exact sF b
 unfold Builtin.«frozenset.__or__»;refine al (cx (a:=(hk h,hk Q)) rfl (al (al (iH (g.type O) (iH (k.type n) (al (cx (a:=h) rfl (al ?_))))))));show aA _ _ (do
   let C<-copyOf h if hk Q !=.ref h then Mj [C] (OY "frozenset.__or__" (<-Lu C) (.ref Q))
   return C) _ _ _;refine al (ta O g f N ?_);refine eP (by simp;exact λ b=>ne b.symm) ?_;refine al (cx (a:=q.heap.objs.size) rfl (al (aK ?_)));unfold OY;have p:(q.heap.push (bp c.params d)).get? Q=some i:=ao _ n;refine al (iH (q:={q with heap:=q.heap.push (bp c.params d)}) ⟨i,p,k.1⟩ (eP rfl (al (cx (a:=Q) rfl ?_))));unfold merge;refine aj λ H=>eb (mK k) λ VL VV V4 m T=>H (al (L0 (s:={q with heap:=q.heap.push (bp c.params d)}) p m T ?_));refine zn (q:={q with heap:=q.heap.push (bp c.params d)}) (IC (az n)) (aF _ rfl) p L.1 k V N U (λ V0 ep t b=>?_) (λ V3 VX VN VO=>?_) (λ V5 Y VU b=>?_)
 · refine aj λ H=>?_;obtain⟨_,V1,Y,VU,VR,VT,VS,_⟩:=L;refine a4 (Sw (b.symm.trans VR)) λ u v B=>?_;obtain rfl:=u;obtain rfl:=v;obtain rfl:=B;obtain⟨_,_,_,V2,VL,VV,z,_,_,VW,D⟩:=(kU g f).1;refine H ?_;refine a4 (Sw (b.symm.trans z)) λ u v B=>?_;obtain rfl:=u;obtain rfl:=v;obtain rfl:=B;unfold Ke at D;rw[ii,beq_iff_eq]at D;unfold Q5 JA;rw[VS,if_neg];simp only[MS,KY];rw[D.1,VW,VT];refine a4 (mJ c.params f) λ VP _ _=>?_;rcases VP with⟨_,e,M⟩|⟨_,_,_,_,_,e,VY,M⟩
   · rw[e];show¬(G.length+1)*5>=7*3;exact IS.mpr (bz (KQ 5 (H' (VQ.elim id λ j=>absurd (an j M) (by decide)))) (by decide))
   ·refine e.symm▸?_;exact IS.mpr (bz (KQ 5 U) (by decide))
 · unfold unchanged;refine al (L0 VN m T (bT (by simp) ?_));exact ah VO
 · simp only[m]at b;cases b;refine ah (ah ?_);have e:=td g f V m;simp only[te,<-e.1];exact VM
noncomputable def pd(P:a3)(VM a:Obj):Obj:=match((dy a.data)[0]?:Option (Int×ab))with
 |some (_,.str x _)=>(match(dy (bp P VM).data).toList.findIdx? (λ e=>PX x e.2)with
  |some i=>⟨.type "frozenset",none,.set (JC (dy (bp P VM).data) i) (kR (bp P VM).data+1) ((eA (bp P VM).data).drop i),#[]⟩|none=>bp P VM)|_=>bp P VM
noncomputable def eQ(P:a3)(VM VN:Obj):Obj:=pc (pd P VM VN)
def hL(VL:eH)(VM:ar)(o:Obj)(c:List Str):Prop:=∃a b t,o=⟨.type "frozenset",none,.set a b t,#[]⟩/\OK (strKind VL VM) a.toList/\(∀k,(∃e∈a.toList,(strKind VL VM).is k e.2=true)->k∈c)/\a.size<4096/\t.fits a.size=true
def pe(a:Array Vd)(i:Nat):(JC a i).toList=a.toList.eraseIdx i:=by
 unfold JC;simp only[Array.toList_append,Q0,Q0,List.eraseIdx_eq_take_drop_succ];simp only[List.extract_eq_take_drop,Lz,KU];congr 1;exact lu (by simp)
def tf(a:Array Vd)(i:Nat)(h:i<a.size):(JC a i).size=a.size-1:=by rw[<-aX,pe,PR (by simpa using h),aX]
def zq{b g:Obj}{VR:Fin->aa->Prop}(ne:h≠Q)(V:q.heap.get? h=some b)(u:q.heap.get? Q=some g)(L:bk Vl c b G)(M:bk Vl c g [j])(U:Met G.length)(O:32<=G.length)(V':j∈G)(V2:hL Vl c (eQ c.params b g) G->VR (.done (.ret (.ref q.heap.objs.size))) {q with heap:=q.heap.push (eQ c.params b g)}):aA (au Vl c) o (Builtin.«frozenset.__sub__» ⟨[.ref h,.ref Q],[]⟩) VR y q:=by
 refine aj λ Wf=>?_;obtain⟨V1,f,J,d,p,VY,VS,_,_,_⟩:=kU L U;obtain⟨_,_,_,Wj,Wh,Wp,z,VP,VX,VQ,n⟩:=V1;rw[p]at z;cases z;refine eb (mK M) λ Wm Wn VW v C=>?_;obtain⟨_,_,_,Wi,Wg,Wo,V3,Wk,Wl,V9,V5⟩:=id L;refine Wf ?_;have VN:G.length<64:=by rcases U with⟨H,_⟩|⟨_,_,H⟩<;>first|exact dt H|exact sF H
 have co:bp c.params b=⟨.type "frozenset",none,.set f J d,#[]⟩:=by
  show(⟨.type "frozenset",none,(bp c.params b).data,#[]⟩:Obj)=_;rw[p]
 unfold Builtin.«frozenset.__sub__»;refine af (cx (a:=(hk h,hk Q)) rfl (af (af (iH (L.type V) (iH (M.type u) (af (cx (a:=h) rfl (af ?_))))))));unfold difference;refine af (iH (M.type u) (bT (by simp) ?_));refine af (cx (a:=Q) rfl (bT (by simp) ?_));refine eP rfl ?_;unfold LV;refine af (af (JL u v C (ah (af (af (JL V V3 V5 (ah ?_)))))));refine eP (by rw[V9];exact aJ (by decide:1<32/4) (Nat.div_le_div_right O)) ?_;refine af (Jw (af (ta V L U (by rintro rfl;simp at O) (af (cx (a:=q.heap.objs.size) rfl ?_)))));have N:(q.heap.push (bp c.params b)).get? Q=some g:=ao _ u;have D:(q.heap.push (bp c.params b)).get? q.heap.objs.size=some (bp c.params b):=aF _ rfl;refine af (aK ?_);unfold differenceUpdate;refine bT (by simp;exact λ H=>(IC (az u)) H.symm) ?_;refine af (iH (q:={q with heap:=q.heap.push (bp c.params b)}) ⟨g,N,M.cls⟩ (eP rfl (af (cx (a:=Q) rfl ?_))));unfold LV;refine af (af (JL (s:={q with heap:=q.heap.push (bp c.params b)}) N v C (ah (af (af (JL (s:={q with heap:=q.heap.push (bp c.params b)}) D p n (ah ?_)))))));refine bT (by show¬1/8>f.size;simp) ?_;refine af (L0 (s:={q with heap:=q.heap.push (bp c.params b)}) N v C (af (aK (af (tb (q:={q with heap:=q.heap.push (bp c.params b)}) N v C (af (tc ?_)))))));dsimp only;refine af (aK ?_);unfold setDiscardHashed setFind setFindIn;have Y:f.size<K9:=by rw[VQ];unfold K9;exact me VN (aE true)
 refine af (af (gE (s:={q with heap:=q.heap.push (bp c.params b)}) D p n ?_));dsimp only;rw[T8 rfl Y VP];simp only[↓reduceIte];refine af (Jw (af (PS (s:={q with heap:=q.heap.push (bp c.params b)}) (iE (Vl:=Vl) (c:=c) j VW) D p n VP (ak ((VX j).mp V') λ V0 V4 V7=>?_))));cases VL:K8 (λ e=>(strKind Vl c).is j e.2) f.toList with
 |none=>
  have :=JX.mp VL V0 V4;rw[V7]at this;cases this|some i=>
  refine ak (List.findIdx?_eq_some_iff_getElem.mp VL) λ VM _ _=>?_;simp only[aX]at VM;simp only[Im];refine ah (af (gE (s:={q with heap:=q.heap.push (bp c.params b)}) D p n ?_));have VU:pd c.params b g=⟨.type "frozenset",none,.set (JC f i) (J+1) (d.drop i),#[]⟩:=by
   unfold pd;have Wa:dy g.data=#[((strKind Vl c).hash j,.str j VW)]:=by rw[v];rfl
   have Wb:dy (bp c.params b).data=f:=by rw[p];rfl
   have Wc:kR (bp c.params b).data=J:=by rw[p];rfl
   have Wd:eA (bp c.params b).data=d:=by rw[p];rfl
   rw[Wa,Wb,Wc,Wd];have :K8 (λ e=>PX j e.2) f.toList=some i:=VL;show(match K8 (λ e=>PX j e.2) f.toList with|some i=>_|none=>_)=_;rw[this]
  have t:eQ c.params b g=⟨.type "frozenset",none,.set (JC f i) (J+1) (d.drop i),#[]⟩:=by unfold eQ;rw[VU];rfl
  have VO:=tf f i VM;refine af (J5 (s:={q with heap:=q.heap.push (bp c.params b)}) D p ?_ (by rw[VO];exact M6 (c5 ji Y)));have We:(q.heap.push (bp c.params b)).update q.heap.objs.size (JP (JC f i) (d.drop i))=q.heap.push (eQ c.params b g):=by rw[te,co,t];rfl
  rw[We];refine af (SG (ah ?_));have T:(d.drop i).fits (JC f i).size=true/\(d.drop i).dummies.size=1/\(d.drop i).mask=127:=by
   have Wq:=n;unfold Ke at n;simp only[ii,beq_iff_eq,decide_eq_true_eq]at n;have VV:i<d.place.size:=by rw[n.1];exact VM
   have m:d.mask=127:=by
    rw[VY];refine a4 (mJ c.params U) λ V8 _ _=>?_;rcases V8 with⟨_,e,t⟩|⟨_,_,_,_,_,e,VU,t⟩;·exact yo t O (aE true)
    ·exact e
   unfold SetTable.drop;rw[hq VV];dsimp only;have VT:(Kn d.dummies (uX d.dummies d.place[i]) d.place[i]).size=1:=by rw[VS];unfold Kn;simp
   refine b3 ?_ VT m;unfold Ke JA;rw[tf _ _ VV,VO,VT,n.1];simp only[beq_self_eq_true,Qh,decide_eq_true_eq];have :=n.2;unfold JA at this;rw[VS,n.1]at this;simp only[MS,KY]at this;exact by rw[m,VQ,Ll (an (by decide) O)];exact an (bn VN) (by decide)
  unfold unchanged;refine af (af (L0 (s:={q with heap:=q.heap.push (eQ c.params b g)}) (ao _ u) v C (bT (by simp) ?_)));refine ah (ah ⟨rfl,?_⟩);unfold setTidy;refine ah (af (gE (s:={q with heap:=q.heap.push (eQ c.params b g)}) (aF _ rfl) (by rw[t]) T.1 ?_));refine bT (by unfold SetTable.tooManyDummies;rw[T.2.1,T.2.2];decide) ?_;refine ah (ah (ah ?_));refine V2 ⟨_,_,_,t,λ e B=>?_,λ k⟨e,B,V6⟩=>?_,by rw[VO];unfold K9 at Y;exact bz (Nh _ _) (by rw[VQ];exact LF VN (by decide)),T.1⟩;·rw[pe]at B;exact VP e (Qe B)
  ·rw[pe]at B;exact(VX k).mpr ⟨e,Qe B,V6⟩
noncomputable def kV(it:ab):Sem Fin:=(KN it).bind λ v=>match v with
 |some x=>.pure (.done (.ret x))|none=>.pure (.done .brk)
noncomputable abbrev hM:=fl×List (Option Obj×Obj)×List Str×Obj
noncomputable def fF(d:Nx->Sem Fin)(e:eH)(w:ar)(a:ae)(it:ab)(g:Ctx)(VN:Nat->Pos):Nat->Nat->List Str->Obj->fl->List (Option Obj×Obj)->Option (fl×List (Option Obj×Obj)×List Str×Obj)
 |0,_,_,_,_,_=>none|n+1,VM,c,o,s,seen=>match kQ d e w (λ _ _ _=>none) 2000 g (VN VM) s [] (kV it)with
  |some (.ret (.ok .brk),b,[])=>some (b,(b.tree.get a,o)::seen,c,o)|some (.ret (.ok (.ret (.str x f))),b,[])=>match IH a b.n&&!c.contains x with
   |true=>fF d e w a it g VN n (VM+1) (x::c) (cV w.params x (.str x f) o) ⟨b.tree.set a (cV w.params x (.str x f)),b.n,b.life,b.gens,b.drawn,b.toks+1,b.os⟩ ((b.tree.get a,o)::seen)|ap=>none
  |_=>none
noncomputable def kW(w:ar)(a:ae)(c:List Str)(o:Obj)(d:List (Option Obj×Obj))(f:List Str->Obj->fl->List (Option Obj×Obj)->Option hM):Option e7->Option hM
 |some (.ret (.ok .brk),b,[])=>some (b,(b.tree.get a,o)::d,c,o)|some (.ret (.ok (.ret (.str x e))),b,[])=>match IH a b.n&&!c.contains x with
  |true=>f (x::c) (cV w.params x (.str x e) o) ⟨b.tree.set a (cV w.params x (.str x e)),b.n,b.life,b.gens,b.drawn,b.toks+1,b.os⟩ ((b.tree.get a,o)::d)|ap=>none
 |_=>none
def jp{b:Nx->Sem Fin}{d:Ctx}{q:Nat->Pos}(n j:Nat)(e:List Str)(o:Obj)(s:fl)(f:List (Option Obj×Obj)):fF b Vl c h U d q (n+1) j e o s f=kW c h e o f (fF b Vl c h U d q n (j+1)) (kQ b Vl c (λ _ _ _=>none) 2000 d (q j) s [] (kV U)):=rfl
def tg{d:List (Option Obj×Obj)}{f:List Str->Obj->fl->List (Option Obj×Obj)->Option hM}{b:fl}(e:h<b.n)(g:j∉G):kW c h G O d f (some (.ret (.ok (.ret (.str j Vv))),b,[]))=f (j::G) (cV c.params j (.str j Vv) O) ⟨b.tree.set h (cV c.params j (.str j Vv)),b.n,b.life,b.gens,b.drawn,b.toks+1,b.os⟩ ((b.tree.get h,O)::d):=by
 have i:(IH h b.n&&!G.contains j)=true:=by
  rw[show IH h b.n=true from NA e];rcases q:G.contains j with _|_;·rfl
  ·exact absurd (QU.mp q) g
 show(match IH h b.n&&!G.contains j with|true=>_|ap=>_)=_;rw[i]
def zr(x:Option e7):(∃b,x=some (.ret (.ok .brk),b,[]))\/(∃y c b,x=some (.ret (.ok (.ret (.str y c))),b,[]))\/∀w a d o seen f,kW w a d o seen f x=none:=by
 rcases x with _|x;·exact .inr (.inr λ _ _ _ _ _ _=>rfl)
 · obtain⟨e,b,l⟩:=x;cases e with
   |ret v=>cases v with
     |error=>exact .inr (.inr λ _ _ _ _ _ _=>rfl)|ok v=>cases l with
       |cons=>exact .inr (.inr λ _ _ _ _ _ _=>by cases v with
         |ret v=>cases v<;>rfl|_=>rfl)|nil=>cases v with
         |brk=>exact .inl ⟨_,rfl⟩|ret v=>cases v with
           |str y c=>exact .inr (.inl ⟨_,_,_,rfl⟩)|_=>exact .inr (.inr λ _ _ _ _ _ _=>rfl)
         |_=>exact .inr (.inr λ _ _ _ _ _ _=>rfl)
   |_=>exact .inr (.inr λ _ _ _ _ _ _=>rfl)
def pf{j:List (Option Obj×Obj)}{f:List Str->Obj->fl->List (Option Obj×Obj)->Option hM}{x:Option e7}{r:hM}(i:kW c h G O j f x=some r):∃(g:Option ab)(b:fl),x=some (.ret (.ok (g.elim .brk .ret)),b,[])/\(g=none/\r=(b,(b.tree.get h,O)::j,G,O)\/∃y d,g=some (.str y d)/\h<b.n/\y∉G/\f (y::G) (cV c.params y (.str y d) O) ⟨b.tree.set h (cV c.params y (.str y d)),b.n,b.life,b.gens,b.drawn,b.toks+1,b.os⟩ ((b.tree.get h,O)::j)=some r):=by
 refine ez (zr x) (λ m=>?_) (λ n=>?_) λ q=>?_
 · refine ai m ?_;rintro b rfl;obtain rfl:=ax i;exact dw none b rfl (.inl ⟨rfl,rfl⟩)
 · refine iC n ?_;rintro y d b rfl;rcases l:IH h b.n&&!G.contains y with _|_
   · have :kW c h G O j f (some (.ret (.ok (.ret (.str y d))),b,[]))=none:=by
       show(match IH h b.n&&!G.contains y with|true=>_|ap=>_)=_;rw[l]
     exact c7 (i.symm.trans this)
   · refine am (x4.mp l) λ k e=>?_;have e:y∉G:=λ q=>by rw[QU.mpr q]at e;cases e
     exact dw _ b rfl (.inr ⟨y,d,rfl,bW k,e,(tg (bW k) e).symm.trans i⟩)
 ·cases i.symm.trans (q ..)
def zs{b:Nx->Sem Fin}{f:Ctx}{q e:Nat->Pos}(n:Nat):∀(j:Nat),(∀i,j<=i->q i=e i)->fF b Vl c h U f q n j=fF b Vl c h U f e n j:=by induction n with
 |zero=>exact λ _ _=>rfl|succ n k=>
  intro j d;funext l o s seen;rw[jp,jp,d j (aB j),k (j+1) λ i g=>d i (Sy g)]
def zt{f:Nx->Sem Fin}{k:Ctx}{q:Nat->Pos}(n:Nat):∀{j:Nat}{d:List Str}{o:Obj}{s:fl}{seen:List (Option Obj×Obj)}{r:hM},fF f Vl c h U k q n j d o s seen=some r->∃new,r.2.1=new++seen:=by induction n with
 |zero=>exact λ b=>aQ b|succ n g=>
   intro j d o s seen r b;rw[jp]at b;obtain⟨_,i,_,⟨_,rfl⟩|⟨y,l,_,_,_,b⟩⟩:=pf b;·exact⟨[(_,o)],rfl⟩
   · refine ai (g b) λ new e=>?_;exact⟨new++[(i.tree.get h,o)],by rw[e,kn];rfl⟩
def zu:KH Kl "set.update.loop"=some Builtin.«set.update.loop»:=Jx (by lia)
def zv:KH Kl "frozenset.__or__"=some Builtin.«frozenset.__or__»:=Jx (by lia)
def zw:KH Kl "frozenset.__sub__"=some Builtin.«frozenset.__sub__»:=Jx (by lia)
def zx{c:String->Option Builtin}{a:Tz}{b:Builtin}(h:KH c VH=some b):Lf c (.builtin VH a)=b a:=by
 show(match KH c VH with|some b=>b a|none=>_)=_;rw[h]
noncomputable def th(a:Ctx):aq:=⟨a.handled,Tn a.below+a.code.weight,none,none,a.units⟩
def zy(VM:Ctx):VM.In (th VM):=⟨rfl,aB _,λ _ VL=>(by cases VL),λ _ VL=>(by cases VL),aB _⟩
def bk.cons(g:bk Vl c O (G++[j])):bk Vl c O (j::G):=by
 obtain⟨a,d,n,e,b,t,f,h,l,m,i⟩:=g;exact⟨a,d,n,e,b,t,f,h,λ k=>by rw[<-l k];simp[or_comm],by rw[m];simp,i⟩
def zz{i:Ctx}{g:Option ab}{s d:fl}(j:kQ (Lf Kl) Vl c (λ _ _ _=>none) 2000 i v s [] (kV U)=some (.ret (.ok (g.elim .brk .ret)),d,[])):NS (au Vl c) i (KN U) (λ f _ b=>f=g/\b=d.abs) (λ _ _ _=>False) v s.abs:=by
 have W:=(Sem.wp_iff_runs (au Vl c) i (kV U) (λ r b=>r=.ok (g.elim .brk .ret)/\b=d.abs) v s.abs).mpr ⟨_,_,(sP Vl c _ _ _ _ _ _ _ _ j).2 (λ _ h=>absurd h uR),rfl,rfl⟩;unfold kV at W;rw[Ru]at W;refine Rt _ _ _ (λ f k b a=>?_) (λ e k b a=>by cases a.1) _ _ W;rcases f with _|x;·cases g with
  |none=>exact⟨rfl,a.2⟩|some y=>cases a.1
 ·cases g with
  |none=>cases a.1|some y=>
   have e:=a.1;cases e;exact⟨rfl,a.2⟩
def zA{f:Ctx}(O:f.code=.builtin "set.update.loop" ⟨[.ref h,U],[]⟩)(n:Nat):∀(j:Nat){y:List Str}{o:Obj}{s:fl}{seen:List (Option Obj×Obj)}{p:Pos}{r:hM},bk Vl c o y->y.length+n<K9->(∀q:Nat->Pos,q j=p->fF (Lf Kl) Vl c h U f q n j y o s seen=some r)->(∀e∈r.2.1,e.1=some e.2)->NS (au Vl c) f ((au Vl c).den f.code) (Sem.finPost (au Vl c) f (λ x d=>x=.ok (.ret .none)/\d=r.1.abs)) (λ e _ d=>(Except.error e:JJ)=.ok (.ret .none)/\d=r.1.abs) p s.abs:=by induction n with
 |zero=>exact λ j _ _ _ _ p _ _ _ m _=>by cases m (λ _=>p) rfl|succ n VU=>
   intro j y o s seen p r g M m N;have u:=m (λ _=>p) rfl;have VM:(au Vl c).den f.code=Builtin.«set.update.loop» ⟨[.ref h,U],[]⟩:=by
     show Lf Kl f.code=_;rw[O];exact zx zu
   rw[VM];unfold Builtin.«set.update.loop»;show NS _ _ ((KN U).bind _) _ _ _ _;rw[Ru];rw[jp]at u;refine aj λ VX=>aW (pf u) λ v d L V=>VX (Rt _ _ _ (λ V5 T VW k=>(am k λ k VS=>?_)) (λ e T VW k=>k.elim) _ _ (zz L));subst k VS;rcases V with⟨k,VR⟩|⟨x,l,k,J,B,u⟩;·subst k VR;exact⟨rfl,rfl⟩
   · subst k;show NS _ _ ((Mj [.str x l] (R0 h (.str x l))).bind _) _ _ _ _;rw[Ru];refine ai (zt _ u) λ new VP=>?_;have H:d.tree.get h=some o:=N (d.tree.get h,o) (VP▸jq _ (.head _));have Y:alive o=some o:=by
       obtain⟨_,_,_,VZ,ep,t,VL,_⟩:=g;obtain⟨V1,V2,V3,V4⟩:=o;subst VL;rfl
     have VQ:d.abs.heap.get? h=some o:=db (NA J) H Y;let S:=d.abs;refine Rt _ _ _ (λ b VV C z=>?_) (λ e VV C z=>z.elim) _ _ (aK (A:=th f) (E:=λ _ _=>False) (y8 (Q:=λ _ C=>C={S with heap:=S.heap.update h (cV c.params x (.str x l)),toks:=S.toks+1}) g VQ B (bz (bX (Iw 1 n) _) M) rfl) f T (zy f));subst z;refine⟨Le _ (by decide+kernel),?_⟩;rw[Na];have VN:f.goto (.builtin "set.update.loop" ⟨[.ref h,U],[]⟩)=f:=by rw[<-O];rfl
     rw[VN];have VT:({S with heap:=S.heap.update h (cV c.params x (.str x l)),toks:=S.toks+1}:aa)=(⟨d.tree.set h (cV c.params x (.str x l)),d.n,d.life,d.gens,d.drawn,d.toks+1,d.os⟩:fl).abs:=by
       unfold S Nd;dsimp only;rw[absHeap_set H]
     rw[VT];refine VU (j+1) (seen:=(d.tree.get h,o)::seen) (mH (Vv:=l) g B).cons (by rw[y3,O0];exact M) (λ q V0=>?_) N;have D:=m (λ i=>if i=j then p else q i) (if_pos rfl);rw[jp,if_pos rfl]at D;have G:=D;rw[L]at G;rw[<-zs n (j+1) (q:=λ i=>if i=j then p else q i) λ i VO=>if_neg (IC VO)];exact(tg J B).symm.trans G
def zB{e:Nx->Sem Fin}{l:Ctx}{q:Nat->Pos}(n:Nat):∀{j:Nat}{d:List Str}{o:Obj}{s:fl}{seen:List (Option Obj×Obj)}{r:hM},fF e Vl c h U l q n j d o s seen=some r->bk Vl c o d->bk Vl c r.2.2.2 r.2.2.1/\(r.1.tree.get h,r.2.2.2)∈r.2.1:=by induction n with
 |zero=>exact λ b=>aQ b|succ n i=>
  intro j d o s seen r b g;rw[jp]at b;obtain⟨_,m,_,⟨_,rfl⟩|⟨y,k,_,_,f,b⟩⟩:=pf b;·exact⟨g,.head _⟩
  ·exact i b (mH (Vv:=k) g f).cons
def ti(a:eH)(w:ar):bk a w (g5 w.params) []:=⟨rfl,rfl,rfl,#[],0,dj w.params,rfl,λ e VL=>(nomatch VL),λ k=>by simp,rfl,rfl⟩
noncomputable abbrev P0:=Tw
structure g6 where
 par:Jk:=b2
 body:List Io:=[]scope:aw:=b2
 name:Str:=aR
 pos:Pos:=b2
 es:List b7:=[]
noncomputable def cE(t:Io):g6:=if h:t.ctorIdx=0 then S' t h λ n a b _ _ _ s _ _ p=>⟨a,b,s,n,p,[]⟩else if h:t.ctorIdx=2 then Ua t h λ n e _ b _ _ s _ _ _ p=>⟨b2,b,s,n,p,e⟩else if h:t.ctorIdx=3 then U7 t h λ v p=>{pos:=p,es:=v.toList}else if h:t.ctorIdx=5 then U8 t h λ e v p=>{pos:=p,es:=v::e}else if h:t.ctorIdx=9 then Stmt.For.elim t h λ e _ b _ _=>{body:=b,es:=[e]}else if h:t.ctorIdx=12 then Stmt.If.elim t h λ e _ _ _=>{es:=[e]}else if h:t.ctorIdx=11 then Stmt.While.elim t h λ _ b _ _=>{body:=b}else if h:t.ctorIdx=17 then Stmt.Try.elim t h λ b _ _ _ _=>{body:=b}else if h:t.ctorIdx=24 then Stmt.Expr.elim t h λ e p=>{pos:=p,es:=[e]}else{}
noncomputable def jr(e:b7):Pos:=if h:e.ctorIdx=23 then Expr.Name.elim e h λ _ p=>p else b2
noncomputable def tj(e:b7):Pos×Pos:=if h:e.ctorIdx=20 then TU e h λ v _ p=>(jr v,p)else b2
noncomputable def zC(e:b7):Str×Nat×Pos:=if h:e.ctorIdx=19 then Ue e h λ c k p=>(match c with|.str y=>y|_=>aR,k,p)else b2
noncomputable def g6.e(s:g6)(i:Nat):b7:=s.es.getD i b2
noncomputable def zD:List Nat->Option Io
 |[i]=>P0.main.body[i]?|[i,j]=>(P0.main.body[i]?).bind λ VL=>(cE VL).body[j]?|_=>none
noncomputable def pg(p:List Nat):g6:=((zD p).map cE).getD {}
noncomputable def zE(p:List Nat):Jk:=(pg p).par
noncomputable def bB(p:List Nat):List Io:=(pg p).body
noncomputable def a0(p:List Nat):aw:=(pg p).scope
noncomputable def mL(i:Nat):Str:=(docOf (bB [i])).getD aR
noncomputable def iI(p:List Nat)(name j:Str)(g:ae)(d:List (Str×ae))(f h doc i:ab)(a:Option ae)(c e:ab)(b:ae):Iv:={name,qualname:=j,params:=zE p,body:=.stmts (bB p),scope:=a0 p,globals:=g,closure:=d,defaults:=f,kwdefaults:=h,doc,pyModule:=i,annotations:=a,code:=c,closureTuple:=e,builtins:=b}
noncomputable def gf(o:Obj):Obj:=match o with
 |⟨c,d,.func f,s⟩=>⟨c,d,.func {f with doc:=.none},s⟩|o=>o
noncomputable abbrev sN(x:String)(t:Tok):ab:=.str (ac x) t
noncomputable def dE(P:a3)(x:String)(t:Tok)(v:ab):OM:=⟨mM P (ac x),sN x t,v⟩
noncomputable def tE:Obj:=⟨.type "tuple",none,.seq #[] 0,#[]⟩
noncomputable def fE:Obj:=⟨.none,none,.fields #[],#[]⟩
noncomputable abbrev m0:ab:=sN "__main__" 164
noncomputable abbrev m1:ab:=sN "cpy313.tomllib._parser" 194
noncomputable abbrev m2:ab:=sN "cpy313.functools" 495
noncomputable abbrev m3:ab:=sN "cpy313.unittest.util" 521
noncomputable abbrev m4:ab:=sN "law_in0064_01" 766
noncomputable def nT(t:Tok)(l:List String):Obj:=⟨.type "tuple",none,.seq (l.zipIdx.map λ q=>sN q.1 (t+q.2)).toArray 0,#[]⟩
noncomputable def pN:String:="/claim/cut.py"
abbrev Fd:Type:=List Nat->String->String->List (Str×ae)->ab->ab->Option ae->ab->Nat->Nat->Nat->Nat->Nat->Nat->Nat->Bool->Obj
noncomputable def cO:Fd:=λ p n q f h m e g b t l a d c k w=>⟨.type "code",none,.fields #[sN n t,sN q (t+1),sN pN (t+2),.int l 0,.int a 0,.int 0 0,.int d 0,.int c 0,.ref b,.bool true,.int 181 0,.ref (b+1),.none,if w then .ref (b+2)else .none,if w then .ref (b+3)else .none,.ref (if w then b+4 else b+2),.int (t+3+k:Nat) 0,.int l 0,sN pN (t+4+k)],#[]⟩
noncomputable def fO:Fd:=λ p n q c e m a d b t l f h g k w=>⟨.type "function",none,.func (iI p (ac n) (ac q) 3 c e .none .none m a (.ref (if w then b+5 else b+3)) d 0),#[]⟩
noncomputable def fK:Fd:=λ p n q d f m c e b t l a h g k w=>⟨.none,none,.func (iI p (ac n) (ac q) 0 [] .none .none .none .none none .none .none 0),#[]⟩
noncomputable def ph(f:Fd):Obj:=f [0] "_wall" "_wall" [] .none m0 none .none 15 187 1 1 0 3 1 true
noncomputable def pi(f:Fd):Obj:=f [11] "skip_chars" "skip_chars" [] .none m1 none .none 70 427 15 3 0 3 3 true
noncomputable def pj(f:Fd):Obj:=f [12] "skip_until" "skip_until" [] .none m1 none .none 77 436 22 3 2 3 6 true
noncomputable def pk(f:Fd):Obj:=f [13] "skip_comment" "skip_comment" [] .none m1 none .none 84 448 34 2 0 3 3 true
noncomputable def pl(f:Fd):Obj:=f [14] "skip_comments_and_array_ws" "skip_comments_and_array_ws" [] .none m1 none .none 91 457 42 2 0 3 3 true
noncomputable def pn(f:Fd):Obj:=f [15] "parse_hex_char" "parse_hex_char" [] .none m1 none .none 98 466 49 3 0 3 5 true
noncomputable def po(f:Fd):Obj:=f [16] "suffixed_err" "suffixed_err" [] .none m1 none .none 105 477 58 3 0 3 4 true
noncomputable def pp(f:Fd):Obj:=f [17] "is_unicode_scalar_value" "is_unicode_scalar_value" [] .none m1 none .none 112 488 72 1 0 3 1 true
noncomputable def pq(f:Fd):Obj:=f [21] "reduce" "reduce" [] (.ref 127) m2 none .none 128 508 102 3 0 3 6 true
noncomputable def pr(f:Fd):Obj:=f [23,0] "__init__" "_tuplegetter.__init__" [] .none m3 none .none 142 535 129 3 0 3 3 true
noncomputable def pt(f:Fd):Obj:=f [23,1] "__get__" "_tuplegetter.__get__" [] (.ref 149) m3 none .none 150 544 133 3 0 3 3 true
noncomputable def pv(f:Fd):Obj:=f [23,2] "__set__" "_tuplegetter.__set__" [] .none m3 none .none 157 553 140 3 0 3 3 true
noncomputable def pw(f:Fd):Obj:=f [23,3] "__delete__" "_tuplegetter.__delete__" [] .none m3 none .none 164 562 143 2 0 3 2 true
noncomputable def px(f:Fd):Obj:=f [24] "sorted_list_difference" "sorted_list_difference" [] .none m3 none .none 178 580 145 2 0 3 8 true
noncomputable def py(f:Fd):Obj:=f [25] "unorderable_list_difference" "unorderable_list_difference" [] .none m3 none .none 185 595 184 2 0 3 4 true
noncomputable def pz(f:Fd):Obj:=f [26] "three_way_cmp" "three_way_cmp" [] .none m3 none .none 192 606 198 2 0 3 2 true
noncomputable def pA(f:Fd):Obj:=f [27,4] "__new__" "Mismatch.__new__" [] .none m3 none .none 210 636 207 4 0 3 4 true
noncomputable def pB(f:Fd):Obj:=f [27,5] "_make" "Mismatch._make" [] .none m3 (some 226) .none 217 647 211 2 0 3 3 true
noncomputable def pC(f:Fd):Obj:=f [27,8] "__repr__" "Mismatch.__repr__" [] .none m3 none .none 235 681 230 1 0 3 1 true
noncomputable def pD(f:Fd):Obj:=f [27,9] "_asdict" "Mismatch._asdict" [] .none m3 none .none 242 689 234 1 0 3 1 true
noncomputable def pE(f:Fd):Obj:=f [27,10] "__getnewargs__" "Mismatch.__getnewargs__" [] .none m3 none .none 249 696 237 1 0 3 1 true
noncomputable def pF(f:Fd):Obj:=f [29] "_count_diff_all_purpose" "_count_diff_all_purpose" [] .none m3 none .none 273 744 245 2 0 3 15 true
noncomputable def pG(f:Fd):Obj:=f [31] "_law_text" "_law_text" [] .none m4 none .none 280 768 278 1 0 3 0 ap
noncomputable def pH(f:Fd):Obj:=f [32] "_law_step" "_law_step" [] .none m4 none .none 285 774 286 2 0 3 6 true
noncomputable def pI(f:Fd):Obj:=f [33] "_law_fit" "_law_fit" [] .none m4 none .none 292 786 293 1 0 3 0 ap
noncomputable def pJ(f:Fd):Obj:=f [34] "_law_words" "_law_words" [] .none m4 none .none 297 792 295 2 0 3 4 true
noncomputable def pK(f:Fd):Obj:=f [35] "_law_less" "_law_less" [] .none m4 none .none 304 802 299 2 0 3 0 ap
noncomputable def pL(f:Fd):Obj:=f [36] "law" "law" [] .none m4 none .none 309 808 302 1 0 3 0 ap
noncomputable def hP(P:a3):Obj:=⟨.none,none,(.dict #[] 0),#[]⟩
noncomputable def js(P:a3):Obj:=⟨(.type "dict"),none,(.dict #[dE P "__name__" 165 (sN "law_in0064_01" 766),dE P "__doc__" 166 .none,dE P "__package__" 167 .none,dE P "__loader__" 168 (.builtin "__main__.__loader__#opaque"),dE P "__spec__" 169 .none,dE P "__annotations__" 170 (.ref 6),dE P "__builtins__" 171 (.ref 4),dE P "__file__" 173 (sN "/claim/cut.py" 172),dE P "__cached__" 174 .none,dE P "_wall" 193 (.ref 21),dE P "ASCII_CTRL" 339 (.ref 38),dE P "ILLEGAL_BASIC_STR_CHARS" 343 (.ref 43),dE P "ILLEGAL_COMMENT_CHARS" 344 (.ref 43),dE P "TOML_WS" 350 (.ref 44),dE P "TOML_WS_AND_NEWLINE" 354 (.ref 52),dE P "digits" 356 (sN "0123456789" 355),dE P "hexdigits" 361 (sN "0123456789abcdefABCDEF" 360),dE P "HEXDIGIT_CHARS" 406 (.ref 53),dE P "TOMLDecodeError" 426 (.ref 66),dE P "skip_chars" 435 (.ref 76),dE P "skip_until" 447 (.ref 83),dE P "skip_comment" 456 (.ref 90),dE P "skip_comments_and_array_ws" 465 (.ref 97),dE P "parse_hex_char" 476 (.ref 104),dE P "suffixed_err" 487 (.ref 111),dE P "is_unicode_scalar_value" 494 (.ref 118),dE P "cmp_to_key" 506 (.ref 125),dE P "_initial_missing" 507 (.ref 126),dE P "reduce" 520 (.ref 134),dE P "_tuplegetter" 579 (.ref 173),dE P "sorted_list_difference" 594 (.ref 184),dE P "unorderable_list_difference" 605 (.ref 191),dE P "three_way_cmp" 614 (.ref 198),dE P "Mismatch" 742 (.ref 269),dE P "_Mismatch" 743 (.ref 269),dE P "_count_diff_all_purpose" 765 (.ref 279),dE P "_law_text" 773 (.ref 284),dE P "_law_step" 785 (.ref 291),dE P "_law_fit" 791 (.ref 296),dE P "_law_words" 801 (.ref 303),dE P "_law_less" 807 (.ref 308),dE P "law" 813 (.ref 313)] 42),#[]⟩
noncomputable def mN(P:a3):Obj:=⟨(.type "dict"),none,(.dict #[dE P "__module__" 414 (sN "cpy313.tomllib._parser" 194),dE P "__firstlineno__" 418 (.int 13 417),dE P "__doc__" 420 (.str (mL 10) 419),dE P "__static_attributes__" 422 (.ref 64),dE P "__weakref__" 424 (.ref 67)] 2),#[]⟩
noncomputable def mO(P:a3):Obj:=pL fO
noncomputable def mP(P:a3):Obj:=⟨(.type "type"),none,(.cls {name:=(ac "Mismatch"),bases:=[(.type "tuple")],mro:=[(.ref 269),(.type "tuple"),(.type "object")],ns:=268,qualname:=(ac "Mismatch"),hasDict:=ap,slotNames:=[],subclasses:=[],abstract:=ap,collection:=none,hasDel:=ap}),#[(some (.ref 199)),none,(some (sN "Mismatch" 615)),(some (sN "Mismatch" 623)),(some .none),(some (.bool ap))]⟩
noncomputable def mQ(P:a3):Obj:=⟨(.type "code"),none,(.fields #[(sN "cmp_to_key" 497),(sN "cmp_to_key" 498),(sN "/claim/cut.py" 499),.int 75 0,.int 1 0,.int 0 0,.int 0 0,.int 3 0,(.ref 119),(.bool true),.int 181 0,(.ref 120),.none,(.ref 121),(.ref 122),(.ref 123),.int 503 0,.int 75 0,(sN "/claim/cut.py" 504)]),#[]⟩
noncomputable def pM(P:a3):Obj:=⟨(.type "staticmethod"),none,(.fields #[(.ref 216)]),#[]⟩
noncomputable def pO(P:a3):Obj:=⟨(.type "dict"),none,(.dict #[dE P "__module__" 622 (sN "cpy313.unittest.util" 521),dE P "__firstlineno__" 626 (.int 201 625),dE P "__doc__" 628 (.str (mL 27) 627),dE P "__slots__" 630 (.ref 207),dE P "_fields" 634 (.ref 208),dE P "_field_defaults" 635 (.ref 209),dE P "__new__" 646 (.ref 270),dE P "_make" 668 (.ref 225),dE P "_replace" 679 (.ref 234),dE P "__replace__" 680 (.ref 234),dE P "__repr__" 688 (.ref 241),dE P "_asdict" 695 (.ref 248),dE P "__getnewargs__" 703 (.ref 255),dE P "__match_args__" 707 (.ref 256),dE P "actual" 717 (.ref 258),dE P "expected" 727 (.ref 261),dE P "value" 737 (.ref 264),dE P "__static_attributes__" 738 (.ref 266)] 2),#[]⟩
noncomputable def tm(P:a3):Obj:=pL cO
noncomputable def tn(P:a3):Obj:=⟨(.type "tuple"),none,(.seq #[(.ref 126)] 0),#[]⟩
noncomputable def tp(P:a3):Obj:=⟨(.type "object"),none,.plain,#[]⟩
noncomputable def tq(P:a3):Obj:=po cO
noncomputable def d8(P:a3):List (Nat×Obj):=[(2,hP P),(3,js P),(11,tE),(12,⟨.none,none,(.fields #[.int 1 0,.int 0 0,(.ref 20),.int 5 0,.int 23 0,(.ref 26),.int 13 0,.int 0 0,(.ref 62),.int 15 0,.int 0 0,(.ref 75),.int 22 0,.int 0 0,(.ref 82),.int 34 0,.int 0 0,(.ref 89),.int 42 0,.int 0 0,(.ref 96),.int 49 0,.int 0 0,(.ref 103),.int 58 0,.int 0 0,(.ref 110),.int 72 0,.int 0 0,(.ref 117),.int 75 0,.int 0 0,(.ref 124),.int 102 0,.int 0 0,(.ref 133),.int 127 0,.int 0 0,(.ref 140),.int 145 0,.int 0 0,(.ref 183),.int 184 0,.int 0 0,(.ref 190),.int 198 0,.int 0 0,(.ref 197),.int 201 0,.int 0 0,(.ref 205),.int 245 0,.int 0 0,(.ref 278),.int 278 0,.int 0 0,(.ref 283),.int 286 0,.int 0 0,(.ref 290),.int 293 0,.int 0 0,(.ref 295),.int 295 0,.int 0 0,(.ref 302),.int 299 0,.int 0 0,(.ref 307),.int 302 0,.int 0 0,(.ref 312)]),#[]⟩),(13,⟨(.type "code"),none,(.fields #[(sN "<module>" 182),(sN "<module>" 183),(sN "/claim/cut.py" 184),.int 1 0,.int 0 0,.int 0 0,.int 0 0,.int 0 0,(.ref 11),(.bool ap),.int 181 0,(.ref 12),.none,.none,.none,.none,.int 185 0,.int 1 0,(sN "/claim/cut.py" 186)]),#[]⟩),(14,⟨(.type "frame"),none,.plain,#[(some (.ref 13)),(some (.ref 3)),(some (.ref 3)),none,(some (sN "__main__" 164)),none,(some (.ref 0))]⟩),(15,tE),(16,fE),(17,nT 190 ["k"]),(18,tE),(19,ph fK),(20,ph cO),(21,ph fO),(57,⟨(.type "tuple"),none,(.seq #[(.type "ValueError")] 0),#[]⟩),(58,⟨(.type "builtin_function_or_method"),none,(.fields #[(.builtin "type.__prepare__"),(.type "type")]),#[]⟩),(59,⟨(.type "dict"),none,(.dict #[dE P "__module__" 414 (sN "cpy313.tomllib._parser" 194),dE P "__qualname__" 416 (sN "TOMLDecodeError" 415),dE P "__firstlineno__" 418 (.int 13 417),dE P "__doc__" 420 (.str (mL 10) 419),dE P "__static_attributes__" 422 (.ref 64)] 5),#[]⟩),(60,tE),(61,fE),(62,⟨(.type "code"),none,(.fields #[(sN "TOMLDecodeError" 409),(sN "TOMLDecodeError" 410),(sN "/claim/cut.py" 411),.int 13 0,.int 0 0,.int 0 0,.int 0 0,.int 0 0,(.ref 60),(.bool ap),.int 181 0,(.ref 61),.none,.none,.none,.none,.int 412 0,.int 13 0,(sN "/claim/cut.py" 413)]),#[]⟩),(63,⟨(.type "frame"),none,.plain,#[(some (.ref 62)),(some (.ref 3)),(some (.ref 59)),none,(some (sN "cpy313.tomllib._parser" 194)),none,(some (.ref 0))]⟩),(64,tE),(65,mN P),(66,⟨(.type "type"),none,(.cls {name:=(ac "TOMLDecodeError"),bases:=[(.type "ValueError")],mro:=[(.ref 66),(.type "ValueError"),(.type "Exception"),(.type "BaseException"),(.type "object")],ns:=65,qualname:=(ac "TOMLDecodeError"),hasDict:=true,slotNames:=[],subclasses:=[],abstract:=ap,collection:=none,hasDel:=ap}),#[(some (.ref 57)),none,(some (sN "TOMLDecodeError" 407)),(some (sN "TOMLDecodeError" 415)),(some (.builtin "ValueError.__new__")),(some (.bool true))]⟩),(67,⟨(.type "getset_descriptor"),none,(.fields #[(sN "__weakref__" 423),(.ref 66),(.builtin "ExceptionGroup.__weakref__"),.none]),#[]⟩),(68,⟨(.type "super"),none,(.fields #[(.ref 66),(.ref 66),(.ref 66)]),#[]⟩),(69,⟨(.type "builtin_function_or_method"),none,(.fields #[(.builtin "object.__init_subclass__"),(.ref 66)]),#[]⟩),(70,tE),(71,fE),(72,nT 430 ["src","pos","chars"]),(73,tE),(74,pi fK),(75,pi cO),(76,pi fO),(77,tE),(78,fE),(79,nT 439 ["src","pos","expect","error_on","error_on_eof","new_pos"]),(80,tE),(81,pj fK),(82,pj cO),(83,pj fO),(84,tE),(85,fE),(86,nT 451 ["src","pos","char"]),(87,tE),(88,pk fK),(89,pk cO),(90,pk fO),(91,tE),(92,fE),(93,nT 460 ["src","pos","pos_before_skip"]),(94,tE),(95,pl fK),(96,pl cO),(97,pl fO),(98,tE),(99,fE),(100,nT 469 ["src","pos","hex_len","hex_str","hex_int"]),(101,tE),(102,pn fK),(103,pn cO),(104,pn fO),(105,tE),(106,fE),(107,nT 480 ["src","pos","msg","coord_repr"]),(108,tE),(109,po fK),(110,tq P),(111,po fO),(112,tE),(113,fE),(114,nT 491 ["codepoint"]),(115,tE),(116,pp fK),(117,pp cO),(118,pp fO),(119,tE),(120,fE),(121,⟨(.type "tuple"),none,(.seq #[(sN "mycmp" 500),(sN "K" 501)] 0),#[]⟩),(122,⟨(.type "tuple"),none,(.seq #[(sN "mycmp" 502)] 0),#[]⟩),(123,⟨.none,none,(.func (iI [19] (ac "cmp_to_key") (ac "cmp_to_key") 0 [] .none .none .none .none none .none .none 0)),#[]⟩),(124,mQ P),(125,⟨(.type "function"),none,(.func (iI [19] (ac "cmp_to_key") (ac "cmp_to_key") 3 [] .none .none .none (sN "cpy313.functools" 495) none (.ref 124) .none 0)),#[]⟩),(126,tp P),(127,tn P),(128,tE),(129,fE),(130,nT 511 ["function","sequence","initial","it","value","element"]),(131,tE),(132,pq fK),(133,pq cO),(134,pq fO),(135,tE),(136,⟨(.type "builtin_function_or_method"),none,(.fields #[(.builtin "type.__prepare__"),(.type "type")]),#[]⟩),(137,⟨(.type "dict"),none,(.dict #[dE P "__module__" 530 (sN "cpy313.unittest.util" 521),dE P "__qualname__" 532 (sN "_tuplegetter" 531),dE P "__firstlineno__" 534 (.int 127 533),dE P "__init__" 543 (.ref 148),dE P "__get__" 552 (.ref 156),dE P "__set__" 561 (.ref 163),dE P "__delete__" 569 (.ref 170),dE P "__static_attributes__" 572 (.ref 171)] 8),#[]⟩),(138,tE),(139,⟨.none,none,(.fields #[.int 129 0,.int 4 0,(.ref 147),.int 133 0,.int 4 0,(.ref 155),.int 140 0,.int 4 0,(.ref 162),.int 143 0,.int 4 0,(.ref 169)]),#[]⟩),(140,⟨(.type "code"),none,(.fields #[(sN "_tuplegetter" 525),(sN "_tuplegetter" 526),(sN "/claim/cut.py" 527),.int 127 0,.int 0 0,.int 0 0,.int 0 0,.int 0 0,(.ref 138),(.bool ap),.int 181 0,(.ref 139),.none,.none,.none,.none,.int 528 0,.int 127 0,(sN "/claim/cut.py" 529)]),#[]⟩),(141,⟨(.type "frame"),none,.plain,#[(some (.ref 140)),(some (.ref 3)),(some (.ref 137)),none,(some (sN "cpy313.unittest.util" 521)),none,(some (.ref 0))]⟩),(142,tE),(143,fE),(144,nT 538 ["self","index","doc"]),(145,tE),(146,pr fK),(147,pr cO),(148,pr fO),(149,⟨(.type "tuple"),none,(.seq #[.none] 0),#[]⟩),(150,tE),(151,fE),(152,nT 547 ["self","obj","objtype"]),(153,tE),(154,pt fK),(155,pt cO),(156,pt fO),(157,tE),(158,fE),(159,nT 556 ["self","obj","value"]),(160,tE),(161,pv fK),(162,pv cO),(163,pv fO),(164,tE),(165,fE),(166,nT 565 ["self","obj"]),(167,tE),(168,pw fK),(169,pw cO),(170,pw fO),(171,⟨(.type "tuple"),none,(.seq #[(sN "__doc__" 570),(sN "index" 571)] 0),#[]⟩),(172,⟨(.type "dict"),none,(.dict #[dE P "__module__" 530 (sN "cpy313.unittest.util" 521),dE P "__firstlineno__" 534 (.int 127 533),dE P "__init__" 543 (.ref 148),dE P "__get__" 552 (.ref 156),dE P "__set__" 561 (.ref 163),dE P "__delete__" 569 (.ref 170),dE P "__static_attributes__" 572 (.ref 171),dE P "__dict__" 574 (.ref 174),dE P "__weakref__" 576 (.ref 175),dE P "__doc__" 577 .none] 4),#[]⟩),(173,⟨(.type "type"),none,(.cls {name:=(ac "_tuplegetter"),bases:=[(.type "object")],mro:=[(.ref 173),(.type "object")],ns:=172,qualname:=(ac "_tuplegetter"),hasDict:=true,slotNames:=[],subclasses:=[],abstract:=ap,collection:=none,hasDel:=ap}),#[none,none,(some (sN "_tuplegetter" 523)),(some (sN "_tuplegetter" 531)),(some (.builtin "object.__new__")),(some (.bool true))]⟩),(174,⟨(.type "getset_descriptor"),none,(.fields #[(sN "__dict__" 573),(.ref 173),(.builtin "function.__dict__"),(.builtin "function.__dict__#set")]),#[]⟩),(175,⟨(.type "getset_descriptor"),none,(.fields #[(sN "__weakref__" 575),(.ref 173),(.builtin "ExceptionGroup.__weakref__"),.none]),#[]⟩),(176,⟨(.type "super"),none,(.fields #[(.ref 173),(.ref 173),(.ref 173)]),#[]⟩),(177,⟨(.type "builtin_function_or_method"),none,(.fields #[(.builtin "object.__init_subclass__"),(.ref 173)]),#[]⟩),(178,tE),(179,fE),(180,nT 583 ["expected","actual","i","j","missing","unexpected","e","a"]),(181,tE),(182,px fK),(183,px cO),(184,px fO),(185,tE),(186,fE),(187,nT 598 ["expected","actual","missing","item"]),(188,tE),(189,py fK),(190,py cO),(191,py fO),(192,tE),(193,fE),(194,nT 609 ["x","y"]),(195,tE),(196,pz fK),(197,pz cO),(198,pz fO),(199,⟨(.type "tuple"),none,(.seq #[(.type "tuple")] 0),#[]⟩),(200,⟨(.type "builtin_function_or_method"),none,(.fields #[(.builtin "type.__prepare__"),(.type "type")]),#[]⟩),(201,⟨(.type "dict"),none,(.dict #[dE P "__module__" 622 (sN "cpy313.unittest.util" 521),dE P "__qualname__" 624 (sN "Mismatch" 623),dE P "__firstlineno__" 626 (.int 201 625),dE P "__doc__" 628 (.str (mL 27) 627),dE P "__slots__" 630 (.ref 207),dE P "_fields" 634 (.ref 208),dE P "_field_defaults" 635 (.ref 209),dE P "__new__" 646 (.ref 216),dE P "_make" 668 (.ref 225),dE P "_replace" 679 (.ref 234),dE P "__replace__" 680 (.ref 234),dE P "__repr__" 688 (.ref 241),dE P "_asdict" 695 (.ref 248),dE P "__getnewargs__" 703 (.ref 255),dE P "__match_args__" 707 (.ref 256),dE P "actual" 717 (.ref 258),dE P "expected" 727 (.ref 261),dE P "value" 737 (.ref 264),dE P "__static_attributes__" 738 (.ref 266),dE P "__classcell__" 739 (.ref 202)] 20),#[]⟩),(202,⟨(.type "cell"),none,(.cell (some (.ref 269))),#[]⟩),(203,tE),(204,⟨.none,none,(.fields #[.int 207 0,.int 4 0,(.ref 215),.int 212 0,.int 4 0,(.ref 222),.int 219 0,.int 4 0,(.ref 233),.int 230 0,.int 4 0,(.ref 240),.int 234 0,.int 4 0,(.ref 247),.int 237 0,.int 4 0,(.ref 254)]),#[]⟩),(205,⟨(.type "code"),none,(.fields #[(sN "Mismatch" 617),(sN "Mismatch" 618),(sN "/claim/cut.py" 619),.int 201 0,.int 0 0,.int 0 0,.int 0 0,.int 0 0,(.ref 203),(.bool ap),.int 181 0,(.ref 204),.none,.none,.none,.none,.int 620 0,.int 201 0,(sN "/claim/cut.py" 621)]),#[]⟩),(206,⟨(.type "frame"),none,.plain,#[(some (.ref 205)),(some (.ref 3)),(some (.ref 201)),none,(some (sN "cpy313.unittest.util" 521)),none,(some (.ref 0))]⟩),(207,tE),(208,⟨(.type "tuple"),none,(.seq #[(sN "actual" 631),(sN "expected" 632),(sN "value" 633)] 0),#[]⟩),(209,⟨(.type "dict"),none,(.dict #[] 0),#[]⟩),(210,tE),(211,fE),(212,nT 639 ["_cls","actual","expected","value"]),(213,tE),(214,pA fK),(215,pA cO),(216,pA fO),(217,tE),(218,fE),(219,nT 650 ["cls","iterable","result"]),(220,tE),(221,pB fK),(222,pB cO),(223,pB fO),(225,⟨(.type "classmethod"),(some 224),(.fields #[(.ref 223),(.bool ap)]),#[]⟩),(226,⟨(.type "dict"),none,(.dict #[] 0),#[]⟩),(227,⟨(.type "tuple"),none,(.seq #[(.ref 202)] 0),#[]⟩),(228,⟨(.type "tuple"),none,(.seq #[(sN "__class__" 672)] 0),#[]⟩),(229,fE),(230,⟨(.type "tuple"),none,(.seq #[(sN "self" 673),(sN "kwds" 674),(sN "result" 675)] 0),#[]⟩),(231,tE),(232,⟨.none,none,(.func (iI [27,6] (ac "_replace") (ac "Mismatch._replace") 0 [] .none .none .none .none none .none .none 0)),#[]⟩),(233,⟨(.type "code"),none,(.fields #[(sN "_replace" 669),(sN "Mismatch._replace" 670),(sN "/claim/cut.py" 671),.int 219 0,.int 1 0,.int 1 0,.int 0 0,.int 11 0,(.ref 228),(.bool true),.int 181 0,(.ref 229),.none,(.ref 230),(.ref 231),(.ref 232),.int 676 0,.int 219 0,(sN "/claim/cut.py" 677)]),#[]⟩),(234,⟨(.type "function"),none,(.func (iI [27,6] (ac "_replace") (ac "Mismatch._replace") 3 [((ac "__class__"),202)] .none .none .none (sN "cpy313.unittest.util" 521) none (.ref 233) (.ref 227) 0)),#[]⟩),(235,tE),(236,fE),(237,nT 684 ["self"]),(238,tE),(239,pC fK),(240,pC cO),(241,pC fO),(242,tE),(243,fE),(244,nT 692 ["self"]),(245,tE),(246,pD fK),(247,pD cO),(248,pD fO),(249,tE),(250,fE),(251,nT 699 ["self"]),(252,tE),(253,pE fK),(254,pE cO),(255,pE fO),(256,⟨(.type "tuple"),none,(.seq #[(sN "actual" 704),(sN "expected" 705),(sN "value" 706)] 0),#[]⟩),(257,⟨(.type "dict"),none,(.dict #[dE P "index" 714 (.int 0 708),dE P "__doc__" 716 (sN "Alias for field number 0" 709)] 2),#[]⟩),(258,⟨(.ref 173),(some 257),.plain,#[]⟩),(259,⟨(.type "frame"),none,(.dict #[dE P "self" 710 (.ref 258),dE P "index" 711 (.int 0 708),dE P "doc" 712 (sN "Alias for field number 0" 709)] 3),#[]⟩),(260,⟨(.type "dict"),none,(.dict #[dE P "index" 724 (.int 1 718),dE P "__doc__" 726 (sN "Alias for field number 1" 719)] 2),#[]⟩),(261,⟨(.ref 173),(some 260),.plain,#[]⟩),(262,⟨(.type "frame"),none,(.dict #[dE P "self" 720 (.ref 261),dE P "index" 721 (.int 1 718),dE P "doc" 722 (sN "Alias for field number 1" 719)] 3),#[]⟩),(263,⟨(.type "dict"),none,(.dict #[dE P "index" 734 (.int 2 728),dE P "__doc__" 736 (sN "Alias for field number 2" 729)] 2),#[]⟩),(264,⟨(.ref 173),(some 263),.plain,#[]⟩),(265,⟨(.type "frame"),none,(.dict #[dE P "self" 730 (.ref 264),dE P "index" 731 (.int 2 728),dE P "doc" 732 (sN "Alias for field number 2" 729)] 3),#[]⟩),(266,tE),(267,⟨(.type "list"),none,(.seq #[] 0),#[]⟩),(268,pO P),(269,mP P),(270,pM P),(271,⟨(.type "super"),none,(.fields #[(.ref 269),(.ref 269),(.ref 269)]),#[]⟩),(272,⟨(.type "builtin_function_or_method"),none,(.fields #[(.builtin "object.__init_subclass__"),(.ref 269)]),#[]⟩),(273,tE),(274,fE),(275,nT 747 ["actual","expected","s","t","m","n","NULL","result","i","elem","cnt_s","cnt_t","j","other_elem","diff"]),(276,tE),(277,pF fK),(278,pF cO),(279,pF fO),(280,tE),(281,fE),(282,pG fK),(283,pG cO),(284,pG fO),(285,tE),(286,fE),(287,nT 777 ["src","state","start","end","sign","error"]),(288,tE),(289,pH fK),(290,pH cO),(291,pH fO),(292,tE),(293,fE),(294,pI fK),(295,pI cO),(296,pI fO),(297,tE),(298,fE),(299,nT 795 ["src","end","ahead","where"]),(300,tE),(301,pJ fK),(302,pJ cO),(303,pJ fO),(304,tE),(305,fE),(306,pK fK),(307,pK cO),(308,pK fO),(309,tE),(310,fE),(311,pL fK),(312,tm P),(313,mO P)]
def tr:Rr "frozenset" "__or__" "frozenset.__or__":=.of (owner:="frozenset") (n:="__or__") (by rw[I6,FF];lia) (by decide+kernel) (by decide+kernel) (by decide+kernel) (by first|exact .inl (by decide+kernel)|exact .inr (by decide+kernel)) (by rw[kF];lia)
def ts:Rr "frozenset" "__sub__" "frozenset.__sub__":=.of (owner:="frozenset") (n:="__sub__") (by rw[I6,FF];lia) (by decide+kernel) (by decide+kernel) (by decide+kernel) (by first|exact .inl (by decide+kernel)|exact .inr (by decide+kernel)) (by rw[kF];lia)
def zG(a b:ab):L' "frozenset.__or__" ⟨[a,b],[]⟩:=by unfold L';rw[Mi (id:="frozenset.__or__") (n:=['_','_','r','o','_','_']) (o:=['t','e','s','n','e','z','o','r','f']) (by lia) Kt];lia
def zH(a b:ab):L' "frozenset.__sub__" ⟨[a,b],[]⟩:=by unfold L';rw[Mi (id:="frozenset.__sub__") (n:=['_','_','b','u','s','_','_']) (o:=['t','e','s','n','e','z','o','r','f']) (by lia) Kt];lia
noncomputable def pP(a:Ctx):aq:=⟨a.handled,Tn a.below,none,none,unitsOf a.below⟩
def tt(VM:Ctx):VM.Below (pP VM):=⟨rfl,aB _,λ _ VL=>(by cases VL),λ _ VL=>(by cases VL),aB _⟩
def tu{b:Ob}{a d:Obj}(A:b.Γ.code=.call (.builtin "frozenset.__or__") ⟨[.ref h,.ref Q],[]⟩)(E:IH h b.before.n=true)(J:IH Q b.before.n=true)(u:b.before.tree.get h=some a)(v:b.before.tree.get Q=some d)(f:bk Vl c a G)(m:bk Vl c d [j])(ne:h≠Q)(H:Met G.length)(s:G≠[])(L:G.length<=3\/32<=G.length)(M:j∉G)(z:b.r=.ok (.ret (.ref b.before.n)))(y:b.after=⟨b.before.tree.ins b.before.n (e8 c.params a d),b.before.n+1,b.before.life,b.before.gens,b.before.drawn,b.before.toks,b.before.os⟩)(D:((b.before.tree.ins b.before.n (e8 c.params a d)).get b.before.n).isSome=true):b.Valid Vl c:=by
 have i:∀{o:Obj}{G:List Str},bk Vl c o G->alive o=some o:=λ{o G}g=>by
  obtain⟨_,_,_,U,T,t,B,_⟩:=g;obtain⟨V,Y,VL,VM⟩:=o;subst B;rfl
 have k:=db E u (i f);have O:b.before.abs.heap.objs.size=b.before.n:=PF _ _ _;have C:JO (au Vl c) (pP b.Γ) (.call (.builtin "frozenset.__or__") ⟨[.ref h,.ref Q],[]⟩) (λ N p=>N=b.r/\p=b.after.abs) b.before.abs:=by
  refine Ii tr.plain zv (tr.check _ _ _ _ _ _ _ _ (f.type k) (zG _ _) (zp ne k (db J v (i m)) f m H s L M ⟨by rw[z,O],?_⟩));simp only[y];unfold Nd;dsimp only;rw[SP D]
 refine bS (C b.Γ b.p A (tt _)) λ VN p n e q=>?_;simp only[e,q]at n;exact n
def zI{b:Ob}{a d:Obj}(B:b.Γ.code=.call (.builtin "frozenset.__sub__") ⟨[.ref h,.ref Q],[]⟩)(H:IH h b.before.n=true)(L:IH Q b.before.n=true)(u:b.before.tree.get h=some a)(v:b.before.tree.get Q=some d)(f:bk Vl c a G)(n:bk Vl c d [j])(ne:h≠Q)(J:Met G.length)(A:32<=G.length)(M:j∈G)(z:b.r=.ok (.ret (.ref b.before.n)))(y:b.after=⟨b.before.tree.ins b.before.n (eQ c.params a d),b.before.n+1,b.before.life,b.before.gens,b.before.drawn,b.before.toks,b.before.os⟩)(E:((b.before.tree.ins b.before.n (eQ c.params a d)).get b.before.n).isSome=true):b.Valid Vl c/\hL Vl c (eQ c.params a d) G:=by
 have k:∀{o:Obj}{G:List Str},bk Vl c o G->alive o=some o:=λ{o G}g=>by
  obtain⟨_,_,_,Y,V,t,D,_⟩:=g;obtain⟨VL,VM,VN,VO⟩:=o;subst D;rfl
 have m:=db H u (k f);have T:b.before.abs.heap.objs.size=b.before.n:=PF _ _ _;have C:JO (au Vl c) (pP b.Γ) (.call (.builtin "frozenset.__sub__") ⟨[.ref h,.ref Q],[]⟩) (λ O q=>(O=b.r/\q=b.after.abs)/\hL Vl c (eQ c.params a d) G) b.before.abs:=by
  refine Ii ts.plain zw (ts.check _ _ _ _ _ _ _ _ (f.type m) (zH _ _) (zq ne m (db L v (k n)) f n J A M λ i=>⟨⟨by rw[z,T],?_⟩,i⟩));simp only[y];unfold Nd;dsimp only;rw[SP E]
 refine aj λ U=>?_;refine bS (C b.Γ b.p B (tt _)) λ VP q p N i=>?_;refine am N λ e s=>?_;refine U ?_;simp only[e,s]at p;exact⟨p,i⟩
def zJ{b:Ob}{g:List (Option Obj×Obj)}(k:b.Γ.code=.builtin "set.update.loop" ⟨[.ref h,U],[]⟩)(j:∀q:Nat->Pos,q 0=b.p->fF (Lf Kl) Vl c h U b.Γ q 60 0 [] (g5 c.params) b.before []=some (b.after,g,G,O))(m:∀e∈g,e.1=some e.2)(l:b.r=.ok (.ret .none)):b.Valid Vl c:=by
 refine bS ((Na (au Vl c) b.Γ (λ r f=>r=.ok (.ret .none)/\f=b.after.abs) b.p b.before.abs).mpr (zA k 60 0 (p:=b.p) (ti Vl c) (by decide) j m)) λ n f d e i=>?_;simp only[e,i,<-l]at d;exact d
section
set_option genInjectivity false
noncomputable def cm:Nx->Sem Fin:=Uz Uy
def jt:cm=Lf Kl:=by
 unfold cm;rw[<-UB,<-UA,<-table_eq_tree]
noncomputable def ju(c:Nx->Sem Fin)(w:ar)(q:Nat->Pos)(b:Ctx)(s:fl):Option (fl×List (Option Obj×Obj)×List Str×Obj):=match b.code with
 |.builtin _ ⟨[.ref a,d],[]⟩=>fF c P0 w a d b q 60 0 [] (g5 w.params) s []|_=>none
noncomputable def gA(d:Nx->Sem Fin)(w:ar)(c:Ctx)(p:Pos)(s:fl):Option (JJ×fl):=match c.code with
 |.builtin id _=>match id=="set.update.loop"with
  |true=>match ju d w (λ _=>p) c s with
   |some r=>some (.ok (.ret .none),r.1)|none=>none
  |ap=>none
 |.call (.builtin id) ⟨[.ref l,.ref r],[]⟩=>match s.tree.get l,s.tree.get r with
  |some a,some b=>match id=="frozenset.__or__"with
   |true=>some (.ok (.ret (.ref s.n)),⟨s.tree.ins s.n (e8 w.params a b),s.n+1,s.life,s.gens,s.drawn,s.toks,s.os⟩)|ap=>match id=="frozenset.__sub__"with
    |true=>some (.ok (.ret (.ref s.n)),⟨s.tree.ins s.n (eQ w.params a b),s.n+1,s.life,s.gens,s.drawn,s.toks,s.os⟩)|ap=>none
  |_,_=>none
 |_=>none
noncomputable def pQ(P:a3):BT:=.node (MO P) (.node (QN P) (.node (boot_o_3 P) (.node (SN P) .nil .nil) .nil) (.node (SO P) (.node (SK P) .nil .nil) .nil)) (.node (boot_o_2 P) (.node (PE P) (.node (SM P) .nil .nil) .nil) (.node (boot_o_6 P) (.node (RL P) .nil .nil) .nil))
def zK(w:ar):R4 (pQ w.params) 11 {}=Nu w.params:=by lia
noncomputable def pR(P:a3)(a:J7):fl:=⟨pQ P,11,{},#[],boot_drawn,boot_toks,a⟩
noncomputable def jv(VM:Nx->Sem Fin)(VL:ar)(a:J7):Option (End×fl×List Ob):=kQ VM P0 VL (gA VM VL) 8000 ⟨.builtin "claim.caller" {},none,none,[],none⟩ b2 (pR VL.params a) [] (topStub P0).cur
noncomputable def lp(w:ar)(q:Nat->Pos)(b:Ob):=ju cm w (λ j=>match j with|0=>b.p|j+1=>q j) b.Γ b.before
noncomputable def ca(w:ar)(b:Ob):=ju cm w (λ _=>b.p) b.Γ b.before
noncomputable def cps(a:List Str):List (List Nat):=a.map λ x=>x.cps.toList
structure dV where
 loops:List (Option (fl×List (Option Obj×Obj)×List Str×Obj))seen:List (Option (List (Option Obj)))keys:List (Option (List (List Nat)))codes:List Nx
 mR:List (Option Obj)size:Nat
 toks:Nat
 gens:Nat
 life:Life
 drawn:Qb
 os:J7
 objs:List (Option Obj)kX:Bool
 blt:Option Str×List (Str×ab)bounds:List (Nat×Bool)
noncomputable def pS:Array KI->Nat
 |⟨[.finished]⟩=>1|_=>0
noncomputable def pT(a h:a7)(s:aa):Bool:=staticsOk [] a h&&namesBound P0 h&&gensDone s&&laidKept a h&&h.accountedOkI []&&h.isNs FG&&h.isNs IV&&h.bmainOk
noncomputable def mS(VL:ar)(q:Nat->Pos):Option (End×fl×List Ob)->Option dV
 |some (.ret (.ok (.ret .none)),S,[j,i,h,g,f,e,d,c,a])=>some {
  loops:=[lp VL q a,lp VL q c,lp VL q e,lp VL q g,lp VL q h,lp VL q j]
  seen:=[a,c,e,g,h,j].map λ VM=>(ca VL VM).map λ r=>r.2.1.map (·.1)
  keys:=[a,c,e,g,h,j].map λ VM=>(ca VL VM).map λ r=>cps r.2.2.1
  codes:=[a,c,d,e,f,g,h,i,j].map λ VM=>VM.Γ.code
  mR:=[d.before.tree.get 29,d.before.tree.get 34,f.before.tree.get 38,f.before.tree.get 39,i.before.tree.get 44,i.before.tree.get 48,S.tree.get 43,S.tree.get 52,S.tree.get 53]++[0,1,4,5,7,8,9,10].map S.tree.get
  size:=S.n
  toks:=S.toks
  gens:=pS S.gens
  life:=S.life
  drawn:=S.drawn
  os:=S.os
  objs:=(d8 VL.params).map λ p=>(S.tree.get p.1).map gf
  kX:=pT (Nu VL.params) S.abs.heap S.abs
  blt:=S.abs.heap.bltView
  bounds:=[d,f,i].map λ VM=>(VM.before.n,(VM.after.tree.get VM.before.n).isSome)}|_=>none
noncomputable def eR(r:Option (fl×List (Option Obj×Obj)×List Str×Obj)):Obj:=match r with
 |some r=>r.2.2.2|none=>⟨.none,none,.plain,#[]⟩
noncomputable def mT(VL:ar)(a:J7):Option (End×fl×List Ob)->Option dV
 |some (.ret (.ok (.ret .none)),S,[VR,f,VQ,VP,d,VO,c,VN,VM])=>some {
  loops:=[ca VL VM,ca VL VN,ca VL VO,ca VL VP,ca VL VQ,ca VL VR]
  seen:=[VM,VN,VO,VP,VQ,VR].map λ VS=>(ca VL VS).map λ r=>r.2.1.map (λ e=>some e.2)
  keys:=[some ((a1 32).reverse.map λ i=>[i]),some [[127]],some [[9]],some [[9],[32]],some [[10]],some ([70,69,68,67,66,65,102,101,100,99,98,97,57,56,55,54,53,52,51,50,49,48].map λ i=>[i])]
  codes:=[.builtin "set.update.loop" ⟨[.ref 29,.ref 28],[]⟩,.builtin "set.update.loop" ⟨[.ref 34,.ref 35],[]⟩,.call (.builtin "frozenset.__or__") ⟨[.ref 29,.ref 34],[]⟩,.builtin "set.update.loop" ⟨[.ref 39,.ref 40],[]⟩,.call (.builtin "frozenset.__sub__") ⟨[.ref 38,.ref 39],[]⟩,.builtin "set.update.loop" ⟨[.ref 44,.ref 45],[]⟩,.builtin "set.update.loop" ⟨[.ref 48,.ref 49],[]⟩,.call (.builtin "frozenset.__or__") ⟨[.ref 44,.ref 48],[]⟩,.builtin "set.update.loop" ⟨[.ref 53,.ref 54],[]⟩]
  mR:=[some (eR (ca VL VM)),some (eR (ca VL VN)),some (e8 VL.params (eR (ca VL VM)) (eR (ca VL VN))),some (eR (ca VL VO)),some (eR (ca VL VP)),some (eR (ca VL VQ)),some (eQ VL.params (e8 VL.params (eR (ca VL VM)) (eR (ca VL VN))) (eR (ca VL VO))),some (e8 VL.params (eR (ca VL VP)) (eR (ca VL VQ))),some (eR (ca VL VR))]++[MO VL.params,QN VL.params,PE VL.params,SO VL.params,SN VL.params,SM VL.params,SK VL.params,RL VL.params].map some
  size:=314
  toks:=814
  gens:=1
  life:={}
  drawn:={}
  os:=a
  objs:=(d8 VL.params).map λ p=>some p.2
  kX:=true
  blt:=Rp
  bounds:=[(38,true),(43,true),(52,true)]}|_=>some ⟨[],[],[],[],[],0,0,0,{},{},{},[],ap,(none,[]),[]⟩
noncomputable abbrev hQ(VL:ar):Prop:=(λ os q=>mS VL q (jv cm VL os))=λ os q=>mT VL os (jv cm VL os)
def zL(w:ar):hQ ((w.withFollow "special-get-raises" ap).withFollow "comprehension-iter-twice" ap):=by lia
def zM(w:ar):hQ ((w.withFollow "special-get-raises" ap).withFollow "comprehension-iter-twice" true):=by lia
def zN(w:ar):hQ ((w.withFollow "special-get-raises" true).withFollow "comprehension-iter-twice" ap):=by lia
def zO(w:ar):hQ ((w.withFollow "special-get-raises" true).withFollow "comprehension-iter-twice" true):=by lia
def zP(w:ar):hQ w:=byRow2 "comprehension-iter-twice" (P:=hQ) (λ w=>byRow2 "special-get-raises" (P:=λ w=>hQ (w.withFollow "comprehension-iter-twice" ap)) zL zN w) (λ w=>byRow2 "special-get-raises" (P:=λ w=>hQ (w.withFollow "comprehension-iter-twice" true)) zM zO w) w
end
def g7(a:Step):Prop:=∀f s,a≠.halt (.done f) s
def fG{t:U6}:g7 (.go q t):=λ _ _ h=>by cases h
def mU[Decidable Vj]{a b:Step}(d:g7 a)(e:g7 b):g7 (if Vj then a else b):=by
 split;·exact d
 ·exact e
def zQ{m:Nx->Sem Fin}{t:U6}(h:MT t=ap):g7 (step m Vl c q t):=by
 obtain⟨i,d,drawn,toks,os⟩:=q;obtain⟨j,code,z,UQ⟩:=t;cases j with
 |pure x=>cases x with
  |done u=>cases UQ with
   |nil=>cases h|cons f r=>cases f<;>exact fG
  |again b=>exact fG
 |raise e=>cases UQ with
  |nil=>exact mU (λ _ _ h=>by cases h) (λ _ _ h=>by cases h)|cons f r=>cases f<;>exact fG
 |finish e=>exact mU (λ _ _ h=>by cases h) (λ _ _ h=>by cases h)|load a o k=>
  show g7 (match i.get? a with|some _=>_|none=>_);cases i.get? a;·exact λ _ _ h=>by cases h
  ·exact fG|update a o g k=>exact mU fG (λ _ _ h=>by cases h)|choose a n k=>exact mU (λ _ _ h=>by cases h) fG|genState g k=>
  show g7 (match d[g]? with|none=>_|some _=>_);cases d[g]?;·exact λ _ _ h=>by cases h
  ·exact fG|resume g r l k=>
  show g7 (match d[g]? with|none=>_|some (.fresh b)=>_|some (.suspended y _ b p frames _)=>_|some .running=>_|some .finished=>_);cases d[g]? with
  |none=>exact λ _ _ h=>by cases h|some st=>cases st with
   |fresh b=>cases r with
    |send v=>cases v<;>exact fG|throw=>exact fG
   |_=>exact fG
 |«yield»v g l k=>
  show g7 (match splitAtGen UQ with|some (frames,(g,k,b,p),A)=>_|none=>_);cases splitAtGen UQ with
  |none=>exact λ _ _ h=>by cases h|some=>exact fG
 |unsupported|register|fork|await=>exact λ _ _ h=>by cases h|_=>exact fG
theorem tv{d:Nx->Sem Fin}{e:eH}{w:ar}:∀(n:Nat)(s:aa)(t:U6)(f:PI)(g:aa),N5 d e w n s t=.halted (.done f) g->∃m i,N5 d e w m s t=.running g i/\MT i=true
 |0,_,_,_,_,h=>by cases h|n+1,s,t,f,g,h=>by
   unfold N5 at h;cases c:step d e w s t with
   |go j k=>
     rw[c]at h;refine aj λ l=>aW (tv n j k f g h) λ m i a b=>l ?_;exact dw (m+1) i (by unfold N5;rw[c];exact a) b|halt o j=>
     simp only[c]at h;cases h;refine dw (0) t ?_ ?_;·rw[step_halt_same d e w s _ t (.done f) c];rfl
     · rcases q:MT t with _|_;·exact(zQ q f _ c).elim
       ·rfl
def zR{t:U6}{f:PI}(v:q.asleep)(h:(au Vl c).runN a q t=.halted (.done f) H):∃m g d,schedN (Lf Kl) Vl c m (.single q t)=.running (.single d g)/\MT g=true/\d.forget=H.forget/\d.heap.life=q.heap.life:=by
 refine aj λ x=>ci (runNI_real _ _ _ h rfl) λ d j p o=>?_;have u:∀k i,N5 (Lf Kl) Vl c k q t≠.halted (.unsupported "lifetime:generator-with-cleanup-left-suspended") i:=by
  intro k i r;have e:=runN_mono (Lf Kl) Vl c a k q t _ d j;have b:=runN_mono (Lf Kl) Vl c k a q t _ i r;rw[IE,b]at e;injection e with l _;cases l
 exact aW (tv a q t f d j) λ m g e b=>x (kP m g d ((schedN_eq_runN (Lf Kl) Vl c q t v ⟨o,u⟩ m).trans (congrArg Run.lift e)) b p (runN_life_running e))
def mV{L:List (List Nat)}(h:cps G=L):G.length=L.length:=by refine h▸?_;simp[cps]
def mW:j∈G↔j.cps.toList∈cps G:=by
 unfold cps;constructor;·exact λ h=>hp.mpr ⟨j,h,rfl⟩
 · intro h;refine ak (hp.mp h) λ y c e=>?_;obtain⟨⟨a⟩⟩:=j;obtain⟨⟨b⟩⟩:=y;obtain rfl:=e;exact c
def pU{L:List Nat}(h:cps G=[L]):G=[⟨⟨L⟩⟩]:=by match G,h with
 |[⟨⟨l⟩⟩],h=>unfold cps at h;simp only[uW,Ki,OE,and_true]at h;rw[h]|[],h=>cases h|_::_::_,h=>cases h
def jw{b:Ob}{L:List (List Nat)}(g:b.Γ.code=.builtin "set.update.loop" ⟨[.ref h,U],[]⟩)(u:∀q,lp c q b=ca c b)(l:((ca c b).map λ r=>r.2.1.map (·.1))=(ca c b).map λ r=>r.2.1.map (λ e=>some e.2))(i:((ca c b).map λ r=>cps r.2.2.1)=some L)(d:b.g3 (gA cm c)):b.Valid P0 c/\∃f,cps f=L/\bk P0 c (eR (ca c b)) f:=by
 have n:ca c b=fF (Lf Kl) P0 c h U b.Γ (λ _=>b.p) 60 0 [] (g5 c.params) b.before []:=by unfold ca ju;rw[g,jt]
 have eq:∀q,lp c q b=fF (Lf Kl) P0 c h U b.Γ (λ j=>match j with|0=>b.p|j+1=>q j) 60 0 [] (g5 c.params) b.before []:=λ q=>by unfold lp ju;(try rw[g,jt]);try rfl
 unfold Ob.g3 gA at d;rw[g]at d;dsimp only at d;rw[show("set.update.loop"=="set.update.loop")=true from rfl]at d;dsimp only at d;have p:ju cm c (λ _=>b.p) b.Γ b.before=ca c b:=rfl;rw[p]at d;rcases k:ca c b with _|r;·rw[k]at d;exact aQ d
 · rw[k]at d l i;simp only[Kd,LQ]at d;simp only[IF,Kd]at l i;obtain⟨S,seen,f,o⟩:=r;obtain⟨s,m⟩:=d;dsimp only at m l i;refine⟨zJ (g:=seen) (G:=f) (O:=o) g (λ q v=>?_) (λ e t=>?_) s.symm,f,i,(zB _ (n.symm.trans k) (ti P0 c)).1⟩
   · have :=(eq (λ j=>q (j+1))).symm.trans ((u _).trans k);rw[<-m];rw[show q=(λ j=>match j with|0=>b.p|j+1=>q (j+1))from funext λ j=>by cases j with|zero=>exact v|succ j=>rfl];exact this
   · have :=OS.mp l e t;exact this
structure kY(VL:ar)(os:J7)(S:fl):Prop where
 runs:Ub (au P0 VL) ⟨.builtin "claim.caller" {},none,none,[],none⟩ b2 (topStub P0).cur [] (pR VL.params os).abs (.ret (.ok (.ret .none))) S.abs
 size:S.n=314
 toks:S.toks=814
 gens:pS S.gens=1
 life:S.life={}drawn:S.drawn={}zS:S.os=os
 objs:((d8 VL.params).map λ p=>(S.tree.get p.1).map gf)=(d8 VL.params).map λ p=>some p.2
 kX:pT (Nu VL.params) S.abs.heap S.abs=true
 blt:S.abs.heap.bltView=Rp
 jx:∃o a,S.tree.get 43=some o/\hL P0 VL o a/\cps a=((a1 32).reverse.map λ i=>[i])++[[127]]jy:∃o a,S.tree.get 52=some o/\bk P0 VL o a/\cps a=[[9],[32],[10]]jz:∃o a,S.tree.get 53=some o/\bk P0 VL o a/\cps a=[70,69,68,67,66,65,102,101,100,99,98,97,57,56,55,54,53,52,51,50,49,48].map λ i=>[i]old:([0,1,4,5,7,8,9,10].map S.tree.get)=[MO VL.params,QN VL.params,PE VL.params,SO VL.params,SN VL.params,SM VL.params,SK VL.params,RL VL.params].map some
def bt{l d:List Vd}(h:l=d)(k:Nat){a b:Vd}(c:l[k]?=some a)(e:d[k]?=some b):a=b:=by
 simp only[h,e]at c;exact(ax c).symm
def tw{a b:Obj}(d:bk P0 c a G)(e:bk P0 c b [j])(g:Met G.length)(h:j∉G):bk P0 c (e8 c.params a b) (G++[j]):=by exact aj λ i=>eb (mK e) λ k t l f _=>i ((td d g h f).2)
def tx{b:Ob}{d e:Obj}(i:b.Γ.code=.call (.builtin "frozenset.__or__") ⟨[.ref h,.ref Q],[]⟩)(f:b.before.tree.get h=some d)(g:b.before.tree.get Q=some e)(a:b.g3 (gA cm c)):b.r=.ok (.ret (.ref b.before.n))/\b.after=⟨b.before.tree.ins b.before.n (e8 c.params d e),b.before.n+1,b.before.life,b.before.gens,b.before.drawn,b.before.toks,b.before.os⟩:=by
 unfold Ob.g3 gA at a;rw[i]at a;dsimp only at a;rw[f,g]at a;rw[show("frozenset.__or__"=="frozenset.__or__")=true from rfl]at a;simp only[Kd,LQ]at a;exact⟨a.1.symm,a.2.symm⟩
def zT{b:Ob}{d e:Obj}(i:b.Γ.code=.call (.builtin "frozenset.__sub__") ⟨[.ref h,.ref Q],[]⟩)(f:b.before.tree.get h=some d)(g:b.before.tree.get Q=some e)(a:b.g3 (gA cm c)):b.r=.ok (.ret (.ref b.before.n))/\b.after=⟨b.before.tree.ins b.before.n (eQ c.params d e),b.before.n+1,b.before.life,b.before.gens,b.before.drawn,b.before.toks,b.before.os⟩:=by
 unfold Ob.g3 gA at a;rw[i]at a;dsimp only at a;rw[f,g]at a;rw[show("frozenset.__sub__"=="frozenset.__or__")=ap from rfl]at a;rw[show("frozenset.__sub__"=="frozenset.__sub__")=true from rfl]at a;simp only[Kd,LQ]at a;exact⟨a.1.symm,a.2.symm⟩
def zU{os:J7}{S:fl}{u j t s g r f p n:Ob}(F:∀o∈[u,j,t,s,g,r,f,p,n],o.g3 (gA cm c))(H:∀q,mS c q (some (.ret (.ok (.ret .none)),S,[u,j,t,s,g,r,f,p,n]))=mT c os (some (.ret (.ok (.ret .none)),S,[u,j,t,s,g,r,f,p,n]))):(∀o∈[u,j,t,s,g,r,f,p,n],o.Valid P0 c)/\(∃o e,S.tree.get 43=some o/\hL P0 c o e/\cps e=((a1 32).reverse.map λ i=>[i])++[[127]])/\(∃o e,S.tree.get 52=some o/\bk P0 c o e/\cps e=[[9],[32],[10]])/\∃o e,S.tree.get 53=some o/\bk P0 c o e/\cps e=[70,69,68,67,66,65,102,101,100,99,98,97,57,56,55,54,53,52,51,50,49,48].map λ i=>[i]:=by
 refine(λ L Ls Lk a d x=>?_) (λ q=>congrArg dV.loops (ax (H q))) (congrArg dV.seen (ax (H λ _=>b2))) (congrArg dV.keys (ax (H λ _=>b2))) (congrArg dV.codes (ax (H λ _=>b2))) (congrArg dV.mR (ax (H λ _=>b2))) (congrArg dV.bounds (ax (H λ _=>b2)));clear H;have o:∀{k:Nat}{b:Ob},[u,j,t,s,g,r,f,p,n][k]?=some b->b.g3 (gA cm c):=λ h=>F _ (ct h);clear F;refine(λ N O Q T U V Y VL VM f g j V3 V4 V5 V7 V8 V9 V' Wa Wb=>(aj λ Wo=>?_)) (bt a 2 rfl rfl) (bt a 4 rfl rfl) (bt a 7 rfl rfl) (bt d 0 rfl rfl) (bt d 1 rfl rfl) (bt d 2 rfl rfl) (bt d 3 rfl rfl) (bt d 4 rfl rfl) (bt d 5 rfl rfl) (bt x 0 rfl rfl) (bt x 1 rfl rfl) (bt x 2 rfl rfl) (bt d 6 rfl rfl) (bt d 7 rfl rfl) (bt d 8 rfl rfl) (jw (bt a 0 rfl rfl) (λ q=>bt (L q) 0 rfl rfl) (bt Ls 0 rfl rfl) (bt Lk 0 rfl rfl) (o (k:=8) rfl)) (jw (bt a 1 rfl rfl) (λ q=>bt (L q) 1 rfl rfl) (bt Ls 1 rfl rfl) (bt Lk 1 rfl rfl) (o (k:=7) rfl)) (jw (bt a 3 rfl rfl) (λ q=>bt (L q) 2 rfl rfl) (bt Ls 2 rfl rfl) (bt Lk 2 rfl rfl) (o (k:=5) rfl)) (jw (bt a 5 rfl rfl) (λ q=>bt (L q) 3 rfl rfl) (bt Ls 3 rfl rfl) (bt Lk 3 rfl rfl) (o (k:=3) rfl)) (jw (bt a 6 rfl rfl) (λ q=>bt (L q) 4 rfl rfl) (bt Ls 4 rfl rfl) (bt Lk 4 rfl rfl) (o (k:=2) rfl)) (jw (bt a 8 rfl rfl) (λ q=>bt (L q) 5 rfl rfl) (bt Ls 5 rfl rfl) (bt Lk 5 rfl rfl) (o (k:=0) rfl));obtain⟨Wf,m,y,B⟩:=V7;obtain⟨Wg,Wp,VZ,C⟩:=V8;obtain⟨Wi,Wq,V0,VW⟩:=V9;obtain⟨Wk,v,A,D⟩:=V';obtain⟨Wl,Wr,V1,E⟩:=Wa;obtain⟨Wn,Ws,V2,VY⟩:=Wb;clear L Ls Lk a d x;obtain rfl:=pU VZ;obtain rfl:=pU V0;obtain rfl:=pU V1;have l:m.length=32:=(mV y).trans (by simp);have z:v.length=2:=mV A;have m1:Met m.length:=.inr (by rw[l];decide);have VQ:Met v.length:=.inl (by rw[z];decide);have VU:(⟨⟨[127]⟩⟩:Str)∉m:=by rw[mW,y];decide
 have VV:(⟨⟨[10]⟩⟩:Str)∉v:=by rw[mW,A];decide
 refine am (JW f) λ VR VN=>am (JW g) λ VS VO=>am (JW j) λ VT VP=>am (tx N T U (o (k:=6) rfl)) λ Wc G=>am (tx Q VL VM (o (k:=1) rfl)) λ We M=>am (zT O V Y (o (k:=4) rfl)) λ Wd J=>?_;have Wh:=tu N (by rw[VR];rfl) (by rw[VR];rfl) T U B C (by decide) m1 (λ h=>by rw[h]at l;cases l) (.inr (j7 l)) VU Wc G (by rw[G]at VN;exact VN);have Wm:=tu Q (by rw[VT];rfl) (by rw[VT];rfl) VL VM D E (by decide) VQ (λ h=>by rw[h]at z;cases z) (.inl (j4 (j6 z) bE)) VV We M (by rw[M]at VP;exact VP);refine am (zI O (by rw[VS];rfl) (by rw[VS];rfl) V Y (tw B C m1 VU) VW (by decide) (.inr (by simp[l])) (by simp[l]) (by rw[mW];unfold cps;rw[fs];refine Ip _ ?_;show _∈cps m;rw[y];decide) Wd J (by rw[J]at VO;exact VO)) λ Wj VX=>?_;refine Wo (iD (II.mpr ⟨Wn,(II.mpr ⟨Wm,(II.mpr ⟨Wl,(II.mpr ⟨Wk,(II.mpr ⟨Wj,(II.mpr ⟨Wi,(II.mpr ⟨Wh,(II.mpr ⟨Wg,(II.mpr ⟨Wf,(λ _ h=>by cases h)⟩)⟩)⟩)⟩)⟩)⟩)⟩)⟩)⟩) ⟨_,_,V3,VX,?_⟩ ⟨_,_,V4,tw D E VQ VV,?_⟩ ⟨_,_,V5,VY,V2⟩);·unfold cps;rw[fs];show cps m++_=_;rw[y];rfl
 ·unfold cps;rw[fs];show cps v++_=_;rw[A];rfl
inductive ty:Option e7->Prop|mk(S VT VS VR VQ VP VO VN VM VL):ty (some (.ret (.ok (.ret .none)),S,[VT,VS,VR,VQ,VP,VO,VN,VM,VL]))
def zV{a:J7}{q:Nat->Pos}(r:Option e7)(h:mS c q r=mT c a r):ty r:=by
 obtain _|⟨e,S,l⟩:=r;·exact aQ h
 cases e with
 |susp=>exact aQ h|ret r=>
  rcases r with _|f;·exact aQ h
  ·cases f with
   |ret v=>cases v with
    |none=>
     iterate 9
      obtain _|⟨_,l⟩:=l;·exact aQ h
     cases l;·exact⟨_,_,_,_,_,_,_,_,_,_⟩
     ·exact aQ h|_=>exact aQ h
   |_=>exact aQ h
def zW(VL:ar)(os:J7):∃S,kY VL os S:=by
 have H:∀q,mS VL q (jv cm VL os)=mT VL os (jv cm VL os):=λ q=>congrFun (congrFun (zP VL) os) q;generalize b:jv cm VL os=r at H;refine aj λ i=>?_;obtain⟨S,t,s,p,o,n,m,l,k,j⟩:=zV _ (H λ _=>b2);unfold jv at b;refine am (sP P0 VL (gA cm VL) _ _ _ _ _ _ _ (by rw[<-jt];exact b)) λ h R=>?_;refine ak h λ new e g=>?_;simp only[IY]at e;refine iB (zU (e▸g) H) λ V c d f=>i ?_;have a:=ax (H λ _=>b2);exact⟨S,R V,congrArg dV.size a,congrArg dV.toks a,congrArg dV.gens a,congrArg dV.life a,congrArg dV.drawn a,congrArg dV.os a,congrArg dV.objs a,congrArg dV.kX a,congrArg dV.blt a,c,d,f,congrArg (SE 9) (congrArg dV.mR a)⟩
noncomputable def c8(a:ae):Bool:=QR a 106||QR a 120||QR a 310
noncomputable def hR:Str:=ac "suffixed_err.<locals>.coord_repr"
noncomputable def eS:Str:=ac "law.<locals>.<lambda>"
noncomputable def iJ:Io:=(bB [19]).getD 1 b2
noncomputable def kZ:List Io:=(cE iJ).body
noncomputable def gB:List (Pos×Str):=kZ.filterMap λ st=>d7 (st.ctorIdx==0) (some ((cE st).pos,ac "cmp_to_key.<locals>.K."++(cE st).name))
def e9(h:a7)(P:ae)(q:Str):Prop:=∃VL,h.get? P=some (Jy VL)/\OI VL.toList/\∀b a,MH b VL.toList=some a->h.CodeRec a q
noncomputable def hS:Pos:=(cE iJ).pos
noncomputable def pV(P a:ae)(t:Nat->Tok):Obj:=⟨.type "code",none,.fields #[.str (ac "K") (t 0),.str (ac "cmp_to_key.<locals>.K") (t 1),.str (ac "/claim/cut.py") (t 2),.int 78 0,.int 0 0,.int 0 0,.int 0 0,.int 0 0,.ref a,.bool true,.int 181 0,.ref P,.none,.none,.none,.none,.int (t 3) 0,.int 78 0,.str (ac "/claim/cut.py") (t 4)],#[]⟩
noncomputable def tz(x:Nat->ae):Array ab:=(gB.zipIdx.flatMap λ d=>[JI d.1.1.line,JI d.1.1.col,.ref (x d.2)]).toArray
inductive mX(h:a7)(a:ae):Prop|mk(VL fr:ae)(t:Nat->Tok)(VN:Nat->ae)(b:314<=VL)(c:314<=a)(e:h.get? a=some (pV VL fr t))(f:h.get? VL=some (Jy (tz VN)))(g:∀(VM:Nat)d,gB[VM]?=some d->h.CodeRec (.ref (VN VM)) d.2)
noncomputable def k0(a:ae):Array ab:=#[JI hS.line,JI hS.col,.ref a]
def jA(h:a7):Prop:=h.get? 120=some (Jy #[])\/∃cK,h.get? 120=some (Jy (k0 cK))/\mX h cK
structure aC(w:ar)(h:a7):Prop where
 objs:∀p∈d8 w.params,c8 p.1=ap->∃o,h.get? p.1=some o/\gf o=p.2
 jx:∃o a,h.get? 43=some o/\hL P0 w o a/\cps a=((a1 32).reverse.map λ i=>[i])++[[127]]jy:∃o a,h.get? 52=some o/\bk P0 w o a/\cps a=[[9],[32],[10]]jz:∃o a,h.get? 53=some o/\bk P0 w o a/\cps a=[70,69,68,67,66,65,102,101,100,99,98,97,57,56,55,54,53,52,51,50,49,48].map λ i=>[i]o0:h.get? 0=some (MO w.params)o1:h.get? 1=some (QN w.params)o4:h.get? 4=some (PE w.params)g8:e9 h 106 hR
 g9:e9 h 310 eS
 g':jA h
def zX(h:(alive (gf O)).isSome=true):alive O=some O:=by
 obtain⟨c,d,a,b⟩:=O;cases a<;>first|rfl|cases h
def zY(P:a3):(d8 P).all (λ p=>(alive p.2).isSome&&IH p.1 314)=true:=by lia
def bk.alive(g:bk P0 c O G):alive O=some O:=by
 obtain⟨_,_,_,d,b,t,a,_⟩:=g;obtain⟨e,f,h,i⟩:=O;subst a;rfl
def hL.alive(g:hL P0 c O G):alive O=some O:=by
 refine eb g λ d b t a _=>?_;obtain rfl:=a;rfl
def kY.left{B:J7}{S:fl}(H:kY c B S):aC c S.abs.heap:=by
 have f:∀{a:Nat},IH a 314=true->IH a S.n=true:=λ h=>by rw[H.size];exact h
 have s:=H.old;simp only[uW,Ki,OE,and_true]at s;refine aj λ g=>sH s λ v x y D E G J C=>g ?_;have r:∀p∈d8 c.params,∃o,S.abs.heap.get? p.1=some o/\gf o=p.2:=λ p l=>by
  have e:=OS.mp H.objs p l;refine ak (bh.mp e) λ o z e=>?_;have m:=H9.mp (zY c.params) p l;refine am (x4.mp m) λ m lt=>?_;exact bj o (db (f lt) z (zX (by refine e.symm▸?_;exact m))) e
 have tab:∀P,(P,Jy #[])∈d8 c.params->S.abs.heap.get? P=some (Jy #[]):=λ P n=>by
  refine ak (r _ n) λ o a b=>?_;have :o=Jy #[]:=by
   obtain⟨j,d,u,L⟩:=o;cases u<;>first|exact b|cases b
  refine this▸?_;exact a
 have t:∀P q,(P,Jy #[])∈d8 c.params->e9 S.abs.heap P q:=λ P q n=>⟨#[],tab P n,trivial,λ _ _ e=>aQ e⟩;have A:((310:Nat),Jy #[])∈d8 c.params:=ct (i:=265) (by lia);refine⟨λ p l _=>r p l,?_,?_,?_,db (f rfl) v rfl,db (f rfl) x rfl,db (f rfl) y rfl,t _ _ (ct (i:=62) (by lia)),t _ _ A,.inl (tab 120 (ct (i:=76) (by lia)))⟩;·exact aj λ g=>bS H.jx λ o k a b j=>g ⟨o,k,db (f rfl) a b.alive,b,j⟩
 ·exact aj λ g=>bS H.jy λ o k a b j=>g ⟨o,k,db (f rfl) a b.alive,b,j⟩
 ·exact aj λ g=>bS H.jz λ o k a b j=>g ⟨o,k,db (f rfl) a b.alive,b,j⟩
def zZ:opening P0=plainProg P0.main.scope.names:=rfl
def z0(s:aa):fenceModules? P0 s=some s:=rfl
def tA:importedModules P0.main.body=[]:=rfl
def tB(P:a3):(Nu P).isNs FG=true/\(Nu P).nsMap FG "__annotations__"=some (.ref 6):=by refine⟨by lia,by lia⟩
def z1(P:a3)(a:(Nu P).get? h=some O)(g:h≠2)(i:h≠3)(j:h≠6):(h,O)∈[(0,MO P),(1,QN P),(4,PE P),(5,SO P),(7,SN P),(8,SM P),(9,SK P),(10,RL P)]:=by
 have f:∀L:List (ae×Obj),h∈L.map (·.1)->(∀q∈L,(Nu P).get? q.1=some q.2)->(h,O)∈L:=λ L d all=>by
  refine ak (hp.mp d) λ q c e=>?_;have :=ax (a.symm.trans (e▸all q c));rw[<-e,this];exact c
 exact f _ (((by decide:∀h:Nat,h<11->(h=2\/h=3\/h=6)\/h∈[0,1,4,5,7,8,9,10]) h (az a)).elim (λ q=>by rcases q with q|q|q;exact(g q).elim;exact(i q).elim;exact(j q).elim) id) (aV rfl (aV rfl (aV rfl (aV rfl (aV rfl (aV rfl (aV rfl (aV rfl dT))))))))
abbrev KO(h a:a7):Prop:=∀b o,h.get? b=some o->a.get? b=some o
abbrev KX(N:ae->Prop)(h a:a7):Prop:=∀b o,¬N b->h.get? b=some o->a.get? b=some o
def aC.eC(L:aC c s)(i:Nat)(b:(d8 c.params)[i]?=some (h,O))(f:c8 h=ap)(d:∀x,gf x=O->x=O):s.get? h=some O:=by
 refine ak (L.objs (h,O) (ct b) f) λ x e q=>?_;rw[<-d x q];exact e
def tC{d:Option ae}{a:LO}{b:Array (Option ab)}(h:gf O=⟨U,d,.cls a,b⟩):O=⟨U,d,.cls a,b⟩:=by
 obtain⟨f,g,e,i⟩:=O;cases e<;>first|exact h|cases h
def iK{d:Option ae}{b:Array OM}{e:Array (Option ab)}(h:gf O=⟨U,d,.dict b a,e⟩):O=⟨U,d,.dict b a,e⟩:=by
 obtain⟨g,i,f,j⟩:=O;cases f<;>first|exact h|cases h
def k1{d:Option ae}{a:Array (Option ab)}(h:gf O=⟨U,d,.fields VB,a⟩):O=⟨U,d,.fields VB,a⟩:=by
 obtain⟨e,f,b,g⟩:=O;cases b<;>first|exact h|cases h
noncomputable def cn(P:a3):Frag:=[(269,mP P),(268,pO P),(270,pM P),(2,hP P)]
def aC.cn(L:aC c s):(Mine.cn c.params).In s:=by
 have a:s.get? 269=some (mP c.params):=L.eC 224 (by lia) rfl λ _ e=>tC e;have b:s.get? 268=some (pO c.params):=L.eC 223 (by lia) rfl λ _ e=>iK e;have d:s.get? 270=some (pM c.params):=L.eC 225 (by lia) rfl λ _ e=>k1 e;have f:s.get? 2=some (hP c.params):=L.eC 0 (by lia) rfl λ _ e=>iK e;refine Frag.in_of (as:=[269,268,270,2]) rfl ?_;unfold Mine.cn;simp only[uW,Ki];simp only[a,b,d,f]
def jC(P:a3):mroIn (cn P) 269 (.type "tuple")=some true/\mroIn (cn P) 269 (.type "object")=some true/\mroIn (cn P) 269 (.ref 269)=some true/\instIn (cn P) (.ref 269) (.type "type")=some true:=⟨by lia,by lia,by lia,by lia⟩
def pX(P:a3):Pd (cn P) (.ref 269) (ac "__iter__")=some (some (.builtin "tuple.__iter__")):=by lia
def hT(h:a7)(T:ae)(a:Array ab):Prop:=∃o n,h.get? T=some o/\o.data=.seq a n
def z2{g:Option ab->aa->Prop}(f:q.heap.IsTupleIter h Q a)(n:hT q.heap Q VB)(p:VB[a]?=some U)(j:∀e,e.IsTupleIter h Q (a+1)->Js h q.heap e->g (some U) {q with heap:=e}):aA (au P0 c) o (KN (.ref h)) g y q:=by
 refine aj λ r=>ci (id f) λ v d k b=>aW n λ z u m l=>r ?_;unfold KN;refine af (Mh (JD (name:=ac "__next__") f.typeIs JV (IQ JV f.typeIs Qa ?_ (PZ _))));show aA _ _ (field (.ref h) 0>>=_) _ _ q;refine af (Jm d b (x:=.ref Q) rfl (bT (show¬((hk Q==I9)=true)from Jp) (af (Jm d b (x:=.int a 0) rfl (af (QG m l ?_))))));simp only[b4,p];refine af (Kk d b (aB _) (ah ⟨U,rfl,ah (j _ ?_ (gR ..))⟩));exact dU _ (cQ _ d (Nv (Lh b _))) ((Ss ..).trans k) (by rw[Lh b];rfl)
def z3{g:Option ab->aa->Prop}(k:o.handled=none)(e:q.heap.IsTupleIter h Q Vu)(r:hT q.heap Q VB)(u:VB[Vu]?=none)(l:∀j,I5 h q.heap j->g none {q with heap:=j}):aA (au P0 c) o (KN (.ref h)) g y q:=by
 refine aj λ v=>ci (id e) λ C f z d=>aW r λ D B p n=>v ?_;unfold KN;refine af (Mh (JD (name:=ac "__next__") e.typeIs JV (IQ JV e.typeIs Qa ?_ (PZ _))));show aA _ _ (field (.ref h) 0>>=_) _ _ q;refine af (Jm f d (x:=.ref Q) rfl (bT (show¬((hk Q==I9)=true)from Jp) (af (Jm f d (x:=.int Vu 0) rfl (af (QG p n ?_))))));simp only[b4,u];refine af (Jw (af (Kk f d (by simp) ?_)));refine af ?_;simp only[UX,UU];refine af (Ih ?_ (by size_fits));refine af (m:=L2 _ _) (cx (a:=I9) (by first|rfl|(simp only[L2];rfl)) ?_);refine Ih ?_ (by size_fits);unfold UT;refine af (Ri ?_);first|rw[show o.in1.handled=none from k]|rw[k]
 refine af (ah (Ok ?_));refine af (JR (T:="StopIteration") (b:=true) ⟨_,aF _ rfl,rfl⟩ U0 ?_);exact ah (l _ (((gR ..).extBut.push _).push _))
def hT.ext(x:hT s h VB)(a:I5 Q s Vm)(n:h≠Q):hT Vm h VB:=let⟨o,m,e,d⟩:=x;⟨o,m,a h o n e,d⟩
theorem tD{w:ar}{A:aq}{E:ab->aa->Prop}{b t:ae}{a:Array ab}(h:t≠b):∀(n i:Nat)(s:aa)(Q:List ab->aa->Prop),s.heap.IsTupleIter b t i->hT s.heap t a->i+n<=a.size->(∀c,c.IsTupleIter b t (i+n)->Js b s.heap c->Q ((a.toList.drop i).take n) {s with heap:=c})->aA (au P0 w) A (draw (.ref b) n) Q E s
 |0,i,s,Q,e,_,_,d=>ah (by simpa using d s.heap e (Nl ..))|n+1,i,s,Q,e,k,f,d=>by
  have g:i<a.size:=by exact jg f
  refine al (z2 e k (U:=a[i]) (by simp[g]) λ r m j=>?_);refine al (aK (tD h n (i+1) _ _ m (k.ext j.extBut h) (hD f) λ q o p=>ah ?_));have l:a.toList.drop i=a[i]::a.toList.drop (i+1):=by simp[ht,g]
  have :=d q (by simp only[show i+(n+1)=i+1+n by exact mf];exact o) (j.trans p);simp only[l,K2]at this;exact this
def z4{b:Sem ab}{Q:Option ab->aa->Prop}(X:(cn Vx).In q.heap)(g:q.heap.get? h=some O)(d:O.cls=.ref 269)(f:aA (au P0 c) o (I3 (.builtin "tuple.__iter__") [.ref h]) (λ v=>Q (some v)) y q):aA (au P0 c) o (P9 (.ref h) "__iter__" b) Q y q:=by
 have i:Jz (au P0 c) q.heap (Nc (.ref h)) (.ref 269):=d▸(Lq g).andThen .now;have j:Jz (au P0 c) q.heap (PT (.ref h) "__iter__") (some (.builtin "tuple.__iter__")):=i.andThen (K' X (pX Vx));unfold P9 bindSpecialIfBound?;refine aK (af (af (j _ _ _ _ (λ _ _ e=>e) ?_)));simp only[(Tb.bind (.ref h))];refine af (IR (wpAny_ite ?_));have fin:aA (au P0 c) o (if(NY "tuple.__iter__"==I9)=true then(b>>=λ v=>jB (some v))else(I3 (.builtin "tuple.__iter__") [.ref h]>>=λ v=>jB (some v))) Q y q:=by
  simp only[builtin_beq_none,cT,if_false];exact af (aG f (λ v k a=>ah a) λ _ _ a=>a)
 split;·exact af (ah (ah fin))
 ·exact QF (af (ah (ah fin)))
def z5(X:(cn Vx).In q.heap)(b:q.heap.get? h=some O)(a:O.cls=.ref 269)(f:Vh (.ref q.heap.objs.size) {q with heap:=q.heap.push {cls:=.type "tuple_iterator",data:=.fields #[.ref h,.int 0 0]}}):aA (au P0 c) o (LA (.ref h)) Vh y q:=by
 have d:Jz (au P0 c) q.heap (Nc (.ref h)) (.ref 269):=a▸(Lq b).andThen .now;unfold LA;refine al ((d.andThen (K' X (pX Vx))) _ _ _ _ (λ _ _ e=>e) (al (z4 X b a (Jg (Ii Tb.plain F.entry_tuple_iter (@Tq (au P0 c) _ _ q "tuple.__iter__" "tuple" "__iter__" (.ref h) [] [] _ (by decide+kernel) (by decide+kernel) (d.andThen (Ot X (jC Vx).1)) (F.args_tuple_iter_1 _) ?_))))));show aA _ _ (do ret (<-T6 "tuple_iterator" [.ref h,JI 0])) _ _ q;exact al (Ih (ah (al (NX (T:="tuple_iterator") ⟨_,aF _ rfl,rfl⟩ JV.lookup (ah f)))))
def z6{Q:List ab->aa->Prop}(t:o.handled=none)(X:(cn Vx).In q.heap)(d:q.heap.get? h=some O)(i:O.cls=.ref 269)(j:O.data=.seq VB a)(p:∀f,I5 q.heap.objs.size q.heap f->Q VB.toList {q with heap:=f}):aA (au P0 c) o (P8 (.ref h) VB.size none) Q y q:=by
 have x:Jz (au P0 c) q.heap (Nc (.ref h)) (.ref 269):=i▸(Lq d).andThen .now;have z:Jz (au P0 c) q.heap (PT (.ref h) "__iter__") (some (.builtin "tuple.__iter__")):=x.andThen (K' X (pX Vx));have k:h≠q.heap.objs.size:=br (az d);have B:hT q.heap h VB:=⟨O,a,d,j⟩;have l:hT (q.heap.push {cls:=.type "tuple_iterator",data:=.fields #[.ref h,.int 0 0]}) h VB:=⟨O,a,ao _ d,j⟩;unfold P8;refine al ?_;unfold T5;refine al (z _ _ _ _ (λ _ _ e=>e) (ah ?_));simp only[cT,if_false];refine al (aK (z5 X d i (al (aK (tD k VB.size 0 _ _ ⟨_,aF _ rfl,rfl,rfl⟩ l (iu sh) λ C u m=>?_)))));rw[show Vc VB.size (SE 0 VB.toList)=VB.toList by rw[Lz];exact lu (aB _)];refine bT (by simp) ?_;refine al (aK (z3 t u (l.ext m.extBut k) (by simp) λ v r=>?_));simp only[Ra,cT,if_false];exact ah (p v λ b O g e=>r b O g (m.extBut b O g (ao _ e)))
def pY(N:ae->Prop)(h:a7)(T:ae)(a:Array ab):Prop:=h.IsTuple T a\/∃o n,¬N T/\h.get? T=some o/\o.cls=.ref 269/\o.data=.seq a n
def tF{Q:Unit->aa->Prop}(f:o.handled=none)(L:aC c q.heap)(b:pY w q.heap h VB)(g:(K5 Vt E).length=VB.size)(i:(K5 Vt E).findIdx? (·.1)=none)(d:∀e,I5 q.heap.objs.size q.heap e->aA (au P0 c) o (Rq ((K5 Vt E).map (·.2)) VB.toList) Q y {q with heap:=e}):aA (au P0 c) o (assign (.Tuple Vt a v) E (.ref h)) Q y q:=by
 refine aH b (λ b=>?_) λ m=>?_;·exact Tj f b g i d
 · refine di m λ p n _ l j k=>?_;simp only[T9];refine af (It ?_);unfold unpack;rw[g,i];exact af (aK (z6 f L.cn l j k d))
def mY:∀{l:List Vd},l.length=a+1->∃b r,l=b::r/\r.length=a|_::_,h=>⟨_,_,rfl,MJ h⟩
def k2{l:List Vd}(h:l.length=1):∃a,l=[a]:=by
 refine aj λ c=>?_;refine aW (mY h) λ a r b q=>?_;obtain rfl:=b;exact c ⟨a,by rw[Qo.mp q]⟩
def d9{l:List Vd}(h:l.length=2):∃a b,l=[a,b]:=by
 refine aj λ d=>?_;refine aW (mY h) λ a r c q=>?_;obtain rfl:=c;refine ai (k2 q) ?_;rintro b rfl;exact d ⟨a,b,rfl⟩
def jD{l:List Vd}(h:l.length=3):∃a b c,l=[a,b,c]:=by
 refine aj λ e=>?_;refine aW (mY h) λ a r d q=>?_;obtain rfl:=d;refine cP (d9 q) ?_;rintro b c rfl;exact e ⟨a,b,c,rfl⟩
def z7{l:List Vd}(h:l.length=4):∃a b c d,l=[a,b,c,d]:=by
 refine aj λ f=>?_;refine aW (mY h) λ a r e q=>?_;obtain rfl:=e;refine iC (jD q) ?_;rintro b c d rfl;exact f ⟨a,b,c,d,rfl⟩
inductive PV|d(x:bP)|raw(v:ab)|inst(cls:ab)(l:List bP)|bare(a:ae)|exc(m:Str)|k3(m:Str)|fn(g:Str)(f:Jk)(e:List Io)(h:aw)|kept(u:ab)(L:List (ae×Obj))|gg(a b c:Int)|insts(cls:ab)(l:List (List bP))
variable{i:List (Str×PV)}{V:PV}{Vk:List PV}
structure pZ(a:Iv)(q:Str)(b:Jk)(body:List Io)(c:aw):Prop where
 params:a.params=b
 body:a.body=.stmts body
 scope:a.scope=c
 mZ:a.closure=[]glob:a.globals=FG
 blt:a.builtins=IV
 qual:a.qualname=q
 dflt:a.defaults=.none
 kw:a.kwdefaults=.none
noncomputable abbrev k4(t:ae):Obj:={cls:=.ref 66,data:=.fields #[.ref t,.none,.none,.none,.bool ap,.none]}
noncomputable abbrev ha(m:Str)(a:Tok):Obj:={cls:=.type "tuple",data:=.seq #[.str m a]}
def k5(o:Obj):Prop:=o.dict=none/\o.slots=#[]
open Classical in noncomputable def cb(X:ae->Prop)(h:a7):a7:=⟨h.objs.mapIdx λ i o=>if X i\/¬k5 o then⟨.none,none,.freed,#[]⟩else o,h.life⟩
open Classical in def dW:(cb w s).get? h=some O↔¬w h/\k5 O/\s.get? h=some O:=by
 have a:(cb w s).objs[h]?=(s.objs[h]?).map λ O=>if w h\/¬k5 O then⟨.none,none,.freed,#[]⟩else O:=QE ..;refine⟨λ g=>?_,λ q=>?_⟩
 · refine am (JM.mp g) λ g f=>ak (bh.mp (a.symm.trans g)) λ x e g=>?_;by_cases q:w h\/¬k5 x;·exact absurd f (by rw[<-g,if_pos q];exact λ q=>by cases q)
   · rw[if_neg q]at g;subst g;exact b3 (λ z=>q (.inl z)) (IK λ z=>q (.inr z)) (JM.mpr ⟨e,f⟩)
 · refine a4 q λ c d i=>am (JM.mp i) λ g f=>JM.mpr ⟨?_,f⟩;rw[a,g];exact congrArg some (if_neg λ q=>q.elim c λ q=>q d)
def dH(e:(cb w s).get? h=some O):¬w h:=(dW.mp e).1
def e'(e:(cb w s).get? h=some O):k5 O:=(dW.mp e).2.1
def dm(e:(cb w s).get? h=some O):s.get? h=some O:=(dW.mp e).2.2
def gh(k:KX w s Vm):KO (cb w s) (cb w Vm):=λ b o e=>dW.mpr ⟨dH e,e' e,k b o (dH e) (dm e)⟩
def hU:KO (cb w s) s:=λ b o e=>dm e
inductive jE(X:ae->Prop)(VL:a7)(v c:ab)(l:List bP):Prop|mk(a:ae)(o:Obj)(n:Nat)(b:List ab)(d:List ae)(e:v=.ref a)(j:¬X a)(i:VL.get? a=some o)(f:o.cls=c)(g:o.data=.seq b.toArray n)(k:ga (cb X VL) b l d)
inductive z8(X:ae->Prop)(h:a7)(v:ab)(m:Str):Prop|mk(e t:ae)(VL:Tok)(q:v=.ref e)(c:¬X e)(d:¬X t)(ne:e≠t)(a:h.get? e=some (k4 t))(b:h.get? t=some (ha m VL))
inductive z9(X:ae->Prop)(h:a7)(v:ab)(m:Str):Prop|mk(e t:ae)(VL:Tok)(a:Obj)(b:Array ab)(q:v=.ref e)(j:¬X e)(k:¬X t)(c:h.get? e=some a)(d:a.cls=.ref 66)(f:a.data=.fields b)(g:b[0]?=some (.ref t))(i:h.get? t=some (ha m VL))
inductive z'(X:ae->Prop)(h:a7)(v:ab)(q:Str)(i:Jk)(g:List Io)(j:aw):Prop|mk(a:ae)(o:Obj)(b:Iv)(c:ae)(d:Obj)(f:Array ab)(t:Tok)(e:v=.ref a)(u:¬X a)(k:h.get? a=some o)(l:o.data=.func b)(m:pZ b q i g j)(n:b.code=.ref c)(w:¬X c)(p:h.get? c=some d)(r:d.data=.fields f)(s:f[1]?=some (.str q t))
def RV(X:ae->Prop)(VM:a7)(v:ab):PV->Prop
 |.d x=>∃g,QO (cb X VM) v x g|.raw u=>v=u|.inst c l=>jE X VM v c l|.bare b=>v=.ref b/\¬X b/\VM.get? b=some {cls:=.type "object",dict:=none,data:=.plain}|.exc m=>z8 X VM v m|.k3 m=>z9 X VM v m|.fn q k j n=>z' X VM v q k j n|.kept u L=>v=u/\∀p∈L,¬X p.1/\VM.get? p.1=some p.2|.gg a b c=>∃r t u z,v=.ref r/\¬X r/\R8 VM r a b c t u z|.insts c l=>∃(a:ae)(e:List ab),v=.ref a/\¬X a/\VM.PlainList a e.toArray/\e.length=l.length/\∀(i:Nat)(u:ab)(f:List bP),e[i]?=some u->l[i]?=some f->jE X VM u c f
def jE.shift{v c:ab}(k:∀b o,¬w b->s.get? b=some o->¬VG b/\Vm.get? b=some o)(r:jE w s v c Vo):jE VG Vm v c Vo:=by
 obtain⟨a,o,n,t,d,e,j,i,f,g,q⟩:=r;exact am (k _ _ j i) λ m p=>⟨a,o,n,t,d,e,m,p,f,g,vr (λ b o e=>dW.mpr ⟨(k b o (dH e) (dm e)).1,e' e,(k b o (dH e) (dm e)).2⟩) q⟩
theorem RV.shift(k:∀b o,¬w b->s.get? b=some o->¬VG b/\Vm.get? b=some o):∀{p:PV},RV w s U p->RV VG Vm U p:=by
 intro p r;cases p with
 |d _=>refine ai r λ J r=>?_;exact⟨J,Kc (λ b o e=>dW.mpr ⟨(k b o (dH e) (dm e)).1,e' e,(k b o (dH e) (dm e)).2⟩) r⟩|raw _=>exact r|inst _ _=>exact jE.shift k r|bare _=>exact⟨r.1,k _ _ r.2.1 r.2.2⟩|exc m=>obtain⟨e,t,D,q,g,j,ne,f,y⟩:=r;exact⟨e,t,D,q,(k _ _ g f).1,(k _ _ j y).1,ne,(k _ _ g f).2,(k _ _ j y).2⟩|k3 m=>obtain⟨e,t,D,VM,E,q,g,j,f,y,B,C,A⟩:=r;exact⟨e,t,D,VM,E,q,(k _ _ g f).1,(k _ _ j A).1,(k _ _ g f).2,y,B,C,(k _ _ j A).2⟩|fn _ _ _ _=>obtain⟨a,o,Q,c,VL,E,t,e,g,f,y,B,C,j,A,T,V⟩:=r;exact⟨a,o,Q,c,VL,E,t,e,(k _ _ g f).1,(k _ _ g f).2,y,B,C,(k _ _ j A).1,(k _ _ j A).2,T,V⟩|kept u L=>exact⟨r.1,λ p G=>k _ _ (r.2 p G).1 (r.2 p G).2⟩|gg a b c=>refine o6 r λ x t u z e g f=>?_;exact⟨x,t,u,z,e,k _ _ g f⟩|insts c l=>
  refine aj λ VP=>?_;refine mE r λ a VO e g VN Y H=>?_;refine ai VN λ n f=>?_;exact VP ⟨a,VO,e,(k _ _ g f).1,⟨n,(k _ _ g f).2⟩,Y,λ i u M N O=>(H i u M N O).shift k⟩
def RV.b0(k:KX w s Vm)(r:RV w s U V):RV w Vm U V:=r.shift λ b o n e=>⟨n,k b o n e⟩
def RV.keeps(k:KO s Vm)(r:RV w s U V):RV w Vm U V:=r.b0 λ b o _ e=>k b o e
def Ex(X:ae->Prop)(h:a7):Prop:=∀b,X b->∃o,h.get? b=some o
def Ex.keeps(x:Ex w s)(k:KO s Vm):Ex w Vm:=λ b a=>let⟨o,e⟩:=x b a;⟨o,k _ _ e⟩
def Ex.fresh(x:Ex w s)(b:s.objs.size<=h):¬w h:=λ q=>by refine ai (x h q) λ o e=>?_;exact absurd (az e) (b'.mpr b)
def Kp(s a:aa):Prop:=PySem.Keeps s a
def Kp.refl(s:aa):Kp s s:=⟨s.heap,s.toks,rfl,λ _ _ e=>e⟩
def Kp.trans:Kp q H->Kp H VJ->Kp q VJ:=λ h c=>by
 refine aW h λ _ _ a k=>?_;obtain rfl:=a;refine aW c λ _ _ a d=>?_;obtain rfl:=a;exact dw _ _ rfl (λ b o x=>d b o (k b o x))
def Kp.keep:Kp q H->(KO q.heap H.heap):=λ h=>by
 refine aW h λ _ _ a k=>?_;obtain rfl:=a;exact k
def Kp.mk'(k:KO q.heap s):Kp q {q with heap:=s,toks:=a}:=⟨_,_,rfl,k⟩
def Kp.toks:Kp q {q with toks:=a}:=⟨q.heap,a,rfl,λ _ _ e=>e⟩
def Kp.push:Kp q {q with heap:=q.heap.push O}:=⟨_,q.toks,rfl,λ _ _ e=>ao _ e⟩
def bC(b:ae):Prop:=c8 b=true
def bw(o:Obj):Prop:=∃a,o.data=.fields a/\(o.cls=.none\/o.cls=.type "code"\/∃q t,a[1]?=some (.str q t))
noncomputable def tG:List Nat:=[2,3,11,12,13,14,15,16,17,18,19,20,21,57,58,59,60,61,62,63,64,65,66,67,68,69,70,71,72,73,74,75,76,77,78,79,80,81,82,83,84,85,86,87,88,89,90,91,92,93,94,95,96,97,98,99,100,101,102,103,104,105,106,107,108,109,110,111,112,113,114,115,116,117,118,119,120,121,122,123,124,125,126,127,128,129,130,131,132,133,134,135,136,137,138,139,140,141,142,143,144,145,146,147,148,149,150,151,152,153,154,155,156,157,158,159,160,161,162,163,164,165,166,167,168,169,170,171,172,173,174,175,176,177,178,179,180,181,182,183,184,185,186,187,188,189,190,191,192,193,194,195,196,197,198,199,200,201,202,203,204,205,206,207,208,209,210,211,212,213,214,215,216,217,218,219,220,221,222,223,225,226,227,228,229,230,231,232,233,234,235,236,237,238,239,240,241,242,243,244,245,246,247,248,249,250,251,252,253,254,255,256,257,258,259,260,261,262,263,264,265,266,267,268,269,270,271,272,273,274,275,276,277,278,279,280,281,282,283,284,285,286,287,288,289,290,291,292,293,294,295,296,297,298,299,300,301,302,303,304,305,306,307,308,309,310,311,312,313]
noncomputable def tH:List Nat:=tG.filter (λ a=>!c8 a)++[0,1,4,43,52,53]
def fb(b:ae):Prop:=b∈tH
def tI(P:a3):(d8 P).map (·.1)=tG:=by lia
def fb.of{p:Nat×Obj}(h:p∈d8 Vx)(a:c8 p.1=ap):fb p.1:=by
 refine Ip _ (hu.mpr ⟨?_,by rw[a];rfl⟩);rw[<-tI Vx];exact K3 h
def Aa:tH.all (λ a=>IH a 314)=true:=by lia
def fb.lt(a:fb h):h<314:=bW (H9.mp Aa h a)
def fb.app(h:a∈[0,1,4,43,52,53]):fb a:=jq _ h
def aC.move(k:∀b o,fb b\/bw o->s.get? b=some o->Vm.get? b=some o)(L:aC c s):aC c Vm:=by
 have n:∀{v:ab}{q:Str},s.CodeRec v q->Vm.CodeRec v q:=λ j=>by refine du j λ f o r t a b d e=>?_;exact g2 f o r t a (k _ _ (.inr ⟨r,d,.inr (.inr ⟨_,t,e⟩)⟩) b) d e
 have kq:∀{P:ae}{q:Str},e9 s P q->e9 Vm P q:=λ j=>by refine ci j λ C a b f=>?_;exact dU C (k _ _ (.inr ⟨_,rfl,.inl rfl⟩) a) b (λ B z e=>n (f B z e))
 refine⟨λ p l m=>?_,?_,?_,?_,k _ _ (.inl (.app (by decide))) L.o0,k _ _ (.inl (.app (by decide))) L.o1,k _ _ (.inl (.app (by decide))) L.o4,kq L.g8,kq L.g9,?_⟩;·exact ak (L.objs p l m) λ o a b=>⟨o,k _ _ (.inl (.of l m)) a,b⟩
 ·let⟨o,g,a,b,f⟩:=L.jx;exact⟨o,g,k _ _ (.inl (.app (by decide))) a,b,f⟩
 ·let⟨o,g,a,b,f⟩:=L.jy;exact⟨o,g,k _ _ (.inl (.app (by decide))) a,b,f⟩
 ·let⟨o,g,a,b,f⟩:=L.jz;exact⟨o,g,k _ _ (.inl (.app (by decide))) a,b,f⟩
 · rcases L.g' with a|⟨y,a,u,A,t,x,D,E,G,H,J⟩;·exact .inl (k _ _ (.inr ⟨_,rfl,.inl rfl⟩) a)
   ·exact .inr ⟨y,k _ _ (.inr ⟨_,rfl,.inl rfl⟩) a,u,A,t,x,D,E,k _ _ (.inr ⟨_,rfl,.inr (.inl rfl)⟩) G,k _ _ (.inr ⟨_,rfl,.inl rfl⟩) H,λ i d e=>n (J i d e)⟩
def aC.p0(L:aC c s)(d:fb h):∃o,s.get? h=some o:=by
 rcases k9.mp d with d|d
 · refine am (hu.mp d) λ d f=>?_;rw[<-tI c.params]at d;refine ak (hp.mp d) ?_;rintro p e rfl;refine ak (L.objs p e (by simpa using f)) λ o a _=>?_;exact⟨o,a⟩
 · simp only[aP,uR,or_false]at d;rcases d with rfl|rfl|rfl|rfl|rfl|rfl;·exact⟨_,L.o0⟩
   ·exact⟨_,L.o1⟩
   ·exact⟨_,L.o4⟩
   ·refine aW L.jx λ o _ a _=>?_;exact⟨o,a⟩
   ·refine aW L.jy λ o _ a _=>?_;exact⟨o,a⟩
   ·refine aW L.jz λ o _ a _=>?_;exact⟨o,a⟩
def aC.keeps(k:KO s Vm)(L:aC c s):aC c Vm:=L.move λ b o _=>k b o
inductive m5(X:ae->Prop)(d:Env)(h:a7)(x:Str)(p:PV):Prop|mk(m:Str->Option ab)(v:ab)(a:h.Ns d.locals m)(b:m x=some v)(c:RV X h v p)
inductive m6(X:ae->Prop)(d:Env)(h:a7)(x:Str)(p:PV):Prop|mk(c:ae)(VL:ab)(a:d.cells.lookup x=some c)(b:h.IsCell c (some VL))(r:RV X h VL p)
def cc(X:ae->Prop)(a:Env)(h:a7)(x:Str)(p:PV):Prop:=match a.kindOf x with
 |some .local=>m5 X a h x p|some .cell|some .free=>m6 X a h x p|_=>True
def cc.imp{p q:PV}(H:cc w E s j p)(f:m5 w E s j p->m5 VG E Vm j q)(g:m6 w E s j p->m6 VG E Vm j q):cc VG E Vm j q:=by
 unfold cc at H⊢;rcases k:E.kindOf j with _|a;·trivial
 · rw[k]at H;cases a with
   |«local»=>exact f H|cell=>exact g H|free=>exact g H|_=>trivial
def cc.keeps(k:KO s Vm)(H:cc w E s j V):cc w E Vm j V:=H.imp (λ q=>by obtain⟨m,v,a,b,c⟩:=q;exact⟨m,v,a.keeps k,b,c.keeps k⟩) λ q=>by obtain⟨m,v,a,b,c⟩:=q;exact⟨m,v,a,b.keeps k,c.keeps k⟩
structure bq(X:ae->Prop)(w:ar)(b:aw)(a:Env)(h:a7)(c:List (Str×PV)):Prop where
 left:aC w h
 scope:a.scope=b
 glob:a.globals=FG
 blt:a.builtins=IV
 kind:b.kind=.function
 ex:Ex X h
 vars:∀x p,c.lookup x=some p->cc X a h x p
 cells:∀x,(a.kindOf x=some .cell\/a.kindOf x=some .free)->(a.cells.lookup x).isSome=true
def bq.keeps(k:KO s Vm)(R:bq w c g E s i):bq w c g E Vm i:=⟨R.left.keeps k,R.scope,R.glob,R.blt,R.kind,R.ex.keeps k,λ x p e=>(R.vars x p e).keeps k,R.cells⟩
abbrev Lv:=Nat×Bool
variable{u:Lv}
structure Rm(k:Lv)(A:aq):Prop where
 depth:A.depth+10*k.1+20<QI
 units:A.units+60*k.1+200<O5
 calm:k.2=true->A.handled=none
def Rm.gC(h:Rm u o):o.units+200<O5:=by have :=h.units;exact sx this rfl
def Rm.deeper(b:Env)(h:Rm (a+1,M) o):Rm (a,M) (o.deeper b):=⟨by have :=h.depth;show o.depth+1+_+_<_;exact oT this,by have :=h.units;show o.units+3+_+_<_;exact my this rfl,h.calm⟩
def Ev(k:Lv)(b:aw)(c:List (Str×PV))(e:b7)(p:PV):Prop:=∀(X:ae->Prop)(VM:ar)(A:aq),Rm k A->∀(VL:Env)(s:aa)(E:ab->aa->Prop),bq X VM b VL s.heap c->aA (au P0 VM) A (He e VL) (λ v a=>RV X a.heap v p/\Kp s a) E s
def Tr(k:Lv)(d:aw)(f:List (Str×PV))(e:b7)(b:Bool):Prop:=∀(X:ae->Prop)(VN:ar)(A:aq),Rm k A->∀(VL:Env)(s:aa)(E:ab->aa->Prop),bq X VN d VL s.heap f->aA (au P0 VN) A (isTrue e VL (He e VL)) (λ c a=>c=b/\Kp s a) E s
noncomputable abbrev I(n:Int):PV:=.d (.int n)
noncomputable abbrev S(x:Str):PV:=.d (.str x)
noncomputable abbrev Bo(b:Bool):PV:=.d (.bool b)
noncomputable abbrev Li(l:List bP):PV:=.d (.list l)
noncomputable abbrev Tu(l:List bP):PV:=.d (.tuple l)
noncomputable abbrev Ls(l:List Int):PV:=.d (.list (l.map .int))
noncomputable abbrev Lt(l:List Str):PV:=.d (.list (l.map .str))
def Ev.use(h:Ev u g i z V)(d:Rm u o)(R:bq w c g E q.heap i)(j:Kp H q)(f:∀v a,RV w a.heap v V->Kp q a->Kp H a->bq w c g E a.heap i->Vh v a):aA (au P0 c) o (He z E) Vh y q:=aG (h w c o d E q y R) (λ v a l=>by refine am l λ r b=>?_;exact f v a r b (j.trans b) (R.keeps b.keep)) λ _ _ x=>x
def Tr.use(h:Tr u g i z M)(f:Rm u o){Q:Bool->aa->Prop}(R:bq w c g E q.heap i)(l:Kp H q)(j:∀a,Kp q a->Kp H a->bq w c g E a.heap i->Q M a):aA (au P0 c) o (isTrue z E (He z E)) Q y q:=aG (h w c o f E q y R) (λ v a m=>by refine am m λ r d=>?_;exact r▸j a d (l.trans d) (R.keeps d.keep)) λ _ _ x=>x
def tJ(R:bq w c g E q.heap i)(l:i.lookup j=some V)(f:g.names.lookup j=some .local\/g.names.lookup j=some .cell\/g.names.lookup j=some .free)(k:(j==("__classdict__":Str))=ap):aA (au P0 c) o (UZ E j) (λ v n=>n=q/\RV w q.heap v V) y q:=by
 have d:=R.vars j V l;have e:E.kindOf j=g.names.lookup j:=by unfold KP;rw[R.scope]
 have eD:E.scope.kind=.function:=by rw[R.scope];exact R.kind
 unfold cc at d;rcases f with f|f|f<;>simp only[f]at e<;>simp only[e]at d
 · refine aj λ t=>?_;obtain⟨m,v,a,b,h⟩:=d;exact t (On eD e a b ⟨rfl,h⟩)
 · obtain⟨h,v,a,b,r⟩:=d;exact wpAny_loadName_cell eD e a b ⟨rfl,r⟩
 · obtain⟨h,v,a,b,r⟩:=d;exact wpAny_loadName_free eD e a b ⟨rfl,r⟩ k
def Ev.name(d:i.lookup j=some V)(c:g.names.lookup j=some .local\/g.names.lookup j=some .cell\/g.names.lookup j=some .free)(b:(j==("__debug__":Str))=ap)(a:(j==("__classdict__":Str))=ap):Ev u g i (.Name j v) V:=λ X w A _ h s E R=>L7 (aG (tJ R d c a) (λ m l f=>by obtain⟨e,r⟩:=f;subst e;exact⟨r,Kp.refl _⟩) λ _ _ j=>j) b
def aC.main(L:aC c s):s.get? 3=some (js c.params):=L.eC 1 (by lia) rfl λ x q=>iK q
noncomputable def p'(o:Obj):Bool:=match o.data with|.dict a _=>a.all (λ e=>match e.key with|.str _ _=>true|_=>ap)|_=>ap
noncomputable def iL(o:Obj)(x:Str):Option ab:=match o.data with|.dict a _=>nsFind a x|_=>none
def k6(e:s.get? h=some O)(n:p' O=true):s.Ns h (iL O):=by
 have x:s.isNs h=true:=by unfold Heap.isNs;refine e.symm▸?_;exact n
 have :=Heap.Ns.of_isNs x;have b:s.nsMap h=iL O:=by funext y;unfold Heap.nsMap;refine e.symm▸?_;rfl
 rwa[b]at this
def Ab(P:a3):p' (js P)=true:=by lia
def Ac(P:a3):p' (MO P)=true:=by lia
noncomputable abbrev a5(P:a3):Str->Option ab:=iL (js P)
noncomputable abbrev cR(P:a3):Str->Option ab:=iL (MO P)
def aC.mg(L:aC c s):s.Ns FG (a5 c.params):=k6 L.main (Ab _)
def aC.mb(L:aC c s):s.Ns IV (cR c.params):=k6 L.o0 (Ac _)
def tK(R:bq w c g E q.heap i)(a:g.names.lookup j=some .globalImplicit)(b:a5 c.params j=some U):aA (au P0 c) o (UZ E j) (λ u d=>d=q/\u=U) y q:=by
 rw[loadName_read (by refine(R.scope).symm▸?_;exact R.kind) (by unfold KP;refine(R.scope).symm▸?_;exact a)];exact loadGlobal_global (by refine(R.glob).symm▸?_;exact R.left.mg) b ⟨rfl,rfl⟩
def qa(R:bq w c g E q.heap i)(a:g.names.lookup j=some .globalImplicit)(b:a5 c.params j=none)(d:cR c.params j=some U):aA (au P0 c) o (UZ E j) (λ u e=>e=q/\u=U) y q:=by
 rw[loadName_read (by refine(R.scope).symm▸?_;exact R.kind) (by unfold KP;refine(R.scope).symm▸?_;exact a)];exact loadGlobal_builtin (by rw[R.glob];exact R.left.mg) b (by rw[R.blt];exact R.left.mb) d ⟨rfl,rfl⟩
def Ev.glob(b:g.names.lookup j=some .globalImplicit)(c:∀P,a5 P j=some U)(a:(j==("__debug__":Str))=ap):Ev u g i (.Name j v) (.raw U):=λ X w A _ f s E R=>L7 (aG (tK R b (c _)) (λ U h d=>by obtain⟨e,r⟩:=d;subst e;exact⟨r,Kp.refl _⟩) λ _ _ j=>j) a
def Ev.blt(b:g.names.lookup j=some .globalImplicit)(c:∀P,a5 P j=none)(d:∀P,cR P j=some U)(a:(j==("__debug__":Str))=ap):Ev u g i (.Name j v) (.raw U):=λ X w A _ h s E R=>L7 (aG (qa R b (c _) (d _)) (λ U l f=>by obtain⟨e,r⟩:=f;subst e;exact⟨r,Kp.refl _⟩) λ _ _ j=>j) a
def Ev.int:Ev u g i (.Constant (.int C) a v) (I C):=λ X w A _ b s E _=>wpAny_Constant_int ⟨⟨_,.int C _⟩,Kp.toks⟩
def Ev.str:Ev u g i (.Constant (.str j) a v) (S j):=λ X w A _ b s E _=>Tk ⟨⟨_,.str j _⟩,Kp.toks⟩
def Ev.bool:Ev u g i (.Constant (.bool M) a v) (Bo M):=λ X w A _ c s E _=>S6 ⟨⟨_,.bool M⟩,Kp.refl _⟩
def jF{M:LN}{x:Sem Vd}{P:Vd->aa->Prop}(h:∀Q:Vd->aa->Prop,(∀v a,P v a->Q v a)->aA M o x Q y q):aA M o x P y q:=h P λ _ _ b=>b
def bb(VN:Operator)(p q r:PV):Prop:=∀(X:ae->Prop)(VO:ar)(A:aq),A.units+200<O5->∀(s:aa)(VM VL:ab)(E:ab->aa->Prop),Ex X s.heap->RV X s.heap VM p->RV X s.heap VL q->aA (au P0 VO) A (binaryOp VN VM VL) (λ b a=>RV X a.heap b r/\Kp s a) E s
def aD(VN:SV)(p q:PV)(b:Bool):Prop:=∀(X:ae->Prop)(VO:ar)(A:aq),A.units+200<O5->∀(s:aa)(VM VL:ab)(E:ab->aa->Prop),Ex X s.heap->RV X s.heap VM p->RV X s.heap VL q->aA (au P0 VO) A (T7 VN VM VL) (λ a c=>a=.bool b/\Kp s c) E s
def Ev.bJ{d:Operator}{p q r:PV}(l:bb d p q r)(h:Ev u g i z p)(j:Ev u g i Vn q):Ev u g i (.BinOp z d Vn v) r:=λ X w A c H s E R=>wpAny_BinOp (h.use c R (Kp.refl s) λ G J y _ n e=>j.use c e n λ D C B m o f=>aG (l X w A c.gC C G D E f.ex (y.keeps m.keep) B) (λ _ _ t=>by refine am t λ z Vn=>?_;exact⟨z,o.trans Vn⟩) λ _ _ x=>x)
def Ev.cmp{d:SV}{p q:PV}(m:aD d p q M)(h:Ev u g i z p)(j:Ev u g i Vn q)(l:autoParam (Lo d Vn=ap) gX):Ev u g i (.Compare z [d] [Vn] v) (Bo M):=λ X w A c J s E R=>wpAny_Compare1 (h.use c R (Kp.refl s) λ H L B _ o e=>j.use c e o λ G D C n t f=>aG (m X w A c.gC D H G E f.ex (B.keeps n.keep) C) (λ _ _ y=>by refine am y λ z Vn=>?_;exact⟨z▸⟨_,.bool M⟩,t.trans Vn⟩) λ _ _ x=>x) l
def Tr.cmp{d:SV}{p q:PV}(m:aD d p q M)(h:Ev u g i z p)(j:Ev u g i Vn q)(l:autoParam (Lo d Vn=ap) gX):Tr u g i (.Compare z [d] [Vn] v) M:=λ X w A c J s E R=>JZ (h.use c R (Kp.refl s) λ H L B _ o e=>j.use c e o λ G D C n t f=>aG (m X w A c.gC D H G E f.ex (B.keeps n.keep) C) (λ _ _ y=>by refine am y λ z Vn=>?_;exact z▸zF ⟨rfl,t.trans Vn⟩) λ _ _ x=>x) l
def Tr.not(d:Tr u g i z M):Tr u g i (.UnaryOp .Not z v) (!M):=λ X w A c f s E R=>wpAny_isTrue_Not (d.use c R (Kp.refl s) λ h _ e _=>⟨rfl,e⟩)
def Ev.ite{t a b:b7}{p q:PV}(l:Tr u g i t M)(h:M=true->Ev u g i a p)(j:M=ap->Ev u g i b q):Ev u g i (.IfExp t a b v) (if M then p else q):=λ X w A d m s E R=>wpAny_IfExp (l.use d R (Kp.refl s) λ n _ f e=>by cases M with
  |true=>exact(h rfl).use d e f λ _ _ r _ u _=>⟨r,u⟩|false=>exact(j rfl).use d e f λ _ _ r _ u _=>⟨r,u⟩)
def Tr.k7{c d:Bool}(l:Tr u g i z c)(m:c=ap->Tr u g i Vn d):Tr u g i (.BoolOp .Or [z,Vn] v) (c||d):=λ X w A e o s E R=>by
 refine wpAny_isTrue_BoolOp (Sm (l.use e R (Kp.refl s) λ p _ f j=>?_));rcases c with _|_
 · refine Sm ((m rfl).use e j f λ q _ h n=>?_);cases d with
   |true=>exact⟨rfl,h⟩|false=>exact wpAny_allTrue_Or_nil ⟨rfl,h⟩
 ·exact⟨rfl,f⟩
def tL(h:a7)(v:ab)(c:List ae):bP->Prop
 |.none=>v=.none/\c=[]|.bool b=>v=.bool b/\c=[]|.int n=>∃t,v=.int n t/\c=[]|.str x=>∃t,v=.str x t/\c=[]|.list l=>∃a o d n e,v=.ref a/\h.get? a=some o/\o.cls=.type "list"/\o.data=.seq d n/\ga h d.toList l e|.tuple l=>∃a o d n,v=.ref a/\h.get? a=some o/\o.cls=.type "tuple"/\o.data=.seq d n/\ga h d.toList l c|_=>True
def hb(r:QO s U VI Y):tL s U Y VI:=Reads.casesOn (motive_1:=λ U VI Y _=>tL s U Y VI) r ⟨rfl,rfl⟩ (λ _=>⟨rfl,rfl⟩) (λ _ t=>⟨t,rfl,rfl⟩) (λ _ t=>⟨t,rfl,rfl⟩) (λ a b c VI=>⟨_,_,_,_,_,rfl,a,b,c,VI⟩) (λ a b c VI=>⟨_,_,_,_,rfl,a,b,c,VI⟩) (λ _ _ _ _ _=>trivial)
def tM(h:a7)(f:List ab)(c:List ae):List bP->Prop
 |[]=>f=[]/\c=[]|d::l=>∃v e a b,f=v::e/\c=a++b/\QO h v d a/\ga h e l b
def tN(r:ga s Ve Vo Y):tM s Ve Y Vo:=ReadsAll.casesOn (motive_2:=λ Ve Vo Y _=>tM s Ve Y Vo) r ⟨rfl,rfl⟩ (λ a b=>⟨_,_,_,_,rfl,rfl,a,b⟩)
def gi(z:ga s Ve [] Y):Ve=[]/\Y=[]:=tN z
def eT(z:ga s Ve (VI::Vo) Y):∃v c a b,Ve=v::c/\Y=a++b/\QO s v VI a/\ga s c Vo b:=tN z
def RV.int(r:RV w s U (I C)):∃t,U=.int C t:=by refine ai r λ a r=>?_;exact(hb r).imp λ _ q=>q.1
def RV.str(r:RV w s U (S j)):∃t,U=.str j t:=by refine ai r λ a r=>?_;exact(hb r).imp λ _ q=>q.1
def RV.bool(r:RV w s U (Bo M)):U=.bool M:=by refine ai r λ a r=>?_;exact(hb r).1
def RV.list(r:RV w s U (Li Vo)):∃a b f,U=.ref a/\¬w a/\s.PlainList a b.toArray/\ga (cb w s) b Vo f:=by
 refine ai r λ f r=>aj λ m=>?_;refine o8 (hb r) λ a o b n f j e c d k=>?_;obtain rfl:=j;refine am (e' e) λ g i=>?_;obtain⟨p,q,t,u⟩:=o;dsimp only at g i c d;subst g i c d;exact m (kP a b.toList _ rfl (dH e) ⟨n,dm e⟩ k)
def RV.tuple(r:RV w s U (Tu Vo)):∃a b f,U=.ref a/\¬w a/\s.IsTuple a b.toArray/\ga (cb w s) b Vo f:=by
 refine ai r λ f r=>?_;refine o7 (hb r) λ a o b n g e c d i=>?_;obtain rfl:=g;exact kP a b.toList _ rfl (dH e) ⟨o,dm e,c,n,by rw[d]⟩ i
def RV.mkInt:RV w s (.int C Vv) (I C):=⟨_,.int C Vv⟩
def RV.mkStr:RV w s (.str j Vv) (S j):=⟨_,.str j Vv⟩
def RV.k8:RV w s (.bool M) (Bo M):=⟨_,.bool M⟩
def Ae(h:a7)(a:ae)(b:Array ab):Prop:=∃n,h.get? a=some {cls:=.type "tuple",data:=.seq b n}
def RV.gD(c:¬w h)(e:s.PlainList h Ve.toArray)(d:ga (cb w s) Ve Vo Y):RV w s (.ref h) (Li Vo):=by exact ai e λ n b=>⟨_,.list (dW.mpr ⟨c,⟨rfl,rfl⟩,b⟩) rfl rfl (d)⟩
def RV.mkTuple(c:¬w h)(e:Ae s h Ve.toArray)(d:ga (cb w s) Ve Vo Y):RV w s (.ref h) (Tu Vo):=by exact ai e λ n b=>⟨_,.tuple (dW.mpr ⟨c,⟨rfl,rfl⟩,b⟩) rfl rfl (d)⟩
def m7(r:ga (cb w s) Ve Vo Y):ga (cb w (s.push O)) Ve Vo Y:=vr (gh λ _ _ _ e=>ao _ e) r
def m8{h:a7}{c f:List ab}{l m:List bP}{e g:List ae}(x:ga h c l e)(r:ga h f m g):∃i,ga h (c++f) (l++m) i:=by induction l generalizing c e with
 |nil=>refine am (gi x) ?_;rintro rfl k;obtain rfl:=k;exact⟨_,r⟩|cons d l j=>
  refine du (eT x) λ _ _ _ _ n o a b=>?_;obtain rfl:=n;obtain rfl:=o;exact ai (j b) λ _ q=>⟨_,.cons a q⟩
def cy{h:a7}{c:List ab}{l:List bP}{e:List ae}(x:ga h c l e):c.length=l.length:=by induction l generalizing c e with
 |nil=>rw[(gi x).1];rfl|cons d l f=>
  refine du (eT x) λ _ _ _ _ g i a b=>?_;obtain rfl:=g;obtain rfl:=i;exact congrArg (·+1) (f b)
def hc{h:a7}{c:List ab}{l:List bP}{f:List ae}(x:ga h c l f){i:Nat}{d:bP}(e:l[i]?=some d):∃v g,c[i]?=some v/\QO h v d g:=by induction l generalizing c f i with
 |nil=>exact aQ e|cons d l j=>
  refine du (eT x) λ _ _ _ _ k m a b=>?_;obtain rfl:=k;obtain rfl:=m;rcases i with _|i;·obtain rfl:=ax e;exact dw _ _ rfl a
  ·exact j b e
def Af{h:a7}{c:List ab}{l:List bP}{d:List ae}(x:ga h c l d)(i:Nat):∃e,ga h (c.drop i) (l.drop i) e:=by induction i generalizing c l d with
 |zero=>exact⟨_,x⟩|succ i f=>
   rcases l with _|⟨_,_⟩;·refine am (gi x) ?_;rintro rfl g;obtain rfl:=g;exact⟨_,.nil⟩
   · refine du (eT x) λ _ _ _ _ j k a b=>?_;obtain rfl:=j;obtain rfl:=k;exact f b
def Ag{h:a7}{c:List ab}{l:List bP}{d:List ae}(x:ga h c l d)(i:Nat):∃e,ga h (c.take i) (l.take i) e:=by induction i generalizing c l d with
 |zero=>exact⟨_,.nil⟩|succ i f=>
   rcases l with _|⟨_,_⟩;·refine am (gi x) ?_;rintro rfl g;obtain rfl:=g;exact⟨_,.nil⟩
   · refine du (eT x) λ _ _ _ _ j k a b=>?_;obtain rfl:=j;obtain rfl:=k;exact ai (f b) λ _ q=>⟨_,.cons a q⟩
def bb.fc:bb .Add (I C) (I Vs) (I (C+Vs)):=λ X w A _ s v u E c b a=>by
 obtain⟨t,rfl⟩:=b.int;obtain⟨d,rfl⟩:=a.int;exact add_int ⟨.mkInt,Kp.toks⟩
def bb.sub:bb .Sub (I C) (I Vs) (I (C-Vs)):=λ X w A _ s v u E c b a=>by
 obtain⟨t,rfl⟩:=b.int;obtain⟨d,rfl⟩:=a.int;exact sub_int ⟨.mkInt,Kp.toks⟩
def bb.fdiv(h:0<Vs)(a:Vs<1000000000):bb .FloorDiv (I C) (I Vs) (I (C/Vs)):=λ X w A _ s v u E e d c=>by
 obtain⟨t,rfl⟩:=d.int;obtain⟨f,rfl⟩:=c.int;rw[show C/Vs=C.fdiv Vs from(Int.fdiv_eq_ediv_of_nonneg C (gw h)).symm];exact floordiv_int (r6 h) ⟨.mkInt,Kp.toks⟩ (.inl (P1 (Int.natAbs_lt_natAbs_of_nonneg_of_lt (b:=1073741824) (Mq h) (LK a (by decide)))))
def bb.iM(h:0<Vs):bb .Mod (I C) (I Vs) (I (C%Vs)):=λ X w A _ s v u E c b a=>by
 obtain⟨t,rfl⟩:=b.int;obtain⟨d,rfl⟩:=a.int;rw[show C%Vs=C.fmod Vs from(Int.fmod_eq_emod_of_nonneg C (gw h)).symm];exact mod_int (r6 h) ⟨.mkInt,Kp.toks⟩
def bb.Ah(b:0<=Vs)(c:Vs<=1000000)(a:C.natAbs<2^64):bb .Pow (I C) (I Vs) (I (C^Vs.toNat)):=λ X w A _ s v u E f e d=>by
 obtain⟨t,rfl⟩:=e.int;obtain⟨g,rfl⟩:=d.int;exact pow_int_small b c a ⟨.mkInt,Kp.toks⟩
def bb.iO(h:j.length+Vf.length<=a9):bb .Add (S j) (S Vf) (S (j++Vf)):=λ X w A _ s v u E c b a=>by
 obtain⟨t,rfl⟩:=b.str;obtain⟨d,rfl⟩:=a.str;exact UH (λ _ _=>⟨.mkStr,Kp.toks⟩) h
def bb.m9{l m:List bP}(h:l.length+m.length<=a9):bb .Add (Li l) (Li m) (Li (l++m)):=λ X w A _ s v u E z H G=>by
 refine aj λ M=>?_;refine bI H.list λ a d N c V D q=>?_;obtain rfl:=c;refine bI G.list λ b f O c Y C t=>?_;obtain rfl:=c;obtain⟨⟨cls,x,U,J⟩,o,g,n,j⟩:=id D.isList;obtain⟨⟨Q,y,data2,L⟩,p,i,B,k⟩:=id C.isList;simp only at g j i k;subst g j i k;refine M ?_;have e:d.toArray++f.toArray=(d++f).toArray:=by simp
 refine concat_meets ⟨_,o,rfl⟩ ⟨_,p,rfl⟩ noFill_list_add seq_list_add PySem.F.slot_list_add PySem.F.entry_list_add (PySem.F.args_list_add_2 _ _) (list_addW a b d.toArray f.toArray n B x y J L (by simp;simp only[cy q,cy t];exact h)) ⟨o,p,?_⟩;rw[e];exact ai (m8 q t) λ T r=>⟨.gD (z.fresh (aB _)) ⟨_,aF _ rfl⟩ (m7 r),Kp.push⟩
def aD.lt:aD .Lt (I C) (I Vs) (bF (C<Vs)):=λ X w A _ s v u E c b a=>by obtain⟨t,rfl⟩:=b.int;obtain⟨d,rfl⟩:=a.int;exact lt_int ⟨rfl,Kp.refl _⟩
def aD.gt:aD .Gt (I C) (I Vs) (bF (Vs<C)):=λ X w A _ s v u E c b a=>by obtain⟨t,rfl⟩:=b.int;obtain⟨d,rfl⟩:=a.int;exact gt_int ⟨rfl,Kp.refl _⟩
def aD.le:aD .LtE (I C) (I Vs) (bF (C<=Vs)):=λ X w A _ s v u E c b a=>by obtain⟨t,rfl⟩:=b.int;obtain⟨d,rfl⟩:=a.int;exact le_int ⟨rfl,Kp.refl _⟩
def aD.jG:aD .Lt (S j) (S Vf) (bF (j.cps.toList<Vf.cps.toList)):=λ X w A _ s v u E c b a=>by obtain⟨t,rfl⟩:=b.str;obtain⟨d,rfl⟩:=a.str;exact lt_str ⟨rfl,Kp.refl _⟩
def aD.k':aD .Gt (S j) (S Vf) (bF (Vf.cps.toList<j.cps.toList)):=λ X w A _ s v u E c b a=>by obtain⟨t,rfl⟩:=b.str;obtain⟨d,rfl⟩:=a.str;exact R7 ⟨rfl,Kp.refl _⟩
def cz(d:bP):Prop:=d.canLay0=true/\d.depth<=9
def aD.eq{x y:bP}(a:cz x)(c:cz y):aD .Eq (.d x) (.d y) (KG x y):=λ X w A b s v u E i⟨g,f⟩⟨h,e⟩=>SeqAt.compareEq_reads (Kc hU f) (Kc hU e) a.1 c.1 (oU b a.2 rfl) ⟨rfl,Kp.refl _⟩
def aD.ne{x y:bP}(a:cz x)(c:cz y):aD .NotEq (.d x) (.d y) (!KG x y):=λ X w A b s v u E i⟨g,f⟩⟨h,e⟩=>SeqAt.compareNe_reads (Kc hU f) (Kc hU e) a.1 c.1 (oU b a.2 rfl) ⟨rfl,Kp.refl _⟩
inductive aU X(h:a7):List ab->List PV->Prop|nil:aU X h [] []|cons{VM vs p VL}:RV X h VM p->aU X h vs VL->aU X h (VM::vs) (p::VL)
def aU.cut(z:aU w s Ve (V::Vk)):∃v c,Ve=v::c/\RV w s v V/\aU w s c Vk:=by
 obtain _|⟨a,b⟩:=z;exact kN _ _ rfl a b
def aU.none(z:aU w s Ve []):Ve=[]:=by
 cases z;rfl
def aU.one(z:aU w s Ve [V]):∃v,Ve=[v]/\RV w s v V:=by
 refine bS z.cut λ v d c a b=>?_;obtain rfl:=c;exact bj v (congrArg _ b.none) a
def aU.two{p q:PV}(z:aU w s Ve [p,q]):∃v d,Ve=[v,d]/\RV w s v p/\RV w s d q:=by
 refine bS z.cut λ v g f a c=>?_;obtain rfl:=f;refine ak c.one λ d e b=>?_;obtain rfl:=e;exact kN v d rfl a b
def aU.three{p q r:PV}(z:aU w s Ve [p,q,r]):∃v e x,Ve=[v,e,x]/\RV w s v p/\RV w s e q/\RV w s x r:=by
 refine bS z.cut λ v g f a d=>?_;obtain rfl:=f;refine bS d.two λ e x f b c=>?_;obtain rfl:=f;exact kP v e x rfl a b c
def aU.four{p q r u:PV}(z:aU w s Ve [p,q,r,u]):∃v f x y,Ve=[v,f,x,y]/\RV w s v p/\RV w s f q/\RV w s x r/\RV w s y u:=by
 refine bS z.cut λ v j g a e=>?_;obtain rfl:=g;refine bI e.three λ f x y i b c d=>?_;obtain rfl:=i;exact⟨v,f,x,y,rfl,a,b,c,d⟩
theorem aU.keeps(k:KO s Vm)(r:aU w s Ve Vk):aU w Vm Ve Vk:=by induction r with
 |nil=>exact .nil|cons a _ b=>exact .cons (a.keeps k) b
def aU.reads{X:ae->Prop}{h:a7}{e:List ab}{c:List bP}(r:aU X h e (c.map .d)):∃f,ga (cb X h) e c f:=by induction c generalizing e with
 |nil=>rw[aU.none r];exact⟨_,.nil⟩|cons d c g=>
  refine bS (aU.cut r) λ _ _ i j b=>?_;obtain rfl:=i;refine ai j λ _ a=>?_;exact ai (g b) λ _ q=>⟨_,.cons a q⟩
def aU.len(r:aU w s Ve Vk):Ve.length=Vk.length:=by induction r with
 |nil=>rfl|cons _ _ a=>exact congrArg (·+1) a
inductive a6(k:Lv)(a:aw)(b:List (Str×PV)):List b7->List PV->Prop|nil:a6 k a b [] []|cons{e VL p VM}:Ev k a b e p->a6 k a b VL VM->(f:autoParam (∀d c,bD (e::d) c=(ap,He e c)::bD d c) bc)->a6 k a b (e::VL) (p::VM)
def a6.cut(j:a6 u g i (z::Vt) Vk):∃p d,Vk=p::d/\Ev u g i z p/\a6 u g i Vt d/\∀f c,bD (z::f) c=(ap,He z c)::bD f c:=by
 obtain _|⟨a,b,h⟩:=j;exact kO _ _ rfl a b h
def a6.plain(r:a6 u g i Vt Vk):(L9 v (bD Vt E)).any (·.1)=ap:=by induction r with
 |nil=>rfl|cons _ _ a b=>rw[a];exact b
theorem a6.use{k:Lv}{d:aw}{g:List (Str×PV)}{X:ae->Prop}{w:ar}{A:aq}(p:Rm k A){c:Env}{E:ab->aa->Prop}{z:Pos}{i:List b7}{m:List PV}(r:a6 k d g i m){s e:aa}{Q:List ab->aa->Prop}(R:bq X w d c s.heap g)(j:Kp e s)(h:∀f b,aU X b.heap f m->Kp s b->Kp e b->bq X w d c b.heap g->Q f b):aA (au P0 w) A (Qu (L9 z (bD i c))) Q E s:=by induction r generalizing s e Q with
 |nil=>exact Lx (h [] s .nil (Kp.refl _) j R)|cons a _ q t=>exact IP (a.use p R j λ v D B x u n=>(t n x λ f G C l y o=>h _ _ (.cons (B.keeps l.keep) C) y (u.trans l) o)) (q _ _)
def Ev.list(h:a6 u g i Vt (Vo.map .d))(e:autoParam (Vo.length<=a9) ew):Ev u g i (.List Vt v) (Li Vo):=λ X w A c j s E R=>wpAny_List (h.use c R (Kp.refl s) λ m l r _ u b=>by
  refine ai r.reads λ f a=>?_;refine b3 (by rw[cy a];exact e) (.gD (b.ex.fresh (aB _)) ⟨_,aF _ rfl⟩ (m7 a)) (u.trans Kp.push))
def Ev.tuple(h:a6 u g i Vt (Vo.map .d))(f:autoParam (Vo.length<=a9) ew):Ev u g i (.Tuple Vt a v) (Tu Vo):=λ X w A e l s E R=>wpAny_Tuple (h.use e R (Kp.refl s) λ n m r _ u c=>by
  refine ai r.reads λ j b=>?_;refine b3 (by rw[cy b];exact f) (.mkTuple (c.ex.fresh (aB _)) ⟨_,aF _ rfl⟩ (m7 b)) (u.trans Kp.push))
def Ev.dI(n:Ev u g i z (Li Vo))(p:Ev u g i Vn (I C))(m:0<=C)(r:C<2^63)(q:Vo[C.toNat]?=some VI)(y:autoParam (∀o c,Ml Vn ap (.ref o) (.int C c)=Pz [.ref o,.int C c] (NP (.ref o) (.int C c))) ir):Ev u g i (.Subscript z Vn v) (.d VI):=λ X w A e V s E R=>Mc (n.use e R (Kp.refl s) λ VN VL O _ G h=>p.use e h G λ c VM Q D H _=>by
  refine aj λ T=>?_;refine bI ((O.keeps D.keep).list) λ o vs U L Y J M=>?_;obtain rfl:=L;have f:=J.isList;refine ai Q.int ?_;rintro t rfl;exact aW (hc M q) λ x j B N=>T (Ny f.typeIs JF.lookup (Th f m r (by simpa using B) ⟨⟨j,N⟩,H⟩) (y _ _)))
def Ev.Ai(q:Ev u g i z (Li Vo))(r:Ev u g i Vn (I C))(n:C<0)(p:-(Vo.length:Int)<=C)(B:-(2^63)<=C)(y:Vo[(C+Vo.length).toNat]?=some VI)(D:autoParam (∀o c,Ml Vn ap (.ref o) (.int C c)=Pz [.ref o,.int C c] (NP (.ref o) (.int C c))) ir):Ev u g i (.Subscript z Vn v) (.d VI):=λ X w A e Y s E R=>Mc (q.use e R (Kp.refl s) λ VO VM Q _ J j=>r.use e j J λ c VN T H L _=>by
  refine aj λ U=>?_;refine bI ((Q.keeps H.keep).list) λ o vs V N VL M h=>?_;obtain rfl:=N;have f:=M.isList;refine ai T.int ?_;rintro t rfl;refine aW (hc h y) λ x m G O=>U ?_;have :=cy h;exact Ny f.typeIs JF.lookup (wpAny_getItem_list_neg f n (by simpa[this]using p) B (by simpa[this]using G) ⟨⟨m,O⟩,L⟩) (D _ _))
def Ev.m'(m:Ev u g i z (S j))(n:Ev u g i Vn (I C))(e:0<=C)(o:C<2^63)(h:j.cps[C.toNat]?=some a)(p:autoParam (∀t d,Ml Vn ap (.str j t) (.int C d)=Pz [.str j t,.int C d] (NP (.str j t) (.int C d))) ir):Ev u g i (.Subscript z Vn v) (S ⟨#[a]⟩):=λ X w A f D s E R=>Mc (m.use f R (Kp.refl s) λ M H y _ q l=>n.use f l q λ d J B G r _=>by
  obtain⟨t,rfl⟩:=y.str;obtain⟨L,rfl⟩:=B.int;refine Ny (JH _ _ _) SU.lookup (getItem_str (by simp;exact⟨J2 (by decide) e,Kr o (by decide)⟩) (c:=a) ?_ ⟨.mkStr,r.trans Kp.toks⟩) (p _ _);have :seqIndex? C j.length=some C.toNat:=seqIndex_at e ((O2 e).mp ((ec.mp h).1));refine this.symm▸?_;exact h)
inductive gF(k:Lv)(a:aw)(b:List (Str×PV)):Option b7->Option Int->Prop|none:gF k a b none none|some{e VL}:Ev k a b e (I VL)->gF k a b (some e) (some VL)
theorem gF.use(l:Rm u o){f:Option b7}{d:Option Int}(h:gF u g i f d)(R:bq w c g E q.heap i)(e:Kp H q)(b:∀v a,R9 v d->Kp q a->Kp H a->bq w c g E a.heap i->Vh v a):aA (au P0 c) o (valueOrNone (evalOpt f E)) Vh y q:=by cases h with
 |none=>exact ah (b _ _ .none (Kp.refl _) e R)|some h=>
  refine h.use l R e λ v a r m n j=>b v a ?_ m n j;refine ai r.int ?_;rintro t rfl;exact .int _ _
noncomputable def eE(l:List Vd)(i j:Option Int):List Vd:=(l.drop (i.elim 0 (Lg l.length))).take (j.elim l.length (Lg l.length)-i.elim 0 (Lg l.length))
def qb(h:Rm u o){n l:Option b7}{m j:Option Int}(B:gF u g i n m)(z:gF u g i l j)(R:bq w c g E q.heap i)(G:Kp H q)(x:∀a d f b,R9 d m->R9 f j->b.heap.IsSliceOf a d f .none->Kp q b->Kp H b->bq w c g E b.heap i->Vh (.ref a) b):aA (au P0 c) o (He (.Slice n l none v) E) Vh y q:=by
 simp only[arm_eval_Slice];refine al (B.use h R G λ d O M C J r=>(al (aK (z.use h r J λ f T N D L t=>(al (aK (ah (Ih (x _ d f _ M N (TP ..) ((C.trans D).trans Kp.push) (L.trans Kp.push) (t.keeps λ _ _ e=>ao _ e))))))))))
def Aj(r:ga s Ve Vo Y)(i j:Option Int):∃a,ga s (eE Ve i j) (eE Vo i j) a:=by
 unfold eE;rw[cy r];exact ai (Af r (i.elim 0 (Lg Vo.length))) λ a q=>Ag q _
def Ev.slice{m f:Option b7}{c j:Option Int}(B:Ev u g i z (Li Vo))(d:gF u g i m c)(C:gF u g i f j)(G:Vo.length<=a9):Ev u g i (.Subscript z (.Slice m f none v) J) (Li (eE Vo c j)):=λ X w A e VM s E R=>Mc (B.use e R (Kp.refl s) λ VQ VO U _ L t=>qb e d C t L λ b VR VS VP O Q D H M x=>by
  refine aj λ V=>?_;refine bI ((U.keeps H.keep).list) λ o r Y T VN N n=>?_;obtain rfl:=T;refine V ?_;have d:=N.isList;refine Ny (ops:=[.ref b,.ref o]) d.typeIs JF.lookup (Rj d D O Q .none (λ h=>by cases h) ?_ (by simpa[(cy n)]using G)) rfl;refine ai (Aj n c j) λ bs q=>?_;have y:slicePick r.toArray c j none=(eE r c j).toArray:=by rw[Uu];rfl
  exact y.symm▸(⟨.gD (x.ex.fresh (aB _)) ⟨_,aF _ rfl⟩ (m7 q),M.trans Kp.push⟩))
def Fn(k:Lv)(f:ab)(b:List PV)(r:PV):Prop:=∀(X:ae->Prop)(VM:ar)(A:aq),Rm k A->∀(s:aa)(vs:List ab)(E:ab->aa->Prop),aC VM s.heap->Ex X s.heap->aU X s.heap vs b->aA (au P0 VM) A (I3 f vs) (λ v a=>RV X a.heap v r/\Kp s a) E s
def Ev.cA(t:Fn u (.builtin VH) Vk V)(y:Ev u g i (.Name j v) (.raw (.builtin VH)))(m:a6 u g i (z::Vt) Vk):Ev u g i (.Call (.Name j v) (z::Vt) [] J) V:=λ X w A d q s E R=>by
 refine dr (y.use d R (Kp.refl s) λ f M H _ B p=>?_);obtain rfl:f=.builtin VH:=H;have n:=m.plain (E:=q) (v:=J);refine di m.cut λ _ _ D a b o=>?_;obtain rfl:=D;have U:=a6.use d (z:=J) (E:=E) (.cons a b o) (s:=M) (Q:=λ h c=>aA (au P0 w) A (I3 (.builtin VH) h) (λ f c=>RV X c.heap f V/\Kp s c) E c) p B λ h N L _ C l=>aG (t X w A d N h E l.left l.ex L) (λ _ _ G=>by refine am G λ a b=>?_;exact⟨a,C.trans b⟩) λ _ _ j=>j;rw[o]at U n⊢;exact Ir n (b1 U)
def Ev.gG(t:Fn u (.type VH) Vk V)(y:Ev u g i (.Name j v) (.raw (.type VH)))(m:a6 u g i (z::Vt) Vk):Ev u g i (.Call (.Name j v) (z::Vt) [] J) V:=λ X w A d q s E R=>by
 refine dr (y.use d R (Kp.refl s) λ f M H _ B p=>?_);obtain rfl:f=.type VH:=H;have n:=m.plain (E:=q) (v:=J);refine di m.cut λ _ _ D a b o=>?_;obtain rfl:=D;have U:=a6.use d (z:=J) (E:=E) (.cons a b o) (s:=M) (Q:=λ h c=>aA (au P0 w) A (I3 (.type VH) h) (λ f c=>RV X c.heap f V/\Kp s c) E c) p B λ h N L _ C l=>aG (t X w A d N h E l.left l.ex L) (λ _ _ G=>by refine am G λ a b=>?_;exact⟨a,C.trans b⟩) λ _ _ j=>j;rw[o]at U n⊢;exact I0 n (b1 U)
def fI(w:ar)(a:ae):Prop:=∀h,aC w h->∃o b,h.get? a=some o/\o.data=.func b
def Ev.ed(H:∀w,fI w h)(C:Fn u (.ref h) Vk V)(G:Ev u g i (.Name j v) (.raw (.ref h)))(p:a6 u g i (z::Vt) Vk):Ev u g i (.Call (.Name j v) (z::Vt) [] J) V:=λ X w A d y s E R=>by
 refine dr (G.use d R (Kp.refl s) λ f VO VM _ O m=>?_);obtain rfl:f=.ref h:=VM;have M:=p.plain (E:=y) (v:=J);refine aW (H w _ m.left) λ o B L D=>?_;refine di p.cut λ _ _ Y t b q=>?_;obtain rfl:=Y;have U:=a6.use d (z:=J) (E:=E) (.cons t b q) (s:=VO) (Q:=λ l c=>(c.heap.get? h=some o/\o.data=.func B)/\aA (au P0 w) A (I3 (.ref h) l) (λ f c=>RV X c.heap f V/\Kp s c) E c) m O λ l VP VN N T n=>⟨⟨N.keep _ _ L,D⟩,aG (C X w A d VP l E n.left n.ex VN) (λ _ _ VL=>by refine am VL λ h b=>?_;exact⟨h,T.trans b⟩) λ _ _ j=>j⟩;rw[q]at U M⊢;exact rS (b1 U)
noncomputable def gH(a:aw)(n:Str)(k:Jt):Jt:=if(k==.free&&a.kind==.function&&a.names.lookup n==some .cell)then .cell else k
noncomputable def bQ(b a:aw):aw:={b with names:=b.names.map λ(n,k)=>if(k==.free&&a.kind==.function&&a.names.lookup n==some .cell)then(n,.cell)else(n,k)}
def na(h:E.scope=VK):Qv g E=bQ g VK:=by subst h;rfl
theorem nb(sc:aw)(VM:Str):∀a:List (Str×Jt),(a.map λ(n,k)=>if(k==cM&&sc.kind==.function&&sc.names.lookup n==some .cell)then(n,LB)else(n,k)).lookup VM=(a.lookup VM).map (gH sc VM)
 |[]=>rfl|(n,k)::r=>by
  rw[uW];show Pm VM ((if(k==cM&&sc.kind==.function&&sc.names.lookup n==some .cell)=true then(n,LB)else(n,k))::_)=_;have e:(if(k==cM&&sc.kind==.function&&sc.names.lookup n==some .cell)=true then(n,LB)else(n,k))=(n,gH sc n k):=by unfold gH;split<;>rfl
  rw[e,aN,aN];rcases b:VM==n with _|_;·exact nb sc VM r
  ·obtain rfl:=pW b;rfl
theorem eF{c:Type}{x:Str}{a:c}:∀{l:List (Str×c)},l.lookup x=some a->(x,a)∈l
 |[],h=>aQ h|(n,b)::r,h=>by
  rw[aN]at h;split at h;·rename_i e;obtain rfl:=pW e;obtain rfl:=ax h;exact .head _
  ·exact .tail _ (eF h)
theorem nc{c:Type}{x:Str}:∀{l:List (Str×c)}{a:c},(x,a)∈l->∃b,l.lookup x=some b
 |(n,b)::r,a,h=>by
   rw[aN];split;·exact⟨_,rfl⟩
   · rename_i e;rcases aP.mp h with h|h;·refine am (JW h) λ d f=>?_;obtain rfl:=d;obtain rfl:=f;simp at e
     ·exact nc h
theorem qc{p:Env}(f:Str×Jt->List (Str×ae)->Sem (ForInStep (List (Str×ae))))(u:∀n k o c,p.cells.lookup n=some c->k=cM->f (n,k) o=jB (.yield ((n,c)::o)))(v:∀n k o,k≠cM->f (n,k) o=jB (.yield o)):∀(w:List (Str×Jt))(j:List (Str×ae)),(∀n,(n,cM)∈w->(p.cells.lookup n).isSome=true)->(∀n c,(n,c)∈j->p.cells.lookup n=some c)->∃l,QZ w j f=(jB l:Sem _)/\(∀n c,(n,c)∈l->p.cells.lookup n=some c)/\(∀n,(n,cM)∈w->∃c,(n,c)∈l)/\(∀y∈j,y∈l)
 |[],j,_,q=>⟨j,rfl,q,λ _ h=>(by cases h),λ _ h=>h⟩|(n,k)::r,j,t,q=>by
   rw[Kw];by_cases s:k=cM
   · refine ai (K1.mp (t n (s▸.head _))) λ c e=>?_;obtain⟨l,a,b,d,g⟩:=qc f u v r ((n,c)::j) (λ m i=>t m (.tail _ i)) (λ m z i=>by
       refine aH (aP.mp i) (λ i=>?_) λ i=>?_;·obtain⟨rfl,rfl⟩:=JW i;exact e
       ·exact q m z i);refine⟨l,by rw[u n k j c e s];exact a,b,λ m i=>?_,λ y A=>g y (.tail _ A)⟩;rcases aP.mp i with i|i;·refine am (JW i) ?_;rintro rfl x;obtain rfl:=x;exact⟨c,g _ (.head _)⟩
     ·exact d m i
   · refine mD (qc f u v r j (λ m i=>t m (.tail _ i)) q) λ l a b d g=>?_;refine⟨l,by rw[v n k j s];exact a,b,λ m i=>?_,g⟩;rcases aP.mp i with i|i;·refine am (JW i) ?_;rintro rfl x;obtain rfl:=x;exact(s rfl).elim
     ·exact d m i
def nd(l:∀n,(n,cM)∈g.names->(E.cells.lookup n).isSome=true):∃i,NQ g E=jB i/\(∀n c,i.lookup n=some c->E.cells.lookup n=some c)/\∀n,(n,cM)∈g.names->∃c,i.lookup n=some c:=by
 refine aj λ p=>?_;obtain⟨i,a,b,d,_⟩:=qc (p:=E) (λ x f=>if(x.2==cM)=true then(do let c<-R2 E x.1;jB (I8 ((x.1,c)::f)))else jB (I8 f)) (λ n k f c e j=>by subst j;unfold R2;simp only[beq_self_eq_true,if_true,e];rfl) (λ n k f j=>by rw[if_neg];simpa using j) g.names [] l (λ _ _ h=>(by cases h));refine p ?_;refine dU i ?_ (λ n c e=>b n c (eF e)) (λ n o=>by refine ai (d n o) λ c m=>?_;exact nc m);have e:NQ g E=(QZ g.names ([]:List (Str×ae)) (λ x f=>if(x.2==cM)=true then(do let c<-R2 E x.1;jB (I8 ((x.1,c)::f)))else jB (I8 f))>>=λ r=>jB r):=rfl;rw[e,a];rfl
noncomputable def cj(a:aw)(b:List (Str×PV)):List (Str×PV):=b.filter λ q=>a.names.lookup q.1 !=some .local
theorem la{g:Type}(f:Str->Bool)(x:Str):∀l:List (Str×g),(l.filter λ q=>f q.1).lookup x=if f x then l.lookup x else none
 |[]=>by simp|(n,a)::r=>by
   have c:=la f x r;by_cases d:(x==n)=true
   · obtain rfl:=pW d;rcases b:f x with _|_;·simp[H8,b,c]
     ·simp[H8,b,aN]
   · have e:(x==n)=ap:=by simpa using d
     rcases b:f n with _|_;·simp only[H8,b,cT,if_false,aN,e];exact c
     ·simp only[H8,b,if_true,aN,e];exact c
theorem hd{b:Type}(x:Str):∀l m:List (Str×b),(l++m).lookup x=(l.lookup x).or (m.lookup x)
 |[],m=>by simp|(n,a)::r,m=>by
  rw[O',aN,aN];split;·simp
  ·exact hd x r m
structure dJ(a b:aw):Prop where
 kind:a.kind=.function
 qd:∀y∈a.names,y.2≠LB
 names:∀y∈a.names,y.2=NameKind.local->a.names.lookup y.1=some .local
 free:∀n,(n,cM)∈a.names->b.names.lookup n=some .cell\/b.names.lookup n=some .free
def bq.comp{G j:List (Str×PV)}{t:List (Str×ae)}(R:bq w c g E s G)(P:dJ VK g)(y:KO s Vm)(T:∀n f,t.lookup n=some f->E.cells.lookup n=some f)(H:∀n,(n,cM)∈VK.names->∃f,t.lookup n=some f)(Y:Vm.Ns h Vg)(O:∀b,VG b->w b\/s.get? b=none)(N:Ex VG Vm)(Q:∀x p,j.lookup x=some p->∃v,Vg x=some v/\RV VG Vm v p)(U:∀x p,j.lookup x=some p->VK.names.lookup x=some .local):bq VG c (bQ VK g) (IB VK t h E) Vm (j++cj VK G):=by
 have J:∀x,(IB VK t h E).kindOf x=(VK.names.lookup x).map (gH g x):=λ x=>by
   show(Qv VK E).names.lookup x=_;rw[na R.scope];exact nb g x VK.names
 refine⟨R.left.keeps y,na R.scope,R.glob,R.blt,P.kind,N,λ x p e=>?_,λ x d=>?_⟩
 · unfold cc;rw[J];rcases i:VK.names.lookup x with _|k;·trivial
   · have l:=eF i;rw[hd]at e;cases k with
     |«local»=>
       have A:j.lookup x=some p:=by
         unfold cj at e;rw[la (λ n=>VK.names.lookup n !=some .local),i]at e;simpa using e
       exact aj λ D=>ak (Q x p A) λ v a b=>D ⟨Vg,v,Y,a,b⟩|cell=>exact(P.qd _ l rfl).elim|free=>
       have A:G.lookup x=some p:=by
         have :j.lookup x=none:=by cases q:j.lookup x with
           |none=>rfl|some VM=>have :=U x VM q;cases aO i this
         unfold cj at e;rw[this,la (λ n=>VK.names.lookup n !=some .local),i]at e;exact e
       have V:=R.vars x p A;unfold cc KP at V;rw[R.scope]at V;refine aj λ D=>ai (H x l) λ f u=>?_;have M:m6 w E s x p:=by rcases P.free x l with q|q<;>rw[q]at V<;>exact V
       obtain⟨z,v,a,b,r⟩:=M;have :z=f:=by have :=T x f u;rw[a]at this;exact ax this
       subst this;refine D ?_;have L:RV VG Vm v p:=r.shift λ b o VL e=>⟨λ q=>(O b q).elim VL (λ q=>by rw[e]at q;exact c7 q),y _ _ e⟩;show match(some (gH g x cM))with|some .local=>_|some .cell|some .free=>_|_=>True;unfold gH;by_cases q:(cM==cM&&g.kind==.function&&g.names.lookup x==some .cell)=true;·rw[if_pos q];exact⟨z,v,u,b.keeps y,L⟩
       ·rw[if_neg q];exact⟨z,v,u,b.keeps y,L⟩|_=>
       rw[IF,gH];rw[if_neg (λ B=>by cases B)];trivial
 · rw[J]at d;cases i:VK.names.lookup x with
   |none=>rw[i]at d;rcases d with d|d<;>exact aQ d|some k=>
     have l:=eF i;cases k with
     |free=>refine ai (H x l) λ f u=>?_;show(t.lookup x).isSome=true;rw[u];rfl|cell=>exact(P.qd _ l rfl).elim|_=>
       rw[i]at d;simp only[IF,gH]at d;rw[if_neg (λ B=>by cases B)]at d;rcases d with d|d<;>cases d
def iP(N:ae->Prop)(VM:a7)(v:ab)(p:PV)(e:b7):Prop:=if e.ctorIdx=23 then RV N VM v p else∃T b a c,v=.ref T/\(p=Tu a\/p=.inst (.ref 269) a)/\pY N VM T b.toArray/\ga (cb N VM) b a c
inductive BindsTo:b7->PV->List (Str×PV)->Prop|name{VM VL p}:BindsTo (.Name VM VL) p [(VM,p)]|tup{k VL p}(b:List (Str×Pos))(a:List bP):(p=Tu a\/p=.inst (.ref 269) a)->b.length=a.length->BindsTo (.Tuple (b.map λ n=>.Name n.1 n.2) k VL) p ((b.map (·.1)).zip (a.map .d)).reverse
def BindsTo.lb{c b:bP}(_:(Vf==j)=ap):BindsTo (.Tuple [.Name j v,.Name Vf J] a Vi) (Tu [c,b]) [(Vf,.d b),(j,.d c)]:=.tup [(j,v),(Vf,J)] [c,b] (.inl rfl) rfl
def BindsTo.Ak{x y z:Str}{e b c:bP}(h:V=Tu [e,b,c]\/V=.inst (.ref 269) [e,b,c])(_:(y==x)=ap)(_:(z==x)=ap)(_:(z==y)=ap):BindsTo (.Tuple [.Name x v,.Name y J,.Name z Vi] a VC) V [(z,.d c),(y,.d b),(x,.d e)]:=.tup [(x,v),(y,J),(z,Vi)] [e,b,c] h rfl
def tO{a b:List bP}(h:V=Tu a\/V=.inst U a)(g:V=Tu b\/V=.inst U b):b=a:=by rcases h with rfl|rfl<;>rcases g with g|g<;>cases g<;>rfl
def Al{p q:Vd}{a:List (Str×Vd)}(e:Pm j ((Vf,p)::a)=some q):j=Vf/\p=q\/j≠Vf/\a.lookup j=some q:=by
 simp only[aN]at e;by_cases h:j=Vf;·rw[beq_iff_eq.mpr h]at e;exact .inl ⟨h,ax e⟩
 ·rw[beq_eq_false_iff_ne.mpr h]at e;exact .inr ⟨h,e⟩
def Am{p:Vd}{a:List (Str×Vd)}(e:Pm j ((Vf,p)::a)=none):j≠Vf/\a.lookup j=none:=by
 simp only[aN]at e;by_cases h:j=Vf;·rw[beq_iff_eq.mpr h]at e;exact c7 e
 ·rw[beq_eq_false_iff_ne.mpr h]at e;exact⟨h,e⟩
structure jH(N:ae->Prop)(C:ae)(m:Str->Option ab)(d:List (Str×PV))(s:aa)(a:a7)(c:Str->Option ab):Prop where
 ns:a.Ns C c
 bound:∀x q,d.lookup x=some q->∃u,c x=some u/\RV N a u q
 rest:∀y,d.lookup y=none->c y=m y
 keep:∀b o,b≠C->s.heap.get? b=some o->a.get? b=some o
def tP{Q:Unit->aa->Prop}(G:E.scope.kind=.function)(J:E.kindOf j=some .local)(h:jH w E.locals Vg i q H.heap Vp)(C:w E.locals)(r:RV w H.heap U V)(D:∀f VL M,jH w E.locals Vg ((j,V)::i) q f M->(∀b d,b≠E.locals->H.heap.get? b=some d->f.get? b=some d)->Q () {H with heap:=f,toks:=VL}):aA (au P0 c) o (OF E j U) Q y H:=by
 refine N4 J h.ns (λ f L l=>D f _ _ ⟨L,λ t n e=>?_,λ t e=>?_,λ b d k e=>l.extBut b d k (h.keep b d k e)⟩ λ b d k e=>l.extBut b d k e) (by refine G.symm▸?_;rfl)
 · have z:KX w H.heap f:=λ b d O e=>l.extBut b d (λ n=>O (n▸C)) e;refine aH (Al e) (λ T=>?_) λ Y=>?_;·exact am T λ g B=>bj U (if_pos g) (B▸r.b0 z)
   ·exact am Y λ g e=>aj λ VM=>ak (h.bound t n e) λ u a b=>VM (bj u ((if_neg g).trans a) (b.b0 z))
 ·exact am (Am e) λ g e=>(if_neg g).trans (h.rest t e)
theorem qe{b:Env}:∀{a:List (Str×Pos)},(K5 (a.map λ n=>.Name n.1 n.2) b).length=a.length
 |[]=>rfl|n::a=>congrArg (·+1) (qe (a:=a))
theorem qf{c:Env}:∀{b:List (Str×Pos)},(K5 (b.map λ n=>.Name n.1 n.2) c).findIdx? (·.1)=none
 |[]=>rfl|n::b=>by
   have :=qf (c:=c) (b:=b);rw[JX]at this⊢;intro q a;refine aH (aP.mp a) ?_ λ a=>?_
   · rintro rfl;rfl
   ·exact this q a
def tQ{n:Str×Pos}{a:List (Str×Pos)}:(((n::a).map (·.1)).zip ((VI::Vo).map PV.d)).reverse++i=((a.map (·.1)).zip (Vo.map PV.d)).reverse++(n.1,PV.d VI)::i:=by simp only[uW,uW,Og,MD,kn];rfl
def An(J:E.scope.kind=.function)(C:w E.locals){f:List (Str×Pos)}:∀{s:aa}{m:Str->Option ab}{h:List (Str×PV)}{l:List ab}{a:List bP}{u:List ae}{Q:Unit->aa->Prop},ga (cb w s.heap) l a u->f.length=a.length->(∀n∈f,E.kindOf n.1=some .local)->jH w E.locals Vg h q s.heap m->(∀i B D,jH w E.locals Vg (((f.map (·.1)).zip (a.map .d)).reverse++h) q i D->Q () {s with heap:=i,toks:=B})->aA (au P0 c) o (Rq ((K5 (f.map λ n=>.Name n.1 n.2) E).map (·.2)) l) Q y s:=by induction f with
 |nil=>
   intro s m h l a u Q g j x t v;cases a with
   |cons=>cases j|nil=>obtain⟨rfl,_⟩:=gi g;exact J8 (v _ _ _ t)
 |cons n f M=>
   intro s m h l a u Q g j x t v;rcases a with _|⟨d,a⟩;·cases j
   · obtain⟨_,_,_,_,rfl,_,r,g⟩:=eT g;refine Il (assign_Name (tP (V:=.d d) J (x _ (.head _)) t C ⟨_,r⟩ λ i B D G k=>M (s:={s with heap:=i,toks:=B}) (vr (gh λ b U T e=>k b U (λ z=>T (z▸C)) e) g) (MJ j) (λ n z=>x n (.tail _ z)) G λ L V O H=>v L V O ?_));rw[tQ];exact H
def Ao{a:List (Str×Pos)}(c:a.length=Vo.length)(h:∀x q,((a.map (·.1)).zip (Vo.map PV.d)).reverse.lookup x=some q->E.kindOf x=some .local):∀n∈a,E.kindOf n.1=some .local:=λ n f=>by
 have d:n.1∈(((a.map (·.1)).zip (Vo.map PV.d)).reverse).map (·.1):=by
  rw[SA,LY (by rw[be,be,c];exact aB _)];exact MV.mpr (K3 f)
 refine ak (hp.mp d) λ q b e=>?_;have b:(q.1,q.2)∈((a.map (·.1)).zip (Vo.map PV.d)).reverse:=b;rw[e]at b;exact ai (nc b) λ r g=>h _ r g
def Ap{Q:Unit->aa->Prop}(C:E.scope.kind=.function)(B:BindsTo z V i)(D:∀x l,i.lookup x=some l->E.kindOf x=some .local)(VL:q.heap.Ns E.locals Vg)(t:w E.locals)(L:aC c q.heap)(G:iP w q.heap U V z)(Y:(∀x VO,z≠.Name x VO)->o.handled=none)(u:∀a g d,jH w E.locals Vg i q a d->Q () {q with heap:=a,toks:=g}):aA (au P0 c) o (assign z E U) Q y q:=by
 have r:∀(n:aa),(KO q.heap n.heap)->jH w E.locals Vg [] q n.heap Vg:=λ n k=>⟨VL.keeps k,λ _ _ e=>(by cases e),λ _ _=>rfl,λ b f _ e=>k b f e⟩;cases B with
 |name=>refine L1 (tP C (D _ _ (by rw[aN,beq_self_eq_true])) (r q λ _ _ e=>e) t G λ a g d M _=>u a g d M)|tup xs ds VM h=>
  refine aj λ VQ=>?_;refine du G λ T VU VT as VP e VN J=>?_;obtain rfl:=VP;obtain rfl:=tO VM e;refine VQ (tF (Y λ _ _ l=>by cases l) L VN ?_ ?_ λ j O=>?_);·simp only[I',cy J,<-h,qe]
  ·exact qf
  have H:KO q.heap j:=λ b f e=>O b f (br (az e)) e;refine An (s:={q with heap:=j}) C t (vr (gh λ b f _ e=>H b f e) J) h (Ao h D) (r {q with heap:=j} H) λ a g d S=>u a g d ?_;rw[IY]at S;exact S
structure dc(N:ae->Prop)(VO:ar)(A:aq)(it:ab)(VN:b7)(g:List PV)(d c:ae->Prop)(St:Nat->a7->Prop)(f:Nat->ab->a7->Prop):Prop where
 sub:∀b,c b->d b
 frame:∀i h a,St i h->(∀b o,d b->h.get? b=some o->a.get? b=some o)->St i a
 next:∀i p(s:aa)(Q:Option ab->aa->Prop)(E:ab->aa->Prop),g[i]?=some p->St i s.heap->(∀VL a e,iP N a VL p VN->f i VL a->(KX c s.heap a)->Q (some VL) {s with heap:=a,toks:=e})->aA (au P0 VO) A (KN it) Q E s
 go:∀i VL p(s:aa)(Q:Unit->aa->Prop)(E:ab->aa->Prop),f i VL s.heap->iP N s.heap VL p VN->(∀a,St (i+1) a->iP N a VL p VN->(KX c s.heap a)->Q () {s with heap:=a})->aA (au P0 VO) A (Jn VN it VL) Q E s
 done:∀(s:aa)(Q:Option ab->aa->Prop)(E:ab->aa->Prop),St g.length s.heap->(∀a e,(KX c s.heap a)->Q none {s with heap:=a,toks:=e})->aA (au P0 VO) A (KN it) Q E s
 self:∀i(s:aa)(Q:ab->aa->Prop)(E:ab->aa->Prop),St i s.heap->Q it s->aA (au P0 VO) A (LA it) Q E s
 calm:(∀x j,VN≠.Name x j)->A.handled=none
 hV:∀i h,St i h->∀b o,c b->h.get? b=some o->¬bw o
 there:∀i h,St i h->∀b,d b->∃o,h.get? b=some o
def bg(k:Lv)(i:aw)(l:List (Str×PV))(VN j:b7)(h:List PV):Prop:=∀(X:ae->Prop)(VL:ar)(A:aq),Rm k A->∀(VM:Env)(s:aa)(E:ab->aa->Prop)(Q:ab->aa->Prop),bq X VL i VM s.heap l->(∀e a c d f St g N,Kp s a->Kp a c->(∀b,N b↔X b\/a.heap.get? b=none)->dc N VL A e j h d f St g->St 0 c.heap->(∀b,d b->b<c.heap.objs.size)->(∀b,f b->a.heap.objs.size<=b)->(∀b,d b->¬X b)->Q e c)->aA (au P0 VL) A (He VN VM) (λ VO a=>aA (au P0 VL) A (LA VO) Q E a) E s
def Kp.re(k:Kp q H)(b:KO q.heap s):Kp q {H with heap:=s,toks:=a}:=by
 refine aW k λ _ _ e _=>?_;subst e;exact dw _ _ rfl b
def RV.mono(i:∀b,w b->VG b)(r:RV VG s U V):RV w s U V:=r.shift λ b o n e=>⟨λ q=>n (i b q),e⟩
def nf(i:∀b,w b->VG b)(r:ga (cb VG s) Ve Vo Y):ga (cb w s) Ve Vo Y:=vr (λ b o e=>dW.mpr ⟨λ q=>dH e (i b q),e' e,dm e⟩) r
def cW(b:s.objs.size<=h):s.get? h=none:=by
 rcases e:s.get? h with _|c;·rfl
 ·exact absurd (az e) (b'.mpr b)
def Aq{R:JJ->aa->Prop}{ba u:b7}{t:List Mk}{j p:ab}{B:Sem Unit}(I:Nat->aa->Prop)(N:QL (.ListComp ba t g v) a j p E=(do
     NL J match<-KN j with
     |none=>jB (.done .next)|some k=>
       Jn u j k
       assign u E k let mut f:=true
       for l in Vt do if f then f<-isTrue l E (He l E)
       if f then B
       again (.compLoop (.ListComp ba t g v) a j p E)))(U:∀n q,I n q->aA (au Vl c) o (KN j) (λ r y=>match r with
     |none=>R (.ok .next) y|some k=>aA (au Vl c) o (Jn u j k) (λ _ G=>aA (au Vl c) o (assign u E k) (λ _ H=>aA (au Vl c) o (QZ Vt true λ l r=>if r=true then do let f<-isTrue l E (He l E);jB (I8 f)else jB (I8 r)) (λ f z=>if f=true then aA (au Vl c) o B (λ _ L=>∃m,m<n/\I m L) (PA (au Vl c) o E λ e i=>R (.error e) i) z else∃m,m<n/\I m z) (PA (au Vl c) o E λ e i=>R (.error e) i) H) (PA (au Vl c) o E λ e i=>R (.error e) i) G) (PA (au Vl c) o E λ e i=>R (.error e) i) y) (PA (au Vl c) o E λ e i=>R (.error e) i) q)(n:Nat)(h:I n q):JO (au Vl c) o (.compLoop (.ListComp ba t g v) a j p E) R q:=by
 refine codeAny_loop rfl I (λ n q M=>?_) n h;show aA _ o ((QL (.ListComp ba t g v) a j p E).onRaise (λ x=>do Nt x E;theTreesLotGoes x)) _ _ q;refine wpAny_noted (N.symm▸(al (It (al (aG (U n q M) (λ r y C=>?_) λ _ _ b=>b)))));rcases r with _|k;·exact ah C
 · refine al (aG C (λ _ G O=>(al (aG O (λ _ H Q=>al (aG Q (λ f z D=>?_) λ _ _ b=>b)) λ _ _ b=>b))) λ _ _ b=>b);cases f with
   |false=>exact ah ⟨rfl,D⟩|true=>exact al (aG D (λ _ L T=>ah ⟨rfl,T⟩) λ _ _ b=>b)
inductive eG(k:Lv)(a:aw)(d:List (Str×PV)):List b7->Bool->Prop|nil:eG k a d [] true|one{VM VL}:Tr k a d VM VL->eG k a d [VM] VL
theorem eG.use(h:eG u g i Vt M)(j:Rm u o){Q:Bool->aa->Prop}(R:bq w c g E q.heap i)(e:∀a,Kp q a->bq w c g E a.heap i->Q M a):aA (au P0 c) o (QZ Vt true λ d r=>if r=true then do let l<-isTrue d E (He d E);jB (I8 l)else jB (I8 r)) Q y q:=by cases h with
 |nil=>exact wpAny_tests_nil (e q (Kp.refl _) R)|one h=>exact wpAny_tests_one (h.use j R (Kp.refl _) λ a u _ f=>e a u f)
def he(XX:ae->Prop)(VN:ar)(A:aq)(j:aw)(s:aa)(C D:ae)(h:Env)(n B:List (Str×PV))(i:Sem Unit)(f:List bP):Prop:=∀(a:a7)(k:Nat)(c:Array ab)(m:Str->Option ab),bq XX VN j h a n->(KO s.heap a)->a.PlainList D c->c.size+f.length<=a9->a.Ns C m->∀(Q:Unit->aa->Prop)(E:ab->aa->Prop),(∀e g VL l d,VL.PlainList D (c++e.toArray)->ga (cb XX VL) e f g->VL.Ns C d->(∀y p,B.lookup y=some p->d y=m y)->(∀b o,b≠D->b≠C->a.get? b=some o->VL.get? b=some o)->Q () {s with heap:=VL,toks:=l})->aA (au P0 VN) A i Q E {s with heap:=a,toks:=k}
inductive Ar{d:Type}(s:aa)(j:a7)(XX p:ae->Prop)(C D:ae)(B:List (Str×PV))(k:Str->Option ab)(r:Array ab)(a:List d)(c:d->Bool)(g:d->List bP)(St:Nat->a7->Prop)(n:Nat)(l:aa):Prop|mk(i:Nat)(h':a7)(m:Nat)(e:Str->Option ab)(f:List ab)(E:l={s with heap:=h',toks:=m})(G:St i h')(v:h'.PlainList D (r++f.toArray))(A:h'.Ns C e)(x:i<=a.length)(w:n=a.length+1-i)(H:∃h,ga (cb XX h') f (((a.take i).filter c).flatMap g) h)(z:∀b o,¬p b->b≠D->b≠C->j.get? b=some o->h'.get? b=some o)(u:∀y q,B.lookup y=some q->e y=k y)(t:Ex XX h')
def tR{ba V8:b7}{Wd:List Mk}{Wp:Sem Unit}(r:List Vd)(it:Vd->PV)(bs:Vd->List (Str×PV))(t:Vd->Bool)(T:Vd->List bP){B:List (Str×PV)}(Ws:dJ VK g)(W5:∀x∈r,BindsTo V8 (it x) (bs x))(Ww:∀x∈r,∀y l,(bs x).lookup y=some l->VK.names.lookup y=some .local)(W0:∀y l,B.lookup y=some l->VK.names.lookup y=some .local)(WZ:∀x∈r,∀y l,B.lookup y=some l->(bs x).lookup y=none)(W':∀x∈r,eG u (bQ VK g) ((bs x++B)++cj VK i) Vt (t x))(WY:Rm u o)(R:bq w c g E q.heap i){G:List (Str×ae)}(W6:∀n t,G.lookup n=some t->E.cells.lookup n=some t)(W7:∀n,(n,cM)∈VK.names->∃t,G.lookup n=some t)(Xl:QL (.ListComp ba Wd VK v) a U (.ref Q) (IB VK G h E)=(do
     NL J match<-KN U with
     |none=>jB (.done .next)|some V9=>
       Jn V8 U V9
       assign V8 (IB VK G h E) V9 let mut ok:=true
       for t in Vt do if ok then ok<-isTrue t (IB VK G h E) (He t (IB VK G h E))
       if ok then Wp
       again (.compLoop (.ListComp ba Wd VK v) a U (.ref Q) (IB VK G h E))))(W8:∀x∈r,t x=true->he VG c o (bQ VK g) q h Q (IB VK G h E) ((bs x++B)++cj VK i) B Wp (T x)){Wq M N:ae->Prop}{St:Nat->a7->Prop}{WO:Nat->ab->a7->Prop}(Fd:dc N c o U V8 (r.map it) Wq M St WO)(W4:∀f,VG f->w f\/q.heap.get? f=none)(Wu:∀f,VG f->N f)(Wt:VG Q)(V2:VG h)(We:∀f,M f->VG f)(W3:Q≠h)(Xs:q.heap.get? Q=none)(Xr:q.heap.get? h=none)(VX:∀f,Wq f->f≠Q/\f≠h)(Wg:∀f j,q.heap.get? f=some j->¬M f)(Xo:KO q.heap s)(Xh:St 0 s)(Xe:s.PlainList Q VB)(Xg:s.Ns h Vg)(W1:∀y l,B.lookup y=some l->∃VT,Vg y=some VT/\RV VG s VT l)(WU:Ex VG s)(Xj:VB.size+((r.filter t).flatMap T).length<=a9){Wm:JJ->aa->Prop}(WW:∀L as h' VS V7,h'.PlainList Q (VB++L.toArray)->ga (cb VG h') L ((r.filter t).flatMap T) as->h'.Ns h V7->(∀y l,B.lookup y=some l->V7 y=Vg y)->(∀f j,¬M f->f≠Q->f≠h->s.get? f=some j->h'.get? f=some j)->Wm (.ok .next) {q with heap:=h',toks:=VS}):JO (au P0 c) o (.compLoop (.ListComp ba Wd VK v) a U (.ref Q) (IB VK G h E)) Wm {q with heap:=s,toks:=b}:=by
 have WN:¬M Q:=λ l=>(VX Q (Fd.sub Q l)).1 rfl;have WM:¬M h:=λ l=>(VX h (Fd.sub h l)).2 rfl;have Wh:∀f j,q.heap.get? f=some j->f≠Q/\f≠h:=λ f j e=>⟨λ l=>(by rw[l,Xs]at e;cases e),λ l=>(by rw[l,Xr]at e;cases e)⟩;refine Aq (λ n WH=>Ar q s VG M h Q B Vg VB r t T St n WH) Xl ?_ (r.length+1) ⟨0,s,_,Vg,[],rfl,Xh,Xe,Xg,dk _,rfl,⟨[],.nil⟩,λ f j _ _ _ e=>e,λ _ _ _=>rfl,WU⟩;intro n WH l;obtain⟨z,H,VS,V7,L,Wb,WA,Wv,Wy,W9,VV,⟨as,Wj⟩,V4,Wr,WT⟩:=l;subst Wb VV;by_cases VM:z<r.length
 · have Wf:r[z]?=some r[z]:=ay VM;have VN:r[z]∈r:=IM VM;generalize r[z]=x at Wf VN;refine Fd.next z (it x) _ _ _ (by simp only[a',Wf];rfl) WA λ V9 WD WJ Xb Xf VQ=>?_;refine Fd.go z V9 (it x) _ _ _ Xf Xb λ Xm Xi Xc Xd=>?_;have Wl:KX M H Xm:=λ f j m e=>Xd f j m (VQ f j m e);have WI:KO q.heap H:=λ f j e=>V4 f j (Wg f j e) (Wh f j e).1 (Wh f j e).2 (Xo f j e);refine Ap (E:=IB VK G h E) (w:=N) Ws.kind (W5 x VN) (λ y l e=>?_) (Wy.at' λ j e=>Wl _ j WM e) (Wu h V2) (R.left.keeps λ f j e=>Wl f j (Wg f j e) (WI f j e)) Xc Fd.calm λ VP Xz WF Y=>?_
   · show(Qv VK E).names.lookup y=_;rw[na R.scope];show Pm y (VK.names.map _)=_;simp only[nb,Ww x VN y l e];simp only[IF,gH];rw[if_neg (λ WX=>by cases WX)]
   have V1:∀f j,¬M f->f≠h->H.get? f=some j->VP.get? f=some j:=λ f j m V e=>Y.keep f j V (Wl f j m e);have WB:St (z+1) VP:=Fd.frame _ _ _ Xi λ f j l e=>Y.keep f j (VX f l).2 e;have all:KO q.heap VP:=λ f j e=>V1 f j (Wg f j e) (Wh f j e).2 (WI f j e);have Wn:VP.PlainList Q (VB++L.toArray):=Wv.at λ j e=>V1 Q j WN W3 e;have Wc:Ex VG VP:=λ f l=>by
     by_cases VZ:M f;·exact Fd.there _ _ WB f (Fd.sub f VZ)
     · by_cases V0:f=h;·obtain rfl:=V0.symm;refine eb Y.ns λ j _ _ e _=>?_;exact⟨j,e⟩
       ·refine ai (WT f l) λ j e=>?_;exact⟨j,V1 f j VZ V0 e⟩
   have WL:KX VG H VP:=λ f j m e=>V1 f j (λ l=>m (We f l)) (λ l=>m (l▸V2)) e;have V':∀y l,B.lookup y=some l->WF y=Vg y:=λ y l e=>(Y.rest y (WZ x VN y l e)).trans (Wr y l e);have WP:bq VG c (bQ VK g) (IB VK G h E) VP ((bs x++B)++cj VK i):=by
     refine R.comp Ws all W6 W7 Y.ns W4 Wc (λ y p e=>?_) λ y p e=>?_
     · rw[hd]at e;rcases VO:(bs x).lookup y with _|WG
       · rw[VO]at e;have Wo:B.lookup y=some p:=by simpa using e
         exact ak (W1 y p Wo) λ VT Wa f=>⟨VT,(V' y p Wo).trans Wa,f.b0 (λ f j m e=>WL f j m (V4 f j (λ l=>m (We f l)) (λ l=>m (l▸Wt)) (λ l=>m (l▸V2)) e))⟩
       ·rw[VO]at e;cases e;refine ak (Y.bound y p VO) λ VT Wa f=>?_;exact⟨VT,Wa,f.mono Wu⟩
     · rw[hd]at e;refine ey (x:=(bs x).lookup y) (λ VO=>?_) λ WG VO=>?_;·rw[VO]at e;exact W0 y p (by simpa using e)
       ·exact Ww x VN y WG VO
   refine(W' x VN).use WY WP λ Xy Xp WQ=>aW Xp λ VY WK WV O=>?_;subst WV;have WC:St (z+1) VY:=Fd.frame _ _ _ WB λ f j _ e=>O f j e;have Wk:ga (cb VG VY) L (((r.take z).filter t).flatMap T) as:=vr (gh λ f j m e=>O f j (WL f j m e)) Wj;have WE:∀f j,¬M f->f≠Q->f≠h->s.get? f=some j->VY.get? f=some j:=λ f j m VR V e=>O f j (V1 f j m V (V4 f j m VR V e));have VS:(r.take (z+1)).filter t=(r.take z).filter t++(if t x then[x]else[]):=take_succ_filter t r z x Wf;cases V3:t x with
   |false=>
     simp only[cT,if_false];refine⟨r.length+1-(z+1),jb VM,z+1,VY,WK,_,L,rfl,WC,Wn.at λ j e=>O _ j e,Y.ns.keeps O,VM,rfl,⟨as,?_⟩,WE,V',Wc.keeps O⟩;rw[VS,V3];simpa using Wk|true=>
     simp only[if_true];have Xk:(VB++L.toArray).size+(T x).length<=a9:=by
       have Wb:=cy Wk;have VV:((r.filter t).flatMap T).length=(((r.take (z+1)).filter t).flatMap T).length+(((r.drop (z+1)).filter t).flatMap T).length:=by rw[<-eB,<-Ry,<-I1,LW]
       simp only[VS,V3]at VV;simp only[if_true,Ry,eB,Si,List.flatMap_nil,IY]at VV;have WS:L.toArray.size=L.length:=I' ..;rw[Array.size_append,WS];exact an (by rw[Wb,VV,La];exact bX (dx _ _) _) Xj
     refine W8 x VN V3 VY WK _ WF WQ (λ f j e=>O f j (all f j e)) (Wn.at λ j e=>O _ j e) Xk (Y.ns.keeps O) _ _ λ Xw Xx Xn Xv Xq Wx Xu Wz W2 V5=>?_;refine ai (m8 (vr (gh (λ f j m e=>V5 f j (λ l=>m (l▸Wt)) (λ l=>m (l▸V2)) e)) Wk) Xu) λ WR Xt=>⟨r.length+1-(z+1),jb VM,z+1,Xn,Xv,Xq,L++Xw,rfl,Fd.frame _ _ _ WC λ f j l e=>V5 f j (VX f l).1 (VX f l).2 e,by simpa using Wx,Wz,VM,rfl,⟨WR,?_⟩,λ f j m VR V e=>V5 f j VR V (WE f j m VR V e),λ y l e=>(W2 y l e).trans (V' y l e),λ f l=>?_⟩
     · rw[VS,V3];simpa using Xt
     · by_cases VZ:f=Q;·obtain rfl:=VZ.symm;refine ai Wx λ _ e=>?_;exact⟨_,e⟩
       · by_cases V0:f=h;·obtain rfl:=V0.symm;refine eb Wz λ j _ _ e _=>?_;exact⟨j,e⟩
         ·refine ai (Wc f l) λ j e=>?_;exact⟨j,V5 f j VZ V0 (O f j e)⟩
 · have Xa:z=r.length:=gu W9 VM;subst Xa;refine Fd.done _ _ _ (by rw[be];exact WA) λ WD WJ VQ=>?_;rw[IL]at Wj;exact WW L as WD WJ V7 (Wv.at λ j e=>VQ _ j WN e) (vr (gh λ f j m e=>VQ f j (λ l=>m (We f l)) e) Wj) (Wy.at' λ j e=>VQ _ j WM e) Wr λ f j m VR V e=>VQ f j m (V4 f j m VR V e)
def tS{ba l M:b7}{Y:List Mk}{V4:ae->Env->Sem Unit}(m:List Vd)(it:Vd->PV)(G:Vd->List (Str×PV))(j:Vd->Bool)(V:Vd->List bP)(VT:dJ VK g)(Wo:∀x∈m,BindsTo l (it x) (G x))(Wx:∀x∈m,∀V2 a,(G x).lookup V2=some a->VK.names.lookup V2=some .local)(Wu:∀x∈m,eG u (bQ VK g) (G x++cj VK i) Vt (j x))(WA:((m.filter j).flatMap V).length<=a9)(Wl:Rm u o)(R:bq w c g E q.heap i)(V1:Option (ab->Sem Unit)){t:List (Str×ae)}(Wq:∀n j,t.lookup n=some j->E.cells.lookup n=some j)(Wr:∀n,(n,cM)∈VK.names->∃j,t.lookup n=some j)(WB:∀U D f,QL (.ListComp ba (⟨l,M,Vt,0⟩::Y) VK v) 0 U (.ref D) f=(do
     NL M.pos match<-KN U with
     |none=>jB (.done .next)|some Wf=>
       Jn l U Wf
       assign l f Wf let mut ok:=true
       for j in Vt do if ok then ok<-isTrue j f (He j f)
       if ok then V4 D f
       again (.compLoop (.ListComp ba (⟨l,M,Vt,0⟩::Y) VK v) 0 U (.ref D) f)))(Ws:∀T C D,(∀b,T b->w b\/q.heap.get? b=none)->T D->T C->D≠C->q.heap.get? D=none->q.heap.get? C=none->∀x∈m,j x=true->he T c o (bQ VK g) q C D (IB VK t C E) (G x++cj VK i) [] (V4 D (IB VK t C E)) (V x)){V5 p N:ae->Prop}{St:Nat->a7->Prop}{Wg:Nat->ab->a7->Prop}(V':Kp q H)(Wa:Kp H VJ)(Wm:∀b,N b↔w b\/H.heap.get? b=none)(Fd:dc N c o U l (m.map it) V5 p St Wg)(Wz:St 0 VJ.heap)(Wt:∀b,V5 b->b<VJ.heap.objs.size)(V9:∀b,p b->H.heap.objs.size<=b)(Wj:∀D C VP VY,(∀b d,q.heap.get? b=some d->b<C)->q.heap.get? C=none->q.heap.get? D=none->D≠C->VP.heap.Ns C VY->RV (λ b=>w b\/b=C) VP.heap (.ref D) (Li ((m.filter j).flatMap V))->Kp q VP->PB (au P0 c) o y V1 Vh (.ref D) C (.ok .next) VP):aA (au P0 c) o (newList []) (λ V3 WH=>aA (au P0 c) o (UW VK E.globals t [] E.qual none I9 (some E)) (λ f WI=>JO (au P0 c) o (.compStart (.ListComp ba (⟨l,M,Vt,0⟩::Y) VK v) 0 U V3 {scope:=Qv VK E,locals:=f.locals,globals:=f.globals,cells:=f.cells,qual:=f.qual,func:=f.func,code:=f.code,frame:=f.frame,builtins:=f.builtins}) (PB (au P0 c) o y V1 Vh V3 f.locals) WI) y WH) y VJ:=by
 have VX:Kp q VJ:=V'.trans Wa;refine Ih (Om VT.qd (by intro V2 WD;simp at WD) (λ L VM VN=>?_) VT.kind);dsimp only at VM VN⊢;generalize VS:VJ.heap.push {cls:=.type "list",dict:=none,data:=.seq ([]:List ab).toArray}=r at VM VN⊢;have VL:r.objs.size=VJ.heap.objs.size+1:=by rw[<-VS,IG]
 have V6:∀d,VJ.heap.get? VJ.heap.objs.size≠some d:=λ d e=>Iy _ (az e);have VR:∀d,VJ.heap.get? r.objs.size≠some d:=λ d e=>absurd (az e) (by rw[VL];exact b'.mpr (I7 _));have J:VJ.heap.objs.size≠r.objs.size:=by simp only[VL];exact br (Ia _)
 have WE:∀b d,VJ.heap.get? b=some d->b<VJ.heap.objs.size:=λ b d e=>az e;have VQ:KO q.heap VJ.heap:=VX.keep;have Wn:r.get? VJ.heap.objs.size=some {cls:=.type "list",dict:=none,data:=.seq ([]:List ab).toArray}:=VS▸aF _ rfl;have WF:KO VJ.heap r:=λ b d e=>VS▸ao _ e;generalize VJ.heap.objs.size=D at*;generalize r.objs.size=C at*;have VO:KO VJ.heap L:=λ b d e=>VN.extBut b d (λ a=>VR d (a▸e)) (ao _ (WF b d e));have Wc:∀{b},(∀d,VJ.heap.get? b≠some d)->q.heap.get? b=none:=λ{b}h=>by
   rcases e:q.heap.get? b with _|d;·rfl
   ·exact absurd (VX.keep b d e) (h d)
 have z:=Wc V6;have O:=Wc VR;have VZ:∀b d,q.heap.get? b=some d->¬p b:=λ b d e a=>absurd (az (V'.keep b d e)) (b'.mpr (V9 b a));have WC:∀b,p b->H.heap.get? b=none:=λ b a=>cW (V9 b a);have Wd:∀{b},(∀d,VJ.heap.get? b≠some d)->H.heap.get? b=none:=λ{b}h=>by
   rcases e:H.heap.get? b with _|d;·rfl
   ·exact absurd (Wa.keep b d e) (h d)
 have V7:∀b,(w b\/p b\/b=D\/b=C)->w b\/q.heap.get? b=none:=λ b a=>by
   rcases a with a|a|a|a;·exact .inl a
   · refine .inr ?_;cases e:q.heap.get? b with
     |none=>rfl|some d=>exact absurd a (VZ b d e)
   ·exact .inr (a▸z)
   ·exact .inr (a▸O)
 have VU:St 0 L:=Fd.frame _ _ _ Wz λ b d _ e=>VO b d e;have V8:L.PlainList D #[]:=⟨_,VN.extBut _ _ J (ao _ Wn)⟩;refine aW VX λ WM WO Wi WN=>?_;have Wh:Ex (λ b=>w b\/p b\/b=D\/b=C) L:=λ b a=>by
   rcases a with a|a|a|a;·refine ai (R.ex b a) λ d e=>?_;exact⟨d,VO b d (VQ b d e)⟩
   ·exact Fd.there _ _ VU b (Fd.sub b a)
   ·obtain rfl:=a.symm;refine ai V8 λ _ e=>?_;exact⟨_,e⟩
   ·obtain rfl:=a.symm;refine eb VM λ d _ _ e _=>?_;exact⟨d,e⟩
 have Wb:∀We,JO (au P0 c) o (.compLoop (.ListComp ba (⟨l,M,Vt,0⟩::Y) VK v) 0 U (.ref D) (IB VK t C E)) (PB (au P0 c) o y V1 Vh (.ref D) C) {q with heap:=L,toks:=We}:=λ We=>by
   refine tR (B:=[]) (VG:=λ b=>w b\/p b\/b=D\/b=C) m it G j V VT Wo Wx (λ _ _ e=>nomatch e) (λ _ _ _ _ e=>nomatch e) (λ x VV=>by rw[IY];exact Wu x VV) Wl R Wq Wr (WB U D _) (λ x VV Wp=>by rw[IY];exact Ws _ C D V7 (.inr (.inr (.inl rfl))) (.inr (.inr (.inr rfl))) J z O x VV Wp) Fd V7 (λ b a=>(Wm b).mpr ?_) (.inr (.inr (.inl rfl))) (.inr (.inr (.inr rfl))) (λ b a=>.inr (.inl a)) J z O (λ b a=>(λ h=>⟨br h,by simp only[VL];exact br (gb h)⟩) (Wt b a)) VZ (λ b d e=>VO b d (VQ b d e)) VU V8 VM (λ _ _ e=>nomatch e) Wh (by simpa using WA) λ vs as h' WJ VY Ww WG Wy _ Wv=>?_
   · rcases a with a|a|a|a;·exact .inl a
     ·exact .inr (WC b a)
     ·exact .inr (a▸Wd V6)
     ·exact .inr (a▸Wd VR)
   · refine Wj D C _ VY (λ b d e=>(λ h=>by simp only[VL];exact gb h) (WE b d (VQ b d e))) O z J Wy ?_ ⟨h',WJ,rfl,λ b d e=>Wv b d (VZ b d e) (λ a=>by rw[a,z]at e;exact aQ e) (λ a=>by rw[a,O]at e;exact aQ e) (VO b d (VQ b d e))⟩;refine .gD (λ a=>a.elim (λ a=>by refine ai (R.ex D a) λ d e=>?_;exact bN z e) J) (Ve:=vs) (by simpa using Ww) (nf (λ b a=>?_) WG);exact a.elim .inl λ a=>.inr (.inr (.inr a))
 subst Wi;exact MB (codeAny_compStart_list (Wb _) (Fd.self 0 _ _ _ VU (Wb _))) λ _ _ x=>x
def he.ba{k:Lv}{ba:b7}{a:ae->Prop}{w:ar}{A:aq}{j:aw}{s:aa}{C D:ae}{g:Env}{l B:List (Str×PV)}{z:bP}(r:Rm k A)(h:Ev k j l ba (.d z))(t:a D)(Y:a C)(u:D≠C):he a w A j s C D g l B (do let _<-I3 (.builtin "list.append") [.ref D,<-He ba g]) [z]:=λ VL VP ys m n VN x i G Q E v=>by
 refine al (h.use r n (Kp.refl _) λ T VO O J _ U=>(aW J λ VM VQ p f=>?_));subst p;refine al (RD (hsz:=by simp at i;exact gv i) (x.at λ o e=>f _ o e) λ H y c=>ah ?_);exact ai O λ V N=>v [T] _ H _ m (y) (.cons (Kc (gh λ b o L e=>c.extBut b o (λ q=>L (q▸t)) e) N) .nil) ((G.keeps f).sameBut c (Kb u)) (λ _ _ _=>rfl) λ b o M _ e=>c.extBut b o M (f b o e)
theorem qg{b c:Type}{f:b->c}:∀{l:List b},l.flatMap (λ y=>[f y])=l.map f
 |[]=>rfl|a::l=>by rw[Si,qg];rfl
def tT{ba r VZ:b7}(h:List Vd)(p:Vd->PV)(j:Vd->List (Str×PV))(e:Vd->Bool)(f:Vd->bP)(Y:dJ VK g)(VN:∀x∈h,BindsTo r (p x) (j x))(VU:∀x∈h,∀L V4,(j x).lookup L=some V4->VK.names.lookup L=some .local)(VT:∀x∈h,eG u (bQ VK g) (j x++cj VK i) Vt (e x))(VR:∀x∈h,e x=true->Ev u (bQ VK g) (j x++cj VK i) ba (.d (f x)))(VW:h.length<=a9)(G:Rm u o)(R:bq w c g E q.heap i)(t:Option (ab->Sem Unit)){m:List (Str×ae)}(VP:∀n e,m.lookup n=some e->E.cells.lookup n=some e)(VQ:∀n,(n,cM)∈VK.names->∃e,m.lookup n=some e){B J N:ae->Prop}{St:Nat->a7->Prop}{M:Nat->ab->a7->Prop}(V0:Kp q H)(V1:Kp H VJ)(V:∀b,N b↔w b\/H.heap.get? b=none)(Fd:dc N c o U r (h.map p) B J St M)(VV:St 0 VJ.heap)(VS:∀b,B b->b<VJ.heap.objs.size)(VX:∀b,J b->H.heap.objs.size<=b)(O:∀D C l V2,(∀b V3,q.heap.get? b=some V3->b<C)->q.heap.get? C=none->q.heap.get? D=none->D≠C->l.heap.Ns C V2->RV (λ b=>w b\/b=C) l.heap (.ref D) (Li ((h.filter e).map f))->Kp q l->PB (au P0 c) o y t Vh (.ref D) C (.ok .next) l):aA (au P0 c) o (newList []) (λ z V5=>aA (au P0 c) o (UW VK E.globals m [] E.qual none I9 (some E)) (λ a V6=>JO (au P0 c) o (.compStart (.ListComp ba [⟨r,VZ,Vt,0⟩] VK v) 0 U z {scope:=Qv VK E,locals:=a.locals,globals:=a.globals,cells:=a.cells,qual:=a.qual,func:=a.func,code:=a.code,frame:=a.frame,builtins:=a.builtins}) (PB (au P0 c) o y t Vh z a.locals) V6) y V5) y VJ:=tS (V4:=λ D a=>do let _<-I3 (.builtin "list.append") [.ref D,<-He ba a]) h p j e (λ x=>[f x]) Y VN VU VT (by rw[qg,be];exact an (Ei _ _) VW) G R t VP VQ (λ _ _ _=>rfl) (λ XX C D V8 VM VL T V' V9 x VY VO=>he.ba G (VR x VY VO) VM VL T) V0 V1 V Fd VV VS VX (by refine qg.symm▸?_;exact O)
def tU{ba t l:b7}(a:List Vd)(r:Vd->PV)(e:Vd->List (Str×PV))(h:Vd->Bool)(f:Vd->bP)(j:dJ VK g)(VW:bg u g i l t (a.map r))(L:∀x∈a,BindsTo t (r x) (e x))(VL:∀x∈a,∀B VV,(e x).lookup B=some VV->VK.names.lookup B=some .local)(Y:∀x∈a,eG u (bQ VK g) (e x++cj VK i) Vt (h x))(U:∀x∈a,h x=true->Ev u (bQ VK g) (e x++cj VK i) ba (.d (f x)))(VP:a.length<=a9)(VN:∀E x,Ad l E x=jB x)(z:Rm u o)(R:bq w c g E q.heap i)(p:Option (ab->Sem Unit))(G:∀D C m VT,(∀b VU,q.heap.get? b=some VU->b<C)->q.heap.get? C=none->q.heap.get? D=none->D≠C->m.heap.Ns C VT->RV (λ b=>w b\/b=C) m.heap (.ref D) (Li ((a.filter h).map f))->Kp q m->PB (au P0 c) o y p Vh (.ref D) C (.ok .next) m):aA (au P0 c) o (comprehension (.ListComp ba [⟨t,l,Vt,0⟩] VK v) VK E J (newList []) ap (He l E) p) Vh y q:=by
 refine aj λ VX=>?_;refine ci (nd (E:=E) (g:=VK) λ n VM=>R.cells n (by unfold KP;refine(R.scope).symm▸?_;exact j.free n VM)) λ cl T M O=>?_;exact VX (Nb (use:=p) rfl (VN E) T j.kind j.names (VW w c o z E q y _ R λ V1 V2 V3 V0 V4 St VY N VR VS H Fd VO V VQ _=>tT a r e h f j L VL Y U VP z R p M O VR VS H Fd VO V VQ G))
def Ev.comp{ba m l:b7}(a:List Vd)(j:Vd->PV)(h:Vd->List (Str×PV))(c:Vd->Bool)(f:Vd->bP)(z:dJ VK g)(U:bg u g i l m (a.map j))(B:∀x∈a,BindsTo m (j x) (h x))(J:∀x∈a,∀y q,(h x).lookup y=some q->VK.names.lookup y=some .local)(H:∀x∈a,eG u (bQ VK g) (h x++cj VK i) Vt (c x))(G:∀x∈a,c x=true->Ev u (bQ VK g) (h x++cj VK i) ba (.d (f x)))(N:a.length<=a9)(M:autoParam (∀n x,Ad l n x=jB x) bc):Ev u g i (.ListComp ba [⟨m,l,Vt,0⟩] VK v) (Li ((a.filter c).map f)):=λ X w A r n s E R=>by
 simp only[Ro];refine tU a j h c f z U B J H G N M r R none λ D C VM O _ t Y VL L T kp=>⟨O,L,λ V p=>⟨?_,?_⟩⟩;·exact(T.b0 λ b o Q e=>p.extBut b o (λ q=>Q (.inr q)) e).mono λ b q=>.inl q
 ·exact kp.re λ b o e=>p.extBut b o (λ q=>by obtain rfl:=q.symm;exact bN t e) (kp.keep b o e)
def dc.qh{I:ae}{y u:List ae}{P:Nat->ab->Prop}{St:Nat->a7->Prop}(W:U4 P0 c o I y u a P St)(B:a=Vk.length)(D:∀b,¬w b->∃d,s.get? b=some d)(G:∀i p r,Vk[i]?=some p->P i r->RV w s r p)(J:∀b∈u,s.get? b=none)(M:∀i h,St i h->∀b∈y,∃d,h.get? b=some d)(L:∀i h,St i h->∀b∈u,∀d,h.get? b=some d->¬bw d):dc w c o (.ref I) (.Name j v) Vk (λ b=>¬w b\/b∈y) (·∈u) (λ i h=>St i h/\(KX w s h)) (λ i _ h=>St (i+1) h/\(KX w s h))where
 sub b f:=.inr (W.sub b f);frame i h t st k:=⟨W.frame i h t st.1 λ b f d e=>k b d (.inr f) e,λ b d l e=>k b d (.inl l) (st.2 b d l e)⟩;next i p m Q E C st g:=by
  refine W.item i m Q E (by simp only[B];exact(a8.mp C).1) st.1 λ r t z H T k=>?_;have keep:KX w s t:=λ b d l e=>k b d (λ q=>bN (J b q) e) (st.2 b d l e);exact g r t z ((G i p r C H).b0 keep) ⟨T,keep⟩ k
 go i r p m Q E st O g:=by
  have e:Jn (.Name j v) (.ref I) r=jB ():=rfl;exact e.symm▸(ah (g m.heap st O λ _ _ _ e=>e))
 done m Q E st g:=W.done m Q E (B▸st.1) λ t z k=>g t z k;self i m Q E st g:=W.self i m Q E st.1 g;calm h:=(h j v rfl).elim;hV i h st b d f e:=L i h st.1 b f d e;there i h st b f:=f.elim (λ l=>let⟨d,e⟩:=D b l;⟨d,st.2 b d l e⟩) λ f=>M i h st.1 b f
def dc.tV{I:ae}{B z:List ae}{L:Nat->Array ab->Prop}{St:Nat->a7->Prop}{J:Nat->ae->a7->Prop}(W:WalksU P0 c o I B z a L St J)(O:a=Vk.length)(VP:∀d,¬w d->∃f,s.get? d=some f)(VQ:∀i p m,Vk[i]?=some p->L i m->∃u x,p=Tu u/\ga (cb w s) m.toList u x)(M:∀d∈z,s.get? d=none)(VV:∀i h,St i h->∀d∈B,∃f,h.get? d=some f)(VU:∀i h,St i h->∀d∈z,∀f,h.get? d=some f->¬bw f)(VW:∀d∈z,w d)(VT:o.handled=none):dc w c o (.ref I) (.Tuple Vt b v) Vk (λ d=>¬w d\/d∈B) (·∈z) (λ i h=>St i h/\(KX w s h)) (λ i V h=>∃T,V=.ref T/\J i T h/\(KX w s h))where
 sub d l:=.inr (W.sub d l);frame i h k st g:=⟨W.frame i h k st.1 λ d l f e=>g d f (.inr l) e,λ d f j e=>g d f (.inl j) (st.2 d f j e)⟩;next i p t Q E U st r:=by
  refine W.item i t Q E (by refine O.symm▸?_;exact(a8.mp U).1) st.1 λ T m k G VR VS y g=>?_;have keep:KX w s k:=λ d f j e=>g d f (λ q=>bN (M d q) e) (st.2 d f j e);exact aj λ H=>aW (VQ i p m U VR) λ u x e V1=>H (r _ k G ⟨T,m.toList,u,x,rfl,.inl e,.inl (VS),vr (gh keep) V1⟩ ⟨T,rfl,y,keep⟩ g)
 go i V p t Q E st it r:=by
  refine ci st λ T V0 y keep=>?_;obtain rfl:=V0;refine W.go Vt b v i T t Q E y λ k V2 g=>?_;refine r k ⟨V2,(λ d f j e=>g d f (λ q=>bN (M d q) e) (keep d f j e))⟩ (aj λ H=>(du it λ V3 m u x Y VL VM VN=>?_)) g;cases Y;refine H ?_;have VO:pY w k T m.toArray:=by
   refine aH VM (λ VY=>?_) λ VZ=>?_;·exact ak VY λ f C D=>.inl ⟨f,g _ f (W.apart i _ _ y) C,D⟩
   ·exact bS VZ λ f a nT C D=>.inr ⟨f,a,nT,g _ f (W.apart i _ _ y) C,D⟩
  exact g2 T m u x rfl VL VO (vr (gh λ d f j e=>g d f (λ q=>j (VW d q)) e) VN)
 done t Q E st r:=W.done t Q E (O▸st.1) λ k G g=>r k G g;self i t Q E st r:=W.self i t Q E st.1 r;calm _:=VT;hV i h st d f l e:=VU i h st.1 d l f e;there i h st d l:=l.elim (λ j=>let⟨f,e⟩:=VP d j;⟨f,st.2 d f j e⟩) λ l=>VV i h st.1 d l
def RV.lc(a:∀b,VG b↔w b\/s.get? b=none)(r:RV w s U V):RV VG s U V:=r.shift λ b o c e=>⟨λ q=>((a b).mp q).elim c (λ q=>by rw[e]at q;exact c7 q),e⟩
def hW(a:∀b,VG b↔w b\/s.get? b=none):∀b,¬VG b->∃o,s.get? b=some o:=λ b c=>by
 rcases e:s.get? b with _|o;·exact(c ((a b).mpr (.inr e))).elim
 ·exact⟨o,rfl⟩
def jI(d:∀b,VG b↔w b\/s.get? b=none)(c:Ex w s)(f:∀b∈Y,s.get? b=none\/¬w b):∀b,(¬VG b\/b∈Y)->¬w b:=λ b q x=>by
 refine aH q (λ q=>?_) λ q=>?_;·exact q ((d b).mpr (.inl x))
 · refine aH (f b q) (λ e=>?_) λ e=>?_;·refine ai (c b x) λ o a=>?_;exact bN e a
   ·exact e x
def bw.hX(d:O.cls=.type VH)(e:VH≠"code")(g:O.data=.fields VB)(f:∀q t,VB[1]?≠some (.str q t)):¬bw O:=λ⟨i,a,q⟩=>by
 rw[g]at a;cases a;refine ez q (λ q=>?_) (λ q=>?_) λ h=>?_;·rw[d]at q;cases q
 ·rw[d]at q;exact e (by injection q)
 ·exact cP h λ q t b=>f q t b
def bw.As(c:O.data=.seq VB a):¬bw O:=λ⟨d,b,_⟩=>by rw[c]at b;cases b
def jJ(x:s.IsListIter h Q a):∀o,s.get? h=some o->¬bw o:=λ o e=>by
 refine ci x λ f b c d=>?_;cases aO e b;exact bw.hX c (by decide) d λ q t=>λ s=>by cases s
def tW{A B:aq}(U:A.handled=none)(VL:Kp q H)(L:Ex w H.heap)(VM:¬w h)(VN:H.heap.PlainList h Ve.toArray)(C:ga (cb w H.heap) Ve Vo Y)(O:∀z H k m D St G N,Kp q H->Kp H k->(∀b,N b↔w b\/H.heap.get? b=none)->dc N c A z (.Name j v) (Vo.map .d) m D St G->St 0 k.heap->(∀b,m b->b<k.heap.objs.size)->(∀b,D b->H.heap.objs.size<=b)->(∀b,m b->¬w b)->Vh z k):aA (au P0 c) B (LA (.ref h)) Vh y H:=by
 have n:=VN.isList;refine M3 n (ak (id n) λ VR V VQ=>?_);have r:h<H.heap.objs.size:=az V;have g:∀b,(w b\/H.heap.get? b=none)↔w b\/H.heap.get? b=none:=λ _=>N3;refine O (.ref H.heap.objs.size) H _ _ _ _ _ (λ b=>w b\/H.heap.get? b=none) VL Kp.push g (dc.qh (s:=H.heap) (PC (U) H.heap.objs.size h (br r) Ve.toArray) (by simp[cy C]) (hW g) (λ i p VO t u=>?_) (λ b f=>?_) (λ i M st b f=>?_) λ i M st b f o e=>jJ ((show b=H.heap.objs.size by exact aI.mp (f))▸st.1) o e) ⟨⟨⟨_,aF _ rfl,rfl,rfl⟩,n.push _⟩,λ b o _ e=>ao _ e⟩ (λ b f=>?_) (λ b f=>?_) (jI g L λ b f=>?_)
 · obtain⟨d,T,rfl⟩:∃d,Vo[i]?=some d/\p=.d d:=by
     rw[a']at t;exact ak (bh.mp t) λ d a b=>⟨d,a,b.symm⟩
   refine aW (hc C T) λ VP J a b=>?_;have :VP=VO:=by simp[a]at u;exact u
   subst this;exact RV.lc g ⟨J,b⟩
 · obtain rfl:b=H.heap.objs.size:=aI.mp (f);exact cW (aB _)
 · refine aH (aP.mp f) ?_ λ f=>?_
   · rintro rfl;exact ak st.1 λ o e _=>⟨o,e⟩
   · obtain rfl:b=h:=aI.mp (f);exact ak st.2 λ o e _=>⟨o,e⟩
 · show b<(H.heap.push _).objs.size;simp only[IG];rcases f with f|f
   · refine ey (x:=H.heap.get? b) (λ e=>?_) λ o e=>?_;·exact(f (.inr e)).elim
     ·exact gb (az e)
   · rcases aP.mp f with rfl|f;·exact Ia _
     · obtain rfl:b=h:=aI.mp (f);exact gb r
 · obtain rfl:b=H.heap.objs.size:=aI.mp (f);exact aB _
 · rcases aP.mp f with rfl|f;·exact .inl (cW (aB _))
   · obtain rfl:b=h:=aI.mp (f);exact .inr VM
def bg.list(h:u.2=true)(f:Ev u g i z (Li Vo)):bg u g i z (.Name j v) (Vo.map .d):=λ X w A b C s E Q R e=>f.use b R (Kp.refl s) λ G D r _ m c=>by
  refine aj λ t=>?_;refine bI r.list λ B H y p n o q=>?_;obtain rfl:=p;exact t (tW (b.calm h) m c.ex n o q e)
noncomputable def dK(a c:Int)(n:Nat):List Int:=(a1 n).map λ(i:Nat)=>a+(i:Int)*c
def ng{A B:aq}(VL:A.handled=none){g b k:Int}{t u M:Tok}(VR:Kp q H)(V:Ex w H.heap)(VN:R8 H.heap h g b k t u M)(VO:Jq g b k=true)(VM:Ig g b k=a)(Y:∀L H l z O St T N,Kp q H->Kp H l->(∀b,N b↔w b\/H.heap.get? b=none)->dc N c A L (.Name j v) ((dK g k a).map λ i=>I i) z O St T->St 0 l.heap->(∀b,z b->b<l.heap.objs.size)->(∀b,O b->H.heap.objs.size<=b)->(∀b,z b->¬w b)->Vh L l):aA (au P0 c) B (LA (.ref h)) Vh y H:=by
 refine wpAny_pyIter_range VN VO ?_;refine Y (.ref H.heap.objs.size) H _ _ _ _ _ (λ b=>w b\/H.heap.get? b=none) VR Kp.push (λ _=>N3) (dc.qh (s:=H.heap) (Walks.range VL H.heap.objs.size g k a) (by simp[dK]) (hW λ _=>N3) (λ i p M J VP=>?_) (λ b f=>?_) (λ i C st b f=>?_) λ i C st b f o e=>by
     obtain rfl:b=H.heap.objs.size:=aI.mp (f);cases aO e st;exact bw.hX rfl (by decide) rfl λ VS t=>λ C=>by cases C) ⟨?_,λ b o _ e=>ao _ e⟩ (λ b f=>?_) (λ b f=>?_) (jI (λ _=>N3) V λ b f=>?_)
 · refine ai VP ?_;rintro t rfl;obtain⟨G,D,rfl⟩:∃G,(dK g k a)[i]?=some G/\p=I G:=by
     rw[a']at J;exact ak (bh.mp J) λ d g b=>⟨d,g,b.symm⟩
   unfold dK at D;rw[a']at D;refine ak (bh.mp D) λ VQ m U=>?_;have :VQ=i:=by
     rw[Rx]at m;·exact(ax m).symm
     ·have :=(a8.mp m).1;simpa using this
   obtain rfl:=this.symm;subst U;exact .mkInt
 · obtain rfl:b=H.heap.objs.size:=aI.mp (f);exact cW (aB _)
 · obtain rfl:b=H.heap.objs.size:=aI.mp (f);exact⟨_,st⟩
 · show IsRangeIter _ _ (g+((0:Nat):Int)*k) ((a:Int)-((0:Nat):Int)) k;simp only[show g+((0:Nat):Int)*k=g by simp,show((a:Int)-((0:Nat):Int))=Ig g b k by rw[VM];rfl];exact aF _ rfl
 · show b<(H.heap.push _).objs.size;simp only[IG];rcases f with f|f
   · refine ey (x:=H.heap.get? b) (λ e=>?_) λ o e=>?_;·exact(f (.inr e)).elim
     ·exact gb (az e)
   · obtain rfl:b=H.heap.objs.size:=aI.mp (f);exact Ia _
 · obtain rfl:b=H.heap.objs.size:=aI.mp (f);exact aB _
 · obtain rfl:b=H.heap.objs.size:=aI.mp (f);exact .inl (cW (aB _))
def bg.tX(G:u.2=true)(L:Ev u g i (.Name Vf v) (.raw (.type "range")))(H:Ev u g i z (I C))(h:0<=C)(B:C<2^62)(l:autoParam (∀p c,bD (z::p) c=(ap,He z c)::bD p c) bc):bg u g i (.Call (.Name Vf v) [z] [] J) (.Name j Vi) ((dK 0 1 C.toNat).map λ M=>I M):=λ X w A d c s E Q R D=>by
 refine dr (L.use d R (Kp.refl s) λ Y f O _ N r=>?_);obtain rfl:Y=.type "range":=O;have U:=a6.use d (z:=J) (E:=E) (.cons H .nil l) (s:=f) (Q:=λ q V=>aA (au P0 w) A (I3 (.type "range") q) (λ j f=>aA (au P0 w) A (LA j) Q E f) E V) r N λ q VL T _ m y=>by
  refine ak T.one ?_;rintro _ rfl a;refine ai a.int ?_;rintro t rfl;refine call_range_1 ?_;exact ng (d.calm G) (m.re λ b o z=>ao _ (m.keep b o z)) (y.ex.keeps λ b o z=>ao _ z) (OJ ..) (RF (by decide) (by decide) (J2 (by decide) h) B) (by rw[Rn];exact oZ h) D
 rw[l]at U⊢;exact I0 rfl (b1 U)
def bg.tY{l m p:b7}{h b c:Int}(M:u.2=true)(VL:Ev u g i (.Name Vf v) (.raw (.type "range")))(T:Ev u g i l (I h))(V:Ev u g i m (I b))(Y:Ev u g i p (I c))(N:c≠0)(VN:Jq h b c=true)(VM:Ig h b c=a)(O:c.natAbs<1000)(B:autoParam (∀f d,bD (l::f) d=(ap,He l d)::bD f d) bc)(VO:autoParam (∀f d,bD (m::f) d=(ap,He m d)::bD f d) bc)(VP:autoParam (∀f d,bD (p::f) d=(ap,He p d)::bD f d) bc):bg u g i (.Call (.Name Vf v) [l,m,p] [] J) (.Name j Vi) ((dK h c a).map λ VQ=>I VQ):=λ X w A q d s E Q R L=>by
 refine dr (VL.use q R (Kp.refl s) λ VZ r VV _ VR G=>?_);obtain rfl:VZ=.type "range":=VV;have y:a6 u g i [l,m,p] [I h,I b,I c]:=.cons T (.cons V (.cons Y .nil VP) VO) B;have z:=y.plain (E:=d) (v:=J);have U:=a6.use q (z:=J) (E:=E) y (s:=r) (Q:=λ D VX=>aA (au P0 w) A (I3 (.type "range") D) (λ j r=>aA (au P0 w) A (LA j) Q E r) E VX) G VR λ D VY VW _ C H=>by
  refine bI VW.three ?_;rintro V2 V3 V4 rfl VS VT VU;refine ai VS.int ?_;rintro t rfl;refine ai VT.int ?_;rintro V0 rfl;refine ai VU.int ?_;rintro V1 rfl;exact call_range_3 N (ng (q.calm M) (C.re (a:=VY.toks) λ b o e=>ao _ (C.keep b o e)) (H.ex.keeps λ b o e=>ao _ e) (OJ ..) VN VM L) (.inl (P1 (me O (aE true))))
 rw[B]at U z⊢;exact I0 z (b1 U)
def lf(B:Ev u g i (.Name j v) (.raw (.type VH)))(m:a6 u g i (z::Vt) Vk)(l:Rm u o)(R:bq w c g E q.heap i)(h:∀f d,aU w d.heap f Vk->Kp q d->bq w c g E d.heap i->aA (au P0 c) o (I3 (.type VH) f) Vh y d):aA (au P0 c) o (He (.Call (.Name j v) (z::Vt) [] J) E) Vh y q:=by
 refine dr (B.use l R (Kp.refl q) λ O M H _ C r=>?_);obtain rfl:O=.type VH:=H;have n:=m.plain (E:=E) (v:=J);refine di m.cut λ _ _ G a b p=>?_;obtain rfl:=G;have U:=a6.use l (z:=J) (E:=y) (.cons a b p) (s:=M) (Q:=λ f d=>aA (au P0 c) o (I3 (.type VH) f) Vh y d) r C λ f N L _ D t=>h f N L D t;rw[p]at U n⊢;exact I0 n (b1 U)
noncomputable def lg(l:List bP):List bP:=l.zipIdx.map λ q=>.tuple [.int q.2,q.1]
def bg.nh(O:u.2=true)(V0:Ev u g i (.Name j v) (.raw (.type "enumerate")))(VY:Ev u g i z (Li Vo))(V2:autoParam (∀VN B,bD (z::VN) B=(ap,He z B)::bD VN B) bc):bg u g i (.Call (.Name j v) [z] [] J) (.Tuple Vt a Vi) ((lg Vo).map .d):=λ X w A C B s E Q R VX=>by
 refine lf V0 (.cons VY .nil V2) C R λ vs c Wa V4 VP=>aj λ f=>?_;refine ak Wa.one ?_;rintro Wi rfl V';refine bI V'.list ?_;rintro M vs as rfl V5 V8 VM;refine f ?_;have H:=V8.isList;refine S8 H λ N G T Wf r=>TF G (aj λ f=>ak (id H) λ Wg V We=>(f ?_));have U:M<c.heap.objs.size:=az V;have n:∀b,(X b\/c.heap.get? b=none)↔X b\/c.heap.get? b=none:=λ _=>N3;have fresh:∀b∈[c.heap.objs.size+1,c.heap.objs.size],c.heap.get? b=none:=aV (cW (I7 _)) (aV (cW (aB _)) dT);refine VX (.ref (c.heap.objs.size+1)) c _ _ _ _ _ (λ b=>X b\/c.heap.get? b=none) V4 ⟨N,c.toks,rfl,r⟩ n (dc.tV (s:=c.heap) (RJ (C.calm O) (c.heap.objs.size+1) c.heap.objs.size M (Nat.succ_ne_self _) (br (gb U)) (br U) vs.toArray).toU (by simp[lg,cy VM]) (hW n) (λ L p Wh Y V3=>?_) fresh (λ L h st=>?_) (λ L h st=>?_) (λ b m=>.inr (fresh b m)) (C.calm O)) ⟨⟨⟨_,G⟩,T,H.at λ o e=>r _ o e⟩,λ b o _ e=>r b o e⟩ (λ b m=>?_) (aV (I7 _) (aV (aB _) dT)) (jI n VP.ex (aV (.inl (cW (I7 _))) (aV (.inl (cW (aB _))) (aV (.inr V5) dT))))
 · refine aj λ f=>?_;refine aW V3 ?_;rintro t y VL rfl;rw[a']at Y;refine ak (bh.mp Y) ?_;rintro d D rfl;unfold lg at D;rw[a',Rd]at D;refine ak (bh.mp D) ?_;rintro q V1 rfl;refine ak (bh.mp V1) ?_;rintro d VZ rfl;refine aW (hc VM VZ) λ Wb bs VQ VR=>?_;have :Wb=y:=by simp[VQ]at VL;exact VL
   obtain rfl:=this.symm;refine ai (RV.lc n (V:=.d d) ⟨bs,VR⟩) λ Wd VS=>f ?_;refine dw [.int L,d] _ (by simp) (.cons (.int _ _) (.cons VS .nil))
 · refine aj λ f=>?_;obtain⟨⟨V7,e⟩,⟨o,VV,_⟩,V6,VW,_⟩:=st;exact f (aV ⟨_,e⟩ (aV ⟨o,VV⟩ (aV ⟨V6,VW⟩ dT)))
 · refine aj λ f=>?_;refine a4 st λ V9 j _=>?_;refine ai V9 λ V7 VU=>?_;refine f ?_;exact aV (λ o e=>by
     obtain rfl:=aO e VU;exact bw.hX rfl (by decide) rfl λ q t=>λ h=>by cases h) (aV (λ o e=>jJ j o e) dT)
 · rcases m with m|m;·refine ai (hW n b m) λ o e=>?_;exact az (r _ _ e)
   ·exact aV (p:=(·<N.objs.size)) (az G) (aV (by refine ak T λ o e _=>?_;exact az e) (aV (az (r _ _ V)) dT)) b m
noncomputable def iQ(l m:List bP):List bP:=(l.zip m).map λ q=>.tuple [q.1,q.2]
def bg.zip{l VZ:List bP}(VS:u.2=true)(Wi:Ev u g i (.Name j v) (.raw (.type "zip")))(We:Ev u g i z (Li l))(Wf:Ev u g i Vn (Li VZ))(Wo:autoParam (∀M m,bD (z::M) m=(ap,He z m)::bD M m) bc)(Wq:autoParam (∀M m,bD (Vn::M) m=(ap,He Vn m)::bD M m) bc):bg u g i (.Call (.Name j v) [z,Vn] [] J) (.Tuple Vt a Vi) ((iQ l VZ).map .d):=λ X w A N m s E Q R Wb=>by
 refine lf Wi (.cons We (.cons Wf .nil Wq) Wo) N R λ vs c WD Ws V3=>aj λ C=>?_;refine bS WD.two λ WS WT B WB WC=>?_;obtain rfl:=B;refine bI WB.list λ VN vs as L Wt Wv V0=>?_;obtain rfl:=L;have T:=Wv.isList;refine bI WC.list λ VO WH WM L Wu Ww V1=>?_;obtain rfl:=L;have U:=Ww.isList;refine ak (id T) λ WP Wl WN=>ak (id U) λ WQ Wm WO=>C ?_;have VT:VN<c.heap.objs.size:=az Wl;have VU:VO<c.heap.objs.size:=az Wm;refine call_zip_2 T U λ h' VX Wc Wd Wj Wk Wp H=>wpAny_pyIter_zip VX ?_;generalize G:c.heap.objs.size=n at*;have D:∀b,(X b\/c.heap.get? b=none)↔X b\/c.heap.get? b=none:=λ _=>N3;have new:∀f,c.heap.get? (n+f)=none:=λ f=>cW (G▸dx _ _);have fresh:∀b∈[n+4,n+3,n,n+1],c.heap.get? b=none:=aV (new 4) (aV (new 3) (aV (new 0) (aV (new 1) dT)));refine Wb (.ref (n+4)) c _ _ _ _ _ (λ b=>X b\/c.heap.get? b=none) Ws ⟨h',c.toks,rfl,H⟩ D (dc.tV (s:=c.heap) (WalksT.zip2 (N.calm VS) (n+4) (n+2) (n+3) n (n+1) VN VO (by rw[<-G]at*;exact zipApart_new VT VU) vs.toArray WH.toArray).toU (by simp[iQ,cy V0,cy V1]) (hW D) (λ f p WR VV Wr=>?_) fresh (λ f h st=>?_) (λ f h st=>?_) (λ b r=>.inr (fresh b r)) (N.calm VS)) ⟨⟨VX,Wc,⟨_,_,Wd⟩,Wj,Wk,T.at λ o e=>H _ o e,U.at λ o e=>H _ o e⟩,λ b o _ e=>H b o e⟩ (λ b r=>?_) (aV (G▸dx _ 4) (aV (G▸dx _ 3) (aV (G▸aB _) (aV (G▸I7 _) dT)))) (jI D V3.ex (aV (.inl (new 4)) (aV (.inl (new 2)) (aV (.inl (new 3)) (aV (.inl (new 0)) (aV (.inl (new 1)) (aV (.inr Wt) (aV (.inr Wu) dT))))))))
 · refine aj λ C=>?_;refine bS Wr ?_;rintro y WK VW VY rfl;rw[a']at VV;refine ak (bh.mp VV) ?_;rintro d O rfl;unfold iQ at O;rw[a']at O;refine ak (bh.mp O) λ Wx Wn B=>?_;obtain⟨VP,VQ⟩:=Wx;obtain rfl:=B;refine am (P5.mp Wn) λ Wg Wh=>?_;refine aW (hc V0 Wg) λ WI bs V4 V6=>aW (hc V1 Wh) λ WJ V8 V5 V9=>?_;have :WI=y:=by simp[V4]at VW;exact VW
   obtain rfl:=this.symm;have :WJ=WK:=by simp[V5]at VY;exact VY
   obtain rfl:=this.symm;exact ai (RV.lc D (V:=.d VP) ⟨bs,V6⟩) λ _ V'=>ai (RV.lc D (V:=.d VQ) ⟨V8,V9⟩) λ _ Wa=>C (dw [VP,VQ] _ rfl (.cons V' (.cons Wa .nil)))
 · refine aj λ C=>?_;obtain⟨V,WE,B,L,Wy,Wz,WA⟩:=st;refine cP B λ _ _ Y=>?_;refine ak L λ _ VL _=>?_;refine ak Wy λ _ VM _=>?_;refine ak Wz λ _ WF _=>?_;refine ak WA λ _ WG _=>?_;exact C (aV ⟨_,V⟩ (aV ⟨_,WE⟩ (aV ⟨_,Y⟩ (aV ⟨_,VL⟩ (aV ⟨_,VM⟩ (aV ⟨_,WF⟩ (aV ⟨_,WG⟩ dT)))))))
 · refine aj λ C=>?_;refine mC st λ V _ B VL VM _=>?_;refine cP B λ _ _ Y=>?_;refine C ?_;exact aV (λ o e=>by
     obtain rfl:=aO e V;exact bw.hX rfl (by decide) rfl λ q t=>λ h=>by cases h) (aV (λ o e=>by
     obtain rfl:=aO e Y;exact bw.As rfl) (aV (λ o e=>jJ VL o e) (aV (λ o e=>jJ VM o e) dT)))
 · show b<h'.objs.size;rcases r with r|r;·refine ai (hW D b r) λ o e=>?_;exact az (H _ _ e)
   · simp only[Wp];have lt:∀f,f<5->n+f<n+5:=λ f h=>Oc h n;exact aV (p:=(·<n+5)) (lt 4 (by decide)) (aV (lt 2 (by decide)) (aV (lt 3 (by decide)) (aV (lt 0 (by decide)) (aV (lt 1 (by decide)) (aV (aJ VT (dx _ _)) (aV (aJ VU (dx _ _)) dT)))))) b r
def ni{h:a7}{l:List Int}{b:List ab}{c:List ae}(x:ga h b (l.map .int) c):M' b l:=by induction l generalizing b c with
 |nil=>rw[(gi x).1];exact .nil|cons a l d=>
  refine du (eT x) λ _ _ _ _ e _ r f=>?_;obtain rfl:=e;refine ak (hb r) ?_;rintro _ rfl _;exact .cons _ _ (d f)
def qi(h:a7)(x:M' Ve B):ga h Ve (B.map .int) []:=by induction x with
 |nil=>exact .nil|cons n t _ a=>exact .cons (.int n t) a
def hY{h:a7}{l:List Str}{b:List ab}{c:List ae}(x:ga h b (l.map .str) c):Kg b l:=by induction l generalizing b c with
 |nil=>rw[(gi x).1];exact .nil|cons a l d=>
  refine du (eT x) λ _ _ _ _ e _ r f=>?_;obtain rfl:=e;refine ak (hb r) ?_;rintro _ rfl _;exact .cons _ _ (d f)
def Au(h:a7)(x:Kg Ve G):ga h Ve (G.map .str) []:=by induction x with
 |nil=>exact .nil|cons n t _ a=>exact .cons (.str n t) a
def Fn.lh(h:Vo.length<2^63):Fn u (.builtin "len") [Li Vo] (I Vo.length):=λ X w A n s b E L m r=>by
 refine aj λ i=>?_;refine ak r.one λ p d q=>?_;obtain rfl:=d;refine bI q.list λ a b j f o c g=>?_;obtain rfl:=f;refine i ?_;have e:=cy g;refine call_len_list c.isList (by simp;exact iw (kH e h)) ⟨?_,Kp.toks⟩;simp only[show(b.toArray.size:Int)=Vo.length by simp[e]];exact .mkInt
def Fn.hZ(h:j.length<2^63):Fn u (.builtin "len") [S j] (I j.length):=λ X w A d s e E L c r=>by
 refine aj λ b=>?_;refine ak r.one λ f a q=>?_;obtain rfl:=a;refine ai q.str ?_;rintro t rfl;exact b (len_str (yp (hI h (aE true))) ⟨.mkInt,Kp.toks⟩)
def Fn.nj:Fn u (.builtin "ord") [S ⟨#[a]⟩] (I a):=λ X w A f s g E L e r=>by
 refine aj λ d=>?_;refine ak r.one λ h b q=>?_;obtain rfl:=b;refine ai q.str ?_;rintro t rfl;exact d (PySem.P.ord_of_char ⟨.mkInt,Kp.toks⟩)
def Fn.nk(a:0<=C)(b:C<=1114111):Fn u (.builtin "chr") [I C] (S ⟨#[C.toNat]⟩):=λ X w A f s g E L e r=>by
 refine aj λ d=>?_;refine ak r.one λ h c q=>?_;obtain rfl:=c;refine ai q.int ?_;rintro t rfl;refine d ?_;exact PySem.P.chr_of_int (by simp;exact⟨a,b⟩) ⟨.mkStr,Kp.toks⟩
def Fn.tZ(h:C.natAbs.log2<1920):Fn u (.type "str") [I C] (S (Pw C)):=λ X w A e s f E L d r=>by
 refine aj λ c=>?_;refine ak r.one λ g b q=>?_;obtain rfl:=b;refine ai q.int ?_;rintro t rfl;exact c (PySem.P.str_of_int h ⟨.mkStr,Kp.toks⟩)
def Fn.Av{l c:List Int}(p:l.length<64)(v:∀m:List Int,m.Perm l->m.Pairwise (·<=·)->m=c):Fn u (.builtin "sorted") [Ls l] (Ls c):=λ X w A D s f E L n r=>by
 refine aj λ B=>?_;refine ak r.one ?_;rintro J rfl q;refine bI q.list λ a f C z G y d=>?_;obtain rfl:=z;refine B ?_;have e:=cy d;refine sorted_ints y.isList (ni d) (by simpa[e]using p) λ x H g h i=>?_;obtain rfl:=v _ h i;exact ai (sortedAll_at s.heap f x) λ j t=>⟨.gD (n.fresh (I7 _)) ⟨j,t⟩ (qi _ g),⟨_,_,rfl,λ b o e=>sortedAll_old e⟩⟩
def Fn.t0{l c:List Str}(p:l.length<64)(v:∀m:List Str,m.Perm l->M9 m=true->m=c):Fn u (.builtin "sorted") [Lt l] (Lt c):=λ X w A D s f E L n r=>by
 refine aj λ B=>?_;refine ak r.one ?_;rintro J rfl q;refine bI q.list λ a f C z G y d=>?_;obtain rfl:=z;refine B ?_;have e:=cy d;refine sorted_strs y.isList (hY d) (by simpa[e]using p) λ x H g h i=>?_;obtain rfl:=v _ h i;exact ai (sortedAll_at s.heap f x) λ j t=>⟨.gD (n.fresh (I7 _)) ⟨j,t⟩ (Au _ g),⟨_,_,rfl,λ b o e=>sortedAll_old e⟩⟩
def fJ(T:String)(q:PV):Prop:=∀(X:ae->Prop)(w:ar)(s:aa)(v:ab),aC w s.heap->RV X s.heap v q->s.TypeIs v T/\∀a,v=.ref a->∃b,s.heap.get? a=some b/\b.dict=none
def fJ.list:fJ "list" (Li Vo):=λ X w s v _ r=>by
 refine aj λ g=>?_;refine bI r.list λ a k h d i f j=>?_;obtain rfl:=d;refine ai f λ n e=>?_;refine g ?_;exact⟨⟨_,e,rfl⟩,λ b c=>by cases c;exact⟨_,e,rfl⟩⟩
def fJ.str:fJ "str" (S j):=λ X w s v _ r=>by
 refine ai r.str ?_;rintro t rfl;exact⟨JH _ _ _,λ b a=>(by cases a)⟩
def Ev.li{T d:String}{q r:PV}(VP:PlainAttrs T)(VT:Rr T j d)(VX:Nc (.builtin d)=jB (.type "method_descriptor"))(M:fJ T q)(L:Fn u (.builtin d) (q::Vk) r)(Y:Ev u g i z q)(y:a6 u g i (Vn::Vt) Vk)(O:(Vn::Vt).length<29)(N:autoParam (∀c,Ka z j c (He z c)=He z c) cN)(V:autoParam ((v.endLine==J.line)=true) bc):Ev u g i (.Call (.Attribute z j v) (Vn::Vt) [] J) r:=λ X w A m c s E R=>by
 have h:=y.plain (E:=c) (v:=J);refine JE (N c) ?_ V (Y.use m R (Kp.refl s) λ f D C _ VN p=>?_)
 · have G:(L9 J (bD (Vn::Vt) c)).all (λ x=>!x.1)=true:=by
     rw[MF]at h;rw[H9];intro x VL;have :=h x VL;simpa using this
   refine G.symm▸?_;have H:bF ((Vn::Vt).length+([]:List Keyword).length+(if([]:List Keyword).isEmpty then 0 else 1)<30)=true:=by
     simp only[decide_eq_true_eq];simp only[L6,MX,if_true];exact me O (aE true)
   refine H.symm▸?_;rfl
 · refine am (M X w D f p.left C) λ VV VW=>o' T d VP VT VX VV VW ?_;refine di y.cut λ _ _ VQ a b B=>?_;obtain rfl:=VQ;have U:=a6.use m (z:=J) (E:=E) (.cons a b B) (s:=D) (Q:=λ n l=>aA (au P0 w) A (I3 (.builtin d) ([f]++n)) (λ f l=>RV X l.heap f r/\Kp s l) E l) p VN λ n VU VS VM VO t=>aG (L X w A m VU (f::n) E t.left t.ex (.cons (C.keeps VM.keep) VS)) (λ _ _ VR=>by refine am VR λ a b=>?_;exact dv a (VO.trans b)) λ _ _ x=>x;rw[B]at U h⊢;exact Ir h (b1 U)
def Ev.jK(n:Rr "list" j VH)(p:Nc (.builtin VH)=jB (.type "method_descriptor"))(b:Fn u (.builtin VH) (Li Vo::Vk) V)(m:Ev u g i z (Li Vo))(c:a6 u g i (Vn::Vt) Vk)(f:autoParam ((Vn::Vt).length<29) ew)(d:autoParam (∀a,Ka z j a (He z a)=He z a) cN)(h:autoParam ((v.endLine==J.line)=true) bc):Ev u g i (.Call (.Attribute z j v) (Vn::Vt) [] J) V:=Ev.li Jv n p fJ.list b m c f d h
def Ev.lj(m:Rr "str" j VH)(n:Nc (.builtin VH)=jB (.type "method_descriptor"))(b:Fn u (.builtin VH) (S Vf::Vk) V)(l:Ev u g i z (S Vf))(c:a6 u g i (Vn::Vt) Vk)(f:autoParam ((Vn::Vt).length<29) ew)(d:autoParam (∀a,Ka z j a (He z a)=He z a) cN)(h:autoParam ((v.endLine==J.line)=true) bc):Ev u g i (.Call (.Attribute z j v) (Vn::Vt) [] J) V:=Ev.li PySem.F.plainAttrs_str m n fJ.str b l c f d h
def cz.int:cz (.int C):=⟨rfl,dk _⟩
def cz.str(h:cs j=true):cz (.str j):=⟨h,dk _⟩
def Aw(g:o.units+20<O5){v u:ab}{x y:bP}(c:cz x)(h:cz y)(b:RV w q.heap v (.d x))(a:RV w q.heap u (.d y)):SeqAt.EqAt o q v u (KG x y):=by exact aj λ i=>ai b λ e b=>ai a λ f a=>i (SeqAt.eqAt_reads x y o q v u e f (Kc hU b) (Kc hU a) c.1 h.1 (oU g c.2 rfl))
def Ax(x:ga s Ve Vo Y)(v:ab)(f:v∈Ve):∃d∈Vo,∃a,QO s v d a:=by
 refine aj λ g=>ai (No.mp f) λ i e=>?_;have b:i<Vo.length:=cy x▸(a8.mp e).1;refine aW (hc x (ay b)) λ u a c r=>?_;cases aO e c;exact g ⟨_,IM b,a,r⟩
def Fn.jL{k:Lv}:Fn k (.builtin "list.count") [Ls B,I C] (I (B.count C)):=λ X w A f s b E L J r=>by
 refine aj λ D=>?_;refine bS r.two λ N O i q p=>?_;obtain rfl:=i;refine bI q.list λ a b G j M o e=>?_;obtain rfl:=j;refine ai o λ n c=>?_;refine ai p.int ?_;rintro t rfl;refine D ?_;refine KA JK ⟨_,c,rfl⟩ PySem.F.entry_list_count (PySem.F.args_list_count_2 _ _) (SeqAt.list_countAt a b.toArray n none #[] (.int C t) (isInt C)) ⟨c,λ y h=>?_,?_⟩
 · obtain⟨d,g,H,v⟩:=Ax e y (by simpa using h);refine ak (hp.mp g) ?_;rintro m _ rfl;refine ak (hb v) ?_;rintro z rfl _;have :isInt C (.int m z)=KG (.int m) (.int C):=by rfl
   simp only[this];exact Aw (w:=X) (o:=A.in1) (yP (a:=A.units) (x:=21) f.gC rfl) cz.int cz.int .mkInt .mkInt
 · simp only[show b.toArray.toList=b from rfl,countP_isInt C (ni e)];exact⟨.mkInt,Kp.toks⟩
def Fn.join(b:j.length<=16)(c:(G.map (·.length)).sum+G.length<=1048576):Fn u (.builtin "str.join") [S j,Lt G] (S (Txt.join j G)):=λ X w A p s i E L o r=>by
 refine aj λ m=>?_;refine bS r.two λ y z e q g=>?_;obtain rfl:=e;refine ai q.str ?_;rintro t rfl;refine bI g.list λ a i n f v d h=>?_;obtain rfl:=f;exact m (join_listW d.isList (by simpa using hY h) b c λ _ _=>⟨.mkStr,Kp.toks⟩)
def aD.Ay(a:cz VI)(c:cz (.list Vo)):aD .NotIn (.d VI) (Li Vo) (!Vo.any λ y=>KG y VI):=λ X w A b s v u E i⟨g,f⟩⟨h,e⟩=>SeqAt.notIn_list_reads (Kc hU e) (Kc hU f) c.1 a.1 (yQ b a.2) ⟨rfl,Kp.refl _⟩
def bb.qj{p q:Bool}:bb .Sub (Bo p) (Bo q) (I ((if p then 1 else 0)-(if q then 1 else 0))):=λ X w A _ s v u E c b a=>by
 obtain rfl:=b.bool;obtain rfl:=a.bool;refine sub_bool ⟨?_,Kp.toks⟩;cases p<;>cases q<;>exact .mkInt
noncomputable def t1:Jt->Bool|.free=>true|_=>ap
noncomputable def Az:Jt->Bool|.cell=>true|_=>ap
noncomputable def qk:Option Jt->Bool|some .local=>true|_=>ap
noncomputable def AA:Option Jt->Bool|some .cell=>true|some .free=>true|_=>ap
noncomputable def t2:Option Jt->Bool|some .local=>true|some .cell=>true|some .free=>true|_=>ap
noncomputable def AB:ScopeKind->Bool|.function=>true|_=>ap
noncomputable def hf(b:List Str)(a c:aw):Bool:=AB a.kind&&a.names.all (λ y=>!Az y.2)&&a.names.all (λ y=>match y.2 with|.local=>qk (a.names.lookup y.1)|.free=>AA (c.names.lookup y.1)|_=>true)&&b.all λ n=>qk (a.names.lookup n)
def t3{o:Option Jt}(h:qk o=true):o=some .local:=by
 rcases o with _|k;·cases h
 ·cases k<;>first|rfl|cases h
def dJ.of(h:hf G g VK=true):dJ g VK/\∀n∈G,g.names.lookup n=some .local:=by
 unfold hf at h;simp only[ii,H9]at h;refine aj λ l=>?_;refine am h λ c j=>?_;refine am c λ c d=>?_;refine am c λ f i=>?_;refine l ⟨⟨?_,λ y b e=>?_,λ y b e=>?_,λ n a=>?_⟩,λ n a=>t3 (j n a)⟩;·revert f;cases g.kind<;>first|(intro _;rfl)|(intro h;cases h)
 ·have :=i y b;rw[e]at this;cases this
 ·have :=d y b;rw[e]at this;exact t3 this
 · have :=d (n,.free) a;dsimp only at this;revert this;rcases VK.names.lookup n with _|k;·intro h;cases h
   ·cases k<;>first|(intro h;cases h;done)|(intro _;exact .inl rfl)|(intro _;exact .inr rfl)
def jM(h:i.lookup j=some V):j∈i.map (·.1):=hp.mpr ⟨_,eF h,rfl⟩
def Ev.fe{ba l j:b7}(n:List Str)(a:List Vd)(h:Vd->PV)(b:Vd->List (Str×PV))(c:Vd->Bool)(f:Vd->bP)(m:hf n VK g=true)(A:bg u g i j l (a.map h))(t:∀x,(b x).map (·.1)=n)(p:∀x∈a,BindsTo l (h x) (b x))(s:∀x∈a,eG u (bQ VK g) (b x++cj VK i) Vt (c x))(r:∀x∈a,c x=true->Ev u (bQ VK g) (b x++cj VK i) ba (.d (f x)))(z:a.length<=a9)(w:autoParam (∀o x,Ad j o x=jB x) bc):Ev u g i (.ListComp ba [⟨l,j,Vt,0⟩] VK v) (Li ((a.filter c).map f)):=Ev.comp a h b c f (dJ.of m).1 A p (λ x _ y q e=>(dJ.of m).2 y (t x▸jM e)) s r z w
def AC{o:Option Jt}(h:t2 o=true):o=some .local\/o=some .cell\/o=some .free:=by
 rcases o with _|k;·cases h
 ·cases k<;>first|exact .inl rfl|exact .inr (.inl rfl)|exact .inr (.inr rfl)|cases h
noncomputable def dX(a:aw)(x:Str):Bool:=t2 (a.names.lookup x)&&!(x==("__debug__":Str))&&!(x==("__classdict__":Str))
def Ev.nm(a:autoParam (i.lookup j=some V) bc)(h:autoParam (dX g j=true) bc):Ev u g i (.Name j v) V:=by
 unfold dX at h;simp only[ii,IT]at h;exact Ev.name a (AC h.1.1) h.1.2 h.2
noncomputable def t4:Option Jt->Bool|some .globalImplicit=>true|_=>ap
def nl{o:Option Jt}(h:t4 o=true):o=some .globalImplicit:=by
 rcases o with _|k;·cases h
 ·cases k<;>first|rfl|cases h
noncomputable def cG(a:aw)(x:Str):Bool:=t4 (a.names.lookup x)&&!(x==("__debug__":Str))
def Ev.gl(a:∀P,a5 P j=some U)(h:autoParam (cG g j=true) bc):Ev u g i (.Name j v) (.raw U):=by
 unfold cG at h;simp only[ii,IT]at h;exact Ev.glob (nl h.1) a h.2
def Ev.bl(a:∀P,a5 P j=none/\cR P j=some U)(h:autoParam (cG g j=true) bc):Ev u g i (.Name j v) (.raw U):=by
 unfold cG at h;simp only[ii,IT]at h;exact Ev.blt (nl h.1) (λ P=>(a P).1) (λ P=>(a P).2) h.2
def h0(P:a3):a5 P (ac "range")=none/\cR P (ac "range")=some (.type "range"):=⟨by lia,by lia⟩
def dY(P:a3):a5 P (ac "len")=none/\cR P (ac "len")=some (.builtin "len"):=⟨by lia,by lia⟩
def t5(P:a3):a5 P (ac "zip")=none/\cR P (ac "zip")=some (.type "zip"):=⟨by lia,by lia⟩
def nn(P:a3):a5 P (ac "enumerate")=none/\cR P (ac "enumerate")=some (.type "enumerate"):=⟨by lia,by lia⟩
def AD(P:a3):a5 P (ac "ord")=none/\cR P (ac "ord")=some (.builtin "ord"):=⟨by lia,by lia⟩
def no(P:a3):a5 P (ac "chr")=none/\cR P (ac "chr")=some (.builtin "chr"):=⟨by lia,by lia⟩
def ql(P:a3):a5 P (ac "str")=none/\cR P (ac "str")=some (.type "str"):=⟨by lia,by lia⟩
def qm(P:a3):a5 P (ac "int")=none/\cR P (ac "int")=some (.type "int"):=⟨by lia,by lia⟩
def lk(P:a3):a5 P (ac "sorted")=none/\cR P (ac "sorted")=some (.builtin "sorted"):=⟨by lia,by lia⟩
def t6(P:a3):a5 P (ac "list")=none/\cR P (ac "list")=some (.type "list"):=⟨by lia,by lia⟩
def AE(P:a3):a5 P (ac "set")=none/\cR P (ac "set")=some (.type "set"):=⟨by lia,by lia⟩
noncomputable def AF(p:List Nat):b7:=(cE ((bB p).getD 0 b2)).e 0
def jN(h:∀d∈Vo,d.canLay0=true/\d.depth<=8):cz (.list Vo):=by
 constructor
 · show Lm Vo=true;induction Vo with
   |nil=>rfl|cons a r c=>show(a.canLay0&&Lm r)=true;simp only[(h a (.head _)).1,c λ d b=>h d (.tail _ b)];rfl
 · show JU Vo+1<=9;have :JU Vo<=8:=by induction Vo with
     |nil=>exact dk _|cons a r c=>exact Nat.max_le.mpr ⟨(h a (.head _)).2,c λ d b=>h d (.tail _ b)⟩
   exact iA this (aE true)
def bg.iR(c:u.2=true)(b:Ev u g i z (Ls B)):bg u g i z (.Name j v) (B.map λ d=>I d):=by
 have :=bg.list (j:=j) (v:=v) c b;rwa[dQ]at this
def bg.strs(c:u.2=true)(b:Ev u g i z (Lt G)):bg u g i z (.Name j v) (G.map λ d=>S d):=by
 have :=bg.list (j:=j) (v:=v) c b;rwa[dQ]at this
noncomputable def b6(l:List Int):List Int:=(l.filter λ x=>bF (x%65536<55296)||bF (57343<x%65536)).map (·%65536)
def AG(h:B.length<=100):Ev (a,true) (a0 [33]) [(ac "numbers",Ls B)] (AF [33]) (Ls (b6 B)):=by
 have e:(Ls (b6 B))=Li ((B.filter λ x=>bF (x%65536<55296)||bF (57343<x%65536)).map λ x=>.int (x%65536)):=by unfold b6 Ls;rw[dQ];rfl
 simp only[e];refine Ev.fe [ac "x"] B (λ x=>I x) (λ x=>[(ac "x",I x)]) _ _ (by rfl) (bg.iR rfl Ev.nm) (λ _=>rfl) (λ x _=>.name) (λ x b=>?_) (λ x b _=>?_) (an h (by decide));·exact .one (.k7 (Tr.cmp aD.lt (Ev.bJ (bb.iM (by decide)) Ev.nm .int) .int) λ _=>Tr.cmp aD.gt (Ev.bJ (bb.iM (by decide)) Ev.nm .int) .int)
 ·exact Ev.bJ (bb.iM (by decide)) Ev.nm .int
section
set_option genInjectivity false
theorem qn:∀(b:List (Str×Jt))(n:Nat)(a:List (Str×ae))(x:Str),(x,LB)∈b\/(∃c,(x,c)∈a)->∃c,(x,c)∈RI n b a
 |[],n,a,x,h=>by
   refine aH h (λ h=>?_) λ h=>?_;·cases h
   ·exact h|(m,d)::r,n,a,x,h=>by
   unfold RI;by_cases VL:d=LB
   · subst VL;rw[if_pos (by rfl)];refine qn r (n+1) _ x ?_;rcases h with h|⟨c,h⟩
     · rcases aP.mp h with h|h;·cases h;exact .inr ⟨n,.head _⟩
       ·exact .inl h
     ·exact .inr ⟨c,.tail _ h⟩
   · rw[if_neg (by simpa using VL)];refine qn r n a x ?_;rcases h with h|h
     · rcases aP.mp h with h|h;·refine am (JW h) ?_;rintro rfl e;obtain rfl:=e;exact(VL rfl).elim
       ·exact .inl h
     ·exact .inr h
theorem t7(a:Str->Option Jt)(x:Str):∀(b:List (Str×ab))(m:Str->Option ab),x∉b.map (·.1)->bindL a b m x=m x
 |[],_,_=>rfl|(n,v)::r,m,h=>by
  unfold bindL;have c:x≠n:=λ e=>h (e▸.head _);rw[t7 a x r _ λ q=>h (.tail _ q)];split;·simp[c]
  ·rfl
theorem t8(a:Str->Option Jt)(x:Str):∀(b:List (Str×ab))(m:Str->Option ab),x∉b.map (·.1)->bindC a b m x=m x
 |[],_,_=>rfl|(n,v)::r,m,h=>by
  unfold bindC;have c:x≠n:=λ e=>h (e▸.head _);rw[t8 a x r _ λ q=>h (.tail _ q)];split;·rfl
  ·simp[c]
theorem t9(c:Str->Option Jt)(x:Str)(v:ab)(d:c x=some .local):∀(b:List (Str×ab))(m:Str->Option ab),(b.map (·.1)).Nodup->b.lookup x=some v->bindL c b m x=some v
 |[],_,_,h=>aQ h|(n,u)::r,m,g,h=>by
   refine am (Jf.mp (show(n::r.map (·.1)).Nodup from g)) λ e f=>?_;unfold bindL;rw[aN]at h;refine gy (M:=x==n) (λ a=>?_) λ a=>?_;·rw[a]at h;exact t9 c x v d r _ f h
   · obtain rfl:=pW a;rw[a]at h;obtain rfl:=ax h;rw[t7 c x r _ e,if_pos d];simp
theorem t'(c:Str->Option Jt)(x:Str)(v:ab)(d:c x≠some .local):∀(b:List (Str×ab))(m:Str->Option ab),(b.map (·.1)).Nodup->b.lookup x=some v->bindC c b m x=some v
 |[],_,_,h=>aQ h|(n,u)::r,m,g,h=>by
   refine am (Jf.mp (show(n::r.map (·.1)).Nodup from g)) λ e f=>?_;unfold bindC;rw[aN]at h;refine gy (M:=x==n) (λ a=>?_) λ a=>?_;·rw[a]at h;exact t' c x v d r _ f h
   · obtain rfl:=pW a;rw[a]at h;obtain rfl:=ax h;rw[t8 c x r _ e,if_neg d];simp
def FA(A:aq)(b:ae):Prop:=∃l,A.frames=some l/\∃e∈l,e.frame=some b
inductive ua(h:a7)(e:Env):Prop|mk(a:e.scope.kind≠.module)(L:ae)(o:Obj)(b:e.frame=some L)(c:314<=L)(d:h.get? L=some o)(g:∀f,o.data≠.fields f)
def cH(A:aq)(h:a7):Prop:=∃l,A.frames=some l/\∀e∈l,ua h e
structure dd(t:Bool)(A:aq)(h a:a7):Prop where
 keep:∀b o,(t=true->¬bC b/\¬FA A b)->h.get? b=some o->a.get? b=some o
 fr:∀b o,FA A b->(∀d,o.data≠.fields d)->h.get? b=some o->∃c,a.get? b=some {o with slots:=c}
def Kq(t:Bool)(A:aq)(s b:aa):Prop:=∃a c,b={s with heap:=a,toks:=c}/\dd t A s.heap a
def dd.of_keeps(k:KO s Vm):dd M o s Vm:=⟨λ b a _ e=>k b a e,λ b a _ _ e=>⟨a.slots,k b a e⟩⟩
def dd.trans{h i j:a7}(a:dd M o h i)(b:dd M o i j):dd M o h j:=⟨λ c g n e=>b.keep c g n (a.keep c g n e),λ c g f d e=>by exact ai (a.fr c g f d e) λ m k=>ai (b.fr c {g with slots:=m} f d k) λ p l=>⟨p,l⟩⟩
def dd.strict(a:dd ap o s Vm):KO s Vm:=λ b c e=>a.keep b c (λ q=>by cases q) e
def dd.loose(a:dd M o s Vm):dd true o s Vm:=⟨λ b c n e=>a.keep b c (λ _=>n rfl) e,a.fr⟩
def Kq.trans:Kq M o q H->Kq M o H VJ->Kq M o q VJ:=λ h b=>by
 refine aW h λ _ _ a k=>?_;obtain rfl:=a;refine aW b λ _ _ a c=>?_;obtain rfl:=a;exact dw _ _ rfl (k.trans c)
def Kp.kq:Kp q H->Kq M o q H|⟨_,_,e,k⟩=>⟨_,_,e,.of_keeps k⟩
def Kq.kp:Kq ap o q H->Kp q H|⟨_,_,e,k⟩=>⟨_,_,e,k.strict⟩
theorem Kq.loose:Kq M o q H->Kq true o q H|⟨_,_,e,k⟩=>⟨_,_,e,k.loose⟩
def Kq.ext:Kq M o q H->dd M o q.heap H.heap|⟨_,_,e,k⟩=>by subst e;exact k
def dd.frames{c:aq}(e:c.frames=o.frames)(a:dd M o s Vm):dd M c s Vm:=by
 have :FA c=FA o:=by funext b;unfold FA;rw[e]
 exact⟨λ b d n=>a.keep b d (by rw[this]at n;exact n),λ b d f=>a.fr b d (by rw[this]at f;exact f)⟩
theorem Kq.frames{a:aq}(e:a.frames=o.frames):Kq M o q H->Kq M a q H|⟨_,_,b,k⟩=>⟨_,_,b,k.frames e⟩
def cH.fa(F:cH o s)(j:FA o h):314<=h/\∃f,s.get? h=some f/\∀n,f.data≠.fields n:=by
 refine aj λ p=>ak F λ l e k=>?_;obtain⟨r,i,x,m,q⟩:=j;cases aO e i;obtain⟨_,L,f,a,g,c,d⟩:=k x m;cases aO q a;exact p ⟨g,f,c,d⟩
def cH.move(F:cH o s)(k:∀b i,FA o b->(∀m,i.data≠.fields m)->s.get? b=some i->∃j,Vm.get? b=some j/\∀m,j.data≠.fields m):cH o Vm:=by
 refine ak F λ l e f=>⟨l,e,λ x n=>?_⟩;obtain⟨a,L,i,b,c,d,g⟩:=f x n;exact ak (k L i ⟨l,e,x,n,b⟩ g d) λ j p q=>⟨a,L,j,b,c,p,q⟩
def cH.ext(F:cH o s)(x:dd M o s Vm):cH o Vm:=F.move λ b c f d e=>let⟨g,a⟩:=x.fr b c f d e;⟨_,a,d⟩
def ff(A:aq)(b:ae):Prop:=¬bC b/\¬FA A b
def bC.lt(a:bC h):h<314:=by
 unfold bC c8 at a;simp only[JY]at a;rcases a with(a|a)|a<;>(rw[(KC a)];decide)
def Ow(X:ae->Prop)(a:Env)(b:ae):Prop:=X b\/b=a.locals\/∃n,a.cells.lookup n=some b
def gI(a:Env)(b:ae):Prop:=b=a.locals\/∃n,a.cells.lookup n=some b
def aL(X:ae->Prop)(a:Env)(O:List ae)(b:ae):Prop:=Ow X a b\/b∈O
structure Cx where
 t:Bool:=ap
 cd:ab:=.none
 qual:Str:=aR
inductive OL|p(l:List bP)|m(l:List PV)
def RO(X:ae->Prop)(VM:a7)(a:List ab):OL->Prop
 |.p l=>∃b,ga (cb X VM) a l b|.m l=>aU X VM a l
theorem aU.shift(k:∀b o,¬w b->s.get? b=some o->¬VG b/\Vm.get? b=some o):∀{d:List ab}{c:List PV},aU w s d c->aU VG Vm d c:=λ r=>by induction r with
 |nil=>exact .nil|cons a _ e=>exact .cons (a.shift k) e
theorem RO.shift(k:∀b o,¬w b->s.get? b=some o->¬VG b/\Vm.get? b=some o):∀{l:OL},RO w s Ve l->RO VG Vm Ve l
 |.p _,⟨d,r⟩=>⟨d,vr (λ b o e=>let⟨a,c⟩:=k b o (dH e) (dm e);dW.mpr ⟨a,e' e,c⟩) r⟩|.m _,r=>aU.shift k r
def RO.b0{l:OL}(k:KX w s Vm)(r:RO w s Ve l):RO w Vm Ve l:=r.shift λ b o n e=>⟨n,k b o n e⟩
structure AH(X:ae->Prop)(A:aq)(a:Env)(c h:a7):Prop where
 tab:∀b,bC b->X b
 fa:∀b,FA A b->Ow X a b/\b<=a.locals
 dA:cH A h
 top:∃l,A.frames=some (a::l)old:∀b,X b->¬bC b->b<c.objs.size->∃o,c.get? b=some o/\¬bw o
inductive ub(X:ae->Prop)(VM:Env)(VL:List ae)(h:a7)(m:Str->Option ab)(y:Str)(l:OL):Prop|mk(a:ae)(b:List ab)(c:VM.kindOf y=some .local)(d:m y=some (.ref a))(e:a∈VL)(f:h.PlainList a b.toArray)(g:RO (aL X VM VL) h b l)
structure FB(x:Cx)(X:ae->Prop)(w:ar)(A:aq)(g:aw)(VL:Env)(d:aa)(i:List (Str×PV))(e:List (Str×OL))(m VO:Str->Option ab)(VM:List ae)(s:aa):Prop where
 rel:Kq x.t A d s
 ns:s.heap.Ns VL.locals m
 fresh:d.heap.objs.size<=VL.locals
 hg:314<=d.heap.objs.size
 cell:∀n c,VL.cells.lookup n=some c->s.heap.IsCell c (VO n)cells:VL.cells.Pairwise λ a b=>a.2≠b.2
 above:∀n c,(n,c)∈VL.cells->VL.locals<c
 er:bq (aL X VL VM) w g VL s.heap i
 new:∀b∈VM,d.heap.objs.size<=b/\¬Ow X VL b
 own:∀y l,e.lookup y=some l->ub X VL VM s.heap m y l
 gJ:∀b∈VM,∃h,s.heap.PlainList b h
 nodup:(e.map (·.1)).Nodup
 apart:∀y z l f a,e.lookup y=some l->e.lookup z=some f->m y=some (.ref a)->m z=some (.ref a)->y=z
 code:VL.code=x.cd
 frame:VL.frame=some VL.locals
 qual:x.t=true->VL.qual=x.qual
 bi:x.t=true->AH X A VL d.heap s.heap
 xc:x.t=true->∀b o,X b->d.heap.objs.size<=b->s.heap.get? b=some o->¬bw o
def Ns.slots(g:s.Ns h Vg)(k:∀o,s.get? h=some o->(∀d,o.data≠.fields d)->∃c,Vm.get? h=some {o with slots:=c}):Vm.Ns h Vg:=by
 refine aj λ l=>o3 g λ o f e i b r=>?_;obtain⟨c,j⟩:=k o i λ d q=>by rw[b]at q;cases q
 exact l (sJ _ f e j b r)
def FB.locals{x:Cx}{a:List (Str×OL)}(F:FB x w c o g E q i a Vg Vp Y H):314<=E.locals:=an F.hg F.fresh
def FB.qo{x:Cx}{M:List (Str×OL)}(F:FB x w c o g E q i M Vg Vp Y H)(VN:Kq x.t o q VJ)(Q:x.t=true->cH o VJ.heap)(VO:x.t=true->∀b f,w b->q.heap.objs.size<=b->VJ.heap.get? b=some f->¬bw f)(J:VJ.heap.Ns E.locals Vg)(z:∀n j,E.cells.lookup n=some j->∀f,H.heap.get? j=some f->VJ.heap.get? j=some f)(L:∀b∈Y,∀f,H.heap.get? b=some f->VJ.heap.get? b=some f)(k:KX (aL w E Y) H.heap VJ.heap)(VM:aC c VJ.heap)(N:Ex (aL w E Y) VJ.heap):FB x w c o g E q i M Vg Vp Y VJ where
 rel:=VN;ns:=J;fresh:=F.fresh;hg:=F.hg;cell n j h:=let⟨f,a,b⟩:=F.cell n j h;⟨f,z n j h f a,b⟩;cells:=F.cells;above:=F.above;er:=by
   have R:=F.er;refine⟨VM,R.scope,R.glob,R.blt,R.kind,N,λ y p e=>((R.vars y p e).imp (λ t=>?_) λ t=>?_),R.cells⟩
   · obtain⟨G,v,a,b,j⟩:=t;have :G=Vg:=a.eq_nsMap.trans F.ns.eq_nsMap.symm;subst this;exact⟨G,v,J,b,j.b0 k⟩
   ·obtain⟨j,v,a,⟨f,b,d⟩,r⟩:=t;exact⟨j,v,a,⟨f,z y j a f b,d⟩,r.b0 k⟩
 new:=F.new;own y l h:=by
   obtain⟨a,u,T,U,B,V,VL⟩:=F.own y l h;exact⟨a,u,T,U,B,V.at λ f e=>L a B f e,VL.b0 k⟩
 gJ b C:=let⟨u,e⟩:=F.gJ b C;⟨u,e.at λ f e=>L b C f e⟩;nodup:=F.nodup;apart:=F.apart;code:=F.code;frame:=F.frame;qual:=F.qual;bi D:=let⟨a,b,j,d,e⟩:=F.bi D;⟨a,b,Q D,d,e⟩;xc:=VO
def FB.kp{x:Cx}{j:List (Str×OL)}(F:FB x w c o g E q i j Vg Vp Y H)(k:Kp H VJ):FB x w c o g E q i j Vg Vp Y VJ:=F.qo (F.rel.trans k.kq) (λ d=>(F.bi d).dA.ext (k.kq (M:=true)).ext) (λ d b a h l e=>by
  refine ai (F.er.ex b (.inl (.inl h))) λ n f=>?_;have :=k.keep b n f;cases aO e this;exact F.xc d b a h l f) (F.ns.keeps k.keep) (λ _ _ _ a e=>k.keep _ a e) (λ _ _ a e=>k.keep _ a e) (λ b a _ e=>k.keep b a e) (F.er.left.keeps k.keep) (F.er.ex.keeps k.keep)
def aC.tabs(L:aC c s)(d:bC h):∃o,s.get? h=some o:=by
 unfold bC c8 at d;simp only[JY]at d;rcases d with(d|d)|d<;>(have e:h=_:=KC d;subst e);·refine ak L.g8 λ f a _=>?_;exact⟨_,a⟩
 ·rcases L.g' with a|⟨_,a,_⟩<;>exact⟨_,a⟩
 ·refine ak L.g9 λ f a _=>?_;exact⟨_,a⟩
def FB.eU{x:Cx}{f:List (Str×OL)}(e:x.t=true)(F:FB x w c o g E q i f Vg Vp Y H)(d:¬Ow w E h):ff o h:=⟨λ a=>d (.inl ((F.bi e).tab h a)),λ a=>d ((F.bi e).fa h a).1⟩
def FB.nq{x:Cx}{f:List (Str×OL)}(e:x.t=true)(F:FB x w c o g E q i f Vg Vp Y H)(d:E.cells.lookup j=some h):ff o h:=by
 have b:=F.above j h (mem_of_lookup d);exact⟨λ a=>absurd (bC.lt a) (b'.mpr (an F.locals (bn b))),λ a=>absurd b (b'.mpr ((F.bi e).fa h a).2)⟩
def FB.AI{x:Cx}{b:List (Str×OL)}(a:x.t=true)(F:FB x w c o g E q i b Vg Vp Y H):FA o E.locals:=by
 obtain⟨_,_,_,⟨l,e⟩,_⟩:=F.bi a;exact⟨_,e,E,.head _,F.frame⟩
def dd.there(E:dd M o s Vm)(L:aC c Vm)(T:M=true->cH o s)(e:s.get? h=some O):∃O,Vm.get? h=some O:=by
 by_cases g:M=true/\bC h;·exact L.tabs g.2
 · by_cases a:M=true/\FA o h
   · refine aj λ l=>?_;obtain⟨_,k,i,d⟩:=(T a.1).fa a.2;exact ai (E.fr h k a.2 d i) λ m j=>l ⟨_,j⟩
   ·exact⟨O,E.keep h O (λ f=>⟨λ q=>g ⟨f,q⟩,λ q=>a ⟨f,q⟩⟩) e⟩
def FB.kt{x:Cx}{v:List (Str×OL)}(f:x.t=true)(F:FB x w c o g E q i v Vg Vp Y H)(k:Kq true o H VJ)(L:aC c VJ.heap):FB x w c o g E q i v Vg Vp Y VJ:=by
 have j:=k.ext;refine F.qo (F.rel.trans (f▸k)) (λ _=>(F.bi f).dA.ext j) (λ _ b a p u e=>?_) (Ns.slots F.ns λ a e d=>j.fr _ a (F.AI f) d e) (λ n y h a e=>j.keep y a (λ _=>F.nq f h) e) (λ b p a e=>j.keep b a (λ _=>F.eU f (F.new b p).2) e) (λ b a C e=>j.keep b a (λ _=>F.eU f λ l=>C (.inl l)) e) L λ b l=>?_
 · refine ai (F.er.ex b (.inl (.inl p))) λ D t=>?_;by_cases r:FA o b
   · obtain⟨_,G,z,d⟩:=(F.bi f).dA.fa r;refine ai (j.fr b G r d z) λ N B=>?_;cases aO e B;exact λ J=>by refine ak J λ M l _=>?_;exact d M l
   · have :=j.keep b D (λ _=>⟨(λ l=>absurd (bC.lt l) (b'.mpr (an F.hg u))),r⟩) t;cases aO e this;exact F.xc f b a p u t
 exact ai (F.er.ex b l) λ a e=>j.there L (λ _=>(F.bi f).dA) e
def FB.hO{x:Cx}{a:List (Str×OL)}(F:FB x w c o g E q i a Vg Vp Y H):∀b∈Y,¬Ow w E b/\(x.t=true->ff o b):=λ b h=>⟨(F.new b h).2,λ t=>F.eU t (F.new b h).2⟩
end
variable{A:Cx}{D:List (Str×OL)}
noncomputable def iS:List (Str×OL)->List (Str×PV)
 |[]=>[]|(x,.p l)::r=>(x,Li l)::iS r|(_,.m _)::r=>iS r
noncomputable def seen(a:List (Str×PV))(b:List (Str×OL)):List (Str×PV):=iS b++a
noncomputable def bu(x:Str)(a:List (Str×OL)):List (Str×OL):=a.filter λ q=>q.1 !=x
def h1{l:OL}(h:(bu j D).lookup Vf=some l):Vf≠j/\D.lookup Vf=some l:=by
 unfold bu at h;rw[la (λ n=>n !=j)]at h;by_cases q:Vf=j;·subst q;simp at h
 ·exact⟨q,by simpa[q]using h⟩
def ee(a:List (Str×OL)):Prop:=(a.map (·.1)).Nodup
theorem nr{x:Str}:∀{c:List (Str×OL)}{p:PV},ee c->(iS c).lookup x=some p->∃l,c.lookup x=some (.p l)/\p=Li l
 |[],_,_,h=>aQ h|(n,.p l)::r,p,b,h=>by
   unfold iS at h;simp only[aN]at h;simp only[aN];cases a:x==n with
   |true=>rw[a]at h;obtain rfl:=ax h;exact bj l rfl rfl|false=>rw[a]at h;exact nr (Jf.mp b).2 h
 |(n,.m l)::r,p,b,h=>by
   unfold iS at h;simp only[aN];refine am (Jf.mp b) λ f d=>?_;rcases a:x==n with _|_;·exact nr d h
   · refine ak (nr d h) λ g e _=>?_;have :=eF e;rw[pW a]at this;exact(f (hp.mpr ⟨_,this,rfl⟩)).elim
def ee.drop(h:ee D):ee (bu j D):=by
 unfold ee bu at*;exact List.Nodup.sublist (UJ _ (List.filter_sublist)) h
def ee.put{l:OL}(h:ee D):ee ((j,l)::bu j D):=by
 refine Jf.mpr ⟨λ q=>(ak (hp.mp q) λ y a e=>?_),ee.drop h⟩;have :=(hu.mp a).2;rw[e]at this;simp at this
def Kq.hh(j:q.heap.objs.size<=h)(k:Kq M o q H)(g:∀b c,b≠h->H.heap.get? b=some c->s.get? b=some c):Kq M o q {H with heap:=s,toks:=a}:=by
 refine aW k λ m p e E=>?_;subst e;have ne:∀b c,q.heap.get? b=some c->b≠h:=λ b c e=>br (aJ (az e) j);exact⟨s,a,rfl,λ b c n e=>g b c (ne b c e) (E.keep b c n e),λ b c f d e=>(ai (E.fr b c f d e) λ l i=>⟨l,g b _ (ne b c e) i⟩)⟩
def aC.hh(L:aC c s)(d:314<=h)(g:∀o,s.get? h=some o->¬bw o)(i:∀b o,b≠h->s.get? b=some o->Vm.get? b=some o):aC c Vm:=L.move λ b o q e=>i b o (λ f=>by
  obtain rfl:=f.symm;refine aH q (λ q=>?_) λ q=>?_;·exact absurd q.lt (b'.mpr d)
  ·exact g o e q) e
def FB.reads(F:FB A w c o g E q i D Vg Vp Y H):bq (Ow w E) c g E H.heap (seen i D):=by
 have R:=F.er;refine⟨R.left,R.scope,R.glob,R.blt,R.kind,λ b d=>R.ex b (.inl d),λ A p e=>?_,R.cells⟩;unfold seen at e;rw[hd]at e;refine ey (x:=(iS D).lookup A) (λ h=>?_) λ B h=>?_
 · rw[h]at e;exact(R.vars A p (by simpa using e)).imp (λ d=>by obtain⟨j,v,a,b,f⟩:=d;exact⟨j,v,a,b,f.mono λ b d=>.inl d⟩) λ d=>by obtain⟨j,v,a,b,f⟩:=d;exact⟨j,v,a,b,f.mono λ b d=>.inl d⟩
 · rw[h]at e;obtain rfl:=ax e;refine ak (nr F.nodup h) ?_;rintro l y rfl;obtain⟨a,C,k,n,r,t,z,u⟩:=F.own A _ y;unfold cc;exact k.symm▸⟨Vg,_,F.ns,n,.gD (F.new a r).2 t (nf (λ b d=>.inl d) u)⟩
def Ns.c9(n:s.Ns h Vg):∃o,s.get? h=some o/\∀b,o.data≠.fields b:=by
 refine aj λ e=>o3 n λ o g f d c _=>e ?_;exact bj o d (λ b q=>by rw[c]at q;cases q)
def FB.eD(F:FB A w c o g E q i D Vg Vp Y H):E.scope.kind=.function:=by refine(F.er.scope).symm▸?_;exact F.er.kind
def FB.cB(F:FB A w c o g E q i D Vg Vp Y H)(y:Str):E.kindOf y=g.names.lookup y:=by unfold KP;rw[F.er.scope]
def FB.putL{G:Str->Option ab}{VL:List (Str×PV)}{J:List (Str×OL)}{B:List ae}(F:FB A w c o g E q i D Vg Vp Y H)(M:s.Ns E.locals G)(V:Js E.locals H.heap s)(hO:∀b,b∈Y->b∈B)(Q:∀b∈B,(q.heap.objs.size<=b/\¬Ow w E b)/\∃u,H.heap.PlainList b u)(VS:∀y p,VL.lookup y=some p->cc (aL w E B) E s y p)(VR:∀y l,J.lookup y=some l->ub w E B s G y l)(VQ:ee J)(VM:∀y z l l' U,J.lookup y=some l->J.lookup z=some l'->G y=some (.ref U)->G z=some (.ref U)->y=z):FB A w c o g E q VL J G Vp B {H with heap:=s,toks:=a}:=by
 have t:∀b j,b≠E.locals->H.heap.get? b=some j->s.get? b=some j:=λ b j VP e=>V.extBut b j VP e;have R:=F.er;refine⟨F.rel.hh F.fresh t,M,F.fresh,F.hg,λ n L h=>(F.cell n L h).sameBut V ((λ n L h=>IC (F.above n L (mem_of_lookup h))) n L h),F.cells,F.above,⟨R.left.hh F.locals (λ j e=>?_) t,R.scope,R.glob,R.blt,R.kind,λ b k=>?_,VS,R.cells⟩,λ b r=>(Q b r).1,VR,λ b r=>?_,VQ,VM,F.code,F.frame,F.qual,λ N=>?_,λ N b j r VN e=>?_⟩
 · refine ak (Ns.c9 F.ns) λ T v d=>?_;cases aO e v;exact λ⟨u,k,_⟩=>d u k
 · by_cases r:b=E.locals;·subst r;refine ak (Ns.c9 M) λ j e _=>?_;exact⟨j,e⟩
   · rcases k with k|k;·refine ai (F.er.ex b (.inl k)) λ j e=>?_;exact⟨j,t b j r e⟩
     ·obtain⟨_,_,_,e⟩:=Q b k;exact⟨_,t b _ r e⟩
 · obtain⟨⟨_,n⟩,u,e⟩:=Q b r;exact⟨u,e.at λ j e=>t b j (λ k=>n (.inr (.inl k))) e⟩
 · refine{F.bi N with dA:=(F.bi N).dA.move λ y j f k e=>?_};by_cases C:y=E.locals;·subst C;exact Ns.c9 M
   ·exact⟨j,t y j C e,k⟩
 · by_cases C:b=E.locals
   · subst C;refine ak (Ns.c9 M) λ T v d=>?_;cases aO e v;exact λ⟨u,k,_⟩=>d u k
   · refine aj λ VT=>ai (F.er.ex b (.inl (.inl r))) λ T v=>?_;have :=t b T C v;cases aO e this;exact VT (F.xc N b j r VN v)
def cc.uc(g:cc w E s j V)(x:s.Ns E.locals Vg)(t:Vm.Ns E.locals (λ u=>if u=Vf then some U else Vg u))(d:Js E.locals s Vm)(l:w E.locals)(i:∀n c,E.cells.lookup n=some c->c≠E.locals)(A:j≠Vf):cc w E Vm j V:=by
 have f:KX w s Vm:=λ b o C e=>d.extBut b o (λ q=>C (q▸l)) e;refine g.imp (λ q=>?_) λ q=>?_
 · obtain⟨B,u,a,b,c⟩:=q;have k:B=Vg:=a.eq_nsMap.trans x.eq_nsMap.symm;subst k;exact⟨_,u,t,(if_neg A).trans b,c.b0 f⟩
 · obtain⟨c,u,a,b,r⟩:=q;exact⟨c,u,a,b.sameBut d (i j c a),r.b0 f⟩
def FB.store{Q:Unit->aa->Prop}(F:FB A w c o g E q i D Vg Vp Y H)(VY:g.names.lookup j=some .local\/g.names.lookup j=some .cell)(V9:RV (aL w E Y) H.heap U V)(V7:∀V5 V3 Wa,FB A w c o g E q ((j,V)::i) (bu j D) V3 Wa Y V5->KX (gI E) H.heap V5.heap->Q () V5):aA (au P0 c) o (OF E j U) Q y H:=by
 have eD:=F.eD;have cB:=F.cB j;have V0:=F.ns;rcases VY with VY|VY<;>simp only[VY]at cB
 · refine N4 cB V0 (λ h' VP G=>V7 _ (λ B=>if B=j then some U else Vg B) Vp (F.putL VP G (λ _ k=>k) (λ b T=>⟨F.new b T,F.gJ b T⟩) (λ B k e=>?_) (λ B l h=>?_) (ee.drop F.nodup) λ B u l l' a M N VM VO=>?_) λ b t VN e=>G.extBut b t (λ k=>VN (.inl k)) e) (by refine eD.symm▸?_;rfl);all_goals have VR:KX (aL w E Y) H.heap h':=λ b t VN e=>G.extBut b t (λ k=>VN (.inl (.inr (.inl k)))) e
   · simp only[aN]at e;by_cases C:B=j
     · obtain rfl:=C.symm;rw[beq_self_eq_true]at e;obtain rfl:=ax e;unfold cc;exact cB.symm▸⟨_,U,VP,by simp,V9.b0 VR⟩
     · rw[beq_eq_false_iff_ne.mpr C]at e;exact(F.er.vars B k e).uc V0 VP G (.inl (.inr (.inl rfl))) (λ n L h=>IC (F.above n L (mem_of_lookup h))) C
   · refine aj λ VL=>am (h1 h) λ C h=>?_;obtain⟨a,vs,M,N,VM,VO,VZ⟩:=F.own B l h;exact VL ⟨a,vs,M,by simp[C,N],VM,VO.at λ t e=>G.extBut _ t (λ k=>(F.new a VM).2 (.inr (.inl k))) e,VZ.b0 VR⟩
   · refine am (h1 M) λ C M=>am (h1 N) λ V8 N=>?_;simp only[C,V8,if_false]at VM VO;exact F.apart B u l l' a M N VM VO
 · refine ai (K1.mp (F.er.cells j (.inl cB))) λ L J=>wpAny_storeName_cell eD cB J (F.cell j L J) λ h' VX G=>V7 _ Vg (λ B=>if B=j then some U else Vp B) ?_ λ b t VN e=>G.extBut b t (λ k=>VN (.inr ⟨j,k▸J⟩)) e;have VW:=F.above j L (mem_of_lookup J);have VR:KX (aL w E Y) H.heap h':=λ b t VN e=>G.extBut b t (λ k=>VN (.inl (.inr (.inr ⟨j,k▸J⟩)))) e;have VQ:∀b t,b≠L->H.heap.get? b=some t->h'.get? b=some t:=λ b t VN e=>G.extBut b t VN e;have VP:=V0.sameBut G (br VW);have V6:∀n d,n≠j->E.cells.lookup n=some d->d≠L:=λ n d VP h k=>VP (name_of_addr F.cells (mem_of_lookup h) (k▸mem_of_lookup J));have V':∀t,H.heap.get? L=some t->¬bw t:=λ t e⟨vs,k,_⟩=>by
     refine ak (F.cell j L J) λ V4 VT d=>?_;cases aO e VT;rw[k]at d;cases d
   have R:=F.er;refine⟨F.rel.hh (an F.fresh (bn VW)) VQ,VP,F.fresh,F.hg,λ n d h=>?_,F.cells,F.above,⟨R.left.hh (an F.locals (bn VW)) V' VQ,R.scope,R.glob,R.blt,R.kind,λ b k=>?_,λ B k e=>?_,R.cells⟩,F.new,λ B l h=>?_,λ b T=>(let⟨vs,e⟩:=F.gJ b T;⟨vs,e.at λ t e=>VQ b t (λ k=>(F.new b T).2 (.inr (.inr ⟨j,k▸J⟩))) e⟩),(ee.drop F.nodup),λ B u l l' a M N VM VO=>?_,F.code,F.frame,F.qual,λ VU=>?_,λ VU b t T Wb e=>?_⟩
   · by_cases V1:n=j
     · obtain rfl:=V1.symm;cases aO J h;simpa using VX
     · rw[if_neg V1];exact(F.cell n d h).sameBut G (V6 n d V1 h)
   · by_cases T:b=L;·obtain rfl:=T.symm;refine ak VX λ t e _=>?_;exact⟨t,e⟩
     ·refine ai (F.er.ex b k) λ t e=>?_;exact⟨t,VQ b t T e⟩
   · simp only[aN]at e;by_cases C:B=j
     · obtain rfl:=C.symm;rw[beq_self_eq_true]at e;obtain rfl:=ax e;unfold cc;exact cB.symm▸⟨L,U,J,VX,V9.b0 VR⟩
     · rw[beq_eq_false_iff_ne.mpr C]at e;refine(F.er.vars B k e).imp (λ k=>?_) λ k=>?_
       · refine aj λ VL=>?_;obtain⟨V3,u,a,b,r⟩:=k;exact VL ⟨V3,u,a.sameBut G (br VW),b,r.b0 VR⟩
       · refine aj λ VL=>?_;obtain⟨d,u,a,b,r⟩:=k;exact VL ⟨d,u,a,b.sameBut G (V6 B d C a),r.b0 VR⟩
   · refine aj λ VL=>am (h1 h) λ C h=>?_;obtain⟨a,vs,M,N,VM,VO,VZ⟩:=F.own B l h;exact VL ⟨a,vs,M,N,VM,VO.at λ t e=>VQ _ t (λ k=>(F.new a VM).2 (.inr (.inr ⟨j,k▸J⟩))) e,VZ.b0 VR⟩
   ·exact am (h1 M) λ C M=>am (h1 N) λ V8 N=>F.apart B u l l' a M N VM VO
   ·exact{F.bi VU with dA:=(F.bi VU).dA.move λ B t f k e=>⟨t,VQ B t (λ C=>by obtain rfl:=C.symm;exact(F.nq VU J).2 f) e,k⟩}
   · by_cases C:b=L
     · refine aj λ VL=>?_;obtain rfl:=C.symm;refine ak VX λ V4 VT d=>?_;cases aO e VT;refine VL ?_;exact λ⟨vs,k,_⟩=>by rw[d]at k;cases k
     · refine aj λ VL=>ai (R.ex b (.inl (.inl T))) λ V4 VT=>?_;have :=VQ b V4 C VT;cases aO e this;exact VL (F.xc VU b t T Wb VT)
def FB.ud{U:OL}{Q:Unit->aa->Prop}(F:FB A w c o g E q i D Vg Vp Y H)(VW:g.names.lookup j=some .local)(VV:q.heap.objs.size<=h)(T:¬aL w E Y h)(VQ:H.heap.PlainList h Ve.toArray)(V2:RO (aL w E (h::Y)) H.heap Ve U)(VX:∀d p,i.lookup d=some p->cc (aL w E (h::Y)) E H.heap d p)(VY:∀d l,D.lookup d=some l->∃b Ve,Vg d=some (.ref b)/\b∈Y/\H.heap.PlainList b Ve.toArray/\RO (aL w E (h::Y)) H.heap Ve l)(VU:∀VL VZ,FB A w c o g E q (i.filter λ f=>f.1 !=j) ((j,U)::bu j D) VZ Vp (h::Y) VL->KX (gI E) H.heap VL.heap->Q () VL):aA (au P0 c) o (OF E j (.ref h)) Q y H:=by
 have cB:=F.cB j;have VN:=F.ns;simp only[VW]at cB;have V1:h∉Y:=λ f=>T (.inr f);have V0:h≠E.locals:=λ f=>T (.inl (.inr (.inl f)));refine N4 cB VN (λ h' VM G=>VU _ (λ d=>if d=j then some (.ref h)else Vg d) (F.putL VM G (λ _ f=>.tail _ f) (λ b M=>?_) (λ d f e=>?_) (λ d l r=>?_) (ee.put F.nodup) λ d u l N b L C t B=>?_) λ b v V e=>G.extBut b v (λ f=>V (.inl f)) e) (by refine F.eD.symm▸?_;rfl);all_goals have VP:∀b v,¬aL w E (h::Y) b->H.heap.get? b=some v->h'.get? b=some v:=λ b v V e=>G.extBut b v (λ f=>V (.inl (.inr (.inl f)))) e
 · rcases aP.mp M with rfl|M;·exact⟨⟨VV,λ f=>T (.inl f)⟩,_,VQ⟩
   ·exact⟨F.new b M,F.gJ b M⟩
 · rw[la (λ n=>n !=j)]at e;by_cases k:d=j;·subst k;simp at e
   ·exact(VX d f (by simpa[k]using e)).uc VN VM G (.inl (.inr (.inl rfl))) (λ n VR r=>IC (F.above n VR (mem_of_lookup r))) k
 · simp only[aN]at r;by_cases k:d=j
   · obtain rfl:=k.symm;rw[beq_self_eq_true]at r;obtain rfl:=ax r;exact⟨h,Ve,cB,by simp,.head _,VQ.at λ v e=>G.extBut _ v V0 e,V2.b0 VP⟩
   · rw[beq_eq_false_iff_ne.mpr k]at r;refine aj λ V3=>am (h1 r) λ _ r=>di (VY d l r) λ b Ve C t B VT=>?_;obtain⟨_,_,L,_⟩:=F.own d l r;exact V3 ⟨b,Ve,L,by simp[k,C],.tail _ t,B.at λ v e=>G.extBut _ v (λ f=>(F.new b t).2 (.inr (.inl f))) e,VT.b0 VP⟩
 · have go:∀d(l:OL),((j,U)::bu j D).lookup d=some l->d≠j->D.lookup d=some l:=λ d l r k=>by
     simp only[aN,beq_eq_false_iff_ne.mpr k]at r;exact(h1 r).2
   have VO:∀d l,D.lookup d=some l->Vg d≠some (.ref h):=λ d l r e=>by
     obtain⟨b,_,_,C,t,_⟩:=F.own d l r;cases aO e C;exact V1 t
   by_cases k:d=j<;>by_cases J:u=j;·simp only[k,J]
   · simp only[k,if_true]at t;cases t;simp only[J,if_false]at B;exact(VO u N (go u N C J) B).elim
   · simp only[J,if_true]at B;cases B;simp only[k,if_false]at t;exact(VO d l (go d l L k) t).elim
   · simp only[k,J,if_false]at t B;exact F.apart d u l N b (go d l L k) (go u N C J) t B
section
set_option genInjectivity false
inductive Go|next(a:List (Str×PV))(b:List (Str×OL))|cont(a:List (Str×PV))(b:List (Str×OL))|brk(a:List (Str×PV))(b:List (Str×OL))|ret(p:PV)
def h2(x:Cx)(A:aq)(a:Env)(O:List ae)(b:ae):Prop:=gI a b\/b∈O\/(x.t=true/\(bC b\/FA A b))
structure aZ(VO:Cx)(VM:aq)(X:ae->Prop)(VN:Env)(VL:List ae)(s:aa)(a:List ae)(c:aa):Prop where
 keep:KX (h2 VO VM VN VL) s.heap c.heap
 own:∀b∈a,b∈VL\/s.heap.get? b=none
 sub:∀b∈VL,b∈a
 eV:∀b∈a,¬Ow X VN b/\(VO.t=true->ff VM b)
def aZ.trans{O j l:List ae}(a:aZ A o w E O q j H)(b:aZ A o w E j H l VJ):aZ A o w E O q l VJ:=by
 have n:∀b g,¬h2 A o E O b->q.heap.get? b=some g->¬h2 A o E j b:=λ b g k e d=>by
   refine ez d (λ d=>?_) (λ d=>?_) λ d=>?_;·exact k (.inl d)
   · rcases a.own b d with d|d;·exact k (.inr (.inl d))
     ·rw[e]at d;exact c7 d
   ·exact k (.inr (.inr d))
 refine⟨λ c g m e=>b.keep c g (n c g m e) (a.keep c g m e),λ c i=>?_,λ c i=>b.sub c (a.sub c i),b.eV⟩;rcases b.own c i with d|d;·exact a.own c d
 · rcases e:q.heap.get? c with _|g;·exact .inr rfl
   · by_cases h:c∈O;·exact .inl h
     · by_cases f:h2 A o E O c
       · refine ez f (λ f=>?_) (λ f=>?_) λ p=>?_;·exact((b.eV c i).1 (.inr f)).elim
         ·exact(h f).elim
         ·exact am p λ t f=>(f.elim ((b.eV c i).2 t).1 ((b.eV c i).2 t).2).elim
       ·rw[a.keep c g f e]at d;exact c7 d
def aZ.bR(hO:∀b∈Y,¬Ow w E b/\(A.t=true->ff o b))(k:Kp q H):aZ A o w E Y q Y H:=⟨λ b a _ e=>k.keep b a e,λ b h=>.inl h,λ _ h=>h,hO⟩
def aZ.dn(hO:∀b∈Y,¬Ow w E b/\(A.t=true->ff o b))(k:KX (gI E) q.heap H.heap):aZ A o w E Y q Y H:=⟨λ b c a e=>k b c (λ d=>a (.inl d)) e,λ b h=>.inl h,λ _ h=>h,hO⟩
inductive gK(x:Cx)(X:ae->Prop)(w:ar)(A:aq)(f:aw)(c:Env)(g:aa)(O:List ae)(s:aa)(h:List (Str×PV))(i:List (Str×OL))(d:aa):Prop|mk(m e:Str->Option ab)(a:List ae)(F:FB x X w A f c g h i m e a d)(b:aZ x A X c O s a d)
inductive AJ(t:Bool)(X:ae->Prop)(w:ar)(A:aq)(VL:Env)(b:aa)(f:PI)(a:aa)(p:PV):Prop|mk(v:ab)(e:f=.ret v)(r:RV (Ow X VL) a.heap v p)(k:Kq t A b a)(L:aC w a.heap)(c:∃m,a.heap.Ns VL.locals m)
def c'(x:Cx)(X:ae->Prop)(w:ar)(A:aq)(g:aw)(c:Env)(e:aa)(O:List ae)(s:aa)(f:PI)(d:aa):Go->Prop
 |.next a b=>f=.next/\gK x X w A g c e O s a b d|.cont a b=>f=.cont/\gK x X w A g c e O s a b d|.brk a b=>f=.brk/\gK x X w A g c e O s a b d|.ret p=>AJ x.t X w A c e f d p
def St(x:Cx)(k:Lv)(a:aw)(e:List (Str×PV))(h:List (Str×OL))(st:Io)(g:Go):Prop:=∀(X:ae->Prop)(VM:ar)(A:aq),Rm k A->∀(VL:Env)(b s:aa)(E:ab->aa->Prop)m c O,FB x X VM A a VL b e h m c O s->aA (au P0 VM) A (exec st VL) (λ f d=>c' x X VM A a VL b O s f d g) E s
def ag(x:Cx)(k:Lv)(a:aw)(e:List (Str×PV))(h:List (Str×OL))(VN:List Io)(g:Go):Prop:=∀(X:ae->Prop)(VM:ar)(A:aq),Rm k A->∀(VL:Env)(b s:aa)(E:ab->aa->Prop)m c O,FB x X VM A a VL b e h m c O s->aA (au P0 VM) A (RH VN VL) (λ f d=>c' x X VM A a VL b O s f d g) E s
def ag.nil:ag A u g i D [] (.next i D):=λ X w b d c e s E m a O F=>J4 ⟨rfl,m,a,O,F,.bR F.hO (Kp.refl s)⟩
def c'.after{e s j d:aa}{O h:List ae}{f:PI}(a:aZ A o w E O s h j){i:Go}(H:c' A w c o g E e h j f d i):c' A w c o g E e O s f d i:=by
 have B:∀{k l},gK A w c o g E e h j k l d->gK A w c o g E e O s k l d:=λ q=>by obtain⟨m,p,n,F,b⟩:=q;exact⟨m,p,n,F,a.trans b⟩
 cases i with
 |next=>exact⟨H.1,B H.2⟩|cont=>exact⟨H.1,B H.2⟩|brk=>exact⟨H.1,B H.2⟩|ret=>exact H
def ag.cons{l:Io}{o:List (Str×PV)}{p:List (Str×OL)}{d:Go}(h:St A u g i D l (.next o p))(z:ag A u g o p Vr d):ag A u g i D (l::Vr) d:=λ X w b j c n s E m v O F=>iq (aG (h X w b j c n s E m v O F) (λ f G C=>by
  obtain⟨e,B,y,t,r,a⟩:=C;subst e;exact aG (z X w b j c n G E B y t r) (λ f H q=>q.after a) λ _ _ A=>A) λ _ _ A=>A)
def AK:Go->Prop|.next _ _=>False|_=>True
def ag.last{b:Io}{a:Go}(h:St A u g i D b a)(n:AK a):ag A u g i D (b::Vr) a:=λ X w c l j z s E m d O F=>iq (aG (h X w c l j z s E m d O F) (λ f B q=>by cases a with
  |next=>exact n.elim|cont=>obtain⟨e,r⟩:=q;subst e;exact⟨rfl,r⟩|brk=>obtain⟨e,r⟩:=q;subst e;exact⟨rfl,r⟩|ret=>obtain⟨v,e,o,p,t,y⟩:=q;subst e;exact⟨v,rfl,o,p,t,y⟩) λ _ _ A=>A)
inductive eW:PV->Prop|int{n}:eW (I n)|str{VO}:eW (S VO)|bool{VL}:eW (Bo VL)|none:eW (.d .none)|raw{VN}:eW (.raw VN)
def eW.any(a:eW V)(r:RV w s U V):RV VG Vm U V:=by cases a with
 |int=>refine ai r.int ?_;rintro t rfl;exact .mkInt|str=>refine ai r.str ?_;rintro t rfl;exact .mkStr|bool=>obtain rfl:=r.bool;exact .k8|none=>refine ai r λ b r=>?_;refine am (hb r) ?_;rintro rfl _;exact⟨_,.none⟩|raw=>exact r
noncomputable def Sub:List (Str×PV)->List (Str×PV)->Prop
 |[],_=>True|q::r,a=>a.lookup q.1=some q.2/\Sub r a
theorem Sub.look:∀{d c:List (Str×PV)},Sub d c->∀y p,d.lookup y=some p->c.lookup y=some p
 |[],_,_,_,_,h=>aQ h|(n,a)::r,c,⟨e,f⟩,y,p,h=>by
  rw[aN]at h;refine gy (M:=y==n) (λ b=>?_) λ b=>?_;·rw[b]at h;exact f.look y p h
  ·rw[b]at h;obtain rfl:=ax h;rw[pW b];exact e
def FB.weaken{a:List (Str×PV)}(F:FB A w c o g E q i D Vg Vp Y H)(h:Sub a i):FB A w c o g E q a D Vg Vp Y H:={F with er:={F.er with vars:=λ y p e=>F.er.vars y p (h.look y p e)}}
def ag.weaken{a:Go}{b:List (Str×PV)}(h:ag A u g b D Vr a)(j:Sub b i):ag A u g i D Vr a:=λ X w c f e l s E m d O F=>h X w c f e l s E m d O (F.weaken j)
def St.ret(h:Ev u g (seen i D) z V):St A u g i D (.Return (some z) v) (.ret V):=λ X w d a j n s E m f O F=>M4 (h.use a F.reads (Kp.refl s) λ c l b u _ R=>⟨c,rfl,b,F.rel.trans u.kq,R.left,m,F.ns.keeps u.keep⟩)
noncomputable def ce(a:aw)(x:Str):Bool:=match a.names.lookup x with|some .local=>true|some .cell=>true|_=>ap
def dL(h:ce g j=true):g.names.lookup j=some .local\/g.names.lookup j=some .cell:=by
 unfold ce at h;revert h;rcases g.names.lookup j with _|a;·intro h;cases h
 ·cases a<;>first|(intro h;cases h;done)|(intro _;exact .inl rfl)|(intro _;exact .inr rfl)
def St.assign(h:Ev u g i z V)(l:ce g j=true)(f:autoParam (∀a,MG z (some (.Name j v)) J.line a=jB ap) cN):St A u g i D (.Assign [.Name j v] z J) (.next ((j,V)::i) (bu j D)):=λ X w r d a C s E m t O F=>Jh (h.use d F.er (Kp.refl s) λ G y o u _ _=>(F.kp u).store (dL l) o λ B n c b q=>⟨rfl,n,c,O,b,(aZ.bR F.hO u).trans (.dn F.hO q)⟩) (f a)
def St.gL(h:Ev u g (seen i D) z V)(f:eW V)(n:ce g j=true)(l:autoParam (∀a,MG z (some (.Name j v)) J.line a=jB ap) cN):St A u g i D (.Assign [.Name j v] z J) (.next ((j,V)::i) (bu j D)):=λ X w t d a G s E m y O F=>Jh (h.use d F.reads (Kp.refl s) λ H B r u _ _=>(F.kp u).store (dL n) (f.any r) λ C o c b q=>⟨rfl,o,c,O,b,(aZ.bR F.hO u).trans (.dn F.hO q)⟩) (l a)
def St.ite{a b:List Io}{d:Go}(y:Tr u g (seen i D) z M)(p:M=true->ag A u g i D a d)(r:M=ap->ag A u g i D b d):St A u g i D (.If z a b v) d:=λ X w h e l o s E m j O F=>Px (y.use e F.reads (Kp.refl s) λ n u _ _=>by cases M with
  |true=>exact aG (p rfl X w h e l o n E m j O (F.kp u)) (λ f B q=>q.after (.bR F.hO u)) λ _ _ A=>A|false=>exact aG (r rfl X w h e l o n E m j O (F.kp u)) (λ f B q=>q.after (.bR F.hO u)) λ _ _ A=>A)
def St.fL(B:i.lookup j=some (I C))(y:Ev u g (seen i D) z (I Vs))(c:ce g j=true)(p:autoParam ((j==("__classdict__":Str))=ap) ew):St A u g i D (.AugAssign (.Name j v) .Add z J) (.next ((j,I (C+Vs))::i) (bu j D)):=λ X w Q o U Y s E m T O F=>by
 refine wpAny_AugAssign_Name (aG (tJ F.er B (by rcases dL c with q|q;exact .inl q;exact .inr (.inl q)) p) (λ VN N L=>?_) λ _ _ A=>A);obtain⟨n,r⟩:=L;subst n;obtain⟨t,rfl⟩:=r.int;refine y.use o F.reads (Kp.refl _) λ VM f M G _ _=>?_;obtain⟨VL,rfl⟩:=M.int;refine iadd_int ?_;have d:Kp N {f with toks:=f.toks+1}:=G.trans Kp.toks;exact(F.kp d).store (dL c) .mkInt λ V H l h q=>⟨rfl,H,l,O,h,(aZ.bR F.hO d).trans (.dn F.hO q)⟩
def St.cont:St A u g i D (.Continue v) (.cont i D):=λ X w b d c e s E m a O F=>wpAny_Continue ⟨rfl,m,a,O,F,.bR F.hO (Kp.refl s)⟩
def St.brk:St A u g i D (.Break v) (.brk i D):=λ X w b d c e s E m a O F=>wpAny_Break ⟨rfl,m,a,O,F,.bR F.hO (Kp.refl s)⟩
def St.doc:St A u g i D (.Expr (.Constant (.str j) a v) J) (.next i D):=λ X w c e d f s E m b O F=>Pb (Tk ⟨rfl,m,b,O,F.kp Kp.toks,.bR F.hO Kp.toks⟩) (by unfold Op;rw[F.er.scope,F.er.kind];rfl)
end
noncomputable def AL:Data->Option Iv|.func f=>some f|_=>none
noncomputable def ue:ab->Option Str|.str x _=>some x|_=>none
noncomputable def qp:Data->Option Str|.fields a=>(a[1]?:Option ab).bind ue|_=>none
noncomputable def ll(P:a3)(a:ae):Option Iv:=((d8 P).find? (·.1==a)).bind λ q=>AL q.2.data
noncomputable def qq(P:a3)(a:ae):Option Str:=((d8 P).find? (·.1==a)).bind λ q=>qp q.2.data
def aC.fin(L:aC c s){g:Data->Option Vd}{x:Vd}(e:((d8 c.params).find? (·.1==h)).bind (λ q=>g q.2.data)=some x)(k:c8 h=ap):∃o,s.get? h=some o/\g (gf o).data=some x:=by
 refine aj λ l=>ak (dg.mp e) λ q b d=>?_;have f:q.1=h:=pW (S5 (p:=λ p:Nat×Obj=>p.1==h) b);subst f;refine ak (L.objs _ (P4 b) k) λ o j i=>?_;exact l (bj o j (i▸d))
def aC.fn(L:aC c s){f:Iv}(e:ll c.params h=some f)(g:c8 h=ap):∃o doc,s.get? h=some o/\o.data=.func {f with doc:=doc}:=by
 refine ak (L.fin e g) λ j d e=>?_;obtain⟨k,l,i,m⟩:=j;cases i with
 |func b=>obtain rfl:=ax e;exact dw _ b.doc d rfl|_=>exact aQ e
def uf(e:qp (.fields VB)=some j):∃t,VB[1]?=some (.str j t):=by
 refine ak (dg.mp (show(VB[1]?:Option ab).bind ue=some j from e)) λ v a e=>?_;cases v with
 |str x t=>obtain rfl:=ax e;exact⟨t,a⟩|_=>exact aQ e
def aC.code(L:aC c s)(e:qq c.params h=some j)(d:c8 h=ap):s.CodeRec (.ref h) j:=by
 refine ak (L.fin e d) λ i b e=>?_;obtain⟨l,m,g,n⟩:=i;cases g with
 |fields k=>refine ai (uf e) λ t f=>?_;exact g2 h _ k t rfl b rfl f|_=>exact aQ e
def aC.noLimit(L:aC c s):s.NoLimit:=by
 have e:s.get? 2=some (hP c.params):=L.eC 0 (by lia) rfl λ x q=>iK q;exact bj _ (k6 e (by lia)) (by lia)
theorem aU.zip{X:ae->Prop}{h:a7}{x:Str}{p:PV}:∀{c:List Str}{f:List ab}{d:List PV},aU X h f d->(c.zip d).lookup x=some p->∃v,(c.zip f).lookup x=some v/\RV X h v p:=λ{c f d}z e=>by induction z generalizing c with
 |nil=>cases c<;>exact aQ e|cons a b i=>
  obtain _|⟨n,j⟩:=c;·exact aQ e
  simp only[Og,aN]at e⊢;rcases g:x==n with _|_;·rw[g]at e;exact i e
  ·rw[g]at e;obtain rfl:=ax e;exact bj _ rfl a
noncomputable def cf(P:a3)(a:ae):Iv:=match ll P a with|some f=>f|none=>b2
structure ScOk(a:aw)(b:List Str):Prop where
 nodup:b.Nodup
 kinds:(b.all λ x=>match a.names.lookup x with|some .local=>true|some .cell=>true|_=>ap)=true
 ug:(a.names.all λ y=>!t1 y.2)=true
 co:a.isCoroutine=ap
 gen:a.isGenerator=ap
 kind:a.kind=.function
structure cu(VL b:ae)(d:List Io)(c:aw)(e:List Str):Prop extends ScOk c e where
 fn:∀P,ll P VL=some (cf P VL)code:∀P,qq P b=some (cf P VL).qualname
 ok:∀P,(cf P VL).code=.ref b/\(cf P VL).body=.stmts d/\(cf P VL).closure=[]/\(cf P VL).scope=c/\(cf P VL).globals=FG/\(cf P VL).builtins=IV
 tabs:c8 VL=ap/\c8 b=ap
def cu.mk'(d:∀P,ll P h=some (cf P h))(c:∀P,qq P Q=some (cf P h).qualname)(l:∀P,(cf P h).code=.ref Q/\(cf P h).body=.stmts Vr/\(cf P h).closure=[]/\(cf P h).scope=g/\(cf P h).globals=FG/\(cf P h).builtins=IV)(j:G.Nodup)(i:(G.all λ x=>match g.names.lookup x with|some .local=>true|some .cell=>true|_=>ap)=true)(k:(g.names.all λ y=>!t1 y.2)=true)(m:c8 h=ap/\c8 Q=ap)(b:g.isCoroutine=ap)(e:g.isGenerator=ap)(f:g.kind=.function):cu h Q Vr g G:={nodup:=j,kinds:=i,ug:=k,co:=b,gen:=e,kind:=f,fn:=d,code:=c,ok:=l,tabs:=m}
structure fg(A:aq)(X:ae->Prop)(h:a7):Prop where
 tab:∀b,bC b->X b
 fa:∀b,FA A b->X b
 fr:cH A h
 code:∀b o,X b->¬bC b->h.get? b=some o->¬bw o
def dd.outer(v:∀L,E.frame=some L->s.get? L=none)(e:dd M (o.deeper E) s Vm):dd M o s Vm:=by
 have x:∀b,FA o b->FA (o.deeper E) b:=λ b k=>by obtain⟨l,a,y,j,q⟩:=k;exact⟨E::l,by show o.frames.map _=_;refine a.symm▸?_;rfl,y,.tail _ j,q⟩
 have u:∀b g,s.get? b=some g->FA (o.deeper E) b->FA o b:=λ b g i k=>by
  obtain⟨l,a,y,j,q⟩:=k;have p:o.frames.map (E::·)=some l:=a;refine ak (bh.mp p) λ w r c=>?_;subst c;rcases aP.mp j with rfl|j;·exact bN (v b q) i
  ·exact⟨w,r,y,j,q⟩
 exact⟨λ b g n i=>e.keep b g (λ m=>⟨(n m).1,λ q=>(n m).2 (u b g i q)⟩) i,λ b g f d i=>e.fr b g (x b f) d i⟩
theorem Kq.outer(a:∀L,E.frame=some L->q.heap.get? L=none):Kq M (o.deeper E) q H->Kq M o q H|⟨_,_,e,k⟩=>⟨_,_,e,k.outer a⟩
def uh{V0:Tz}{u:Iv}(D:ScOk g G)(Wr:q.heap.get? h=some O)(Wm:O.data=.func u)(Wk:q.heap.CodeRec u.code u.qualname)(f2:u.body=.stmts Vr)(f3:u.closure=[])(J:u.scope=g)(f5:u.globals=FG)(f6:u.builtins=IV)(V1:Rm (a+1,M) o)(L:aC c q.heap)(ex:Ex w q.heap)(V5:aU w q.heap Ve Vk)(Wp:G.length=Vk.length)(Wi:∀(y:List (Str×ab)->aa->Prop)(Vh:ab->aa->Prop),y (G.zip Ve) q->aA (au P0 c) o.in1 (J6 u V0) y Vh q)(Wl:A.cd=u.code)(Wj:A.t=true->A.qual=u.qualname++ac ".<locals>.")(Wt:A.t=true->fg o w q.heap)(z:∀t H m V',(∀L,t.frame=some L->q.heap.get? L=none)->Rm (a,M) (o.deeper t)->FB A w c (o.deeper t) g t q (G.zip Vk) [] m V' [] H->aA (au P0 c) (o.deeper t) (RH Vr t) (λ f U=>y (match f with|.ret v=>v|_=>.none) U) (λ e U=>aA (au P0 c) (o.deeper t) (OG t e) (λ _ VX=>Vh e VX) (λ VP VX=>Vh VP VX) U) H):JO (au P0 c) o (.call (.ref h) V0) (λ r U=>match r with|.ok (.ret v)=>y v U|.ok _=>False|.error e=>Vh e U) q:=by
 have eD:∀A∈G,g.names.lookup A=some .local\/g.names.lookup A=some .cell:=λ A V=>by
   have :=H9.mp D.kinds A V;revert this;rcases g.names.lookup A with _|kd;·intro z;cases z
   ·cases kd<;>first|(intro z;cases z;done)|(intro _;exact .inl rfl)|(intro _;exact .inr rfl)
 have VU:∀n A,g.names.lookup A=some .cell->∃M,(RI n g.names []).lookup A=some M:=λ n A V=>by exact ai (qn g.names n [] A (.inl (eF V))) λ M Wq=>nc Wq
 have Wn:u.scope.isGenerator=ap:=by refine J.symm▸?_;exact D.gen
 have Wo:u.scope.kind=.function:=by rw[J];exact D.kind
 refine Sq (fd:=u) (by have :=V1.depth;exact c5 dG (fy this)) Wr Wm (by refine J.symm▸?_;exact D.co) Wn f2 Wk ?_;refine f3.symm▸(Wi _ _ (wpAny_newFunctionEnv_cells Wo (λ A V=>?_) λ t B H I=>?_))
 · show u.scope.names.lookup A.1=_\/u.scope.names.lookup A.1=_/\_;refine J.symm▸?_;rcases eD A.1 (L5 V).1 with j|j;·exact .inl j
   · refine ai (VU (q.heap.objs.size+1) A.1 j) λ M T=>?_;exact .inr ⟨j,by rw[T];rfl⟩
 · refine⟨L.noLimit.keeps I.toInCall.keep,codeAny_func ?_⟩;have VQ:t.scope=g:=by rw[B];exact J
   have Wb:t.builtins=IV:=by rw[B];exact f6
   have VR:t.cells=RI (q.heap.objs.size+1) g.names []:=by simp only[B,<-J];rfl
   have Y:t.kindOf=λ A=>g.names.lookup A:=by funext A;unfold KP;rw[VQ]
   have Wc:t.code=u.code:=by rw[B];rfl
   have VL:t.frame=some t.locals:=by rw[B];rfl
   refine aW I.done λ h' WK VS Wv=>?_;have keep:KO q.heap H.heap:=by rw[VS];exact Wv
   have N:q.heap.objs.size<=t.locals:=I.toInCall.fresh;have Wy:∀b,Ow w t b->w b\/q.heap.get? b=none:=λ b j=>by
     refine ez j (λ j=>?_) (λ j=>?_) λ VW=>?_;·exact .inl j
     ·exact .inr (cW (j▸N))
     ·exact ai VW λ n j=>.inr (cW (bn (bz N (I.above n b (eF j)))))
   have Wa:aL w t []=Ow w t:=funext λ b=>propext ⟨λ j=>j.elim id λ j=>(nomatch j),.inl⟩;have V7:314<=q.heap.objs.size:=by
     refine ak (L.objs (313,mO c.params) (ct (i:=268) (by lia)) rfl) λ O e _=>?_;exact az e
   have WL:cH o q.heap->cH o H.heap:=λ F=>F.move λ b O _ d e=>⟨O,keep b O e,d⟩;refine z t H _ _ (λ L e=>by cases aO VL e;exact cW N) (V1.deeper t) ⟨⟨h',WK,VS,by rw[VS]at keep;exact .of_keeps keep⟩,I.toInCall.ns,N,V7,I.cell,I.apart,I.above,?_,λ _ z=>(nomatch z),λ _ _ z=>(nomatch z),λ _ z=>(nomatch z),NF,λ _ _ _ _ _ z=>(nomatch z),Wc.trans Wl.symm,VL,λ VN=>(by rw[B,Wj VN];rfl),λ VN=>?_,λ VN b O VM Ws e=>(by refine ai (ex b VM) λ WM VP=>?_;exact absurd (az VP) (b'.mpr Ws))⟩
   · rw[Wa];refine⟨L.keeps keep,VQ,by rw[B];exact f5,Wb,D.kind,λ b j=>?_,λ A p e=>?_,λ A j=>?_⟩
     · refine ez j (λ j=>?_) (λ j=>?_) λ VW=>?_;·refine ai (ex b j) λ O e=>?_;exact⟨O,keep _ _ e⟩
       ·subst j;refine eb I.toInCall.ns λ O _ _ e _=>?_;exact⟨O,e⟩
       · refine ai VW λ n j=>?_;refine ak (I.cell n b j) λ O e _=>?_;exact⟨O,e⟩
     · refine aj λ VZ=>ak (V5.zip e) λ v V3 WF=>VZ ?_;have V6:RV (Ow w t) H.heap v p:=WF.shift λ b O Wx e=>⟨λ j=>(Wy b j).elim Wx λ j=>(by rw[e]at j;exact c7 j),keep b O e⟩;have V2:((G.zip Ve).map (·.1)).Nodup:=by rw[LY (oM Wp V5.len)];exact D.nodup
       unfold cc;rw[Y];refine aH (eD A ((L5 (eF e)).1)) (λ j=>?_) λ j=>?_
       · simp only[j];refine⟨_,v,I.toInCall.ns,?_,V6⟩;exact t9 _ A v (by rw[Y];exact j) _ _ V2 V3
       · simp only[j];refine ai (VU (q.heap.objs.size+1) A j) λ VO T=>?_;refine⟨VO,v,by rw[VR];exact T,?_,V6⟩;have :=I.cell A VO (by rw[VR];exact T);rwa[t' _ A v (by rw[Y];simp[j]) _ _ V2 V3]at this
     · rw[Y]at j;rcases j with j|j
       · refine ai (VU (q.heap.objs.size+1) A j) λ VO T=>?_;rw[VR,T];rfl
       · have :=H9.mp D.ug _ (eF j);cases this
   · obtain⟨WG,WH,WI,WJ⟩:=Wt VN;have u:∀b,FA (o.deeper t) b->FA o b\/b=t.locals:=λ b⟨l,h,VY,C,j⟩=>by
       refine ak (bh.mp h) λ l' V9 M=>?_;subst M;rcases aP.mp C with rfl|C;·cases aO VL j;exact .inr rfl
       ·exact .inl ⟨l',V9,VY,C,j⟩
     refine ak WI λ l VV ok=>?_;refine⟨WG,λ b j=>?_,⟨t::l,by show o.frames.map _=_;rw[VV];rfl,λ VY C=>?_⟩,⟨l,by show o.frames.map _=_;rw[VV];rfl⟩,λ b VM Wz _=>(let⟨O,e⟩:=ex b VM;⟨O,e,WJ b O VM Wz e⟩)⟩
     · rcases u b j with j|j
       · refine aj λ VZ=>?_;obtain⟨_,O,e,_⟩:=cH.fa ⟨l,VV,ok⟩ j;exact VZ ⟨.inl (WH b j),an (bn (az e)) N⟩
       ·exact⟨.inr (.inl j),Jc j⟩
     · refine aH (aP.mp C) ?_ λ C=>?_
       · rintro rfl;refine ak (Ns.c9 I.toInCall.ns) λ O e d=>⟨λ j=>?_,_,O,VL,an V7 N,e,d⟩;rw[VQ,D.kind]at j;cases j
       · obtain⟨WA,V8,O,WB,WC,WD,WE⟩:=ok VY C;exact⟨WA,V8,O,WB,WC,keep _ _ WD,WE⟩
def ui{i:Tz}{b:Iv}(D:ScOk g G)(VN:q.heap.get? h=some O)(VL:O.data=.func b)(V:q.heap.CodeRec b.code b.qualname)(u:b.body=.stmts Vr)(z:b.closure=[])(B:b.scope=g)(C:b.globals=FG)(H:b.builtins=IV)(N:Rm (a+1,M) o)(L:aC c q.heap)(t:Ex w q.heap)(VP:aU w q.heap Ve Vk)(VM:G.length=Vk.length)(T:∀(y:List (Str×ab)->aa->Prop)(Vh:ab->aa->Prop),y (G.zip Ve) q->aA (au P0 c) o.in1 (J6 b i) y Vh q)(Y:A.cd=b.code)(U:A.t=true->A.qual=b.qualname++ac ".<locals>.")(VO:A.t=true->fg o w q.heap)(J:∀d n m p,(∀L,d.frame=some L->q.heap.get? L=none)->Rm (a,M) (o.deeper d)->FB A w c (o.deeper d) g d q (G.zip Vk) [] m p [] n->aA (au P0 c) (o.deeper d) (RH Vr d) (λ f j=>y (match f with|.ret v=>v|_=>.none) j) (λ e j=>aA (au P0 c) (o.deeper d) (OG d e) (λ _ l=>Vh e l) (λ r l=>Vh r l) j) n):aA (au P0 c) o (I3 (.ref h) i.pos i.kw) y Vh q:=Jg (uh D VN VL V u z B C H N L t VP VM T Y U VO J)
def uj{i:Tz}{b:Iv}(D:ScOk g G)(VN:q.heap.get? h=some O)(VL:O.data=.func b)(V:q.heap.CodeRec b.code b.qualname)(z:b.body=.stmts Vr)(B:b.closure=[])(C:b.scope=g)(H:b.globals=FG)(J:b.builtins=IV)(N:Rm (a+1,M) o)(L:aC c q.heap)(u:Ex w q.heap)(VP:aU w q.heap Ve Vk)(VM:G.length=Vk.length)(T:J6 b i=jB (G.zip Ve))(Y:A.cd=b.code)(U:A.t=true->A.qual=b.qualname++ac ".<locals>.")(VO:A.t=true->fg o w q.heap)(j:∀d p m r,(∀L,d.frame=some L->q.heap.get? L=none)->Rm (a,M) (o.deeper d)->FB A w c (o.deeper d) g d q (G.zip Vk) [] m r [] p->aA (au P0 c) (o.deeper d) (RH Vr d) (λ f l=>y (match f with|.ret v=>v|_=>.none) l) (λ e l=>aA (au P0 c) (o.deeper d) (OG d e) (λ _ n=>Vh e n) (λ t n=>Vh t n) l) p):aA (au P0 c) o (I3 (.ref h) i.pos i.kw) y Vh q:=ui D VN VL V z B C H J N L u VP VM (λ y Vh j=>by refine T.symm▸?_;exact ah j) Y U VO j
def jO{d:Tz}(D:cu h Q Vr g G)(N:Rm (a+1,M) o)(L:aC c q.heap)(t:Ex w q.heap)(VN:aU w q.heap Ve Vk)(Y:G.length=Vk.length)(O:∀doc,J6 {cf c.params h with doc:=doc} d=jB (G.zip Ve))(U:A.cd=.ref Q)(T:A.t=true->A.qual=(cf c.params h).qualname++ac ".<locals>.")(VM:A.t=true->fg o w q.heap)(J:∀b n m p,(∀L,b.frame=some L->q.heap.get? L=none)->Rm (a,M) (o.deeper b)->FB A w c (o.deeper b) g b q (G.zip Vk) [] m p [] n->aA (au P0 c) (o.deeper b) (RH Vr b) (λ f i=>y (match f with|.ret v=>v|_=>.none) i) (λ e i=>aA (au P0 c) (o.deeper b) (OG b e) (λ _ j=>Vh e j) (λ r j=>Vh r j) i) n):aA (au P0 c) o (I3 (.ref h) d.pos d.kw) y Vh q:=by
 refine aj λ VO=>aW (L.fn (D.fn c.params) D.tabs.1) λ VP doc VL V=>mC (D.ok c.params) λ l u z B C H=>VO ?_;exact uj (b:={cf c.params h with doc:=doc}) D.toScOk VL V (by rw[l];exact L.code (D.code c.params) D.tabs.2) u z B C H N L t VN Y (O doc) (U.trans l.symm) T VM J
def Bd(x:Cx)(k:Lv)(b:aw)(c:List (Str×PV))(a:List Io)(r:PV):Prop:=ag x k b c [] a (.ret r)
def Fn.of(D:cu h Q Vr g G)(t:∀P doc d,d.length=Vk.length->J6 {cf P h with doc:=doc} ⟨d,[]⟩=jB (G.zip d))(u:G.length=Vk.length)(p:Bd ⟨ap,.ref Q,aR⟩ (a,M) g (G.zip Vk) Vr V):Fn (a+1,M) (.ref h) Vk V:=λ X w A n s z E L l b=>jO (A:=⟨ap,.ref Q,aR⟩) (d:=⟨z,[]⟩) D n L l b u (λ doc=>t _ _ _ b.len) rfl (λ q=>by cases q) (λ q=>by cases q) λ j y m i B o F=>aG (p X w _ o j s y _ m i [] F) (λ f C H=>by obtain⟨v,e,b,a,_⟩:=H;subst e;exact⟨b.mono λ _ q=>.inl q,a.kp⟩) λ _ _ x=>x
def ef(k:Lv)(f:ab)(b:List PV)(r:PV):Prop:=∀(X:ae->Prop)(VL:ar)(A:aq),Rm k A->∀(s:aa)(vs:List ab)(E:ab->aa->Prop),aC VL s.heap->Ex X s.heap->fg A X s.heap->aU X s.heap vs b->aA (au P0 VL) A (I3 f vs) (λ v a=>RV X a.heap v r/\Kq true A s a/\aC VL a.heap) E s
def ef.of(D:cu h Q Vr g G)(y:∀P doc d,d.length=Vk.length->J6 {cf P h with doc:=doc} ⟨d,[]⟩=jB (G.zip d))(B:G.length=Vk.length)(C:∀P,j=(cf P h).qualname++ac ".<locals>.")(u:Bd ⟨true,.ref Q,j⟩ (a,M) g (G.zip Vk) Vr V):ef (a+1,M) (.ref h) Vk V:=λ X w A p s N E L o T b=>jO (A:=⟨true,.ref Q,j⟩) (d:=⟨N,[]⟩) D p L o b B (λ doc=>y _ _ _ b.len) rfl (λ _=>C _) (λ _=>T) λ n J m l z t F=>aG (u X w _ t n s J _ m l [] F) (λ f O H=>by obtain⟨v,e,b,a,i,_⟩:=H;subst e;exact b3 (b.mono λ _ j=>.inl j) (a.outer z) i) λ _ _ x=>x
def Fn.t(h:Fn u U Vk V):ef u U Vk V:=λ X w A d s i E L c T g=>aG (h X w A d s i E L c g) (λ v j e=>by refine am e λ a b=>?_;exact b3 a b.kq (L.keeps b.keep)) λ _ _ x=>x
def uk(h:B.length<=100):Fn (a+1,true) (.ref 296) [Ls B] (Ls (b6 B)):=Fn.of (Q:=295) (Vr:=bB [33]) (g:=a0 [33]) (G:=[ac "numbers"]) (.mk' (λ P=>by lia) (λ P=>by lia) (λ P=>⟨by lia,by lia,by lia,by lia,by lia,by lia⟩) (by decide) (by rfl) (by rfl) ⟨rfl,rfl⟩ rfl rfl rfl) (λ P doc c b=>by
   refine ai (k2 b) ?_;rintro v rfl;lia) rfl (ag.last (St.ret (AG h)) trivial)
noncomputable def eX(VL VM:Bool):Int:=(if VL then 1 else 0)-(if VM then 1 else 0)
def AM:Fn (a+1,M) (.ref 198) [S j,S Vf] (I (eX (bF (Vf.cps.toList<j.cps.toList)) (bF (j.cps.toList<Vf.cps.toList)))):=Fn.of (Q:=197) (Vr:=bB [26]) (g:=a0 [26]) (G:=[ac "x",ac "y"]) (.mk' (λ P=>by lia) (λ P=>by lia) (λ P=>⟨by lia,by lia,by lia,by lia,by lia,by lia⟩) (by decide) (by rfl) (by rfl) ⟨rfl,rfl⟩ rfl rfl rfl) (λ P doc d b=>by
   refine cP (d9 b) ?_;rintro v u rfl;lia) rfl (by
   refine ag.cons St.doc (ag.last (St.ret (Ev.bJ bb.qj ?_ ?_)) trivial);·exact Ev.cmp aD.k' Ev.nm Ev.nm
   ·exact Ev.cmp aD.jG Ev.nm Ev.nm)
noncomputable def b8(y:Str)(l:OL)(a:List (Str×OL)):List (Str×OL):=a.map λ q=>if q.1==y then(q.1,l)else q
def qr(VM:Str)(l:OL)(Ω:List (Str×OL)):(b8 VM l Ω).map (·.1)=Ω.map (·.1):=by
 unfold b8;rw[dQ];apply Iz;intro q _;show(if q.1==VM then(q.1,l)else q).1=q.1;split<;>rfl
theorem jP{y z:Str}{l d:OL}:∀{f:List (Str×OL)},(b8 y l f).lookup z=some d->(z=y/\d=l)\/(z≠y/\f.lookup z=some d)
 |[],h=>aQ h|(n,a)::r,h=>by
   have b:((if n==y then(n,l)else(n,a))::b8 y l r).lookup z=some d:=h;by_cases e:n=y
   · subst e;rw[if_pos (beq_self_eq_true n),aN]at b;by_cases c:z=n;·subst c;simp only[beq_self_eq_true]at b;obtain rfl:=ax b;exact .inl ⟨rfl,rfl⟩
     · rw[beq_eq_false_iff_ne.mpr c]at b;rcases jP b with q|q;·exact .inl q
       ·exact .inr ⟨c,by simp only[aN,beq_eq_false_iff_ne.mpr c];exact q.2⟩
   · rw[if_neg (by simpa using e),aN]at b;by_cases c:z=n;·subst c;simp only[beq_self_eq_true]at b;obtain rfl:=ax b;exact .inr ⟨e,by simp only[aN,beq_self_eq_true]⟩
     · rw[beq_eq_false_iff_ne.mpr c]at b;rcases jP b with q|q;·exact .inl q
       ·exact .inr ⟨q.1,by simp only[aN,beq_eq_false_iff_ne.mpr c];exact q.2⟩
def FB.lm{l l':OL}(F:FB A w c o g E q i D Vg Vp Y H)(VP:D.lookup j=some l)(VO:Vg j=some (.ref h))(VS:s.PlainList h Ve.toArray)(Q:Js h H.heap s)(V9:RO (aL w E Y) s Ve l'):FB A w c o g E q i (b8 j l' D) Vg Vp Y {H with heap:=s,toks:=a}/\aZ A o w E Y H Y {H with heap:=s,toks:=a}:=by
 obtain⟨Wa,We,V2,V3,U,⟨Wd,V4⟩,Wb⟩:=F.own j l VP;cases aO VO V3;have V:=(F.new h U).2;have VW:=(F.new h U).1;have B:∀b t,b≠h->H.heap.get? b=some t->s.get? b=some t:=λ b t G e=>Q.extBut b t G e;have VQ:KX (aL w E Y) H.heap s:=λ b t G e=>B b t (λ k=>G (.inr (k▸U))) e;have VY:E.locals≠h:=λ k=>V (.inr (.inl k.symm));have VX:∀n J,E.cells.lookup n=some J->J≠h:=λ n J v k=>V (.inr (.inr ⟨n,k▸v⟩));have R:=F.er;refine⟨⟨F.rel.hh VW B,F.ns.sameBut Q VY,F.fresh,F.hg,λ n J v=>(F.cell n J v).sameBut Q (VX n J v),F.cells,F.above,⟨R.left.hh (an F.hg VW) (λ t e V8=>by refine ak V8 λ vs k _=>?_;cases aO V4 e;cases k) B,R.scope,R.glob,R.blt,R.kind,λ b k=>?_,λ z k e=>?_,R.cells⟩,F.new,λ z M v=>?_,λ b C=>(by
     by_cases k:b=h;·obtain rfl:=k.symm;exact⟨_,VS⟩
     ·refine ai (F.gJ b C) λ vs e=>?_;exact⟨vs,e.at λ t e=>B b t k e⟩),by simp only[qr];exact F.nodup,λ V' z M Wc b N L VM VN=>?_,F.code,F.frame,F.qual,λ T=>?_,λ T b t C V0 e=>(by
     refine ai (R.ex b (.inl (.inl C))) λ V7 VV=>?_;have :=B b V7 (λ k=>V (.inl (k▸C))) VV;cases aO e this;exact F.xc T b t C V0 VV)⟩,⟨λ b t G e=>B b t (λ k=>G (.inr (.inl (k▸U)))) e,λ b v=>.inl v,λ _ v=>v,F.hO⟩⟩
 · by_cases C:b=h;·obtain rfl:=C.symm;refine ai VS λ _ e=>?_;exact⟨_,e⟩
   ·refine ai (R.ex b k) λ t e=>?_;exact⟨t,B b t C e⟩
 · refine(R.vars z k e).imp (λ k=>?_) λ k=>?_
   · obtain⟨V6,u,p,b,r⟩:=k;exact⟨V6,u,p.sameBut Q VY,b,r.b0 VQ⟩
   · obtain⟨d,u,p,b,r⟩:=k;exact⟨d,u,p,b.sameBut Q (VX z d p),r.b0 VQ⟩
 · refine aH (jP v) (λ VT=>?_) λ VU=>?_
   · obtain⟨rfl,rfl⟩:=VT;exact⟨h,Ve,V2,VO,U,VS,V9⟩
   · obtain⟨V1,v⟩:=VU;obtain⟨b,vs,N,L,VM,VN,VZ⟩:=F.own z M v;have G:b≠h:=λ k=>V1 (F.apart z j M l h v VP (k▸L) VO);exact⟨b,vs,N,L,VM,VN.at λ t e=>B b t G e,VZ.b0 VQ⟩
 · have iT:∀z M,(b8 j l' D).lookup z=some M->∃V5,D.lookup z=some V5:=λ z M v=>by
     refine aH (jP v) (λ VT=>?_) λ VU=>?_
     · obtain⟨rfl,_⟩:=VT;exact⟨_,VP⟩
     · obtain⟨_,v⟩:=VU;exact⟨_,v⟩
   exact ai (iT _ _ N) λ _ N=>ai (iT _ _ L) λ _ L=>F.apart V' z _ _ b N L VM VN
 · refine{F.bi T with dA:=(F.bi T).dA.move λ b t f d e=>⟨t,B b t (λ k=>?_) e,d⟩};subst k;exact V ((F.bi T).fa b f).1
noncomputable def OL.push:OL->PV->Option OL
 |.p l,.d d=>some (.p (l++[d]))|.m l,q=>some (.m (l++[q]))|_,_=>none
def aU.AN(r:RV w s U V)(a:aU w s Ve Vk):aU w s (Ve++[U]) (Vk++[V]):=by induction a with
 |nil=>exact .cons r .nil|cons a _ b=>exact .cons a b
theorem RO.push{l b:OL}(a:RO w s Ve l)(r:RV w s U V)(e:l.push V=some b):RO w s (Ve++[U]) b:=by cases l with
 |p l=>cases V with
  |d d=>obtain rfl:=ax e;refine ai a λ c a=>?_;refine ai r λ f r=>?_;exact m8 a (.cons r .nil)|_=>exact aQ e
 |m l=>obtain rfl:=ax e;exact aU.AN r a
noncomputable def OL.len:OL->Nat|.p l=>l.length|.m l=>l.length
theorem RO.len:∀{l:OL},RO w s Ve l->Ve.length=l.len
 |.p _,⟨b,a⟩=>cy a|.m _,a=>aU.len a
def h3{l:OL}(F:FB A w c o g E q i D Vg Vp Y H)(r:D.lookup j=some l)(p:(j==("__debug__":Str))=ap)(n:∀a b,Vg j=some (.ref a)->a∈Y->H.heap.PlainList a b.toArray->RO (aL w E Y) H.heap b l->Vh (.ref a) H):aA (au P0 c) o (He (.Name j v) E) Vh y H:=by
 refine aj λ t=>?_;obtain⟨a,b,e,d,f,h,k⟩:=F.own j l r;exact t (L7 (On F.eD e F.ns d (n a b d f h k)) p)
def PlainList.ln(f:s.PlainList h VB)(e:q.heap=s):q.TypeIs (.ref h) "list"/\∀b,hk h=.ref b->∃c,q.heap.get? b=some c/\c.dict=none:=by
 refine aj λ g=>?_;subst e;refine ai f λ n e=>g ?_;exact⟨⟨_,e,rfl⟩,λ b d=>by cases d;exact⟨_,e,rfl⟩⟩
def St.append{l B:OL}(Y:D.lookup j=some l)(t:Ev u g i z V\/(Ev u g (seen i D) z V/\eW V))(VY:l.push V=some B)(VZ:l.len<=a9)(VV:autoParam ((j==("__debug__":Str))=ap) ew)(h:autoParam (∀VN d,bD (z::VN) d=(ap,He z d)::bD VN d) bc)(VU:autoParam (∀d,Ka (.Name j v) (ac "append") d (He (.Name j v) d)=He (.Name j v) d) cN)(VW:autoParam ((J.endLine==Vi.line)=true) bc):St A u g i D (.Expr (.Call (.Attribute (.Name j v) (ac "append") J) [z] [] Vi) VC) (.next i (b8 j B D)):=λ X w n M d H s E m VQ O F=>by
 refine Pb ?_ (by unfold Op;rw[F.er.scope,F.er.kind];rfl);have N:(L9 Vi (bD [z] d)).any (·.1)=ap:=by rw[h];rfl
 refine JE (VU d) (by rw[h];rfl) VW (h3 F Y VV λ a L VX VS VL V3=>?_);refine am (PlainList.ln VL rfl) λ V5 V6=>⟨"list","list.append",Jv,slot_list_append,rfl,V5,V6,?_⟩;have fin:∀(f:ab)(c:aa),RV (aL X d O) c.heap f V->Kp s c->aA (au P0 w) n (I3 (.builtin "list.append") [.ref a,f]) (λ f c=>match f with|.ref _=>False|_=>c' A X w n g d H O s .next c (.next i (b8 j B D))) E c:=λ f c V4 kp=>by
   have VO:RO (aL X d O) c.heap L l:=V3.b0 λ b o _ z=>kp.keep b o z;have VM:c.heap.PlainList a L.toArray:=VL.at λ o z=>kp.keep _ _ z;refine RD VM (hsz:=by have :=VO.len;simp;exact dS this VZ) λ h' V1 T=>?_;refine ai VM λ V' V8=>?_;refine am ((F.kp kp).lm (a:=c.toks) Y VX (Ve:=L++[f]) (by simpa using V1) T ((VO.push V4 VY).b0 λ b o V0 z=>T.extBut b o (λ q=>V0 (.inr (q▸VS))) z)) λ VP fr=>?_;exact⟨rfl,m,VQ,O,VP,(aZ.bR F.hO kp).trans fr⟩
 rw[h]at N⊢;refine Ir N (b1 (aH t (λ t=>?_) λ V2=>?_))
 · have U:=a6.use M (z:=Vi) (E:=E) (.cons t .nil h) (s:=s) (e:=s) (Q:=λ C c=>aA (au P0 w) n (I3 (.builtin "list.append") ([.ref a]++C)) (λ f c=>match f with|.ref _=>False|_=>c' A X w n g d H O s .next c (.next i (b8 j B D))) E c) F.er (Kp.refl s) λ C c G kp _ _=>by
     refine ak G.one ?_;rintro V7 rfl r;exact fin _ c r kp
   rw[h]at U;exact U
 · refine am V2 λ t VT=>?_;have U:=a6.use M (z:=Vi) (E:=E) (.cons t .nil h) (s:=s) (e:=s) (Q:=λ C c=>aA (au P0 w) n (I3 (.builtin "list.append") ([.ref a]++C)) (λ f c=>match f with|.ref _=>False|_=>c' A X w n g d H O s .next c (.next i (b8 j B D))) E c) F.reads (Kp.refl s) λ C c G kp _ _=>by
     refine ak G.one ?_;rintro V7 rfl r;exact fin _ c (VT.any r) kp
   rw[h]at U;exact U
noncomputable def h4:List (Str×PV)->List (Str×OL)->List (Str×OL)
 |[],Ω=>Ω|q::r,Ω=>bu q.1 (h4 r Ω)
def FB.AO{h:List (Str×Pos)}:∀{s:aa}{m z:Str->Option ab}{f:List (Str×PV)}{u:List ab}{a:List bP}{v:List ae}{Q:Unit->aa->Prop},FB A w c o g E q (f++i) (h4 f D) m z Y s->ga (cb (aL w E Y) s.heap) u a v->h.length=a.length->(∀n∈h,ce g n.1=true)->(∀t J H,FB A w c o g E q ((((h.map (·.1)).zip (a.map .d)).reverse++f)++i) (h4 (((h.map (·.1)).zip (a.map .d)).reverse++f) D) J H Y t->aZ A o w E Y s Y t->Q () t)->aA (au P0 c) o (Rq ((K5 (h.map λ n=>.Name n.1 n.2) E).map (·.2)) u) Q y s:=by induction h with
 |nil=>
   intro s m z f u a v Q F j l C B;cases a with
   |cons=>cases l|nil=>obtain⟨rfl,_⟩:=gi j;exact J8 (B _ _ _ F (.bR F.hO (Kp.refl s)))
 |cons n h U=>
   intro s m z f u a v Q F j l C B;rcases a with _|⟨d,a⟩;·cases l
   · obtain⟨_,_,_,_,rfl,_,r,j⟩:=eT j;exact Il (assign_Name (F.store (V:=.d d) (dL (C _ (.head _))) ⟨_,r⟩ λ t J H L k=>U (f:=(n.1,.d d)::f) L (vr (gh λ b VM VL e=>k b VM (λ G=>VL (.inl (.inr G))) e) j) (MJ l) (λ n G=>C n (.tail _ G)) λ VN V N M T=>B VN V N (tQ.symm▸M) ((aZ.dn F.hO k).trans T)))
def FB.assign{l:List (Str×PV)}{Q:Unit->aa->Prop}(F:FB A w c o g E q i D Vg Vp Y H)(B:BindsTo z V l)(J:∀r d,(r,d)∈l->ce g r=true)(C:∀b,aL w E Y b->VG b)(M:iP VG H.heap U V z)(VP:(∀r VV,z≠.Name r VV)->o.handled=none)(G:∀a h f,FB A w c o g E q (l++i) (h4 l D) h f Y a->aZ A o w E Y H Y a->Q () a):aA (au P0 c) o (assign z E U) Q y H:=by cases B with
 |name=>exact L1 (F.store (dL (J _ _ (.head _))) (RV.mono C M) λ a h f j k=>G a h f j (.dn F.hO k))|tup xs ds VS t=>
   refine aj λ VY=>?_;refine du M λ T V1 VM as VW e VU VL=>?_;obtain rfl:=VW;obtain rfl:=tO VS e;refine VY (tF (VP λ _ _ d=>by cases d) F.er.left VU ?_ ?_ λ L VO=>?_);·simp only[I',cy VL,<-t,qe]
   ·exact qf
   have kp:Kp H {H with heap:=L}:=⟨L,H.toks,rfl,λ b u e=>VO b u (br (az e)) e⟩;refine FB.AO (f:=[]) (F.kp kp) (nf C (vr (gh λ b u _ e=>kp.keep b u e) VL)) t (λ n VR=>?_) λ a h f j fr=>G a h f ?_ ((aZ.bR F.hO kp).trans fr)
   · have VQ:n.1∈(((xs.map (·.1)).zip (VM.map PV.d)).reverse).map (·.1):=by
       rw[SA,LY (by rw[be,be,t];exact aB _)];exact MV.mpr (K3 VR)
     exact ak (hp.mp VQ) λ d VT e=>e▸J d.1 d.2 VT
   ·rw[IY]at j;exact j
abbrev cX(X W:ae->Prop)(b:ae):Prop:=X b\/W b
def qs(a:Ow (cX w VG) E h):Ow w E h\/VG h:=by
 rcases a with(a|a)|a;·exact .inl (.inl a)
 ·exact .inr a
 ·exact .inl (.inr a)
def jQ(a:Ow w E h):Ow (cX w VG) E h:=a.elim (λ a=>.inl (.inl a)) .inr
def qt(a:aL (cX w VG) E Y h):aL w E Y h\/VG h:=a.elim (λ a=>(qs a).elim (λ a=>.inl (.inl a)) .inr) λ a=>.inl (.inr a)
def ul(a:aL w E Y h):aL (cX w VG) E Y h:=a.elim (λ a=>.inl (jQ a)) .inr
def cc.shift(e:cc w E s j V)(k:∀b o,¬w b->s.get? b=some o->¬VG b/\Vm.get? b=some o)(g:∀o,s.get? E.locals=some o->Vm.get? E.locals=some o)(f:∀n c,E.cells.lookup n=some c->∀o,s.get? c=some o->Vm.get? c=some o):cc VG E Vm j V:=by
 refine e.imp (λ q=>?_) λ q=>?_;·obtain⟨i,v,a,b,c⟩:=q;exact⟨i,v,a.at' g,b,c.shift k⟩
 ·obtain⟨c,v,a,⟨o,b,d⟩,r⟩:=q;exact⟨c,v,a,⟨o,f j c a o b,d⟩,r.shift k⟩
def FB.wide(F:FB A w c o g E q i D Vg Vp Y H)(kp:Kp H VJ)(u:∀b,VG b->H.heap.get? b=none)(M:∀b,VG b->∃f,VJ.heap.get? b=some f)(Q:∀b,VG b->q.heap.objs.size<=b)(N:∀b f,VG b->VJ.heap.get? b=some f->¬bw f):FB A (cX w VG) c o g E q i D Vg Vp Y VJ:=by
 have j:=F.kp kp;have v:∀b f,¬aL w E Y b->H.heap.get? b=some f->¬aL (cX w VG) E Y b/\VJ.heap.get? b=some f:=λ b f T e=>⟨λ d=>(qt d).elim T (λ d=>bN (u b d) e),kp.keep b f e⟩;refine{j with er:={j.er with ex:=λ b d=>?_,vars:=λ y p e=>(F.er.vars y p e).shift v (λ f=>kp.keep _ f) λ _ _ _ f=>kp.keep _ f},new:=λ b k=>⟨(F.new b k).1,λ d=>?_⟩,own:=λ y l h=>?_,bi:=λ t=>?_,xc:=λ t b f k r e=>?_}
 · rcases qt d with d|d;·exact j.er.ex b d
   ·exact M b d
 · refine aH (qs d) (λ d=>?_) λ d=>?_;·exact(F.new b k).2 d
   ·exact ai (F.er.ex b (.inr k)) λ f e=>bN (u b d) e
 · obtain⟨a,vs,B,C,G,J,L⟩:=F.own y l h;exact⟨a,vs,B,C,G,J.at λ f e=>kp.keep _ _ e,L.shift v⟩
 · obtain⟨U,z,V,VL,VM⟩:=j.bi t;exact⟨λ b d=>.inl (U b d),λ b d=>⟨jQ (z b d).1,(z b d).2⟩,V,VL,λ b d n r=>d.elim (λ d=>VM b d n r) λ d=>absurd r (b'.mpr (Q b d))⟩
 · refine aH k (λ d=>?_) λ d=>?_;·exact j.xc t b f d r e
   ·exact N b f d e
def FB.narrow(F:FB A (cX w VG) c o g E q i D Vg Vp Y H)(r:A.t=true->(∀b,bC b->w b)/\(∀b,FA o b->Ow w E b/\b<=E.locals)):FB A w c o g E q i D Vg Vp Y H:=by
 have j:∀b,aL w E Y b->aL (cX w VG) E Y b:=λ b d=>ul d;refine{F with er:={F.er with ex:=λ b d=>F.er.ex b (j b d),vars:=λ y p e=>(F.er.vars y p e).shift (λ b n k e=>⟨λ d=>k (j b d),e⟩) (λ _ e=>e) λ _ _ _ _ e=>e},new:=λ b f=>⟨(F.new b f).1,λ d=>(F.new b f).2 (jQ d)⟩,own:=λ y l h=>?_,bi:=λ h=>?_,xc:=λ t b n f=>F.xc t b n (.inl f)}
 · obtain⟨a,M,u,v,z,B,C⟩:=F.own y l h;exact⟨a,M,u,v,z,B,C.shift λ b n k e=>⟨λ d=>k (j b d),e⟩⟩
 · obtain⟨_,_,G,J,L⟩:=F.bi h;exact⟨(r h).1,(r h).2,G,J,λ b d=>L b (.inl d)⟩
def Kq.um(i:∀b,w b->q.heap.objs.size<=b)(k:Kq M o q H)(g:KX w H.heap s):Kq M o q {H with heap:=s,toks:=a}:=by
 refine aW k λ m p e E=>?_;subst e;have ne:∀b c,q.heap.get? b=some c->¬w b:=λ b c e j=>absurd (az e) (b'.mpr (i b j));exact⟨s,a,rfl,λ b c n e=>g b c (ne b c e) (E.keep b c n e),λ b c f d e=>(ai (E.fr b c f d e) λ l h=>⟨l,g b _ (ne b c e) h⟩)⟩
def FB.uo(F:FB A (cX w VG) c o g E q i D Vg Vp Y H)(z:∀b,VG b->q.heap.objs.size<=b/\314<=b)(u:∀b,VG b->¬aL w E Y b)(L:∀b j,VG b->H.heap.get? b=some j->¬bw j)(k:KX VG H.heap s)(B:∀b,VG b->∃j,s.get? b=some j)(G:A.t=true->∀b,FA o b->Ow w E b)(M:∀b j,VG b->s.get? b=some j->¬bw j):FB A (cX w VG) c o g E q i D Vg Vp Y {H with heap:=s,toks:=a}:=by
 refine F.qo (F.rel.um (λ b l=>(z b l).1) k) (λ t=>?_) (λ t b j v C e=>?_) (F.ns.at' λ j e=>k _ j (λ l=>u _ l (.inl (.inr (.inl rfl)))) e) (λ n r h j e=>k r j ((λ n r h l=>u r l (.inl (.inr (.inr ⟨n,h⟩)))) n r h) e) (λ b v j e=>k b j (λ l=>u b l (.inr v)) e) (λ b j J e=>k b j (λ l=>J (.inl (.inl (.inr l)))) e) (F.er.left.move λ b j l e=>k b j (λ p=>?_) e) λ b l=>?_;·exact(F.bi t).dA.move λ b j f d e=>⟨j,k b j (λ l=>u b l (.inl (G t b f))) e,d⟩
 · by_cases p:VG b;·exact M b j p e
   · obtain⟨N,y⟩:=F.er.ex b (.inl (.inl v));have :=k b N p y;cases aO e this;exact F.xc t b j v C y
 · refine aH l (λ l=>?_) λ l=>?_;·exact absurd l.lt (b'.mpr (z b p).2)
   ·exact L b j p e l
 · by_cases p:VG b;·exact B b p
   ·obtain⟨j,e⟩:=F.er.ex b l;exact⟨j,k b j p e⟩
def FB.nt(F:FB A (cX w VG) c o g E q i D Vg Vp Y H)(N:∀b,VG b->q.heap.objs.size<=b/\314<=b)(z:∀b,VG b->¬aL w E Y b)(VR:∀b j,VG b->H.heap.get? b=some j->¬bw j)(k:KX VG H.heap s)(VQ:A.t=true->(∀b,bC b->w b)/\(∀b,FA o b->Ow w E b/\b<=E.locals)):FB A w c o g E q i D Vg Vp Y {H with heap:=s,toks:=a}:=by
 have U:¬VG E.locals:=λ r=>z _ r (.inl (.inr (.inl rfl)));have T:∀n u,E.cells.lookup n=some u->¬VG u:=λ n u h r=>z u r (.inl (.inr (.inr ⟨n,h⟩)));have G:=F.narrow VQ;have V:∀b j,¬aL (cX w VG) E Y b->H.heap.get? b=some j->¬aL w E Y b/\s.get? b=some j:=λ b j Q e=>⟨λ r=>Q (ul r),k b j (λ r=>Q (.inl (.inl (.inr r)))) e⟩;have R:=G.er;refine⟨G.rel.um (λ b r=>(N b r).1) k,G.ns.at' λ j e=>k _ j U e,G.fresh,G.hg,λ n u h=>let⟨j,C,b⟩:=G.cell n u h;⟨j,k u j (T n u h) C,b⟩,G.cells,G.above,⟨R.left.move λ b j r e=>k b j (λ v=>?_) e,R.scope,R.glob,R.blt,R.kind,λ b r=>?_,λ y p e=>(F.er.vars y p e).shift V (λ j e=>k _ j U e) λ n u h j e=>k u j (T n u h) e,R.cells⟩,G.new,λ y l h=>?_,λ b B=>(let⟨J,e⟩:=G.gJ b B;⟨J,e.at λ j e=>k b j (λ v=>z b v (.inr B)) e⟩),G.nodup,G.apart,G.code,G.frame,G.qual,λ t=>?_,λ t b j B VP e=>?_⟩
 · refine aH r (λ r=>?_) λ r=>?_;·exact absurd r.lt (b'.mpr (N b v).2)
   ·exact VR b j v e r
 ·exact ai (R.ex b r) λ j e=>⟨j,k b j (λ v=>z b v r) e⟩
 · obtain⟨C,J,VL,VM,M,VN,VO⟩:=F.own y l h;exact⟨C,J,VL,VM,M,VN.at λ j e=>k C j (λ v=>z C v (.inr M)) e,VO.shift V⟩
 ·exact{G.bi t with dA:=(G.bi t).dA.move λ b j f d e=>⟨j,k b j (λ r=>z b r (.inl ((G.bi t).fa b f).1)) e,d⟩}
 · refine ai (R.ex b (.inl (.inl B))) λ VS L=>?_;have :=k b VS (λ v=>z b v (.inl (.inl B))) L;cases aO e this;exact G.xc t b j B VP L
def fM:Go->List (Str×PV)->List (Str×OL)->Prop
 |.next b d,a,c=>Sub a b/\d=c|.cont b d,a,c=>Sub a b/\d=c|_,_,_=>False
def fM.qu{f:PI}{d:Go}(h:fM d i D)(a:c' A w c o g E q Y H f VJ d):(f=.next\/f=.cont)/\gK A w c o g E q Y H i D VJ:=by
 have B:∀{e j},Sub i e/\j=D->gK A w c o g E q Y H e j VJ->gK A w c o g E q Y H i D VJ:=λ h b=>by
  obtain⟨m,l,k,F,b⟩:=b;exact⟨m,l,k,h.2▸F.weaken h.1,b⟩
 cases d with
 |next=>exact⟨.inl a.1,B h a.2⟩|cont=>exact⟨.inr a.1,B h a.2⟩|_=>exact h.elim
inductive up(x:Cx)(X:ae->Prop)(w:ar)(A:aq)(h:aw)(d:Env)(j s k:aa)(O:List ae)(VN:Nat->List (Str×PV))(VO:Nat->List (Str×OL))(f VM N:ae->Prop)(S:Nat->a7->Prop)(L n:Nat)(c:aa):Prop|mk(VL:Nat)(g e:Str->Option ab)(a:List ae)(F:FB x (cX X VM) w A h d j (VN VL) (VO VL) g e a c)(l:aZ x A X d O s a c)(q:S VL c.heap)(t:VL<=L)(u:n=L+1-VL)(r:∀b,f b->¬aL X d a b)(p:∀b∈a,N b)(m:∀b o,k.heap.get? b=some o->∃o,c.heap.get? b=some o)
def uq(j:List PV)(L:Nat->List (Str×PV))(M:Nat->List (Str×OL))(bs:Nat->List (Str×PV))(Wc:Nat->Go)(G:∀i p,j[i]?=some p->BindsTo z p (bs i))(WL:∀i Wk q,(Wk,q)∈bs i->ce g Wk=true)(WB:∀i,i<j.length->ag A u g (bs i++L i) (h4 (bs i) (M i)) Vr (Wc i))(WE:∀i,i<j.length->fM (Wc i) (L (i+1)) (M (i+1)))(Wx:Rm u o){J s V7 V:aa}{VP B N:ae->Prop}{S:Nat->a7->Prop}{Wn:Nat->ab->a7->Prop}(Wl:FB A (cX w B) c o g E J (L 0) (M 0) Vg Vp Y V)(Ws:aZ A o w E Y s Y V)(Ww:∀b a,V7.heap.get? b=some a->∃a,V.heap.get? b=some a)(V3:∀b,N b↔aL w E Y b\/V7.heap.get? b=none)(WO:∀b,B b->N b)(Fd:dc N c o U z j VP B S Wn)(WM:S 0 V.heap)(Wf:∀b,B b->J.heap.objs.size<=b/\314<=b)(WA:∀b,B b->s.heap.get? b=none)(WD:∀b,VP b->¬aL w E Y b)(VN:A.t=true->(∀b,bC b->w b)/\(∀b,FA o b->Ow w E b/\b<=E.locals)){Q:PI->aa->Prop}(Wr:∀f l,c' A w c o g E J Y s f l (.next (L j.length) (M j.length))->Q f l):JO (au P0 c) o (.forLoop z U Vr [] E) (λ r l=>match r with|.ok f=>Q f l|.error e=>y e l) V:=by
 refine S7 (λ n l=>up A w c o g E J s V Y L M VP B N S j.length n l) ?_ (j.length+1) ⟨0,Vg,Vp,Y,Wl,Ws,WM,dk _,rfl,λ b q=>WD b q,λ b G=>(V3 b).mpr (.inl (.inr G)),λ b a e=>⟨a,e⟩⟩;intro n l H;obtain⟨i,V6,V0,C,V9,D,VV,WF,WK,T,We,Wd⟩:=H;subst WK;have Wy:∀b,aL (cX w B) E C b->N b:=λ b q=>by
   refine aH q (λ q=>?_) λ q=>?_
   · refine aH (qs q) (λ q=>?_) λ q=>?_;·exact(V3 b).mpr (.inl (.inl q))
     ·exact WO b q
   ·exact We b q
 have Wg:∀b,B b->¬aL w E C b:=λ b q=>T b (Fd.sub b q);have Wh:∀b a,s.heap.get? b=some a->¬B b:=λ b a e q=>bN (WA b q) e;by_cases VL:i<j.length
 · have V4:j[i]?=some j[i]:=ay VL;generalize j[i]=p at V4;refine Fd.next i p l _ _ V4 VV λ v V5 VT WG WJ VW=>Fd.go i v p {l with heap:=V5,toks:=VT} _ _ WJ WG λ VS VM WH WI=>?_;have VX:KX B l.heap VS:=λ b a VO e=>WI b a VO (VW b a VO e);have VZ:FB A (cX w B) c o g E J (L i) (M i) V6 V0 C {l with heap:=VS,toks:=VT}:=V9.uo Wf Wg (λ b a q e=>Fd.hV i _ VV b a q e) VX (λ b q=>Fd.there _ _ VM b (Fd.sub b q)) (λ t b f=>((VN t).2 b f).1) (λ b a q e=>Fd.hV (i+1) _ VM b a q e);have Wt:aZ A o w E Y s C {l with heap:=VS,toks:=VT}:=⟨λ b a VO e=>VX b a (Wh b a e) (D.keep b a VO e),D.own,D.sub,D.eV⟩;refine VZ.assign (G i p V4) (WL i) Wy WH Fd.calm λ WU WP Wo Wm Wu=>aG (WB i VL (cX w B) c o Wx E J WU _ WP Wo C Wm) (λ f V8 WN=>?_) λ _ _ h=>h;have WR:∀b,VP b->¬h2 A o E C b:=λ b q d=>by
     rcases d with d|d|⟨t,d|d⟩;·exact T b q (.inl (.inr d))
     ·exact T b q (.inr d)
     ·exact T b q (.inl (.inl ((VN t).1 b d)))
     ·exact T b q (.inl ((VN t).2 b d).1)
   obtain⟨WC,WQ,Wp,Wa,V',Wv⟩:=(WE i VL).qu WN;suffices WS:∃Vg,Vg<j.length+1-i/\up A w c o g E J s V Y L M VP B N S j.length Vg V8 from by rcases WC with rfl|rfl<;>exact WS
   have VQ:=Wu.trans Wv;have Wz:S (i+1) V8.heap:=Fd.frame _ _ _ VM λ b a q e=>VQ.keep b a (WR b q) e;have Wb:∀b a,VS.get? b=some a->∃a,V8.heap.get? b=some a:=λ b a e=>by
     by_cases q:h2 A o E C b
     · refine V'.er.ex b ?_;rcases q with q|q|⟨t,q|q⟩;·exact .inl (.inr q)
       ·exact .inr (VQ.sub b q)
       ·exact .inl (.inl (.inl ((VN t).1 b q)))
       ·exact .inl (jQ ((VN t).2 b q).1)
     ·exact⟨a,VQ.keep b a q e⟩
   have Wi:∀b∈Wa,b∈C\/VS.get? b=none:=VQ.own;refine⟨j.length+1-(i+1),jb VL,i+1,WQ,Wp,Wa,V',Wt.trans ((λ f=>⟨f.keep,f.own,f.sub,λ b G=>⟨λ q=>(f.eV b G).1 (jQ q),(f.eV b G).2⟩⟩) VQ),Wz,VL,rfl,λ b q d=>?_,λ b G=>?_,λ b a e=>?_⟩
   · refine aH d (λ d=>?_) λ d=>?_;·exact T b q (.inl d)
     · refine aH (Wi b d) (λ d=>?_) λ d=>?_;·exact T b q (.inr d)
       · refine ai (Fd.there _ _ VM b q) λ a e=>?_;rw[e]at d;exact c7 d
   · refine aH (Wi b G) (λ q=>?_) λ q=>?_;·exact We b q
     · refine(V3 b).mpr (.inr ?_);rcases e:V7.heap.get? b with _|a;·rfl
       · refine ai (Ww b a e) λ WT Wq=>ai (Wd b WT Wq) λ VY V1=>?_;by_cases VR:B b
         · refine ai (Fd.there _ _ VM b (Fd.sub b VR)) λ Wj V2=>?_;rw[V2]at q;exact c7 q
         · have d:=VX b VY VR V1;rw[d]at q;exact c7 q
   · refine ai (Wd b a e) λ VY V1=>?_;by_cases VR:B b;·exact ai (Fd.there _ _ VM b (Fd.sub b VR)) λ Wj V2=>Wb b Wj V2
     ·exact Wb b VY (VX b VY VR V1)
 · obtain rfl:=(gu WF VL).symm;refine Fd.done l _ _ VV λ V5 VT VW=>?_;have VZ:FB A w c o g E J (L j.length) (M j.length) V6 V0 C {l with heap:=V5,toks:=VT}:=V9.nt Wf Wg (λ b a q e=>Fd.hV _ _ VV b a q e) VW VN;exact J4 (Wr _ _ ⟨rfl,V6,V0,C,VZ,⟨λ b a VO e=>VW b a (Wh b a e) (D.keep b a VO e),D.own,D.sub,D.eV⟩⟩)
def St.nu(a:List PV)(c:Nat->List (Str×PV))(f:Nat->List (Str×OL))(d:Nat->List (Str×PV))(l:Nat->Go)(VR:bg u g (c 0) Vn z a)(Y:∀i p,a[i]?=some p->BindsTo z p (d i))(VP:∀i y q,(y,q)∈d i->ce g y=true)(VL:∀i,i<a.length->ag A u g (d i++c i) (h4 (d i) (f i)) Vr (l i))(VN:∀i,i<a.length->fM (l i) (c (i+1)) (f (i+1)))(VO:autoParam (∀h A,Ad Vn h A=jB A) bc):St A u g (c 0) (f 0) (.For z Vn Vr [] v) (.next (c a.length) (f a.length)):=λ X w V D h U s E m VU O F=>jF λ Q fin=>by
 refine T2 (VR _ w V D h s E _ F.er λ it B VS VV C S VT N r M G Fd n VW j VM=>?_) (VO h);have T:Kp s VS:=r.trans M;have L:U.heap.objs.size<=B.heap.objs.size/\314<=B.heap.objs.size:=by
  refine ak (Ns.c9 (F.ns.keeps r.keep)) λ o e _=>?_;have :=az e;exact⟨bn (bz F.fresh this),bn (bz F.locals this)⟩
 have H:∀b,C b->U.heap.objs.size<=b/\314<=b:=λ b q=>⟨an L.1 (j b q),an L.2 (j b q)⟩;have J:∀b,C b->s.heap.get? b=none:=λ b q=>by
  rcases e:s.heap.get? b with _|o;·rfl
  ·exact absurd (az (r.keep b o e)) (b'.mpr (j b q))
 have VQ:∀b,C b->N b:=λ b q=>(G b).mpr (.inr (cW (j b q)));refine uq a c f d l Y VP VL VN D (V7:=B) (F.wide T J (λ b q=>Fd.there 0 _ n b (Fd.sub b q)) (λ b q=>(H b q).1) (λ b o q e=>Fd.hV 0 _ n b o q e)) (.bR F.hO T) (λ b o e=>⟨o,M.keep b o e⟩) G VQ Fd n H J VM (λ t=>⟨(F.bi t).tab,(F.bi t).fa⟩) fin
def qv:Go->Go->Prop
 |.brk a b,g=>g=.next a b|.ret p,g=>g=.ret p|_,_=>False
def qv.at{j s l i:aa}{O k:List ae}{f:PI}{a d:Go}(h:qv a d)(r:aZ A o w E O s k l)(H:c' A w c o g E j k l f i a):(f=.brk/\c' A w c o g E j O s .next i d)\/∃v,f=.ret v/\c' A w c o g E j O s (.ret v) i d:=by cases a with
 |brk=>
  obtain⟨e,m,q,n,F,b⟩:=H;obtain rfl:=h;exact .inl ⟨e,rfl,m,q,n,F,r.trans b⟩|ret p=>
  obtain⟨v,e,t,u,y,z⟩:=H;obtain rfl:=(h).symm;exact .inr ⟨v,e,v,rfl,t,u,y,z⟩|_=>exact h.elim
inductive ur(x:Cx)(X:ae->Prop)(w:ar)(A:aq)(f:aw)(b:Env)(g s:aa)(O:List ae)(VM:Nat->List (Str×PV))(VN:Nat->List (Str×OL))(n j:Nat)(c:aa):Prop|mk(VL:Nat)(e d:Str->Option ab)(a:List ae)(F:FB x X w A f b g (VM VL) (VN VL) e d a c)(h:aZ x A X b O s a c)(k:VL<=n)(l:j=n+1-VL)
def St.lq(n:Nat)(a:Nat->List (Str×PV))(b:Nat->List (Str×OL))(L:Nat->Go){J:Go}(VM:∀i,i<n->Tr u g (seen (a i) (b i)) z true)(VO:∀i,i<n->ag A u g (a i) (b i) Vr (L i))(VQ:∀i,i<n->fM (L i) (a (i+1)) (b (i+1)))(VT:(Tr u g (seen (a n) (b n)) z ap/\J=.next (a n) (b n))\/∃gl,Tr u g (seen (a n) (b n)) z true/\ag A u g (a n) (b n) Vr gl/\qv gl J):St A u g (a 0) (b 0) (.While z Vr [] v) J:=λ X w l e o p s E m V O F=>jF λ Q fin=>by
 refine wpAny_While (TK (λ j M=>ur A X w l g o p s O a b n j M) ?_ (n+1) ⟨0,m,V,O,F,.bR F.hO (Kp.refl _),dk _,rfl⟩);intro j M H;obtain⟨i,G,y,t,c,B,VR,VS⟩:=H;subst VS;by_cases d:i<n
 · refine(VM i d).use e c.reads (Kp.refl _) λ r kp _ _=>?_;simp only[if_true];refine aG (VO i d X w l e o p r _ G y t (c.kp kp)) (λ f N D=>?_) λ _ _ h=>h;obtain⟨VP,VV,Y,U,T,VL⟩:=(VQ i d).qu D;suffices VW:∃j,j<n+1-i/\ur A X w l g o p s O a b n j N from by rcases VP with rfl|rfl<;>exact VW
   exact⟨n+1-(i+1),jb d,i+1,VV,Y,U,T,(B.trans (aZ.bR c.hO kp)).trans VL,d,rfl⟩
 · obtain rfl:=(gu VR d).symm;rcases VT with⟨C,rfl⟩|⟨gl,C,VN,VU⟩
   · refine C.use e c.reads (Kp.refl _) λ r kp _ _=>?_;simp only[cT,if_false];exact J4 (fin _ _ ⟨rfl,G,y,t,c.kp kp,B.trans (aZ.bR c.hO kp)⟩)
   · refine C.use e c.reads (Kp.refl _) λ r kp _ _=>?_;simp only[if_true];refine aG (VN X w l e o p r _ G y t (c.kp kp)) (λ f N D=>(aH (VU.at (B.trans (aZ.bR c.hO kp)) D) (λ VX=>?_) λ VY=>?_)) λ _ _ h=>h
     · refine am VX ?_;rintro rfl q;exact fin _ _ q
     · refine ak VY ?_;rintro VZ rfl q;exact fin _ _ q
def Tr.true:Tr u g i (.Constant (.bool true) a v) true:=λ X w A c b s E R=>Sb (S6 (zF ⟨rfl,Kp.refl _⟩))
def dB(VL:ar)(h:a7)(a:ae)(S:Str->Bool):Prop:=∃b c t,h.get? a=some {cls:=.type "frozenset",data:=.set b c t}/\OK (strKind P0 VL) b.toList/\(∀k,S k=true↔∃e∈b.toList,(strKind P0 VL).is k e.2=true)/\b.size<K9/\t.fits b.size=true
def dB.keeps{S:Str->Bool}(x:dB c s h S)(k:KO s Vm):dB c Vm h S:=eb x λ d b t e r=>mF d b t (k _ _ e) r
def dB.typeIs{S:Str->Bool}(x:dB c q.heap h S):q.TypeIs (.ref h) "frozenset":=by exact eb x λ _ _ _ e _=>bj _ e rfl
def bk.us(x:bk P0 c O G)(m:s.get? h=some O)(l:G.length<K9):dB c s h (λ k=>bF (k∈G)):=by
 refine aj λ n=>o5 (x.kS m) λ j i t b d e f g=>n ?_;exact sK j i t b d e (by refine f.symm▸?_;exact l) g
def qw{L:List (List Nat)}(h:cps G=L)(c:Nat):(⟨#[c]⟩:Str)∈G↔[c]∈L:=by refine h▸?_;exact mW
def aC.AP(L:aC c s):∃S,dB c s 52 S/\∀d,S ⟨#[d]⟩=bF (d=9\/d=32\/d=10):=by
 refine aj λ f=>bS L.jy λ o g a b e=>f ?_;refine bj _ (b.us a (by rw[(mV e)];decide)) (λ d=>?_);rw[decide_eq_decide,qw e];simp
noncomputable def gM(c:Nat):Bool:=(48<=c&&c<=57)||(65<=c&&c<=70)||(97<=c&&c<=102)
noncomputable def qx:List (List Nat):=[70,69,68,67,66,65,102,101,100,99,98,97,57,56,55,54,53,52,51,50,49,48].map λ i=>[i]
def AQ:∀c,c<128->bF ([c]∈qx)=gM c:=by decide+kernel
def AR(h:128<=a):bF ([a]∈qx)=gM a:=by
 have e:∀n,n<128->bF (a<=n)=ap:=λ n q=>decide_eq_false (IS.mpr (aJ q h));unfold gM;simp only[e 57 (by decide),e 70 (by decide),e 102 (by decide),NK,NK,NK];refine decide_eq_false λ q=>?_;have :=H9.mp (show(qx.all λ x=>x.all (·<128))=true by decide) _ q;simp at this;exact absurd h (IS.mpr this)
def aC.nv(L:aC c s):∃S,dB c s 53 S/\∀d,S ⟨#[d]⟩=gM d:=by
 refine aj λ f=>bS L.jz λ o g a b e=>f ?_;refine bj _ (b.us a (by rw[(mV e)];decide)) (λ d=>?_);rw[decide_eq_decide.mpr (qw e d)];refine aH (Nat.lt_or_ge d 128) (λ q=>?_) λ q=>?_;·exact AQ d q
 ·exact AR q
def aC.ut(L:aC c s):∃S,dB c s 43 S/\∀d,32<=d->d≠127->S ⟨#[d]⟩=ap:=by
 refine aj λ x=>bS L.jx λ o y a b e=>?_;refine o5 b λ f n t v g j l m=>?_;obtain rfl:=v;refine x ?_;classical
 refine bj (λ k=>bF (∃e∈f.toList,(strKind P0 c).is k e.2=true)) ⟨f,n,t,a,g,λ k=>by simp only[decide_eq_true_eq],l,m⟩ (λ d p r=>?_);rw[decide_eq_false_iff_not];intro q;have :=(qw e d).mp (j _ q);rcases k9.mp this with q|q
 · refine ak (hp.mp q) λ i u e=>?_;have :=cI.mp (MV.mp u);cases e;exact dR this p
 ·simp at q;exact yk q r
def qy{S:Str->Bool}{Q:Bool->aa->Prop}(d:dB c q.heap h S)(b:Q (S j) {q with toks:=q.toks+1}):aA (au P0 c) o (setContains h (.str j Vv)) Q y q:=by
 refine aj λ n=>o5 d λ u p v l f i e g=>n ?_;unfold setContains;exact aK (af ((strKind P0 c).pyHash (k:=j) (iE j Vv) (af (setFind_any (s:={q with toks:=q.toks+1}) (knd:=strKind P0 c) (iE j Vv) rfl l rfl f i e g λ r m=>(m.symm▸(ah b))))))
def AS{S:Str->Bool}{Q:Bool->aa->Prop}(d:dB c q.heap h S)(e:Q (S j) {q with toks:=q.toks+1}):aA (au P0 c) o (contains (.ref h) (.str j Vv)) Q y q:=by
 have b:=d.typeIs;unfold contains;try with_reducible refine aK ?_
 refine af (NX b FB.slot_frozenset_contains.lookup ?_);refine bT (by rw[beq_builtin_none];exact Jp) ?_;refine af (wpAny_callSpecialUnlessNone?_slot (name:=ac "__contains__") b FB.slot_frozenset_contains (IQ FB.slot_frozenset_contains b FB.entry_frozenset_contains ?_ (FB.args_frozenset_contains_2 _ _)));unfold Builtin.«frozenset.__contains__»Lr;simp only[MX,QW];unfold Lu SW;refine af (ah ?_);try dsimp only
 refine af (ah ?_);try dsimp only
 exact af (QF (qy d (ah ⟨_,rfl,zF e⟩)))
def Tr.AT(d:∀w f,aC w f->∃S,dB w f h S/\S j=M)(o:Ev u g i z (S j))(p:Ev u g i Vn (.raw (.ref h)))(q:autoParam (Lo .In Vn=ap) gX):Tr u g i (.Compare z [.In] [Vn] v) M:=λ X w A l H s E R=>JZ (o.use l R (Kp.refl s) λ O L C _ y m=>p.use l m y λ G N D J B n=>by
  refine ai C.str ?_;rintro t rfl;obtain rfl:G=.ref h:=D;refine ak (d w _ n.left) λ S d e=>?_;refine af (AS d (ah (zF ⟨e,B.trans Kp.toks⟩)))) q
def qz:PlainAttrs "frozenset":=⟨⟨"object.__getattribute__",by rw[I6,FF];lia,by decide+kernel⟩,by rw[I6,FF];lia⟩
def qA:Rr "frozenset" "isdisjoint" "frozenset.isdisjoint":=.of (owner:="frozenset") (n:="isdisjoint") (by rw[I6,FF];lia) (by decide+kernel) (by decide+kernel) (by decide+kernel) (by first|exact .inl (by decide+kernel)|exact .inr (by decide+kernel)) (by rw[kF];lia)
def nw:Rr "frozenset" "issuperset" "frozenset.issuperset":=.of (owner:="frozenset") (n:="issuperset") (by rw[I6,FF];lia) (by decide+kernel) (by decide+kernel) (by decide+kernel) (by first|exact .inl (by decide+kernel)|exact .inr (by decide+kernel)) (by rw[kF];lia)
def AU:Nc (.builtin "frozenset.isdisjoint")=jB (.type "method_descriptor"):=by show builtinType _=_;refine S9.symm▸?_;lia
def uu:Nc (.builtin "frozenset.issuperset")=jB (.type "method_descriptor"):=by show builtinType _=_;refine S9.symm▸?_;lia
def AV:KH Kl "frozenset.isdisjoint"=some Builtin.«frozenset.isdisjoint»:=Jx (by lia)
def AW:KH Kl "frozenset.issuperset"=some Builtin.«frozenset.issuperset»:=Jx (by lia)
def uv:KH Kl "frozenset.isdisjoint.loop"=some Builtin.«frozenset.isdisjoint.loop»:=Jx (by lia)
def uw:KH Kl "frozenset.issuperset.loop"=some Builtin.«frozenset.issuperset.loop»:=Jx (by lia)
def AX(a b:ab):L' "frozenset.isdisjoint" ⟨[a,b],[]⟩:=by unfold L';rw[Mi (id:="frozenset.isdisjoint") (n:="isdisjoint".toList.reverse) (o:=['t','e','s','n','e','z','o','r','f']) (by lia) Kt];lia
def AY(a b:ab):L' "frozenset.issuperset" ⟨[a,b],[]⟩:=by unfold L';rw[Mi (id:="frozenset.issuperset") (n:="issuperset".toList.reverse) (o:=['t','e','s','n','e','z','o','r','f']) (by lia) Kt];lia
def nx:plainId "frozenset.isdisjoint.loop"=true:=by decide+kernel
def ny:plainId "frozenset.issuperset.loop"=true:=by decide+kernel
def AZ{R:JJ->aa->Prop}{I a:ae}{S:Str->Bool}{St:Nat->a7->Prop}(W:U4 P0 c o.in1 I [I] [I] j.cps.size (SignAt j) St)(U:∀y∈j.cps.toList,S ⟨#[y]⟩=ap)(N:a≠I)(k:aa):∀(n i:Nat)(s:aa),j.cps.size-i=n->i<=j.cps.size->St i s.heap->dB c s.heap a S->(∃h l,s={k with heap:=h,toks:=l}/\∀b d,b≠I->k.heap.get? b=some d->h.get? b=some d)->(∀f l,(∀b d,b≠I->k.heap.get? b=some d->f.get? b=some d)->R (.ok (.ret (.bool true))) {k with heap:=f,toks:=l})->JO (au P0 c) o (.builtin "frozenset.isdisjoint.loop" ⟨[.ref a,.ref I],[]⟩) R s:=by
 intro n;induction n with
 |zero=>
  rintro i s m G B D⟨h,l,rfl,C⟩z;have T:i=j.cps.size:=hA G (iu m);subst T;refine hN uv ?_;rw[fH nx _];unfold Builtin.«frozenset.isdisjoint.loop»;exact af (W.done _ _ _ B λ f q p=>(ah (z f q λ b d g e=>p b d (by simpa using g) (C b d g e))))|succ n Y=>
  rintro i s m G B D⟨h,l,rfl,C⟩z;have H:i<j.cps.size:=iv m;refine hN uv ?_;rw[fH nx _];unfold Builtin.«frozenset.isdisjoint.loop»;refine af (W.item i _ _ _ H B λ v f q O V p=>(aj λ VL=>?_));refine aW O ?_;rintro y u Q rfl;refine VL ?_;have E:dB c f a S:=by exact eb D λ L J t e r=>mF L J t (p a _ (by simpa using N) e) r
  refine af (aK (qy (q:={k with heap:=f,toks:=q}) E ?_));rw[U y (by refine ai (ec.mp Q) λ VM M=>?_;rw[<-M];simp)];exact ah ⟨I2 nx _,Y (i+1) _ (hB m) H V E ⟨f,q+1,rfl,λ b d g e=>p b d (by simpa using g) (C b d g e)⟩ z⟩
def A0{R:JJ->aa->Prop}{I a:ae}{S:Str->Bool}{St:Nat->a7->Prop}(W:U4 P0 c o.in1 I [I] [I] j.cps.size (SignAt j) St)(Q:∀y∈j.cps.toList,S ⟨#[y]⟩=true)(N:a≠I)(k:aa):∀(n i:Nat)(s:aa),j.cps.size-i=n->i<=j.cps.size->St i s.heap->dB c s.heap a S->(∃h l,s={k with heap:=h,toks:=l}/\∀b d,b≠I->k.heap.get? b=some d->h.get? b=some d)->(∀f l,(∀b d,b≠I->k.heap.get? b=some d->f.get? b=some d)->R (.ok (.ret (.bool true))) {k with heap:=f,toks:=l})->JO (au P0 c) o (.builtin "frozenset.issuperset.loop" ⟨[.ref a,.ref I],[]⟩) R s:=by
 intro n;induction n with
 |zero=>
  rintro i s m G B D⟨h,l,rfl,C⟩z;have U:i=j.cps.size:=hA G (iu m);subst U;refine hN uw ?_;rw[fH ny _];unfold Builtin.«frozenset.issuperset.loop»;exact af (W.done _ _ _ B λ f q p=>(ah (z f q λ b d g e=>p b d (by simpa using g) (C b d g e))))|succ n Y=>
  rintro i s m G B D⟨h,l,rfl,C⟩z;have H:i<j.cps.size:=iv m;refine hN uw ?_;rw[fH ny _];unfold Builtin.«frozenset.issuperset.loop»;refine af (W.item i _ _ _ H B λ v f q O V p=>(aj λ VL=>?_));refine aW O ?_;rintro y u T rfl;refine VL ?_;have E:dB c f a S:=by exact eb D λ L J t e r=>mF L J t (p a _ (by simpa using N) e) r
  refine af (aK (qy (q:={k with heap:=f,toks:=q}) E ?_));rw[Q y (by refine ai (ec.mp T) λ VM M=>?_;rw[<-M];simp)];exact ah ⟨I2 ny _,Y (i+1) _ (hB m) H V E ⟨f,q+1,rfl,λ b d g e=>p b d (by simpa using g) (C b d g e)⟩ z⟩
def Fn.isdisjoint(l:u.2=true)(d:∀w f,aC w f->∃S,dB w f h S/\∀c∈j.cps.toList,S ⟨#[c]⟩=ap):Fn u (.builtin "frozenset.isdisjoint") [.raw (.ref h),S j] (Bo true):=λ X w A i s C E L B r=>by
 refine aj λ z=>?_;refine bS r.two ?_;rintro D G rfl q v;obtain rfl:_=hk h:=q;refine ai v.str ?_;rintro t rfl;refine ak (d w _ L) λ S d m=>z ?_;refine Jg (Ii qA.plain AV (qA.check _ _ _ _ _ _ _ _ d.typeIs (AX _ _) ?_));unfold Builtin.«frozenset.isdisjoint»Lr;rw[MX,QW];unfold Lu;refine af (ah ?_);try dsimp only
 refine af (ah ?_);try dsimp only
 refine bT (λ f=>by cases f) ?_;refine af (LZ (JH _ _ _) (bT (by decide) ?_));refine af (T0 λ o St W n=>?_);refine ah ⟨I2 nx _,AZ (W _ (i.calm l)) m (by refine eb d λ _ _ _ e _=>?_;exact br (az e)) {s with heap:=s.heap.push o} _ 0 _ rfl (dk _) n (d.keeps λ _ _ e=>ao _ e) ⟨_,_,rfl,λ _ _ _ e=>e⟩ λ g y p=>?_⟩;exact⟨.k8,⟨g,y,rfl,λ b o e=>p b o (br (az e)) (ao _ e)⟩⟩
def A1:Km (.type "str") (.type "set")=jB ap:=by rw[kF];lia
def A2:Km (.type "str") (.type "frozenset")=jB ap:=by rw[kF];lia
def A3{Q:Bool->aa->Prop}(h:Q ap q):aA (au P0 c) o (Mn (.str j Vv)) Q y q:=by
 unfold Mn;show aA _ _ (do let b<-NN (.str j Vv) (.type "set");if b=true then jB true else NN (.str j Vv) (.type "frozenset")) _ _ q;refine af (JR (JH _ _ _) A1 (bT (λ h=>by cases h) ?_));exact JR (JH _ _ _) A2 h
def Fn.issuperset(l:u.2=true)(d:∀w f,aC w f->∃S,dB w f h S/\∀c∈j.cps.toList,S ⟨#[c]⟩=true):Fn u (.builtin "frozenset.issuperset") [.raw (.ref h),S j] (Bo true):=λ X w A i s C E L B r=>by
 refine aj λ z=>?_;refine bS r.two ?_;rintro D G rfl q v;obtain rfl:_=hk h:=q;refine ai v.str ?_;rintro t rfl;refine ak (d w _ L) λ S d m=>z ?_;refine Jg (Ii nw.plain AW (nw.check _ _ _ _ _ _ _ _ d.typeIs (AY _ _) ?_));unfold Builtin.«frozenset.issuperset»Lr;rw[MX,QW];unfold Lu;refine af (ah ?_);try dsimp only
 refine af (ah ?_);try dsimp only
 refine af (A3 (bT (λ f=>by cases f) ?_));refine af (T0 λ o St W n=>?_);refine ah ⟨I2 ny _,A0 (W _ (i.calm l)) m (by refine eb d λ _ _ _ e _=>?_;exact br (az e)) {s with heap:=s.heap.push o} _ 0 _ rfl (dk _) n (d.keeps λ _ _ e=>ao _ e) ⟨_,_,rfl,λ _ _ _ e=>e⟩ λ g y p=>?_⟩;exact⟨.k8,⟨g,y,rfl,λ b o e=>p b o (br (az e)) (ao _ e)⟩⟩
def fJ.kS(c:∀w d,aC w d->∃S,dB w d h S):fJ "frozenset" (.raw (.ref h)):=λ X w s v L r=>by
 obtain rfl:v=.ref h:=r;refine ai (c w _ L) λ S c=>dv c.typeIs (λ b f=>(eb c λ _ _ _ e _=>?_));cases f;exact bj _ e rfl
def St.iU{o:ExceptHandler}{n:List ExceptHandler}{a:List (Str×PV)}{b:List (Str×OL)}(h:ag A u g i D Vr (.next a b)):St A u g i D (.Try Vr (o::n) [] [] v) (.next a b):=λ X w c l j q s E m d O F=>Nr (aG (h X w c l j q s _ m d O F) (λ f t p=>by obtain⟨e,r⟩:=p;subst e;exact J4 ⟨rfl,r⟩) λ _ _ A=>A)
noncomputable abbrev nm(s:String):Str:=ac s
def ux(P:a3):a5 P (nm "TOML_WS_AND_NEWLINE")=some (.ref 52):=by lia
def uy(P:a3):a5 P (nm "HEXDIGIT_CHARS")=some (.ref 53):=by lia
def A4(P:a3):a5 P (nm "ILLEGAL_COMMENT_CHARS")=some (.ref 43):=by lia
def uz(P:a3):a5 P (nm "skip_chars")=some (.ref 76):=by lia
def A5(P:a3):a5 P (nm "skip_until")=some (.ref 83):=by lia
def uA(P:a3):a5 P (nm "skip_comment")=some (.ref 90):=by lia
noncomputable def eY(c:Nat):Bool:=bF (c=9\/c=32\/c=10)
def qB:cu 76 75 (bB [11]) (a0 [11]) [nm "src",nm "pos",nm "chars"]:=.mk' (λ P=>by lia) (λ P=>by lia) (λ P=>⟨by lia,by lia,by lia,by lia,by lia,by lia⟩) (by decide) (by rfl) (by rfl) ⟨rfl,rfl⟩ rfl rfl rfl
def qC(s:∀i,i<b->∃c,j.cps[a+i]?=some c/\eY c=true)(t:∃c,j.cps[a+b]?=some c/\eY c=ap)(u:(a+b:Int)<2^62):Fn (Vu+1,true) (.ref 76) [S j,I a,.raw (.ref 52)] (I ((a+b:Nat):Int)):=by
 refine Fn.of qB (λ P doc G v=>by
     refine aj λ f=>?_;refine iC (jD v) ?_;rintro m o c rfl;refine f ?_;lia) rfl ?_;let g:Nat->List (Str×PV):=λ i=>[(nm "pos",I ((a+i:Nat):Int)),(nm "src",S j),(nm "chars",.raw (.ref 52))];refine ag.weaken (b:=g 0) ?_ ⟨rfl,rfl,rfl,trivial⟩;have z:∀(c:Nat)(w:ar)(h:a7),aC w h->∃S,dB w h 52 S/\S ⟨#[c]⟩=eY c:=λ c w h L=>by exact ak L.AP λ S m o=>bj S m (o c)
 have q:∀{A B C D E:Pos}i c r,r=eY c->i<=b->j.cps[a+i]?=some c->Tr (Vu,true) (a0 [11]) (seen (g i) []) (.Compare (.Subscript (.Name (nm "src") A) (.Name (nm "pos") B) C) [.In] [.Name (nm "chars") D] E) r:=λ i c r y d e=>by
   subst y;exact Tr.AT (z c) (Ev.m' (j:=j) (C:=((a+i:Nat):Int)) Ev.nm Ev.nm (dh) (yW u d) (by rw[b4];exact e)) Ev.nm
 refine ag.cons (St.iU (ag.cons (St.lq b g (λ _=>[]) (λ i=>.next ((nm "pos",I (((a+i:Nat):Int)+1))::g i) []) (λ i d=>?_) (λ i d=>?_) (λ i d=>?_) (.inl ⟨?_,rfl⟩)) ag.nil)) (ag.last (St.ret Ev.nm) trivial);·exact aj λ f=>ak (s i d) λ c e l=>f (q i c _ l.symm (bn d) e)
 ·exact ag.cons (St.fL (by rfl) .int (by rfl)) ag.nil
 · refine dv ⟨?_,rfl,rfl,trivial⟩ rfl;show some (I (((a+i:Nat):Int)+1))=some (I ((a+(i+1):Nat):Int));rw[show((a+(i+1):Nat):Int)=((a+i:Nat):Int)+1 by exact yg]
 ·exact aj λ f=>ak t λ c e l=>f (q b c _ l.symm (aB _) e)
noncomputable abbrev Cp(x:Str):List Nat:=x.cps.toList
def A6{b c:ab}{i j:Option Int}(e:s.IsSliceOf h b c .none)(g:R9 b i)(k:R9 c j):∃l u:Option (Int×Tok),s.IsSlice h l u none/\l.map (·.1)=i/\u.map (·.1)=j:=by
 have one:∀{v:ab}{i:Option Int},R9 v i->∃l:Option (Int×Tok),v=partValue l/\l.map (·.1)=i:=λ p=>by cases p with
  |none=>exact bj none rfl rfl|int i t=>exact bj (some (i,t)) rfl rfl
 refine aj λ m=>?_;refine ak (one g) ?_;rintro l rfl d;refine ak (one k) ?_;rintro u rfl f;exact m (kN l u e d f)
def Ev.nz{o m:Option b7}{c d:Option Int}(B:Ev u g i z (S j))(D:gF u g i o c)(C:gF u g i m d)(e:(Mb j c d).length<=a9):Ev u g i (.Subscript z (.Slice o m none v) J) (S (Mb j c d)):=λ X w A f V s E R=>Mc (B.use f R (Kp.refl s) λ VN VL O _ L q=>qb f D C q L λ b VO VP VM M N H Y n U=>by
   refine aj λ T=>?_;refine ai O.str ?_;rintro t rfl;refine bS (A6 H M N) λ l Q G r y=>T (Ny (ops:=[.ref b]) (JH _ _ _) SU.lookup (wpAny_getItem_str_slice G rfl ?_) rfl);unfold sliceMade;unfold Mb at e⊢;rw[show slicePicked j l Q none=UE c d 1 j.length by unfold slicePicked;rw[r,y];rfl];show Made.post (if((1:Int)==1&&(UE c d 1 j.length).length==j.length)=true then _ else _) _ _;split;·exact dv .mkStr n
   · rename_i h;rw[if_neg h]at e;exact b3 e .mkStr (n.trans Kp.toks))
def uB(x:Str)(c:a<=b)(d:b<=x.length):Mb x (some (a:Int)) (some (b:Int))=⟨((Cp x).drop a|>.take (b-a)).toArray⟩:=sliceText_nat x c d
def A7(x:Str)(c:a<=x.length):Mb x none (some (a:Int))=⟨((Cp x).take a).toArray⟩:=by
 rw[sliceText_to ⟨dh,by simp[Ox]at c⊢;exact c⟩];rfl
def jR(VL:Str)(c i:Nat):subAt VL ⟨#[c]⟩ i=true↔(Cp VL)[i]?=some c:=by
 rw[subAt_eq];show((Cp VL|>.drop i).take 1==[c])=true↔_;rw[beq_iff_eq];constructor
 · intro h;have :((Cp VL).drop i)[0]?=some c:=by
     rcases q:(Cp VL).drop i with _|⟨a,r⟩;·rw[q]at h;simp at h
     ·rw[q]at h;simp at h;simp[h]
   simpa using this
 · intro h;have :((Cp VL).drop i)[0]?=some c:=by simpa using h
   rcases q:(Cp VL).drop i with _|⟨a,r⟩;·rw[q]at this;simp at this
   ·rw[q]at this;simp at this;simp[this]
theorem qD(VN:Str)(VM b d:Nat):∀(l:List Nat)(st:Array Nat×Nat),l.Pairwise (·<·)->(∀VO∈l,st.2<=VO)->st.1.size+l.length<=d->(QZ l st (occBody VN ⟨#[VM]⟩ b d)).run.1.size=st.1.size+l.countP λ VO=>bF (VO+1<=b/\(Cp VN)[VO]?=some VM)
 |[],st,_,_,_=>rfl|VL::l,st,j,f,e=>by
   refine am (Mr.mp j) λ VR g=>?_;rw[Kw];unfold occBody;simp only[y3]at e;by_cases VP:VL+1<=b/\(Cp VN)[VL]?=some VM
   · have c1:((st.1.size<d/\st.2<=VL)/\VL+(⟨#[VM]⟩:Str).length<=b)/\subAt VN ⟨#[VM]⟩ VL=true:=⟨⟨⟨jg e,f VL (.head _)⟩,VP.1⟩,(jR VN VM VL).mpr VP.2⟩;rw[if_pos c1];have :=qD VN VM b d l (st.1.push VL,VL+1) g (λ VO VQ=>VR VO VQ) (by simp;exact hD e);rw[List.countP_cons_of_pos (by simpa using VP)];refine this.trans ?_;simp;exact hE
   · have c1:¬(((st.1.size<d/\st.2<=VL)/\VL+(⟨#[VM]⟩:Str).length<=b)/\subAt VN ⟨#[VM]⟩ VL=true):=λ h=>VP ⟨h.1.2,(jR VN VM VL).mp h.2⟩;rw[if_neg c1];rw[List.countP_cons_of_neg (by simpa using VP)];exact qD VN VM b d l (st.1,st.2) g (λ VO VQ=>an (f VL (.head _)) (bn (VR VO VQ))) (by dsimp only;exact r9 e)
def A8(l:List Nat)(c:Nat):∀(n:Nat),n<=l.length->(NC 0 (n+1)).countP (λ i=>bF (i+1<=n/\l[i]?=some c))=(l.take n).count c:=by
 intro n d;have f:∀m,m<=n->(NC 0 m).countP (λ i=>bF (i+1<=n/\l[i]?=some c))=(l.take m).count c:=by
  intro m;induction m with
  |zero=>intro _;rfl|succ m e=>
   intro VL;have b:m<l.length:=bA (gY VL) d;rw[RW,RX,e (gv VL)];rw[((List.take_append_getElem b).symm),KE,QT,NI];simp only[Im,Nat.mul_one,Nat.one_mul];congr 1;have :l[m]?=some l[m]:=ay b;rw[this];by_cases a:l[m]=c;·simp[a];exact VL
   ·simp[a]
 simp only[RW,RX,f n (aB _),QT];simp;intro VM;exact dR (dt VM) (ix VM)
def A9(VL:Str)(c a:Nat)(b:a<=VL.length):(LP VL ⟨#[c]⟩ 0 a (VL.length+1)).length=((Cp VL).take a).count c:=by
 rw[occ_eq];have :=qD VL c a (VL.length+1) (NC 0 (a+1-0)) (#[],0) (Qn) (λ _ _=>dk _) (by simp;exact b);rw[aX,this,KU,A8 _ _ _ (jh (by rfl) b)];simp
noncomputable def cg(l:List Nat)(c:Nat):Nat:=(l.reverse.takeWhile (· !=c)).length
def uC(c:Nat):∀(l:List Nat),c∈l->cg l c<l.length/\l[l.length-1-cg l c]?=some c/\∀i,l.length-1-cg l c<i->i<l.length->l[i]?≠some c:=by
 intro l VM;refine ai (⟨l.reverse,by simp⟩:∃r,l=r.reverse) ?_;rintro r rfl;unfold cg;rw[List.reverse_reverse,N1];have g:∀(r:List Nat),c∈r->(r.takeWhile (· !=c)).length<r.length/\r[(r.takeWhile (· !=c)).length]?=some c/\∀i,i<(r.takeWhile (· !=c)).length->r[i]?≠some c:=by
   intro r;induction r with
   |nil=>intro VM;cases VM|cons a r f=>
     intro d;by_cases q:a=c
     · obtain rfl:=q.symm;simp
     · refine a4 (f ((aP.mp d).elim (λ e=>(q e.symm).elim) id)) λ VL VN b=>?_;have e:(a::r).takeWhile (· !=c)=a::r.takeWhile (· !=c):=by simp[Mf,q]
       rw[e];refine b3 (by simpa using VL) (VN) (λ i VO=>?_);rcases i with _|i;·simpa using q
       ·exact b i (by simpa using VO)
 refine aj λ j=>a4 (g r (by simpa using VM)) λ VL VN b=>?_;refine j (b3 VL ?_ (λ i VO VP=>?_))
 · simp only[QS (hF VL),<-VN];congr 1;exact yh VL
 · rw[QS VP];exact b _ (y0 VO VP)
def Ba(VL:Str)(VM b:Nat)(l:b<=VL.length)(VS:VM∈(Cp VL).take b):QP VL ⟨#[VM]⟩ 0 b=some (b-1-cg ((Cp VL).take b) VM):=by
 have m:((Cp VL).take b).length=b:=by simp[Ox]at l⊢;exact mq l
 refine aj λ n=>a4 (uC VM _ VS) λ e j VQ=>n ?_;rw[m]at e j VQ;generalize cg ((Cp VL).take b) VM=d at e j VQ;rw[last_eq];have k:=last_run VL ⟨#[VM]⟩ b (NC 0 (b+1-0)) [] none (λ _ VN=>nomatch VN) (λ _ VN=>nomatch VN) (Qn);simp only[Ps]at k;have VP:∀i,At VL ⟨#[VM]⟩ b i↔i<b/\((Cp VL).take b)[i]?=some VM:=λ i=>by
   unfold At;rw[jR];constructor
   · rintro⟨f,g⟩;have VR:i+1<=b:=f;exact⟨gY VR,by rw[MM (gY VR)];exact g⟩
   · rintro⟨f,g⟩;exact⟨f,by rwa[MM f]at g⟩
 generalize(QZ (NC 0 (b+1-0)) none (lastBody VL ⟨#[VM]⟩ b)).run=r at k;rcases r with _|VO;·exact(k (b-1-d) (by rw[Sg];exact sl e) ((VP _).mpr ⟨hF e,j⟩)).elim
 · refine am k λ f g=>am ((VP VO).mp f) λ VT VU=>?_;congr 1;refine ez (LD VO (b-1-d)) (λ VN=>?_) (λ VN=>?_) λ VN=>?_;·exact(g _ (by rw[Sg];exact sl e) VN ((VP _).mpr ⟨hF e,j⟩)).elim
   ·exact VN
   ·exact(VQ VO VN VT VU).elim
def Bb(x y:Str)(i:Int)(t u v:Tok)(q:Nat)(r:List Nat)(h:LP x y (JS x.length i) x.length 1=q::r):TQ (Builtin.«str.index» ⟨[.str x t,.str y u,.int i v],[]⟩) (.int q):=by
 show TQ (match LP x y (JS x.length i) (min x.length x.length) 1 with|k::_=>retInt k|[]=>(do rule "str.index.not-found";raiseError"ValueError""substring not found")) _;rw[Um,h];exact .of_eq rfl
def Bc(x y:Str)(i j:Int)(t u v a:Tok):TQ (Builtin.«str.count» ⟨[.str x t,.str y u,.int i v,.int j a],[]⟩) (.int (LP x y (JS x.length i) (min (JS x.length j) x.length) (x.length+1)).length):=.of_eq rfl
def Be(x y:Str)(i j:Int)(t u v a:Tok)(q:Nat)(h:QP x y (JS x.length i) (min (JS x.length j) x.length)=some q):TQ (Builtin.«str.rindex» ⟨[.str x t,.str y u,.int i v,.int j a],[]⟩) (.int q):=by
 show TQ (match QP x y (JS x.length i) (min (JS x.length j) x.length)with|some i=>retInt i|none=>(do rule "str.rindex.not-found";raiseError"ValueError""substring not found")) _;rw[h];exact .of_eq rfl
def lr(n i:Nat):JS n (i:Int)=i:=by
 unfold JS;have :¬((i:Int)<0):=oI dh;rfl
def Fn.Bf(g:b<=x)(d:(Cp j)[x]?=some a)(m:∀i,b<=i->i<x->(Cp j)[i]?≠some a):Fn u (.builtin "str.index") [S j,S ⟨#[a]⟩,I b] (I x):=λ X w A N s O E L M r=>by
 refine aj λ J=>?_;refine bI r.three ?_;rintro Q T U rfl C D G;refine ai C.str ?_;rintro t rfl;refine ai D.str ?_;rintro H rfl;refine ai G.int ?_;rintro v rfl;have l:x<j.length:=by have :=(a8.mp d).1;exact this
 obtain⟨r,y⟩:∃r,LP j ⟨#[a]⟩ (JS j.length (b:Int)) j.length 1=x::r:=by
   rw[lr];refine aH (occ_head_from j ⟨#[a]⟩ b 1 (aB 1)) (λ z=>?_) λ B=>?_;·exact am z λ f e=>(e x g ⟨l,(jR j a x).mpr d⟩).elim
   · refine di B λ i r f o n e=>⟨r,?_⟩;refine ez (LD i x) (λ h=>?_) (λ h=>?_) λ h=>?_;·exact(m i o h ((jR j a i).mp n.2)).elim
     ·rw[f,h]
     ·exact(e x g h ⟨l,(jR j a x).mpr d⟩).elim
 exact J (Tp Tt (JH _ _ _) F.entry_str_index (F.args_str_index_3 _ _ _) (Bb j ⟨#[a]⟩ b t H v x r y) ⟨.mkInt,Kp.toks⟩)
def Fn.Bg(d:b<=j.length):Fn u (.builtin "str.count") [S j,S ⟨#[a]⟩,I 0,I b] (I (((Cp j).take b).count a)):=λ X w A q s y E L o r=>by
 refine aj λ n=>?_;refine o7 r.four ?_;rintro z B C D rfl f g h i;refine ai f.str ?_;rintro t rfl;refine ai g.str ?_;rintro l rfl;refine ai h.int ?_;rintro v rfl;refine ai i.int ?_;rintro m rfl;refine n ?_;have e:(LP j ⟨#[a]⟩ (JS j.length 0) (min (JS j.length (b:Int)) j.length) (j.length+1)).length=((Cp j).take b).count a:=by rw[lr,IZ d,show JS j.length (0:Int)=0 from lr _ 0,A9 j a b d]
 refine Tp Tv (JH _ _ _) F.entry_str_count (F.args_str_count_4 _ _ _ _) (Bc j ⟨#[a]⟩ 0 b t l v m) ⟨?_,Kp.toks⟩;rw[e];exact .mkInt
def Fn.Bh(d:b<=j.length)(e:a∈(Cp j).take b):Fn u (.builtin "str.rindex") [S j,S ⟨#[a]⟩,I 0,I b] (I ((b-1-cg ((Cp j).take b) a:Nat):Int)):=λ X w A q s y E L o r=>by
 refine aj λ n=>?_;refine o7 r.four ?_;rintro z B C D rfl f g h i;refine ai f.str ?_;rintro t rfl;refine ai g.str ?_;rintro l rfl;refine ai h.int ?_;rintro v rfl;refine ai i.int ?_;rintro m rfl;refine n (Tp Tc (JH _ _ _) F.entry_str_rindex (F.args_str_rindex_4 _ _ _ _) (Be j ⟨#[a]⟩ 0 b t l v m _ ?_) ⟨.mkInt,Kp.toks⟩);rw[lr,IZ d,show JS j.length (0:Int)=0 from lr _ 0,Ba j a b d e]
def Tr.ev(e:Ev u g i z (Bo M))(f:autoParam (∀c,isTrue z c (He z c)=(do let v<-He z c;NL z.pos;Mj [v] (truthy v))) cN):Tr u g i z M:=λ X w A d c s E R=>Sb (e.use d R (Kp.refl _) λ v l j _ h _=>by
  obtain rfl:=j.bool;exact zF ⟨rfl,h⟩) (f c)
def lv(k:Lv)(a:ae)(f:List PV)(b:List (Str×PV))(r:PV):Prop:=∀(X:ae->Prop)(VL:ar)(A:aq),Rm k A->∀(s:aa)(e d:List ab)(E:ab->aa->Prop),aC VL s.heap->Ex X s.heap->aU X s.heap e f->aU X s.heap d (b.map (·.2))->aA (au P0 VL) A (I3 (.ref a) e ((b.map (·.1)).zip d)) (λ v c=>RV X c.heap v r/\Kp s c) E s
def aU.append{f e:List ab}{c d:List PV}(a:aU w s f c)(b:aU w s e d):aU w s (f++e) (c++d):=by induction a with
 |nil=>exact b|cons r _ g=>exact .cons r g
def lv.of(D:cu h Q Vr g G)(z:∀P doc j b,j.length=Vk.length->b.length=i.length->J6 {cf P h with doc:=doc} ⟨j,(i.map (·.1)).zip b⟩=jB (G.zip (j++b)))(B:G.length=Vk.length+i.length)(y:Bd ⟨ap,.ref Q,aR⟩ (a,M) g (G.zip (Vk++i.map (·.2))) Vr V):lv (a+1,M) h Vk i V:=λ X w A t s J b E L p d l=>jO (A:=⟨ap,.ref Q,aR⟩) (d:=⟨J,(i.map (·.1)).zip b⟩) D t L p (d.append l) (by simp[B]) (λ doc=>z _ _ _ _ d.len (by simpa using l.len)) rfl (λ q=>by cases q) (λ q=>by cases q) λ o C m n N u F=>aG (y X w _ u o s C _ m n [] F) (λ f O H=>by obtain⟨v,e,d,a,_⟩:=H;subst e;exact⟨d.mono λ _ q=>.inl q,a.kp⟩) λ _ _ x=>x
def Ev.Bi{r L M:PV}{x d f:Str}{l m:b7}(VN:∀w,fI w h)(Y:lv u h Vk [(d,L),(f,M)] r)(VM:Ev u g i (.Name x Vi) (.raw (.ref h)))(D:a6 u g i (z::Vt) Vk)(VP:Ev u g i l L)(VQ:Ev u g i m M):Ev u g i (.Call (.Name x Vi) (z::Vt) [⟨some d,l,v⟩,⟨some f,m,J⟩] VC) r:=λ X w A c B s E R=>by
 refine Tl (VM.use c R (Kp.refl s) λ p V2 V0 _ VS t=>(aj λ V7=>?_));obtain rfl:p=.ref h:=V0;have V8:=D.plain (E:=B) (v:=VC);refine aW (VN w _ t.left) λ o C VO VL=>V7 (callWith_function_kw (o:=o) (fd:=C) ?_);refine di D.cut λ _ _ VW V b G=>?_;obtain rfl:=VW;have U:=a6.use c (z:=VC) (E:=E) (.cons V b G) (s:=V2) (Q:=λ q j=>aA (au P0 w) A (evalAll ((backToKw VC (keywordEach [⟨some d,l,v⟩,⟨some f,m,J⟩] B)).map (·.2))) (λ V4 N=>(N.heap.get? h=some o/\o.data=.func C)/\aA (au P0 w) A (I3 (.ref h) ([]++q) ([d,f].zip V4)) (λ p j=>RV X j.heap p r/\Kp s j) E N) E j) t VS λ q V9 V1 VR VT O=>by
  refine Ti (al (VP.use c O VT λ V5 V' VY H VU T=>al (It (ah (Ti (al (VQ.use c T VU λ V6 V3 VZ n VV y=>al (It (ah (wpAny_evalAll_nil ⟨⟨n.keep _ _ (H.keep _ _ (VR.keep _ _ VO)),VL⟩,?_⟩))))))))));exact aG (Y X w A c V3 q [V5,V6] E y.left y.ex ((V1.keeps H.keep).keeps n.keep) (.cons (VY.keeps n.keep) (.cons VZ .nil))) (λ _ _ VX=>by refine am VX λ h b=>?_;exact⟨h,VV.trans b⟩) λ _ _ x=>x
 simp only[G]at U⊢;exact evalArgs_kw (by rfl) U
def de(c:∀P,∃f,ll P h=some f)(d:autoParam (c8 h=ap) bc):∀w,fI w h:=λ w i L=>by exact aj λ g=>ai (c w.params) λ f e=>aW (L.fn e d) λ o doc h b=>g (dw o _ h b)
def uD:cu 83 82 (bB [12]) (a0 [12]) [nm "src",nm "pos",nm "expect",nm "error_on",nm "error_on_eof"]:=.mk' (λ P=>by lia) (λ P=>by lia) (λ P=>⟨by lia,by lia,by lia,by lia,by lia,by lia⟩) (by decide) (by rfl) (by rfl) ⟨rfl,rfl⟩ rfl rfl rfl
def Bj(t:a<=b)(u:(Cp j)[b]?=some 10)(v:∀i,a<=i->i<b->∃c,(Cp j)[i]?=some c/\32<=c/\c≠127)(C:j.length<=1000000):lv (Vu+1,true) 83 [S j,I a,S ⟨#[10]⟩] [(nm "error_on",.raw (.ref 43)),(nm "error_on_eof",Bo ap)] (I b):=by
 refine lv.of uD (λ P doc N M D G=>by
     refine aj λ H=>?_;refine iC (jD D) ?_;rintro l s c rfl;refine cP (d9 G) ?_;rintro d e rfl;refine H ?_;lia) rfl ?_;have y:(Cp j).length=j.length:=by rfl
 have A:Mb j (some (a:Int)) (some (b:Int))=⟨((Cp j).drop a|>.take (b-a)).toArray⟩:=uB j t (j4 (j5 ((a8.mp u).1)) (j6 y));have z:∀c∈(Mb j (some (a:Int)) (some (b:Int))).cps.toList,32<=c/\c≠127:=λ c f=>by
   rw[A]at f;refine ai (No.mp f) λ i n=>?_;have o:i<b-a:=by
     have :=(a8.mp n).1;simp at this;exact bA this fx
   refine ak (v (a+i) (dG) (iz o)) λ J e r=>?_;have :((Cp j).drop a|>.take (b-a))[i]?=some c:=n;rw[MM o,Ms,e]at this;obtain rfl:=ax this;exact r
 have E:(Mb j (some (a:Int)) (some (b:Int))).length<=a9:=by
   rw[A];refine an (m:=j.length) ?_ (an C (by decide));show((Cp j).drop a|>.take (b-a)).toArray.size<=_;simp only[I',KS,MW,y];exact an (KV _ _) (Nh _ _)
 refine ag.cons (St.iU (ag.cons (St.assign (V:=I b) ?_ (by rfl)) ag.nil)) (ag.cons (St.ite (M:=ap) (d:=.next _ _) ?_ (λ h=>by cases h) (λ _=>ag.nil)) (ag.last (St.ret Ev.nm) trivial))
 · refine Ev.lj Tt F.type_str_index (Fn.Bf (a:=10) t u λ i n o e=>(ak (v i n o) λ c B r=>?_)) Ev.nm (.cons Ev.nm (.cons Ev.nm .nil));cases aO e B;exact dR (dt r.left) bE
 · refine Tr.not (M:=true) (Tr.ev (Ev.li qz qA AU (fJ.kS λ w h L=>let⟨S,l,_⟩:=L.ut;⟨S,l⟩) (Fn.isdisjoint rfl λ w h L=>?_) Ev.nm (.cons (Ev.nz (j:=j) Ev.nm (.some Ev.nm) (.some Ev.nm) E) .nil) (by decide)));exact ak L.ut λ S l s=>bj S l (λ c f=>s c (z c f).1 (z c f).2)
def aD.jS:aD .Eq (I C) (I Vs) (C==Vs):=λ X w A _ s v u E c b a=>by obtain⟨t,rfl⟩:=b.int;obtain⟨d,rfl⟩:=a.int;exact eq_int ⟨rfl,Kp.refl _⟩
def aD.qE:aD .Eq (S j) (S Vf) (j==Vf):=λ X w A _ s v u E c b a=>by obtain⟨t,rfl⟩:=b.str;obtain⟨d,rfl⟩:=a.str;exact eq_str ⟨rfl,Kp.refl _⟩
def nA:cu 90 89 (bB [13]) (a0 [13]) [nm "src",nm "pos"]:=.mk' (λ P=>by lia) (λ P=>by lia) (λ P=>⟨by lia,by lia,by lia,by lia,by lia,by lia⟩) (by decide) (by rfl) (by rfl) ⟨rfl,rfl⟩ rfl rfl rfl
def uE(d:j.cps[a]?=some b)(l:b≠35)(m:j.length<=1000000):Fn (Vu+1,true) (.ref 90) [S j,I a] (I a):=by
 refine Fn.of nA (λ P doc s n=>by
   refine cP (d9 n) ?_;rintro o r rfl;lia) rfl ?_;refine ag.cons (St.iU (ag.cons (St.gL (V:=S ⟨#[b]⟩) (Ev.m' (j:=j) (C:=(a:Int)) Ev.nm Ev.nm dh (mj (iw ((ec.mp d).1)) (fC m (aE true))) (by simp only[b4];exact d)) .str (by rfl)) ag.nil)) (ag.cons (St.ite (M:=ap) (d:=.next _ _) ?_ (λ h=>by cases h) (λ _=>ag.nil)) (ag.last (St.ret Ev.nm) trivial));have e:((⟨#[b]⟩:Str)==ac "#")=ap:=by
  rw[beq_eq_false_iff_ne];intro q;have :(⟨#[b]⟩:Str).cps=(ac "#").cps:=by rw[q]
  have f:(ac "#").cps=#[35]:=by decide
  simp only[f]at this;simp at this;exact l this
 simp only[<-e];exact Tr.cmp aD.qE Ev.nm .str
def Bk(d:j.cps[a]?=some 35)(o:a+1<=b)(l:(Cp j)[b]?=some 10)(m:∀i,a+1<=i->i<b->∃c,(Cp j)[i]?=some c/\32<=c/\c≠127)(f:j.length<=1000000):Fn (Vu+2,true) (.ref 90) [S j,I a] (I b):=by
 refine Fn.of nA (λ P doc t n=>by
     refine cP (d9 n) ?_;rintro r s rfl;lia) rfl ?_;refine ag.cons (St.iU (ag.cons (St.gL (V:=S ⟨#[35]⟩) (Ev.m' (j:=j) (C:=(a:Int)) Ev.nm Ev.nm dh (mj (iw ((ec.mp d).1)) (fC f (aE true))) (by simp only[b4];exact d)) .str (by rfl)) ag.nil)) (ag.last (St.ite (M:=true) (d:=.ret (I b)) ?_ (λ _=>ag.last (St.ret ?_) trivial) (λ h=>by cases h)) trivial)
 · have e:((⟨#[35]⟩:Str)==ac "#")=true:=by decide
   exact e▸(Tr.cmp aD.qE Ev.nm .str)
 · refine Ev.Bi (de λ P=>⟨_,uD.fn P⟩) (Bj (j:=j) (a:=a+1) (b:=b) (Vu:=Vu) o l m f) (Ev.gl A5) (.cons Ev.nm (.cons ?_ (.cons ?_ .nil))) (Ev.gl A4) .bool;·exact Ev.bJ bb.fc Ev.nm .int
   ·exact .str
inductive fh(VL:Str):Nat->Nat->Prop|stop{p c:Nat}:VL.cps[p]?=some c->eY c=ap->c≠35->fh VL p p|lw{p n c r:Nat}:n≠0->(∀i,i<n->∃c,VL.cps[p+i]?=some c/\eY c=true)->VL.cps[p+n]?=some c->eY c=ap->c≠35->fh VL (p+n) r->fh VL p r|comment{p n q r:Nat}:(∀i,i<n->∃c,VL.cps[p+i]?=some c/\eY c=true)->VL.cps[p+n]?=some 35->p+n+1<=q->(Cp VL)[q]?=some 10->(∀i,p+n+1<=i->i<q->∃c,(Cp VL)[i]?=some c/\32<=c/\c≠127)->fh VL q r->fh VL p r
def uF:cu 97 96 (bB [14]) (a0 [14]) [nm "src",nm "pos"]:=.mk' (λ P=>by lia) (λ P=>by lia) (λ P=>⟨by lia,by lia,by lia,by lia,by lia,by lia⟩) (by decide) (by rfl) (by rfl) ⟨rfl,rfl⟩ rfl rfl rfl
def fh.turns(h:fh j a b):∃n,∃g:Nat->Nat,g 0=a/\g n=b/\(∀i,i<n->g i≠g (i+1))/\(∀i,i<n->∃m c,(∀k,k<m->∃c,j.cps[g i+k]?=some c/\eY c=true)/\j.cps[g i+m]?=some c/\eY c=ap/\((c≠35/\g (i+1)=g i+m)\/(c=35/\g i+m+1<=g (i+1)/\(Cp j)[g (i+1)]?=some 10/\∀k,g i+m+1<=k->k<g (i+1)->∃c,(Cp j)[k]?=some c/\32<=c/\c≠127)))/\∃c,j.cps[b]?=some c/\eY c=ap/\c≠35:=by induction h with
 |stop t u B=>exact⟨0,λ _=>_,rfl,rfl,λ _ h=>hC h,λ _ h=>hC h,_,t,u,B⟩|@lw a n c b D w v t u _ x=>
  refine aj λ y=>mE x λ N g l s d e f=>y ⟨N+1,λ i=>match i with|0=>a|i+1=>g i,rfl,s,λ i o=>?_,λ i o=>?_,f⟩;·cases i with
   |zero=>show a≠g 0;rw[l];exact br (M1 (OB D))|succ i=>exact d i (md o)
  ·cases i with
   |zero=>exact⟨n,c,w,v,t,.inl ⟨u,l⟩⟩|succ i=>exact e i (md o)
 |@comment a n q b w v z A C _ x=>
  refine aj λ y=>mE x λ N g l s d e f=>y ⟨N+1,λ i=>match i with|0=>a|i+1=>g i,rfl,s,λ i o=>?_,λ i o=>?_,f⟩;·cases i with
   |zero=>show a≠g 0;rw[l];exact rY (jg z)|succ i=>exact d i (md o)
  ·cases i with
   |zero=>exact⟨n,35,w,v,by decide,.inr ⟨rfl,by show _<=g 0;rw[l];exact z,by show(Cp j)[g 0]?=_;refine l.symm▸?_;exact A,by show∀k,_->k<g 0->_;refine l.symm▸?_;exact C⟩⟩|succ i=>exact e i (md o)
def Bl(h:fh j a b)(f:j.length<=1000000):Fn (x+3,true) (.ref 97) [S j,I a] (I b):=by
 refine Fn.of uF (λ P doc U H=>by
     refine cP (d9 H) ?_;rintro O Q rfl;lia) rfl ?_;refine aj λ w=>?_;obtain⟨n,d,rfl,rfl,J,L,B,t,C,D⟩:=h.turns;refine w ?_;let A:Nat->List (Str×PV):=λ i=>[(nm "pos",I (d i:Nat)),(nm "src",S j)];refine ag.weaken (b:=A 0) ?_ ⟨rfl,rfl,trivial⟩;have h5:∀{a c:Nat},j.cps[a]?=some c->a<j.length:=λ h=>(ec.mp h).1;refine ag.last (St.lq n A (λ _=>[]) (λ i=>.next [(nm "pos",I (d (i+1):Nat)),(nm "src",S j)] []) (λ i l=>Tr.true) (λ i l=>?_) (λ i l=>⟨⟨rfl,rfl,trivial⟩,rfl⟩) (.inr ⟨.ret (I (d n:Nat)),Tr.true,?_,rfl⟩)) trivial
 · refine aj λ w=>di (L i l) λ m c z o y G=>w ?_;have s:=h5 o;have T:Fn (x+1,true) (.ref 76) [S j,I (d i:Nat),.raw (.ref 52)] (I ((d i+m:Nat):Int)):=qC z ⟨c,o,y⟩ (oV s f rfl);have E:Fn (x+2,true) (.ref 90) [S j,I ((d i+m:Nat):Int)] (I (d (i+1):Nat)):=by
     rcases G with⟨u,v⟩|⟨u,v,M,N⟩;·rw[v];exact uE o u f
     ·subst u;exact Bk o v M N f
   refine ag.cons (St.assign (V:=I (d i:Nat)) Ev.nm (by rfl)) ?_;refine ag.cons (St.assign (V:=I ((d i+m:Nat):Int)) (Ev.ed (de λ P=>⟨_,qB.fn P⟩) (u:=(x+2,true)) (qC z ⟨c,o,y⟩ (oV s f rfl)) (Ev.gl uz) (.cons Ev.nm (.cons Ev.nm (.cons (Ev.gl ux) .nil)))) (by rfl)) ?_;refine ag.cons (St.assign (V:=I (d (i+1):Nat)) (Ev.ed (de λ P=>⟨_,nA.fn P⟩) E (Ev.gl uA) (.cons Ev.nm (.cons Ev.nm .nil))) (by rfl)) ?_;refine ag.weaken (b:=[(nm "pos",I (d (i+1):Nat)),(nm "src",S j),(nm "pos_before_skip",I (d i:Nat))]) (ag.cons (St.ite (M:=ap) (d:=.next _ _) ?_ (λ h=>by cases h) (λ _=>ag.nil)) (ag.weaken ag.nil ⟨rfl,rfl,trivial⟩)) ⟨rfl,rfl,rfl,trivial⟩;have e:(((d (i+1):Nat):Int)==((d i:Nat):Int))=ap:=by rw[beq_eq_false_iff_ne];have :=J i l;exact λ q=>this (Oj.mp q).symm
   rw[<-e];exact Tr.cmp aD.jS Ev.nm Ev.nm
 · have s:=h5 t;refine ag.cons (St.assign (V:=I (d n:Nat)) Ev.nm (by rfl)) ?_;refine ag.cons (St.assign (V:=I ((d n:Nat):Int)) (Ev.ed (de λ P=>⟨_,qB.fn P⟩) (u:=(x+2,true)) (qC (b:=0) (λ i l=>hC l) ⟨B,t,C⟩ (oV (b:=0) s f rfl)) (Ev.gl uz) (.cons Ev.nm (.cons Ev.nm (.cons (Ev.gl ux) .nil)))) (by rfl)) ?_;refine ag.cons (St.assign (V:=I (d n:Nat)) (Ev.ed (de λ P=>⟨_,nA.fn P⟩) (u:=(x+2,true)) (uE (Vu:=x+1) t D f) (Ev.gl uA) (.cons Ev.nm (.cons Ev.nm .nil))) (by rfl)) ?_;refine ag.weaken (b:=[(nm "pos",I (d n:Nat)),(nm "src",S j),(nm "pos_before_skip",I (d n:Nat))]) (ag.last (St.ite (M:=true) (d:=.ret _) ?_ (λ _=>ag.last (St.ret Ev.nm) trivial) (λ h=>by cases h)) trivial) ⟨rfl,rfl,rfl,trivial⟩;have e:(((d n:Nat):Int)==((d n:Nat):Int))=true:=beq_self_eq_true _;rw[<-e];exact Tr.cmp aD.jS Ev.nm Ev.nm
def Bm{M:LN}{a:List Nat}(c:(a.takeWhile (· !=0)).length<=640)(e:(int_private%"readNumeral") 0 16 (a.takeWhile (· !=0))=(int_private%"Numeral.value") C)(b:((a.takeWhile (· !=0)).length==a.length)=true)(h:Vh (.int C q.toks) {q with toks:=q.toks+1}):aA M o ((int_private%"intFromText") U a 16) Vh y q:=by
 obtain⟨f,g,d,i,os⟩:=q;repeat(any_goals(first
  |assumption|(with_reducible refine Oo (decide_eq_true c) ?_)|(with_reducible refine Oo (decide_eq_true b) ?_)|wp_step))
 all_goals(try rw[e])
 all_goals(try dsimp only)
 repeat(any_goals(first
  |assumption|(with_reducible refine Oo (decide_eq_true c) ?_)|(with_reducible refine Oo (decide_eq_true b) ?_)|wp_step))
structure nB(x:Str)(n:Int):Prop where
 ascii:x.cps.all (·<128)=true
 all:x.cps.toList.takeWhile (· !=0)=x.cps.toList
 Bn:x.cps.toList.length<=640
 val:(int_private%"readNumeral") 0 16 x.cps.toList=(int_private%"Numeral.value") n
def Bp{x:PySem.Str}{u t:Tok}(a:nB x C):TQ (Builtin.«int.__new__» ⟨[.type "int",.str x u,.int 16 t],[]⟩) (.int C):=.of_wp λ M A E s Q h=>by
  obtain⟨j,g,d,k,os⟩:=s;have f:=F.conv_sub_int;have i:=F.madeHere_int;have b:((if x.cps.all (·<128)then x.cps.toList else Ma x.cps.toList).takeWhile (· !=0)).length<=640:=by rw[if_pos a.ascii,a.all];exact a.Bn
  have c:(int_private%"readNumeral") 0 16 ((if x.cps.all (·<128)then x.cps.toList else Ma x.cps.toList).takeWhile (· !=0))=(int_private%"Numeral.value") C:=by rw[if_pos a.ascii,a.all];exact a.val
  have e:(((if x.cps.all (·<128)then x.cps.toList else Ma x.cps.toList).takeWhile (· !=0)).length==(if x.cps.all (·<128)then x.cps.toList else Ma x.cps.toList).length)=true:=by rw[if_pos a.ascii,a.all];exact beq_self_eq_true _
  clear a;repeat(any_goals(first
   |assumption|((with_reducible show aA _ _ ((int_private%"intFromText") _ _ _) _ _ _);refine Bm b c e ?_)|wp_step))
  all_goals first|exact bj _ rfl h|skip
def Br(a b:ab):checkTypeCall "int" ⟨[a,b],[]⟩=jB ():=by lia
def Bs(a b:ab):PW "int.__new__" ⟨[.type "int",a,b],[]⟩=jB ():=by lia
def Fn.uG(a:nB j C):Fn u (.type "int") [S j,I 16] (I C):=λ X w A g s i E L f r=>by
 refine aj λ e=>?_;refine bS r.two ?_;rintro l m rfl c d;refine ai c.str ?_;rintro t rfl;refine ai d.int ?_;rintro h rfl;exact e (callType_new F.called_int F.newNe_int (Br _ _) (Bs _ _) (λ b=>F.args_object_init_3 b _ _) F.entry_int_new (Bp a).meets (show(Made.int C).post _ s from⟨rfl,.mkInt,Kp.toks⟩))
def eg(c d:Nat):Prop:=gM c=true/\Pf c=some d/\d<16
def Bt:∀c<128,gM c=true->c≠0/\NB c=ap/\c≠45/\c≠43/\c≠95/\c≠120/\c≠88/\c≠111/\c≠79/\eY c=ap/\c≠35:=by decide+kernel
def eg.facts(h:eg a b):a<128/\a≠0/\NB a=ap/\a≠45/\a≠43/\a≠95/\a≠120/\a≠88/\a≠111/\a≠79/\eY a=ap/\a≠35:=by
 have e:=h.1;unfold gM at e;simp only[JY,ii,decide_eq_true_eq]at e;have lt:a<128:=by rcases e with(q|q)|q<;>exact bz q.2 (by decide)
 exact⟨lt,Bt a lt h.1⟩
def Bu{r:List Nat}(g:¬(b==120||b==88)=true)(h:¬(b==111||b==79)=true)(f:L3 (a::b::r)=some x):x=2:=by
 by_cases q:a=48
 · subst q;have e:L3 (48::b::r)=if(b==120||b==88)=true then some 16 else if(b==111||b==79)=true then some 8 else if(b==98||b==66)=true then some 2 else none:=rfl;rw[e,if_neg g,if_neg h]at f;by_cases z:(b==98||b==66)=true;·rw[if_pos z]at f;exact(ax f).symm
   ·rw[if_neg z]at f;exact aQ f
 · have e:L3 (a::b::r)=none:=by delta L3 Ts;exact dif_neg q
   exact aQ (e.symm.trans f)
def eg.nC(h:eg a b)(e:Array Nat)(f:Bool):SQ 16 (e,f) a=some (e.push b,true):=by
 unfold SQ;rw[if_neg (by simpa using h.facts.2.2.2.2.2.1),h.2.1];dsimp only;rw[if_pos h.2.2]
def Bv{a b c d g h i j:Nat}(m:eg a g)(n:eg b h)(o:eg c i)(q:eg d j):nB ⟨#[a,b,c,d]⟩ (((g*16+h)*16+i)*16+j:Nat):=by
 have f:=m.facts;have e:=n.facts;have l:=o.facts;have k:=q.facts;refine⟨?_,?_,by simp,?_⟩;·simp[Array.all,f.1,e.1,l.1,k.1]
 ·simp[Mf,f.2.1,e.2.1,l.2.1,k.2.1]
 · show(int_private%"readNumeral") 0 16 [a,b,c,d]=_;simp only[NumText.readNumeral_eq];have r:[a,b,c,d].dropWhile NB=[a,b,c,d]:=by simp[RA,f.2.2.1]
   refine r.symm▸?_;have s:SR [a,b,c,d]=(ap,[a,b,c,d]):=by
     delta SR UD;refine Eq.trans (dif_neg f.2.2.2.1) ?_;exact dif_neg f.2.2.2.2.1
   refine s.symm▸?_;have t:Su 16 [a,b,c,d]=(16,ap,[a,b,c,d]):=by
     unfold Su;rcases w:L3 [a,b,c,d]with _|p;·rfl
     · obtain rfl:=Bu (by simp[e.2.2.2.2.2.2.1,e.2.2.2.2.2.2.2.1]) (by simp[e.2.2.2.2.2.2.2.2.1,e.2.2.2.2.2.2.2.2.2.1]) w;rfl
   refine t.symm▸?_;have u:([a,b,c,d].reverse.dropWhile NB).reverse=[a,b,c,d]:=by simp[RA,k.2.2.1]
   dsimp only;refine u.symm▸?_;have v:RN 16 [a,b,c,d]=some #[g,h,i,j]:=by
     unfold RN;simp only[List.foldlM_cons,List.foldlM_nil,Option.bind_eq_bind,m.nC,n.nC,o.nC,q.nC,LR];rfl
   rw[v];unfold NumText.judge;simp
def Ev.nD{a b d:b7}{j l:SV}{p q r:PV}{x y:Bool}(M:aD j p q x)(N:aD l q r y)(G:Ev u g i a p)(H:Ev u g i b q)(J:Ev u g i d r)(L:autoParam (lastMarks [j,l] [b,d]=ap) gX):Ev u g i (.Compare a [j,l] [b,d] v) (Bo (x&&y)):=λ X w A f VP s E R=>Compare_chain (G.use f R (Kp.refl s) λ VO VQ Y _ T C=>chain_link (H.use f C T λ B VM t O o n=>aG (M X w A f.gC VM VO B E n.ex (Y.keeps O.keep) t) (λ c VR m=>by
     obtain⟨e,h⟩:=m;subst e;refine zF ?_;rcases x with _|_;·exact⟨⟨_,.bool ap⟩,o.trans h⟩
     · refine chain_last (J.use f (n.keeps h.keep) (o.trans h) λ z VN VL Q U D=>(aG (N X w A f.gC VN B z E D.ex ((t.keeps h.keep).keeps Q.keep) VL) (λ c VS m=>?_) λ _ _ x=>x));obtain⟨e,V⟩:=m;subst e;exact⟨⟨_,.bool y⟩,U.trans V⟩) λ _ _ x=>x)) L
def Ev.k7{x y:Bool}(f:Ev u g i z (Bo x))(h:x=ap->Ev u g i Vn (Bo y)):Ev u g i (.BoolOp .Or [z,Vn] v) (Bo (x||y)):=λ X w A c n s E R=>BoolOp_or (f.use c R (Kp.refl s) λ r o l _ d e=>by
  obtain rfl:=l.bool;refine zF ?_;cases x with
  |true=>exact⟨.k8,d⟩|false=>exact BoolOp_one ((h rfl).use c e d λ q p m _ j _=>⟨m,j⟩))
def qF:cu 118 117 (bB [17]) (a0 [17]) [nm "codepoint"]:=.mk' (λ P=>by lia) (λ P=>by lia) (λ P=>⟨by lia,by lia,by lia,by lia,by lia,by lia⟩) (by decide) (by rfl) (by rfl) ⟨rfl,rfl⟩ rfl rfl rfl
noncomputable def hl(n:Int):Bool:=(bF (0<=n)&&bF (n<=55295))||(bF (57344<=n)&&bF (n<=1114111))
def uH:Fn (a+1,true) (.ref 118) [I C] (Bo (hl C)):=by
 refine Fn.of qF (λ P doc d b=>by
  refine ai (k2 b) ?_;rintro c rfl;lia) rfl ?_;exact ag.last (St.ret (Ev.k7 (Ev.nD aD.le aD.le .int Ev.nm .int) λ _=>Ev.nD aD.le aD.le .int Ev.nm .int)) trivial
def uI(P:a3):a5 P (nm "is_unicode_scalar_value")=some (.ref 118):=by lia
def Bw(P:a3):a5 P (nm "suffixed_err")=some (.ref 111):=by lia
def nE:cu 104 103 (bB [15]) (a0 [15]) [nm "src",nm "pos",nm "hex_len"]:=.mk' (λ P=>by lia) (λ P=>by lia) (λ P=>⟨by lia,by lia,by lia,by lia,by lia,by lia⟩) (by decide) (by rfl) (by rfl) ⟨rfl,rfl⟩ rfl rfl rfl
structure gj(VL:Str)(p:Nat)(n:Nat):Prop where at':∃a b c d e f g h,((Cp VL).drop p).take 4=[a,b,c,d]/\eg a e/\eg b f/\eg c g/\eg d h/\n=((e*16+f)*16+g)*16+h
def gj.h5(h:gj j a b):a+4<=j.length:=by
 refine aj λ c=>?_;obtain⟨d,f,g,i,k,l,m,o,e,_⟩:=h.at';refine c ?_;have :(((Cp j).drop a).take 4).length=4:=by rw[e];rfl
 simp[Ox]at this⊢;exact yZ (an (j7 this) (KV _ _))
def gj.slice(h:gj j x Vu):∃d,Mb j (some (x:Int)) (some ((x:Int)+4))=d/\d.length=4/\nB d Vu/\∀c∈d.cps.toList,gM c=true:=by
 refine aj λ s=>?_;obtain⟨m,o,q,r,t,u,v,w,e,g,i,k,l,rfl⟩:=h.at';refine s (o9 ⟨#[m,o,q,r]⟩ ?_ rfl (Bv g i k l) (λ c f=>?_))
 · have :=uB j (a:=x) (b:=x+4) (dG) h.h5;simp only[show((x:Int)+4)=((x+4:Nat):Int)from rfl,this,show x+4-x=4 by exact ms,e]
 · simp at f;rcases f with rfl|rfl|rfl|rfl;·exact g.1
   ·exact i.1
   ·exact k.1
   ·exact l.1
def aD.nF:aD .NotEq (I C) (I Vs) (C !=Vs):=λ X w A _ s v u E c b a=>by obtain⟨t,rfl⟩:=b.int;obtain⟨d,rfl⟩:=a.int;exact ne_int ⟨rfl,Kp.refl _⟩
def Bx(h:gj j b x)(u:j.length<=1000000){g:Go}(o:ag A (a+1,true) (a0 [15]) [(nm "hex_int",I x),(nm "pos",I ((b+4:Nat):Int)),(nm "src",S j)] [] Vr g):ag A (a+1,true) (a0 [15]) ([nm "src",nm "pos",nm "hex_len"].zip [S j,I b,I 4]) [] ((bB [15]).take 4++Vr) g:=by
 refine aj λ s=>mD h.slice λ y i f r q=>s ?_;have t:=h.h5;refine ag.cons (St.gL (V:=S y) ?_ .str (by rfl)) (ag.cons (St.ite (M:=ap) (d:=.next _ _) ?_ (λ h=>by cases h) (λ _=>ag.nil)) (ag.cons (St.fL (C:=b) (Vs:=4) (by rfl) Ev.nm (by rfl)) (ag.cons (St.gL (V:=I x) ?_ .int (by rfl)) ?_)))
 · refine i▸?_;exact Ev.nz (j:=j) Ev.nm (.some Ev.nm) (.some (Ev.bJ bb.fc Ev.nm Ev.nm)) (by rw[i,f];decide)
 · have e:(ap:Bool)=(((y.length:Int)!=4)||!true):=by rw[f];rfl
   simp only[e];refine Tr.k7 (Tr.cmp aD.nF (Ev.cA (Fn.hZ (by rw[f];decide)) (Ev.bl dY) (.cons Ev.nm .nil)) Ev.nm) λ _=>?_;refine Tr.not (Tr.ev (Ev.li qz nw uu (fJ.kS λ w h L=>let⟨S,d,_⟩:=L.nv;⟨S,d⟩) (Fn.issuperset (j:=y) rfl λ w h L=>?_) (Ev.gl uy) (.cons Ev.nm .nil) (by decide)));exact ak L.nv λ S d l=>bj S d (λ c m=>by rw[l,q c m])
 ·exact Ev.gG (Fn.uG r) (Ev.bl qm) (.cons Ev.nm (.cons .int .nil))
 · refine ag.weaken o ⟨rfl,?_,rfl,trivial⟩;show some (I ((b:Int)+4))=some (I ((b+4:Nat):Int));rw[show((b+4:Nat):Int)=(b:Int)+4 by exact mh]
def By(h:gj j b x)(d:hl x=true)(f:j.length<=1000000):Fn (a+2,true) (.ref 104) [S j,I b,I 4] (Tu [.int ((b+4:Nat):Int),.str ⟨#[x]⟩]):=by
 refine Fn.of nE (λ P doc t l=>by
     refine aj λ o=>?_;refine iC (jD l) ?_;rintro r s c rfl;refine o ?_;lia) rfl (Bx h f (Vr:=(bB [15]).drop 4) ?_);have m:(x:Int)<=1114111:=by
   unfold hl at d;simp only[JY,ii,decide_eq_true_eq]at d;exact d.elim (λ q=>J2 q.2 (by decide)) (·.2)
 refine ag.cons (St.ite (M:=ap) (d:=.next _ _) ?_ (λ h=>by cases h) (λ _=>ag.nil)) (ag.last (St.ret ?_) trivial)
 · have e:(ap:Bool)=!(hl x):=by rw[d];rfl
   simp only[e];exact Tr.not (Tr.ev (Ev.ed (de λ P=>⟨_,qF.fn P⟩) uH (Ev.gl uI) (.cons Ev.nm .nil)))
 · refine Ev.tuple (Vo:=[.int ((b+4:Nat):Int),.str ⟨#[x]⟩]) (.cons Ev.nm (.cons ?_ .nil)) (f:=by show 2<=a9;decide);exact Ev.cA (Fn.nk (C:=(x:Int)) (dh) m) (Ev.bl no) (.cons Ev.nm .nil)
def Ev.uJ(d:Ev u g i z (I C))(c:C.natAbs.log2<1920):Ev u g i (.FormattedValue z (-1) none v) (S (Pw C)):=λ X w A b j s E R=>S0 (d.use b R (Kp.refl s) λ m l h _ f _=>by
  refine ai h.int ?_;rintro t rfl;exact wpAny_formatField_int c ⟨.mkStr,f.trans Kp.toks⟩)
def Ev.uK(b:Ev u g i z (S j))(c:j.length<=a9):Ev u g i (.FormattedValue z (-1) none v) (S j):=λ X w A a h s E R=>S0 (b.use a R (Kp.refl s) λ o l f _ d _=>by
  refine ai f.str ?_;rintro t rfl;exact formatField_str (λ m n=>⟨.mkStr,d.trans Kp.toks⟩) c)
inductive jT(k:Lv)(a:aw)(b:List (Str×PV)):List b7->List Str->Prop|nil:jT k a b [] []|cons{e VL VM xs}:Ev k a b e (S VM)->jT k a b VL xs->jT k a b (e::VL) (VM::xs)
noncomputable def gN(a:Str)(b:List Str):Str:=b.foldl (·++·) a
theorem lx:∀(xs:List Str)(VL:Str),(gN VL xs).length=VL.length+(xs.map (·.length)).sum
 |[],VL=>by rfl|x::xs,VL=>by
  show(gN (VL++x) xs).length=_;simp only[lx xs,IN];simp;exact La _ _ _
theorem jT.use{k:Lv}{m:aw}{n:List (Str×PV)}{X:ae->Prop}{w:ar}{A:aq}(p:Rm k A){i:Env}{E:ab->aa->Prop}{f:List b7}{d:List Str}{c:Str}{s h:aa}(x:jT k m n f d)(R:bq X w m i s.heap n)(j:Kp h s)(g:(gN c d).length<=a9):aA (au P0 w) A (joinParts c (evalEach f i)) (λ v l=>RV X l.heap v (S (gN c d))/\Kp h l) E s:=by induction x generalizing c s h with
 |nil=>exact joinParts_nil ⟨.mkStr,j.trans Kp.toks⟩ g|@cons e f x d a b q=>
  refine joinParts_cons (a.use p R j λ v y u _ r o=>?_);refine ai u.str ?_;rintro t rfl;have :(gN (c++x) d).length<=a9:=g;refine⟨?_,q o r g⟩;rw[lx]at this;exact an (dx _ _) this
def Ev.uL(h:jT u g i (z::Vn::Vt) G)(b:(gN aR G).length<=a9):Ev u g i (.JoinedStr (z::Vn::Vt) v) (S (gN aR G)):=λ X w A a c s E R=>JoinedStr_many (h.use a R (Kp.refl s) b)
def Ex.jU(x:Ex w s)(b:s.get? h=none):¬w h:=λ q=>by refine ai (x h q) λ o e=>?_;exact bN b e
noncomputable def ly:Obj:=excClassObj (ac "TOMLDecodeError") (ac "TOMLDecodeError") 66 65 [.type "ValueError"] [.type "ValueError",.type "Exception",.type "BaseException",.type "object"] true [] [] ap none none (some (.ref 57)) none (some (.str (ac "TOMLDecodeError") 407)) (some (.str (ac "TOMLDecodeError") 415)) (some (.bool true)) "ValueError.__new__"
def aC.nG(L:aC c s):s.get? 66=some ly:=L.eC 22 (by lia) rfl λ _ e=>tC e
def aC.uM(L:aC c s):s.Ns 65 (iL (mN c.params)):=by exact k6 (L.eC 21 (by lia) rfl λ _ e=>iK e) (by lia)
def Bz(P:a3):iL (mN P) (ac "__init__")=none:=by lia
def BA(P:a3):iL (mN P) (ac "__str__")=none:=by lia
def uN(P:a3):a5 P (nm "TOMLDecodeError")=some (.ref 66):=by lia
def Ev.BB(O:Ev u g i (.Name (ac "TOMLDecodeError") v) (.raw (.ref 66)))(N:Ev u g i z (S j))(m:autoParam (∀D b,bD (z::D) b=(ap,He z b)::bD D b) bc):Ev u g i (.Call (.Name (ac "TOMLDecodeError") v) [z] [] J) (.exc j):=λ X w A y b s E R=>by
 refine dr (O.use y R (Kp.refl s) λ c VN VM _ T G=>?_);obtain rfl:c=.ref 66:=VM;unfold callWith;have C:(L9 J (bD [z] b)).any (·.1)=ap:=by rw[m];rfl
 have U:=a6.use y (z:=J) (E:=E) (.cons N .nil m) (s:=VN) (e:=s) (Q:=λ o f=>∃c,o=[c]/\RV X f.heap c (S j)/\Kp s f/\bq X w g b f.heap i) G T λ o f Y kp n a=>by
   refine ak Y.one ?_;rintro VU rfl r;exact o9 _ rfl r n a
 rw[m]at U C⊢;refine al (aK (b1 (aG U (λ o VO V=>(mD V λ c H VL n a=>?_)) λ _ _ j=>j)));obtain rfl:=H.symm;refine ai VL.str ?_;rintro t rfl;refine al (It ?_);rw[C];have B:=a.left.nG;obtain⟨VT,VS,d,VP,os⟩:=VO;refine al (wpAny_keeperOf_exc B ?_);refine al (wpAny_call_exc_sub (hrest:=by show 1<=a9;decide) R' B a.left.uM (Bz _) λ L z l=>al (aK (SG (ah ?_))));refine aj λ VR=>ci l.there λ VQ h M p=>VR ?_;refine dv ⟨z,VQ,t,rfl,a.ex.jU l.new,a.ex.jU M,(λ q=>by rw[q,p]at h;cases h),h,p⟩ (n.trans ⟨L,VP,rfl,l.keeps⟩)
def aC.qG(L:aC c s):U5 s 110 106:=by
 have e:s.get? 110=some (tq c.params):=L.eC 66 (by lia) rfl λ _ e=>k1 e;exact⟨_,_,_,_,_,_,_,_,_,e,rfl,rfl,rfl,rfl,rfl,rfl,rfl,rfl,by decide⟩
def aC.BC(L:aC c s):U5 s 124 120:=by
 have e:s.get? 124=some (mQ c.params):=L.eC 80 (by lia) rfl λ _ e=>k1 e;exact⟨_,_,_,_,_,_,_,_,_,e,rfl,rfl,rfl,rfl,rfl,rfl,rfl,rfl,by decide⟩
def aC.qH(L:aC c s):U5 s 312 310:=by
 have e:s.get? 312=some (tm c.params):=L.eC 267 (by lia) rfl λ _ e=>k1 e;exact⟨_,_,_,_,_,_,_,_,_,e,rfl,rfl,rfl,rfl,rfl,rfl,rfl,rfl,by decide⟩
def BD(P:a3):a5 P (ac "__builtins__")=some (.ref 4):=by lia
def aC.nH(L:aC c s)(a:(4:Nat)≠h):s.BuiltinsAt (a5 c.params) h:=⟨4,_,BD _,by decide,by decide,a,L.o4,rfl,rfl,rfl⟩
def jV(h:a7)(T:ae):Prop:=∃VL,h.get? T=some (Jy VL)/\OI VL.toList
def uO(h:OI Ve):Ve[1]?≠some (.str j Vv):=λ e=>by
 rcases Ve with _|⟨a,Ve⟩;·exact aQ e
 ·cases Ve with
  |nil=>exact aQ e|cons b Ve=>obtain rfl:=ax e;cases a<;>exact h
def nI(t:jV s h)(k:I5 h s Vm):s.CodeRec U j->Vm.CodeRec U j:=λ l=>by
 refine du l λ c o n m a b d e=>g2 c o n m a (k _ _ (λ i=>(ak t λ p f g=>?_)) b) d e;rw[i,f]at b;obtain rfl:=ax b;cases d;exact uO g (by simpa using e)
def nJ(n:Q≠h)(t:jV s h)(k:I5 h s Vm):e9 s Q j->e9 Vm Q j:=λ i=>by refine ci i λ g a b c=>?_;exact dU g (k _ _ n a) b (λ f d e=>nI t k (c f d e))
def BE(a:h<314)(t:jV s h)(k:I5 h s Vm):mX s Q->mX Vm Q:=λ q=>by
 obtain⟨f,g,n,x,b,c,j,l,m⟩:=q;exact⟨f,g,n,x,b,c,k _ _ (IC (aJ a c)) j,k _ _ (IC (aJ a b)) l,λ i d e=>nI t k (m i d e)⟩
def uP(d:h<314)(n:(120:Nat)≠h)(t:jV s h)(k:I5 h s Vm):jA s->jA Vm:=λ q=>q.elim (λ a=>.inl (k _ _ n a)) λ e=>by refine ak e λ c a b=>?_;exact .inr ⟨c,k _ _ n a,BE d t k b⟩
def aC.grow(L:aC c s)(g:c8 h=true)(k:I5 h s Vm)(j:e9 Vm 106 hR)(m:e9 Vm 310 eS)(l:jA Vm):aC c Vm:=by
 have ne:∀{a:ae},c8 a=ap->a≠h:=λ s q=>by rw[q,g]at s;cases s
 refine⟨λ p i f=>?_,?_,?_,?_,k _ _ (ne rfl) L.o0,k _ _ (ne rfl) L.o1,k _ _ (ne rfl) L.o4,j,m,l⟩;·refine ak (L.objs p i f) λ o a b=>?_;exact⟨o,k _ _ (ne f) a,b⟩
 ·let⟨o,e,a,b,d⟩:=L.jx;exact⟨o,e,k _ _ (ne rfl) a,b,d⟩
 ·let⟨o,e,a,b,d⟩:=L.jy;exact⟨o,e,k _ _ (ne rfl) a,b,d⟩
 ·let⟨o,e,a,b,d⟩:=L.jz;exact⟨o,e,k _ _ (ne rfl) a,b,d⟩
def e9.is:e9 s h j->jV s h:=λ⟨c,a,b,_⟩=>⟨c,a,b⟩
def jA.is:jA s->jV s 120:=λ q=>q.elim (λ a=>⟨_,a,trivial⟩) λ⟨b,a,_⟩=>⟨_,a,trivial⟩
def BF{g o:Pos}:∀{l:List ab},OI l->∀{d:ab},MH g (l++[JI C,JI Vs,U])=some d->MH g l=some d\/d=U:=by
 intro l;fun_induction OI l with
 |case1=>
  intro _ d e;simp only[Ps,MH,JI]at e;split at e;·obtain rfl:=ax e;exact .inr rfl
  ·exact aQ e|case2 j t k u y p i=>
  intro h d e;simp only[O',MH]at e⊢;split at e;·rename_i f;rw[if_pos f];exact .inl e
  ·rename_i f;rw[if_neg f];exact i h e|case3 l m n=>intro h;exact h.elim
def uQ(t:e9 s h j)(i:s.get? h=some (Jy VB))(k:I5 h s Vm)(l:Vm.CodeRec (.ref Q) j)(g:Vm.get? h=some (Jy (VB++#[JI v.line,JI v.col,.ref Q]))):e9 Vm h j:=by
 refine aj λ m=>ci t λ n a b c=>?_;cases aO i a;refine m (dU _ g (by simpa using TriplesOk_snoc _ _ _ _ b) (λ p f e=>?_));have d:MH p (VB.toList++[JI v.line,JI v.col,.ref Q])=some f:=by simpa using e
 rcases BF (o:=p) b d with d|d;·exact nI t.is k (c p f d)
 ·rw[d];exact l
def aD.ge:aD .GtE (I C) (I Vs) (bF (Vs<=C)):=λ X w A _ s v u E c b a=>by obtain⟨t,rfl⟩:=b.int;obtain⟨d,rfl⟩:=a.int;exact ge_int ⟨rfl,Kp.refl _⟩
def nK(h:C.natAbs<2^64):C.natAbs.log2<1920:=by
 by_cases a:C.natAbs=0;·refine a.symm▸?_;decide
 ·exact(Nat.log2_lt a).2 (aJ h (Nat.pow_le_pow_right (by decide) (by decide)))
def Ev.BG{VO:Jk}(D:ScOk VK G)(V0:∀h,pZ h Vf VO Vr VK->∀N,N.length=Vk.length->J6 h ⟨N,[]⟩=jB (G.zip N))(V2:G.length=Vk.length)(VZ:∀p,Bd ⟨ap,p,aR⟩ (a,M) VK (G.zip Vk) Vr V)(V1:Ev (a+1,M) g i (.Name j v) (.fn Vf VO Vr VK))(VM:a6 (a+1,M) g i (z::Vt) Vk):Ev (a+1,M) g i (.Call (.Name j v) (z::Vt) [] J) V:=λ X w A y u s E R=>by
 refine dr (V1.use y R (Kp.refl s) λ L C V9 _ V4 VQ=>?_);obtain⟨T,o,h,p,V6,VT,t,rfl,Wb,Y,VL,d,VU,Wc,VV,VW,VX⟩:=V9;have V3:=VM.plain (E:=u) (v:=J);refine di VM.cut λ _ _ V7 VR b VN=>?_;obtain rfl:=V7;have U:=a6.use y (z:=J) (E:=E) (.cons VR b VN) (s:=C) (Q:=λ n l=>(l.heap.get? T=some o/\o.data=.func h)/\aA (au P0 w) A (I3 (.ref T) n) (λ L l=>RV X l.heap L V/\Kp s l) E l) VQ V4 λ n V' VP B V5 O=>⟨⟨B.keep _ _ Y,VL⟩,by
   refine uj (A:=⟨ap,h.code,aR⟩) (i:=⟨n,[]⟩) D (B.keep _ _ Y) VL ?_ d.body d.mZ d.scope d.glob d.blt y O.left O.ex VP V2 (V0 h d n VP.len) rfl (λ Vf=>by cases Vf) (λ Vf=>by cases Vf) λ u C m VS Wa VY F=>aG (VZ _ X w _ VY u V' C _ m VS [] F) (λ f l H=>by obtain⟨L,z,V8,a,_⟩:=H;subst z;exact dv (V8.mono λ _ Vf=>.inl Vf) (V5.trans a.kp)) λ _ _ j=>j;simp only[d.qual,VU];exact g2 p V6 VT t rfl (B.keep _ _ VV) VW VX⟩;rw[VN]at U V3⊢;exact rS (b1 U)
noncomputable def jW:Io:=(bB [16]).getD 1 b2
noncomputable def nL:Jk:=(cE jW).par
noncomputable def lz:List Io:=(cE jW).body
noncomputable def iV:aw:=(cE jW).scope
noncomputable def uS:Pos:=(cE jW).pos
def BH:jW=.FunctionDef (nm "coord_repr") nL lz [] none [] iV none (nm "coord_repr") uS:=by lia
def BI:ScOk iV [nm "src",nm "pos"]:=⟨by decide,by rfl,by rfl,rfl,rfl,rfl⟩
noncomputable def fi(VL:Str)(p:Nat):Str:=if VL.length<=p then ac "end of document"else gN aR [ac "line ",Pw ((((Cp VL).take p).count 10:Nat)+1:Int),ac ", column ",Pw ((cg ((Cp VL).take p) 10:Nat)+1:Int)]
theorem nM{c:Nat}:∀{r:List Nat},c∉r->r.takeWhile (· !=c)=r
 |[],_=>rfl|a::r,h=>by
  have b:a≠c:=λ q=>h (q▸.head _);rw[List.takeWhile_cons_of_pos (by simpa using b),nM λ q=>h (.tail _ q)]
def BJ{l:List Nat}(h:a∉l):cg l a=l.length:=by
 unfold cg;rw[nM (by simpa using h),N1]
def qI(l:List Nat)(c:Nat):cg l c<=l.length:=by
 unfold cg;refine an (UK (List.takeWhile_sublist _)) (by simp)
def BK(f:j.length<=1000000)(u:a<=j.length)(v:ab):Bd ⟨ap,v,aR⟩ (b,true) iV ([nm "src",nm "pos"].zip [S j,I a]) lz (S (fi j a)):=by
 have i:(Cp j).length=j.length:=by rfl
 have s:bF ((j.length:Int)<=(a:Int))=bF (j.length<=a):=by
   by_cases h:j.length<=a;·rw[decide_eq_true h,decide_eq_true (oG h)]
   ·rw[decide_eq_false h,decide_eq_false (λ q=>h (r3 q))]
 by_cases d:j.length<=a
 · unfold fi;rw[if_pos d];refine ag.last (St.ite (M:=true) ?_ (λ _=>ag.last (St.ret .str) trivial) (λ h=>by cases h)) trivial;rw[<-decide_eq_true d,<-s];exact Tr.cmp aD.ge Ev.nm (Ev.cA (Fn.hZ (c6 f (aE true))) (Ev.bl dY) (.cons Ev.nm .nil))
 · unfold fi;rw[if_neg d];have r:((Cp j).take a).count 10<=1000000:=an (NJ) (by simp;exact j4 hG (dS i f));have o:cg ((Cp j).take a) 10<=1000000:=an (qI _ _) (by simp;exact j4 hG (dS i f));refine ag.cons (St.ite (M:=ap) (d:=.next _ _) ?_ (λ h=>by cases h) (λ _=>ag.nil)) ?_
   · simp only[<-decide_eq_false d,<-s];exact Tr.cmp aD.ge Ev.nm (Ev.cA (Fn.hZ (c6 f (aE true))) (Ev.bl dY) (.cons Ev.nm .nil))
   refine ag.cons (St.gL (V:=I ((((Cp j).take a).count 10:Nat)+1:Int)) (Ev.bJ bb.fc (Ev.lj Tv F.type_str_count (Fn.Bg (a:=10) u) Ev.nm (.cons .str (.cons .int (.cons Ev.nm .nil)))) .int) .int (by rfl)) ?_;refine ag.cons (St.ite (M:=bF (((Cp j).take a).count 10=0)) (d:=.next [(nm "column",I ((cg ((Cp j).take a) 10:Nat)+1:Int)),(nm "line",I ((((Cp j).take a).count 10:Nat)+1:Int))] []) ?_ (λ h=>?_) (λ h=>?_)) ?_
   · have e:bF (((Cp j).take a).count 10=0)=((((((Cp j).take a).count 10:Nat)+1:Int))==1):=by
       by_cases h:((Cp j).take a).count 10=0;·rw[decide_eq_true h,h];rfl
       ·rw[decide_eq_false h];symm;rw[beq_eq_false_iff_ne];exact λ q=>h (MJ (Int.ofNat.inj q))
     simp only[e];exact Tr.cmp aD.jS Ev.nm .int
   · have A:10∉(Cp j).take a:=JN.mp (pW (h));have e:cg ((Cp j).take a) 10=a:=by simp only[BJ A,KS];exact mq (jh i (j5 (j9 d)))
     exact e.symm▸(ag.cons (St.gL (Ev.bJ bb.fc Ev.nm .int) .int (by rfl)) (ag.weaken ag.nil ⟨rfl,rfl,trivial⟩))
   · have t:10∈(Cp j).take a:=by
       have :((Cp j).take a).count 10≠0:=by simpa using h
       exact Mt.mp (c5 bE (oL this))
     have l:=(uC 10 _ t).1;have z:((Cp j).take a).length=a:=by rw[KS];exact mq (jh i (j5 (j9 d)))
     have e:((cg ((Cp j).take a) 10:Nat)+1:Int)=(a:Int)-((a-1-cg ((Cp j).take a) 10:Nat):Int):=by simp only[z]at l;exact yT l
     rw[e];exact ag.cons (St.gL (Ev.bJ bb.sub Ev.nm (Ev.lj Tc F.type_str_rindex (Fn.Bh (a:=10) u t) Ev.nm (.cons .str (.cons .int (.cons Ev.nm .nil))))) .int (by rfl)) (ag.weaken ag.nil ⟨rfl,rfl,trivial⟩)
   · refine ag.last (St.ret (Ev.uL (.cons .str (.cons (Ev.uJ Ev.nm (nK (mz r rfl))) (.cons .str (.cons (Ev.uJ Ev.nm (nK (mz o rfl))) .nil)))) ?_)) trivial;rw[lx];have w:(ac "line ").length=5:=by decide
     have x:(ac ", column ").length=9:=by decide
     have y:aR.length=0:=rfl;simp only[uW,Ki,ML,OR,w,x,y];exact an (m:=40) (sy (Nk (n:=((((Cp j).take a).count 10:Nat)+1:Int)) (jk) (jj r (aE true))) (Nk (n:=((cg ((Cp j).take a) 10:Nat)+1:Int)) (jk) (jj o (aE true)))) (by decide)
def FB.qJ(r:A.t=true)(F:FB A w c o g E q i D Vg Vp Y H)(e:H.heap.get? h=some O)(k:bw O)(t:¬bC h):¬aL w E Y h:=λ a=>by
 obtain⟨J,L,C,M,G⟩:=F.bi r;refine ak k λ j f y=>?_;rcases a with(a|a|⟨n,a⟩)|a
 · by_cases p:q.heap.objs.size<=h;·exact F.xc r h O a p e k
   refine ak (G h a t (M0 p)) λ B v z=>?_;by_cases l:FA o h
   · obtain⟨_,u,b,d⟩:=C.fa l;cases aO e b;exact d j f
   · have :=F.rel.ext.keep h B (λ _=>⟨t,l⟩) v;cases aO e this;exact z ⟨j,f,y⟩
 · subst a;refine ak (Ns.c9 F.ns) λ u b d=>?_;cases aO e b;exact d j f
 · refine ak (F.cell n h a) λ u b d=>?_;cases aO e b;rw[f]at d;cases d
 · refine cP (F.gJ h a) λ N n b=>?_;cases aO e b;cases f
def Kq.tab(i:c8 h=true)(j:∀b,FA o b->314<=b)(k:I5 h q.heap s):Kq true o q {q with heap:=s,toks:=a}:=by
 refine⟨s,a,rfl,λ b c n e=>k b c (λ g=>(n rfl).1 (by refine g.symm▸?_;exact i)) e,λ b c f d e=>⟨c.slots,k b c (λ g=>?_) e⟩⟩;exact absurd (bC.lt (h:=h) i) (b'.mpr (g▸j b f))
def qL(L:aC c s)(x:s.CodeRec (.ref h) j):∃o,s.get? h=some o/\bw o/\¬bC h:=by
 refine aj λ m=>du x λ n o l t e a b d=>?_;cases e;refine m (dU o a ⟨l,b,.inr (.inr ⟨j,t,d⟩)⟩ (λ i=>?_));have one:∀{k:Array ab},s.get? h=some (Jy k)->OI k.toList->False:=λ f g=>by
  cases aO a f;cases b;exact uO g (by simpa using d)
 unfold bC c8 at i;simp only[JY]at i;rcases i with(i|i)|i<;>(have e:h=_:=KC i;subst e);·refine ak L.g8.is λ k f g=>?_;exact one f g
 ·refine ak L.g'.is λ k f g=>?_;exact one f g
 ·refine ak L.g9.is λ k f g=>?_;exact one f g
noncomputable def qM:Cx:=⟨true,.ref 110,ac "suffixed_err"++ac ".<locals>."⟩
def St.BL:St qM u (a0 [16]) i D jW (.next ((nm "coord_repr",.fn hR nL lz iV)::i) (bu (nm "coord_repr") D)):=λ X w A V' j V7 s E m V8 O F=>by
 refine BH.symm▸(nestDef_K (by lia) (by lia) (by lia) ?_);have V0:j.kindOf (nm "coord_repr")=some .local:=by rw[F.cB];rfl
 have V2:QJ j (nm "coord_repr") (nm "coord_repr")=hR:=by
   unfold QJ;rw[V0,F.qual rfl];decide
 refine V2.symm▸?_;have L:=F.er.left;refine ci L.g8 λ C y M U=>?_;have Y:NQ iV j=jB []:=by rfl
 have store:∀(a:a7)(d:Nat)(l:Iv)(c:ae)(g:Kq true A s {s with heap:=a,toks:=d})(x:aC w a)(z:s.heap.objs.size<=a.objs.size)(VM:pZ l hR nL lz iV)(V:l.code=.ref c)(VL:a.CodeRec (.ref c) hR)(VO:¬aL X j O c),aA (au P0 w) A (OF j (nm "coord_repr") (.ref a.objs.size)) (λ _ VS=>c' qM X w A (a0 [16]) j V7 O s .next VS (.next ((nm "coord_repr",.fn hR nL lz iV)::i) (bu (nm "coord_repr") D))) E {s with heap:=a.push {cls:=.type "function",data:=.func l},toks:=d}:=λ a d l c g x z VM V VL VO=>by
   have VQ:Kp {s with heap:=a,toks:=d} {s with heap:=a.push {cls:=.type "function",data:=.func l},toks:=d}:=⟨_,_,rfl,λ b o e=>ao _ e⟩;have fr:aZ qM A X j O s O {s with heap:=a.push {cls:=.type "function",data:=.func l},toks:=d}:=⟨λ b o VR e=>VQ.keep b o (g.ext.keep b o (λ _=>⟨λ q=>VR (.inr (.inr ⟨rfl,.inl q⟩)),λ q=>VR (.inr (.inr ⟨rfl,.inr q⟩))⟩) e),λ b h=>.inl h,λ _ h=>h,F.hO⟩;refine du VL λ Q B G t H p r v=>?_;cases H;have V6:¬aL X j O a.objs.size:=F.er.ex.fresh z;refine((F.kt rfl g x).kp VQ).store (.inl rfl) ?_ λ VS V5 VX VT V4=>⟨rfl,V5,VX,O,VT,fr.trans (.dn F.hO V4)⟩;exact⟨a.objs.size,_,l,c,B,G,t,rfl,V6,aF _ rfl,rfl,VM,V,VO,ao _ p,r,v⟩
 rcases J:MH uS C.toList with _|V9
 · refine makeFunction_K (mg:=a5 w.params) (c:=110) (P:=106) (ps:=C) Y F.er.glob L.mg F.code L.qG y M J (by decide) (L.nH (by decide)) λ Q VY doc a d n VN V1 VP V3=>?_;have g:Kq true A s {s with heap:=a,toks:=d}:=Kq.tab (h:=106) rfl (λ b f=>((F.bi rfl).dA.fa f).1) n;have x:aC w a:=L.grow rfl n (uQ ⟨C,y,M,U⟩ y n VP V3) (nJ (by decide) L.g8.is n L.g9) (uP (by decide) (by decide) L.g8.is n L.g');exact store a d _ Q g x (bn (bz VN V1)) ⟨rfl,rfl,rfl,rfl,rfl,rfl,rfl,rfl,rfl⟩ rfl VP (F.er.ex.fresh VN)
 · refine aj λ N=>du (U _ _ J) λ c B G t H p r v=>?_;obtain rfl:=H.symm;refine N (makeFunction_hit (mg:=a5 w.params) (c:=110) (P:=106) (ps:=C) Y F.er.glob L.mg F.code L.qG y M J (L.nH (by decide)) λ VY doc a d g z=>?_);exact aj λ N=>ci (qL L (h:=c) (j:=hR) ⟨c,B,G,t,rfl,p,r,v⟩) λ o VU VV VW=>N (store a d _ c ⟨a,d,rfl,.of_keeps g⟩ (L.keeps g) z ⟨rfl,rfl,rfl,rfl,rfl,rfl,rfl,rfl,rfl⟩ rfl ⟨c,B,G,t,rfl,g _ _ p,r,v⟩ (F.qJ rfl VU VV VW))
def uT:cu 111 110 (bB [16]) (a0 [16]) [nm "src",nm "pos",nm "msg"]:=.mk' (λ P=>by lia) (λ P=>by lia) (λ P=>⟨by lia,by lia,by lia,by lia,by lia,by lia⟩) (by decide) (by rfl) (by rfl) ⟨rfl,rfl⟩ rfl rfl rfl
noncomputable def eI(b:Str)(p:Nat)(a:Str):Str:=gN aR [a,ac " (at ",fi b p,ac ")"]
def qN(b:j.length<=1000000)(k:a<=j.length):(fi j a).length<=40:=by
 unfold fi;split;·decide
 · have c:(Cp j).length=j.length:=by rfl
   have i:((Cp j).take a).count 10<=1000000:=an (NJ) (by simp;exact j4 hG (dS c b));have h:cg ((Cp j).take a) 10<=1000000:=an (qI _ _) (by simp;exact j4 hG (dS c b));rw[lx];have d:=Nk (n:=((((Cp j).take a).count 10:Nat)+1:Int)) (jk) (jj i (aE true));have e:(ac "line ").length=5:=by decide
   have f:(ac ", column ").length=9:=by decide
   have g:aR.length=0:=rfl;simp only[uW,Ki,ML,OR,e,f,g];exact sy d (Nk (n:=((cg ((Cp j).take a) 10:Nat)+1:Int)) (jk) (jj h (aE true)))
def BM(e:j.length<=1000000)(g:a<=j.length)(f:Vf.length<=1000):(eI j a Vf).length<=2000:=by
 unfold eI;rw[lx];have b:(ac " (at ").length=5:=by decide
 have c:(ac ")").length=1:=by decide
 have d:aR.length=0:=rfl;simp only[uW,Ki,ML,OR,b,c,d];exact an (bX (IW f (bX (gp (qN e g) 1) 5)) 0) (by decide)
def BN(d:j.length<=1000000)(f:a<=j.length)(u:Vf.length<=1000):ef (b+2,true) (.ref 111) [S j,I a,S Vf] (.exc (eI j a Vf)):=by
 refine ef.of (j:=ac "suffixed_err"++ac ".<locals>.") uT (λ P doc y e=>by
  refine aj λ z=>?_;refine iC (jD e) ?_;rintro v w c rfl;refine z ?_;lia) rfl (λ P=>by lia) ?_;refine ag.cons St.doc (ag.cons St.BL (ag.last (St.ret (Ev.BB (Ev.gl uN) (Ev.uL (.cons (Ev.uK Ev.nm (an u (by decide))) (.cons .str (.cons (Ev.uK (Ev.BG BI ?_ rfl (BK d f) Ev.nm (.cons Ev.nm (.cons Ev.nm .nil))) (an (qN d f) (by decide))) (.cons .str .nil)))) (an (BM d f u) (by decide))))) trivial));intro x h y e;obtain⟨name,L,J,B,M,gl,C,E,G,doc,H,A,code,D,bl⟩:=x;obtain⟨g,i,l,m,n,o,r,s,t⟩:=h;dsimp only at g i l m n o r s t;subst g i l m n o r s t;refine cP (d9 e) ?_;rintro v w rfl;lia
def eJ(d:∀a,O.data≠.fields a):¬bw O:=λ b=>by refine ak b λ a q _=>?_;exact d a q
def uU:¬bw (k4 h):=λ b=>by
 refine ak b λ c q r=>?_;cases q;refine ez r (λ r=>?_) (λ r=>?_) λ a=>?_;·cases r
 ·cases r
 · refine cP a λ _ _ r=>?_;cases r
def BO:¬bw (ha j Vv):=eJ λ _ q=>by cases q
def uV(p:s.PlainList h VB)(e:s.get? h=some O):∀a,O.data≠.fields a:=λ a q=>by
 refine ai p λ n c=>?_;cases aO e c;cases q
def FB.lA(l:A.t=true)(F:FB A w c o g E q i D Vg Vp Y H):fg o (aL w E Y) H.heap:=by
 obtain⟨y,z,r,J,B⟩:=F.bi l;refine⟨λ b a=>.inl (.inl (y b a)),λ b a=>.inl (z b a).1,r,λ b v a p e=>?_⟩;rcases a with(a|a|⟨n,a⟩)|a
 · by_cases k:q.heap.objs.size<=b;·exact F.xc l b v a k e
   · refine ak (B b a p (IS.mp k)) λ h f u=>?_;by_cases j:FA o b
     · obtain⟨_,G,t,d⟩:=r.fa j;cases aO e t;exact eJ d
     · have :=F.rel.ext.keep b h (λ _=>⟨p,j⟩) f;cases aO e this;exact u
 · subst a;refine ak (Ns.c9 F.ns) λ h f d=>?_;cases aO e f;exact eJ d
 · refine ak (F.cell n b a) λ h f d=>?_;cases aO e f;exact eJ λ C a=>by rw[d]at a;cases a
 ·exact ai (F.gJ b a) λ C f=>eJ (uV f e)
def h6(h:a7)(b:ae):Prop:=∃o,h.get? b=some o/\(bC b\/¬bw o)
def h6.bi(L:aC c s)(F:cH o s):fg o (h6 s) s:=⟨λ b q=>let⟨a,e⟩:=L.tabs q;⟨a,e,.inl q⟩,λ b q=>let⟨_,a,e,d⟩:=F.fa q;⟨a,e,.inr (eJ d)⟩,F,λ b a i g e=>by
  refine ak i λ j f q=>?_;cases aO e f;exact q.resolve_left g⟩
def h6.new(K:Kq true o q H)(F:cH o q.heap)(n:¬h6 q.heap h)(e:H.heap.get? h=some O)(j:¬bw O):q.heap.get? h=none:=by
 rcases f:q.heap.get? h with _|a;·rfl
 · have c:bw a:=IK λ c=>n ⟨a,f,.inr c⟩;by_cases g:FA o h
   · obtain⟨_,k,i,d⟩:=F.fa g;cases aO f i;exact(eJ d c).elim
   · have :=K.ext.keep h a (λ _=>⟨(λ t=>n ⟨a,f,.inl t⟩),g⟩) f;cases aO e this;exact(j c).elim
inductive Rz(w:ar)(A:aq)(a:aa)(m:Str)(e:ae)(s:aa):Prop|mk(t:ae)(VL:Tok)(K:Kq true A a s)(L:aC w s.heap)(F:cH A s.heap)(d:s.heap.get? e=some (k4 t))(f:s.heap.get? t=some (ha m VL))(g:a.heap.get? e=none)(h:a.heap.get? t=none)(b:¬FA A e)(c:¬FA A t)
def dM(x:Cx)(k:Lv)(f:aw)(g:List (Str×PV))(h:List (Str×OL))(VN:List Io)(d:Str):Prop:=∀(X:ae->Prop)(VL:ar)(A:aq),Rm k A->∀(VM:Env)(b s:aa)(Q:PI->aa->Prop)(E:ab->aa->Prop)m c O,FB x X VL A f VM b g h m c O s->(∀e a,Rz VL A b d e a->E (.ref e) a)->aA (au P0 VL) A (RH VN VM) Q E s
def iW(x:Cx)(k:Lv)(f:aw)(g:List (Str×PV))(h:List (Str×OL))(st:Io)(d:Str):Prop:=∀(X:ae->Prop)(VL:ar)(A:aq),Rm k A->∀(VM:Env)(b s:aa)(Q:PI->aa->Prop)(E:ab->aa->Prop)m c O,FB x X VL A f VM b g h m c O s->(∀e a,Rz VL A b d e a->E (.ref e) a)->aA (au P0 VL) A (exec st VM) Q E s
def dM.first{a:Io}(h:iW A u g i D a j):dM A u g i D (a::Vr) j:=λ X w b e d l s Q E m c O F f=>iq (h X w b e d l s _ E m c O F f)
def dM.cons{l:Io}{o:List (Str×PV)}{p:List (Str×OL)}(h:St A u g i D l (.next o p))(z:dM A u g o p Vr j):dM A u g i D (l::Vr) j:=λ X w b d c n s Q E m t O F y=>iq (aG (h X w b d c n s E m t O F) (λ f G C=>by
  obtain⟨e,B,v,r,q,a⟩:=C;subst e;exact z X w b d c n G Q E B v r q y) λ _ _ A=>A)
def dM.weaken{a:List (Str×PV)}(h:dM A u g a D Vr j)(f:Sub a i):dM A u g i D Vr j:=λ X w b e d l s Q E m c O F=>h X w b e d l s Q E m c O (F.weaken f)
def iW.BP{a b:List Io}(n:Tr u g (seen i D) z true)(l:dM A u g i D a j):iW A u g i D (.If z a b v) j:=λ X w d c f p s Q E m e O F h=>Px (n.use c F.reads (Kp.refl s) λ o u _ _=>l X w d c f p o Q E m e O (F.kp u) h)
def iW.raise(V9:A.t=true)(V7:∀w,fI w h)(V4:ef (a,true) (.ref h) Vk (.exc Vf))(H:Ev (a,true) g (seen i D) (.Name j v) (.raw (.ref h)))(u:a6 (a,true) g (seen i D) (z::Vt) Vk)(V5:∀p∈Vk,eW p):iW A (a,true) g i D (.Raise (some (.Call (.Name j v) (z::Vt) [] J)) none Vi) Vf:=λ X w B G V1 VX s Q E m Wm O F V3=>by
 have V0:∀{Y Z:ae->Prop}{V:a7}{k:List ab}{Vk:List PV},(∀p∈Vk,eW p)->aU Y V k Vk->aU Z V k Vk:=by
   intro Y Z V k Vk u r;induction r with
   |nil=>exact .nil|cons h b Wa=>exact .cons ((u _ (.head _)).any h) (Wa λ p VM=>u p (.tail _ VM))
 simp only[arm_exec_Raise];refine al (It (wpAny_raiseStmt_made_sub (bm:=[.type "ValueError",.type "Exception",.type "BaseException",.type "object"]) (C:=66) (by decide) (G.calm rfl) (al (aG (Q:=λ d c=>∃z t,d=.ref z/\c.heap.get? 66=some ly/\c.heap.get? z=some (k4 t)/\E (.ref z) c) ?_ (λ d VY V'=>al (It (ah V'))) λ _ _ A=>A))));refine dr (H.use G F.reads (Kp.refl s) λ d c Wj _ Wc VO=>?_);obtain rfl:d=.ref h:=Wj;have VM:=u.plain (E:=V1) (v:=J);refine aW (V7 w _ VO.left) λ o fd V8 V6=>?_;refine di u.cut λ _ _ Wh VZ b VR=>?_;obtain rfl:=Wh;have U:=a6.use G (z:=J) (E:=E) (.cons VZ b VR) (s:=c) (Q:=λ k VW=>(VW.heap.get? h=some o/\o.data=.func fd)/\aA (au P0 w) B (I3 (.ref h) k) (λ d c=>∃z t,d=.ref z/\c.heap.get? 66=some ly/\c.heap.get? z=some (k4 t)/\E (.ref z) c) E VW) VO Wc λ k M Wk Wb Wd T=>⟨⟨Wb.keep _ _ V8,V6⟩,by
     have N:=F.kp Wd;obtain⟨Wn,Wo,l,Wp,Wq⟩:=N.bi V9;refine aG (V4 (h6 M.heap) w B G M k E T.left (λ b VN=>by refine ak VN λ o z _=>?_;exact⟨o,z⟩) (h6.bi T.left l) (V0 V5 Wk)) (λ d VY VN=>?_) λ _ _ A=>A;refine a4 VN λ Wi K L=>?_;obtain⟨z,t,Wl,rfl,We,Wf,_,VL,VP⟩:=Wi;have VS:=h6.new K l We VL uU;have VT:=h6.new K l Wf VP BO;have VV:∀b,M.heap.get? b=none->VX.heap.get? b=none:=λ b q=>by
       rcases Wg:VX.heap.get? b with _|o;·rfl
       · by_cases VQ:bC b;·exact ai (T.left.tabs VQ) λ o z=>bN q z
         · by_cases H:FA B b
           · obtain⟨_,o,z,_⟩:=l.fa H;exact bN q z
           · have :=N.rel.loose.ext.keep b o (λ _=>⟨VQ,H⟩) Wg;exact bN q this
     have VU:∀b,M.heap.get? b=none->¬FA B b:=λ b q f=>by
       obtain⟨_,o,z,_⟩:=l.fa f;exact bN q z
     exact⟨z,t,rfl,L.nG,VL,V3 z VY ⟨t,Wl,N.rel.loose.trans K,L,l.ext K.ext,VL,VP,VV z VS,VV t VT,VU z VS,VU t VT⟩⟩⟩;rw[VR]at U VM⊢;exact rS (b1 U)
open Classical in noncomputable def iX(X:ae->Prop)(h:a7):a7:=⟨h.objs.mapIdx λ i o=>if X i then⟨.none,none,.freed,#[]⟩else o,h.life⟩
def gk:(iX w s).get? h=some O↔¬w h/\s.get? h=some O:=by
 rw[JM,JM];unfold iX;rw[QE];rcases s.objs[h]? with _|x;·simp
 · by_cases q:w h
   · simp only[IF,q,if_true,not_true_eq_false,false_and,iff_false];rintro⟨e,f⟩;obtain rfl:=ax e;cases f
   ·simp only[IF,q,if_false,not_false_eq_true,true_and]
def jX(a:w h):(iX w s).get? h=none:=by
 rcases e:(iX w s).get? h with _|o;·rfl
 ·exact((gk.mp e).1 a).elim
theorem cH.nN{h B:a7}:∀{l:List Env},(∀e∈l,ua h e)->(∀e∈l,∀L,e.frame=some L->B.get? L=none)->h.FunFrames B l
 |[],_,_=>trivial|e::l,H,N=>by
  obtain⟨b,L,o,a,f,c,d⟩:=H e (.head _);exact b3 b ⟨L,o,a,N e (.head _) L a,c,d⟩ (cH.nN (λ e h=>H e (.tail _ h)) λ e h=>N e (.tail _ h))
inductive Fz(w:ar)(A:aq)(s:aa)(outer:List Env)(m:Str)(e:ae)(a:aa):Prop|mk(t:ae)(VL:Tok)(B:a7)(K:Kq true A s a)(L:aC w B)(c:M8 B outer e (.ref 66) (.ref t) a.heap)(h:B.get? t=some (ha m VL))(d:s.heap.get? e=none)(f:s.heap.get? t=none)(k:∀b o,s.heap.get? b=some o->ff A b->B.get? b=some o)
def jY(k:Lv)(f:ab)(b:List PV)(m:Str):Prop:=∀(X:ae->Prop)(VL:ar)(A:aq),Rm k A->∀(s:aa)(vs:List ab)(Q E:ab->aa->Prop)(outer:List Env),A.frames=some outer->aC VL s.heap->Ex X s.heap->fg A X s.heap->aU X s.heap vs b->(∀e a,Fz VL A s outer m e a->E (.ref e) a)->aA (au P0 VL) A (I3 f vs) Q E s
def fb.qO(F:cH o s)(a:fb h):¬FA o h:=λ q=>absurd a.lt (b'.mpr (F.fa q).1)
def jY.of(D:cu h Q Vr g G)(V8:∀P doc V,V.length=Vk.length->J6 {cf P h with doc:=doc} ⟨V,[]⟩=jB (G.zip V))(V9:G.length=Vk.length)(Wb:∀P,j=(cf P h).qualname++ac ".<locals>.")(V7:dM ⟨true,.ref Q,j⟩ (a,M) g (G.zip Vk) [] Vr Vf):jY (a+1,M) (.ref h) Vk Vf:=λ X w A V2 s vs Wm E outer VM L ex T VQ V5=>jO (A:=⟨true,.ref Q,j⟩) (d:=⟨vs,[]⟩) D V2 L ex VQ V9 (λ doc=>V8 _ _ _ VQ.len) rfl (λ _=>Wb _) (λ _=>T) λ r Wj m VW VN V3 F=>by
   refine V7 X w _ V3 r s Wj _ _ m VW [] F λ e Wh R=>?_;obtain⟨t,VR,K,VT,VS,H,J,O,Wf,f1,f2⟩:=R;have z:(A.deeper r).frames=some (r::outer):=Around.frames_deeper VM;let B:=iX (λ b=>b=e\/FA (A.deeper r) b) Wh.heap;have VL:B.get? e=none:=jX (.inl rfl);have V4:B.get? t=some (ha Vf VR):=gk.mpr ⟨λ j=>j.elim (λ j=>by rw[j,H]at J;cases J) f2,J⟩;refine ak VS λ l N U=>?_;have V':l=r::outer:=by cases aO z N;rfl
   subst V';have V6:aC w B:=VT.move λ b o j i=>gk.mpr ⟨λ p=>by
     rcases p with p|p
     · obtain rfl:=p.symm;rcases j with j|j;·exact ai (L.p0 j) λ o e=>bN O e
       ·cases aO H i;exact uU j
     · refine aH j (λ j=>?_) λ j=>?_;·exact fb.qO ⟨_,N,U⟩ j p
       · obtain⟨_,Wq,C,d⟩:=cH.fa ⟨_,N,U⟩ p;cases aO i C;exact eJ d j,i⟩;refine wpAny_leaving_firstW (base:=B) z (cH.nN U λ y u L v=>jX (.inr ⟨_,z,y,u,v⟩)) F.frame H (λ b o e=>(gk.mp e).2) VL rfl rfl rfl λ h' VU=>?_;refine iB VU λ VO Wg Wd We=>?_;refine a4 Wg λ _ _ Wc=>?_;have Y:=K.outer VN;have eU:∀b o,s.heap.get? b=some o->ff A b->B.get? b=some o:=λ b o i VP=>by
     refine gk.mpr ⟨λ j=>?_,Y.ext.keep b o (λ _=>VP) i⟩;rcases j with rfl|⟨l',Wa,y,u,v⟩;·exact bN O i
     · cases aO z Wa;rcases aP.mp u with rfl|u;·exact bN (VN b v) i
       ·exact VP.2 ⟨outer,VM,y,u,v⟩
   refine V5 e _ ⟨t,VR,B,(aW Y λ Wo Wk VY VV=>?_),V6,⟨VO,VL,Wc,Wd⟩,V4,O,Wf,eU⟩;subst VY;exact⟨h',Wk,rfl,λ b o n i=>VO b o (eU b o i (n rfl)),λ b o f d i=>(ai (VV.fr b o f d i) λ Wr C=>(ai (We b _ C d) λ Wi VX=>⟨Wi,VX⟩))⟩
def Tr.eq{b c:Bool}(h:Tr u g i z b)(q:b=c):Tr u g i z c:=q▸h
noncomputable def fj:Str:=ac "Escaped character is not a Unicode scalar value"
def BQ(h:gj j b x)(u:j.length<=1000000)(o:dM A (a+1,true) (a0 [15]) [(nm "hex_int",I x),(nm "pos",I ((b+4:Nat):Int)),(nm "src",S j)] [] Vr Vf):dM A (a+1,true) (a0 [15]) ([nm "src",nm "pos",nm "hex_len"].zip [S j,I b,I 4]) [] ((bB [15]).take 4++Vr) Vf:=by
 refine aj λ s=>mD h.slice λ y i f r q=>s ?_;have t:=h.h5;refine dM.cons (St.gL (V:=S y) ?_ .str (by rfl)) (dM.cons (St.ite (M:=ap) (d:=.next _ _) ?_ (λ h=>by cases h) (λ _=>ag.nil)) (dM.cons (St.fL (C:=b) (Vs:=4) (by rfl) Ev.nm (by rfl)) (dM.cons (St.gL (V:=I x) ?_ .int (by rfl)) ?_)))
 · refine i▸?_;exact Ev.nz (j:=j) Ev.nm (.some Ev.nm) (.some (Ev.bJ bb.fc Ev.nm Ev.nm)) (by rw[i,f];decide)
 · have e:(ap:Bool)=(((y.length:Int)!=4)||!true):=by rw[f];rfl
   simp only[e];refine Tr.k7 (Tr.cmp aD.nF (Ev.cA (Fn.hZ (by rw[f];decide)) (Ev.bl dY) (.cons Ev.nm .nil)) Ev.nm) λ _=>?_;refine Tr.not (Tr.ev (Ev.li qz nw uu (fJ.kS λ w h L=>let⟨S,d,_⟩:=L.nv;⟨S,d⟩) (Fn.issuperset (j:=y) rfl λ w h L=>?_) (Ev.gl uy) (.cons Ev.nm .nil) (by decide)));exact ak L.nv λ S d l=>bj S d (λ c m=>by rw[l,q c m])
 ·exact Ev.gG (Fn.uG r) (Ev.bl qm) (.cons Ev.nm (.cons .int .nil))
 · refine dM.weaken o ⟨rfl,?_,rfl,trivial⟩;show some (I ((b:Int)+4))=some (I ((b+4:Nat):Int));rw[show((b+4:Nat):Int)=(b:Int)+4 by exact mh]
def BR(h:gj j b x)(g:hl x=ap)(d:j.length<=1000000):jY (a+3,true) (.ref 104) [S j,I b,I 4] (eI j (b+4) fj):=by
 refine jY.of (j:=ac "parse_hex_char"++ac ".<locals>.") nE (λ P doc o f=>by
     refine aj λ i=>?_;refine iC (jD f) ?_;rintro l m c rfl;refine i ?_;lia) rfl (λ P=>by lia) (BQ (a:=a+1) h d (Vr:=(bB [15]).drop 4) ?_);refine dM.first (iW.BP ?_ (dM.first (iW.raise rfl (de λ P=>⟨_,uT.fn P⟩) (BN d h.h5 (by decide)) (Ev.gl Bw) (.cons Ev.nm (.cons Ev.nm (.cons .str .nil))) ?_)));·exact Tr.eq (Tr.not (Tr.ev (Ev.ed (de λ P=>⟨_,qF.fn P⟩) uH (Ev.gl uI) (.cons Ev.nm .nil)))) (by refine g.symm▸?_;rfl)
 · intro q e;simp only[aP,uR,or_false]at e;rcases e with rfl|rfl|rfl;·exact .str
   ·exact .int
   ·exact .str
def BS:builtinKind "BaseException.__str__"=some .slot:=by decide+kernel
def BU:splitId "BaseException.__str__"=some ("BaseException","__str__"):=by decide+kernel
def BV{a:Fin->aa->Prop}(g:q.heap.get? h=some O)(f:O.data=.fields VB)(d:VB[0]?=some (.ref Q))(i:q.heap.get? Q=some (ha j Vv))(b:a (.done (.ret (.str j Vv))) q):aA (au Vl c) o (Builtin.«BaseException.__str__» ⟨[.ref h],[]⟩) a y q:=by
 have k:∀{a:ab×List ab->aa->Prop},a (.ref Q,[.str j Vv]) q->aA (au Vl c) o (bexcArgs (.ref h)) a y q:=λ b=>by
  unfold bexcArgs;exact al (Jm g f d (al (QG i rfl (ah b))))
 unfold Builtin.«BaseException.__str__»;repeat(first|with_reducible refine k ?_|wp_step)
 exact b
def BW{A:aq}(f:q.heap.get? 66=some ly)(u:q.heap.Ns 65 Vg)(z:Vg (ac "__str__")=none)(a:q.heap.get? h=some O)(i:O.cls=.ref 66)(v:O.data=.fields VB)(r:VB[0]?=some (.ref Q))(B:q.heap.get? Q=some (ha j Vv))(D:A.units<O5)(b:Vh (.str j Vv) q):aA (au Vl c) A (strOf (.ref h)) Vh y q:=by
 have S:=F.excStr_ValueError.str;obtain⟨k,g,d,l,os⟩:=q;have p:∀{Vh:Option ab->aa->Prop},Vh (some (.str j Vv)) ⟨k,g,d,l,os⟩->aA (au Vl c) A (R3 (.ref h) (ac "__str__")) Vh y ⟨k,g,d,l,os⟩:=λ b=>by
  rw[R3];refine af (wpAny_specialOf_inst a i f u z R'.mroIs S.lookup ?_);simp only[S.bind];refine aK (af (ah (af (Jg (Ii S.plain F.entry_bexc_str (wpAny_check_slot_inst (rest:=[]) (id:="BaseException.__str__") (owner:="BaseException") (n:="__str__") (x:=h) (o:=O) (C:=66) (bm:=[.type "ValueError",.type "Exception",.type "BaseException",.type "object"]) BS BU (F.args_bexc_str _) (by decide) a i f ?_))))));exact BV a v r B (ah b)
 unfold U9;repeat(first|with_reducible refine UO D ?_|with_reducible refine p ?_|wp_step)
 exact b
def BX(f:q.heap.get? 66=some ly)(g:q.heap.Ns 65 Vg)(v:Vg (ac "__str__")=none)(i:q.heap.get? h=some O)(p:O.cls=.ref 66)(r:O.data=.fields VB)(l:VB[0]?=some (.ref Q))(k:q.heap.get? Q=some (ha j Vv))(x:o.units+2<O5)(b:Vh (.str j Vv) q):aA (au Vl c) o (I3 (.type "str") [.ref h]) Vh y q:=callType_new F.called_str (by decide) (F.typeCall_str_1 _) (F.newCall_str_1 _) (λ B=>F.args_object_init_2 B _) F.entry_str_new (meets_str_new (S:=λ a R d=>a.units+1<O5/\d.heap=q.heap/\R (.ok (.ret (.str j Vv))) d) λ Vl c a R d b=>by
    refine aj λ C=>a4 b λ z u n=>C ?_;rw[<-u]at f g i k;exact BW (A:=a.in1) f g v i p r l k z n) ⟨(show o.units+1+1<O5 from x),rfl,JH _ _ _,b⟩
def FB.around{f h:aq}(e:h.frames=f.frames)(F:FB A w c f g E q i D Vg Vp Y H):FB A w c h g E q i D Vg Vp Y H:=by
 have fa:FA h=FA f:=by funext b;unfold FA;rw[e]
 exact{F with
  rel:=F.rel.frames e
  bi:=λ n=>by
   refine aj λ p=>?_;obtain⟨a,b,⟨l,k,j⟩,d,r⟩:=F.bi n;refine p ?_;exact⟨a,by refine fa.symm▸?_;exact b,⟨l,e.trans k,j⟩,(let⟨l,o⟩:=d;⟨l,e.trans o⟩),r⟩}
def Fn.BY:Fn u (.type "str") [.k3 j] (S j):=λ X w A g s p E L i h=>by
 refine ak h.one ?_;rintro q rfl r;obtain⟨e,t,o,n,l,rfl,_,_,a,b,c,d,f⟩:=r;exact BX L.nG L.uM (BA _) a b c d f (by have :=g.units;exact sx this rfl) ⟨.mkStr,Kp.refl _⟩
def BZ(VR:A.t=true)(VN:∀c,fI c h)(V:jY (a,true) (.ref h) Vk Vf)(VM:Ev (a,true) g i (.Name j v) (.raw (.ref h)))(B:a6 (a,true) g i (z::Vt) Vk)(k:Rm (a,true) o){l:List Env}(VO:o.frames=some l)(F:FB A w c o g E q i D Vg Vp Y H)(T:∀z f d,FB A w c o g E q i D Vg Vp Y f->Fz c o f l Vf z d->Vh (.ref z) d):aA (au P0 c) o (He (.Call (.Name j v) (z::Vt) [] J) E) y Vh H:=by
 refine dr (VM.use k F.er (Kp.refl H) λ VY f VW _ VT t=>?_);obtain rfl:VY=.ref h:=VW;have VQ:=B.plain (E:=E) (v:=J);refine aW (VN c _ t.left) λ G N VP VL=>?_;refine di B.cut λ _ _ VV M b C=>?_;obtain rfl:=VV;have U:=a6.use k (z:=J) (E:=Vh) (.cons M b C) (s:=f) (Q:=λ p d=>(d.heap.get? h=some G/\G.data=.func N)/\aA (au P0 c) o (I3 (.ref h) p) y Vh d) t VT λ p L VX VS VU u=>⟨⟨VS.keep _ _ VP,VL⟩,by
   have r:=F.kp VU;exact V (aL w E Y) c o k L p y Vh l VO u.left u.ex (r.lA VR) VX λ z d VZ=>T z L d r VZ⟩;rw[C]at U VQ⊢;exact rS (b1 U)
def St.B0{e Wb Wc:b7}{VL:Str}{np V8 WS V5 WI Wt WE:Pos}{VQ:Io}(M:A.t=true)(Wp:∀w,fI w h)(Wg:jY (a,true) (.ref h) Vk VL)(Wo:Ev (a,true) g i (.Name j np) (.raw (.ref h)))(Wh:a6 (a,true) g i (e::Vt) Vk)(Wr:g.names.lookup (nm "TOMLDecodeError")=some .globalImplicit)(VT:g.names.lookup Vf=some .local)(Wi:ag A (a,ap) g ((Vf,.k3 VL)::i) (bu Vf D) (VQ::Vr) (.ret V)):St A (a,true) g i D (.Try [.Assign [.Tuple [Wb,Wc] b WS] (.Call (.Name j np) (e::Vt) [] V8) V5] [.ExceptHandler (some (.Name (nm "TOMLDecodeError") WE)) (some Vf) (VQ::Vr) Wt] [] [] WI) (.ret V):=λ X w r U G VW s E m V6 O F=>jF λ Q fin=>by
 refine ai ((F.bi M).top) λ l VR=>Nr (iq (Mw (BZ M Wp Wg Wo Wh U VR F λ C WN VV L Z=>?_) rfl rfl));obtain⟨t,WQ,B,K,V2,Wd,Wf,WB,WC,eU⟩:=Z;have WX:cH r WN.heap:=(L.bi M).dA;have mk:∀J:a7,M8 B (G::l) C (.ref 66) (.ref t) J->VV.heap.UpToSlots J->FB A X w r g G VW i D m V6 O {VV with heap:=J}:=λ J f u=>by
  refine L.kt M (aW K λ Wv WR Vt V4=>?_) (V2.keeps f.1);subst Vt;exact⟨J,WR,rfl,λ k o WD H=>f.1 k o (eU k o H (WD rfl)),λ k o fa d H=>(ai (V4.fr k o fa d H) λ W4 V9=>(ai (u k _ V9 d) λ WM V'=>⟨WM,V'⟩))⟩
 refine wpAny_looks_onW VR F.frame Wd λ Wv Wq WT=>wpAny_landsW Wq λ Ww N WU=>?_;have VX:=WT.trans WU;have A':Rm (a,ap) (r.mark (some (.ref C))):=⟨U.depth,U.units,λ q=>by cases q⟩;have VP:=FB.around (f:=r) (h:=r.mark (some (.ref C))) rfl (mk Ww N VX);refine wpAny_handleBy_cons (codeAny_handlers_test ?_) (by intro q;cases q);refine L7 (aG (tK VP.er Wr (uN _)) (λ c W5 VN=>?_) λ _ _ A=>A) (by decide);refine am VN λ WJ WK=>aj λ VO=>?_;subst WJ WK;refine di N.first λ W3 vs Wm Wj WZ WY=>VO (wpAny_excMatches_sub_self (bm:=[.type "ValueError",.type "Exception",.type "BaseException",.type "object"]) VP.er.left.nG Wm Wj (by decide) ?_);refine codeAny_handlers_suite_as (lands_againW N λ Wx T WV=>?_);have VZ:=FB.around (f:=r) (h:=r.mark (some (.ref C))) rfl (mk Wx T (VX.trans WV));refine aj λ VO=>di T.first λ WF WW Wn Wk Wl We=>VO ?_;have WG:¬aL X G O C:=L.er.ex.jU WB;have WH:¬aL X G O t:=L.er.ex.jU WC;refine VZ.store (.inl VT) (V:=.k3 VL) ⟨C,t,WQ,WF,WW,rfl,WG,WH,Wn,Wk,Wl,We,T.1 _ _ Wf⟩ λ WO Wz V7 V0 W0=>aG (Wi X w _ A' G VW WO _ Wz V7 O V0) (λ f WP VN=>?_) λ _ _ A=>A;obtain⟨v,Wa,WL,V1,V3,W1,VS⟩:=VN;subst Wa;refine wpAny_nameGoes (by rw[F.cB];exact VT) VS (by refine(F.eD).symm▸?_;rfl) λ Wy WA Ws Wu=>?_;have Y:∀k o,k≠G.locals->WP.heap.get? k=some o->Wy.get? k=some o:=λ k o VM e=>Wu.extBut k o VM e;refine fin _ _ ⟨v,rfl,WL.b0 λ k o VM e=>Y k o (λ q=>VM (.inr (.inl q))) e,(Kq.frames (o:=r.mark (some (.ref C))) (a:=r) rfl V1).hh F.fresh Y,V3.hh F.locals (λ o e=>(ak (Ns.c9 VS) λ W2 H d=>?_)) Y,WA,Ws⟩;cases aO e H;exact eJ d
def St.uY{f b:bP}(G:u.2=true)(h:Ev u g i z (Tu [f,b]))(M:ce g j=true)(Q:ce g Vf=true)(U:autoParam ((Vf==j)=ap) ew)(H:autoParam (∀c,Rk [.Tuple [.Name j v,.Name Vf J] a Vi] z VC.line c=jB ap) cN)(L:autoParam (∀c,J' [.Tuple [.Name j v,.Name Vf J] a Vi] z c=jB none) cN):St A u g i D (.Assign [.Tuple [.Name j v,.Name Vf J] a Vi] z VC) (.next ([(Vf,.d b),(j,.d f)]++i) (h4 [(Vf,.d b),(j,.d f)] D)):=λ X w VP n c VS s E m VQ O F=>by
 refine Mw (h.use n F.er (Kp.refl s) λ VV VR VM kp _ _=>(aj λ VO=>?_)) (H c) (L c);refine bI VM.tuple λ T vs r Y nT C VL=>?_;obtain rfl:=Y;refine VO ((F.kp kp).assign (V:=Tu [f,b]) (l:=[(Vf,.d b),(j,.d f)]) (VG:=aL X c O) (.lb U) (λ VU q l=>?_) (λ _ q=>q) ⟨T,vs,_,r,rfl,.inl rfl,.inl C,VL⟩ (λ _=>n.calm G) λ VT V t o B=>⟨rfl,V,t,O,o,(aZ.bR F.hO kp).trans B⟩);simp only[aP,uR,or_false]at l;rcases l with l|l<;>cases l;·exact Q
 ·exact M
noncomputable abbrev Ld(l:List Str):bP:=.list (l.map .str)
noncomputable abbrev jZ(p:Nat)(a b:List Str):bP:=.list [.int p,Ld a,Ld b]
def qP:cu 291 290 (bB [32]) (a0 [32]) [nm "src",nm "state"]:=.mk' (λ P=>by lia) (λ P=>by lia) (λ P=>⟨by lia,by lia,by lia,by lia,by lia,by lia⟩) (by decide) (by rfl) (by rfl) ⟨rfl,rfl⟩ rfl rfl rfl
def B1(P:a3):a5 P (nm "skip_comments_and_array_ws")=some (.ref 97):=by lia
def uZ(P:a3):a5 P (nm "parse_hex_char")=some (.ref 104):=by lia
def u0{e:List Str}{c:Bool}(h:fh j a b)(m:j.length<=1000000):∀{v q s t u g n f:Pos}{o:Nat},St A (x+3,true) (a0 [32]) ([nm "src",nm "state"].zip [S j,.d (jZ a G e)]) [] (.Assign [.Name (nm "start") v] (.Call (.Name (nm "skip_comments_and_array_ws") q) [.Name (nm "src") s,.Subscript (.Name (nm "state") t) (.Constant (.int 0) o u) g] [] n) f) (.next ((nm "start",I b)::[nm "src",nm "state"].zip [S j,.d (jZ a G e)]) []):=by
 intros;refine St.assign (V:=I b) ?_ (by rfl);exact Ev.ed (de λ P=>⟨_,uF.fn P⟩) (Bl h m) (Ev.gl B1) (.cons Ev.nm (.cons (Ev.dI (Vo:=[.int a,Ld G,Ld e]) (C:=0) Ev.nm .int (by decide) (by decide) rfl) .nil))
def B2{f g:List Str}(h:fh j a b)(t:gj j b x)(s:hl x=true)(m:j.length<=1000000)(o:f.length<=1000):Fn (Vu+4,true) (.ref 291) [S j,.d (jZ a f g)] (.d (jZ (b+4) (f++[⟨#[x]⟩]) g)):=by
 refine Fn.of qP (λ P doc u q=>by
     refine cP (d9 q) ?_;rintro f g rfl;lia) rfl ?_;refine ag.cons (u0 (e:=g) (c:=true) h m) (ag.cons (St.iU (ag.cons (St.uY rfl (f:=.int ((b+4:Nat):Int)) (b:=.str ⟨#[x]⟩) ?_ (by rfl) (by rfl)) ag.nil)) (ag.last (St.ret ?_) trivial));·exact Ev.ed (de λ P=>⟨_,nE.fn P⟩) (By (a:=Vu+1) t s m) (Ev.gl uZ) (.cons Ev.nm (.cons Ev.nm (.cons .int .nil)))
 · refine Ev.list (Vo:=[.int ((b+4:Nat):Int),Ld (f++[⟨#[x]⟩]),Ld g]) (e:=by show 3<=a9;decide) ?_;refine .cons Ev.nm (.cons ?_ (.cons (Ev.dI (Vo:=[.int a,Ld f,Ld g]) (C:=2) Ev.nm .int (by decide) (by decide) rfl) .nil));have e:Ld (f++[⟨#[x]⟩])=.list (f.map .str++[.str ⟨#[x]⟩]):=by unfold Ld;rw[fs];rfl
   simp only[e];exact Ev.bJ (bb.m9 (by simp;exact an (gp o 1) (by decide))) (Ev.dI (Vo:=[.int a,Ld f,Ld g]) (C:=1) Ev.nm .int (by decide) (by decide) rfl) (Ev.list (Vo:=[.str ⟨#[x]⟩]) (e:=by show 1<=a9;decide) (.cons Ev.nm .nil))
def B3{g f:List Str}(h:fh j a b)(u:gj j b x)(t:hl x=ap)(m:j.length<=1000000)(o:f.length<=1000):ef (Vu+4,true) (.ref 291) [S j,.d (jZ a g f)] (.d (jZ (b+4) g (f++[eI j (b+4) fj]))):=by
 refine ef.of (j:=ac "_law_step"++ac ".<locals>.") qP (λ P doc v s=>by
     refine cP (d9 s) ?_;rintro g f rfl;lia) rfl (λ P=>by lia) ?_;refine ag.cons (u0 (e:=f) (c:=true) h m) (ag.last (St.B0 (h:=104) rfl (de λ P=>⟨_,nE.fn P⟩) (BR (a:=Vu) u t m) (Ev.gl uZ) (.cons Ev.nm (.cons Ev.nm (.cons .int .nil))) (by rfl) (by rfl) (ag.last (St.ret ?_) trivial)) trivial);refine Ev.list (Vo:=[.int ((b+4:Nat):Int),Ld g,Ld (f++[eI j (b+4) fj])]) (e:=by show 3<=a9;decide) ?_;refine .cons ?_ (.cons (Ev.dI (Vo:=[.int a,Ld g,Ld f]) (C:=1) Ev.nm .int (by decide) (by decide) rfl) (.cons ?_ .nil))
 · rw[show((b+4:Nat):Int)=(b:Int)+4 by exact mh];exact Ev.bJ bb.fc Ev.nm .int
 · have e:Ld (f++[eI j (b+4) fj])=.list (f.map .str++[.str (eI j (b+4) fj)]):=by unfold Ld;rw[fs];rfl
   simp only[e];exact Ev.bJ (bb.m9 (by simp;exact an (gp o 1) (by decide))) (Ev.dI (Vo:=[.int a,Ld g,Ld f]) (C:=2) Ev.nm .int (by decide) (by decide) rfl) (Ev.list (Vo:=[.str (eI j (b+4) fj)]) (e:=by show 1<=a9;decide) (.cons (Ev.gG Fn.BY (Ev.bl ql) (.cons Ev.nm .nil)) .nil))
theorem u1(VL:a7):∀l:List (Str×Tok),ga VL (T3 l) ((l.map (·.1)).map tl) []
 |[]=>.nil|p::r=>.cons (as:=[]) (.str p.1 p.2) (u1 VL r)
def Fn.B4(h:(Vf.length==0)=ap)(g:j.length+2<=a9):Fn u (.builtin "str.split") [S j,S Vf] (Lt (Pe j Vf)):=λ X w A v s z E L i r=>by
 refine aj λ p=>?_;refine bS r.two ?_;rintro B C rfl q n;refine ai q.str ?_;rintro t rfl;refine ai n.str ?_;rintro f rfl;refine p ?_;have m:(partsBetween j (LP j Vf 0 j.length (j.length+1)) Vf.length).length<=a9:=by rw[length_partsBetween];exact an (H' (StrLaws.occ_length_le j Vf 0 j.length (j.length+1))) g
 have fin:∀(l:List (Str×Tok))(d:Nat),l.map (·.1)=Pe j Vf->RV X (s.heap.push {cls:=.type "list",data:=.seq (T3 l).toArray}) (.ref s.heap.objs.size) (Lt (Pe j Vf))/\Kp s {s with heap:=s.heap.push {cls:=.type "list",data:=.seq (T3 l).toArray},toks:=d}:=λ l d e=>by
   refine⟨.gD (i.fresh (aB _)) ⟨_,aF _ rfl⟩ (Y:=[]) ?_,⟨_,d,rfl,λ b o e=>ao _ e⟩⟩;exact e▸(u1 _ l)
 cases a:(bF (j.length<Vf.length)||bF (strKind j<strKind Vf))
 · cases c:(LP j Vf 0 j.length (j.length+1)).isEmpty
   · refine KA Nf (JH _ _ _) Pg (OX _ _) (meets_str_split_sep j Vf t f a h c (gv g) m) ?_;rw[strsFrom_eq];exact fin (numbered s.toks _) _ ((numbered_texts _ _).trans ((if_neg (ne_true_of_eq_false a)).trans (if_neg (ne_true_of_eq_false c))).symm)
   ·exact KA Nf (JH _ _ _) Pg (OX _ _) (meets_str_split_not_found j Vf t f a h c) (fin [(j,t)] _ ((if_neg (ne_true_of_eq_false a)).trans (if_pos c)).symm)
 ·exact KA Nf (JH _ _ _) Pg (OX _ _) (meets_str_split_cannot_occur j Vf t f a) (fin [(j,t)] _ (if_pos a).symm)
def B5(g b:List Nat):cg (g++a::b) a=cg b a:=by
 unfold cg;simp only[List.reverse_append,MD,kn];by_cases h:a∈b.reverse
 · have :∀(r t:List Nat),a∈r->(r++t).takeWhile (· !=a)=r.takeWhile (· !=a):=by
     intro r t;induction r with
     |nil=>intro h;cases h|cons d r f=>
       intro h;by_cases q:d=a;·obtain rfl:=q.symm;simp
       ·simp[q,f ((aP.mp h).resolve_left λ e=>q e.symm)]
   rw[this _ _ h]
 · have :∀(r t:List Nat),a∉r->(r++([a]++t)).takeWhile (· !=a)=r:=by
     intro r t;induction r with
     |nil=>intro _;simp|cons d r f=>
       intro h;have q:d≠a:=λ e=>h (e▸.head _);simp[q];simpa using f λ q=>h (.tail _ q)
   rw[this _ _ h,nM h]
def B6{b:List Nat}(h:a∉b):cg b a=b.length:=by
 unfold cg;simp only[nM (λ q=>h (MV.mp q)),N1]
theorem u2(c:Nat):∀(p:Str)(l:List Str),(∀q∈p::l,c∉q.cps.toList)->(Cp (PY ⟨#[c]⟩ (p::l))).count c=l.length/\cg (Cp (PY ⟨#[c]⟩ (p::l))) c=((p::l).getLast (λ h=>nomatch h)).length
 |p,[],h=>by
  have a:=h p (.head _);show(Cp p).count c=0/\cg (Cp p) c=p.length;exact⟨JN.mpr a,by rw[B6 a];rfl⟩|p,q::l,h=>by
  have a:=h p (.head _);refine am (u2 c q l λ r b=>h r (.tail _ b)) λ d f=>?_;have e:Cp (PY ⟨#[c]⟩ (p::q::l))=Cp p++c::Cp (PY ⟨#[c]⟩ (q::l)):=by
   show((p.cps++#[c])++(PY ⟨#[c]⟩ (q::l)).cps).toList=_;simp
  simp only[e,B5,f];refine⟨?_,rfl⟩;simp only[KE,Rg,d,JN.mpr a];simp
def B7(VL:Str)(c:Nat):∃p l,Pe VL ⟨#[c]⟩=p::l/\(Cp VL).count c=l.length/\cg (Cp VL) c=((p::l).getLast (λ h=>nomatch h)).length:=by
 have a:=split_pos VL ⟨#[c]⟩;have b:=StrLaws.split_free VL c;have d:=StrLaws.join_split VL ⟨#[c]⟩;rcases e:Pe VL ⟨#[c]⟩with _|⟨p,l⟩;·rw[e]at a;cases a
 · rw[e]at b d;have :=u2 c p l b;rw[d]at this;exact dw p l rfl this
def Ev.h7(h:Ev u g i z (I C)):Ev u g i (.UnaryOp .USub z v) (I (-C)):=λ X w A b f s E R=>wpAny_UnaryOp (h.use b R (Kp.refl s) λ l j d _ c _=>by
  refine ai d.int ?_;rintro t rfl;exact neg_int ⟨.mkInt,c.trans Kp.toks⟩)
def B8(x:Str):aR++x=x:=Str.ext' (by show(#[]:Array Nat)++x.cps=x.cps;simp)
def u3:cu 303 302 (bB [34]) (a0 [34]) [nm "src",nm "end"]:=.mk' (λ P=>by lia) (λ P=>by lia) (λ P=>⟨by lia,by lia,by lia,by lia,by lia,by lia⟩) (by decide) (by rfl) (by rfl) ⟨rfl,rfl⟩ rfl rfl rfl
def B9:aR++fj++ac " (at "=ac "Escaped character is not a Unicode scalar value (at ":=by decide
def B'(g:j.length<=1000000)(d:a<=j.length):Fn (b+1,true) (.ref 303) [S j,I a] (S (eI j a fj)):=by
 refine Fn.of u3 (λ P doc T z=>by
     refine aj λ v=>?_;refine cP (d9 z) ?_;rintro O Q rfl;refine v ?_;lia) rfl ?_;have z:(Cp j).length=j.length:=by rfl
 have u:((Cp j).take a).count 10<=1000000:=an (NJ) (by simp;exact j4 fx (j4 d g));have t:cg ((Cp j).take a) 10<=1000000:=an (qI _ _) (by simp;exact j4 fx (j4 d g));have A:=A7 j d;have B:(⟨((Cp j).take a).toArray⟩:Str).length<=1000000:=by simp[Ox];exact j4 fx (j4 d g)
 refine aj λ v=>bS (B7 ⟨((Cp j).take a).toArray⟩ 10) λ q l D m s=>v ?_;have C:Cp (⟨((Cp j).take a).toArray⟩:Str)=(Cp j).take a:=by simp
 rw[C]at m s;refine ag.cons (St.assign (V:=Lt (q::l)) ?_ (by rfl)) (ag.cons (St.gL (V:=S (fi j a)) ?_ .str (by rfl)) (ag.last (St.ret ?_) trivial))
 · refine D▸?_;have E:(⟨((Cp j).take a).toArray⟩:Str).length+2<=a9:=by
     have :(1000002:Nat)<=a9:=by decide
     exact iA B (aE true)
   refine Ev.lj Nf F.type_str_split (Vf:=⟨((Cp j).take a).toArray⟩) (Fn.B4 (Vf:=⟨#[10]⟩) (by rfl) E) ?_ (.cons .str .nil);refine A▸?_;exact Ev.nz Ev.nm .none (.some Ev.nm) (by refine A.symm▸?_;exact an B (by decide))
 · have M:∀{G H J L N:Pos},Tr (b,true) (a0 [34]) (seen ((nm "ahead",Lt (q::l))::[nm "src",nm "end"].zip [S j,I a]) []) (.Compare (.Name (nm "end") G) [.Eq] [.Call (.Name (nm "len") H) [.Name (nm "src") J] [] L] N) (bF (j.length<=a)):=by
     intros;refine Tr.eq (Tr.cmp aD.jS Ev.nm (Ev.cA (Fn.hZ (j:=j) (c6 g (aE true))) (Ev.bl dY) (.cons Ev.nm .nil))) ?_;by_cases h:j.length<=a;·rw[decide_eq_true h,show(a:Int)=j.length by exact r7 (oG d) (oG h)];simp
     · rw[decide_eq_false h];exact beq_eq_false_iff_ne.mpr (λ q=>h (j7 (Oj.mp q)))
   have e:S (fi j a)=if bF (j.length<=a)=true then S (ac "end of document")else S (ac "line "++Pw (((q::l).map tl).length:Int)++ac ", column "++Pw ((cg ((Cp j).take a) 10:Nat)+1:Int)):=by
     unfold fi;by_cases h:j.length<=a;·rw[if_pos h,if_pos (decide_eq_true h)]
     · rw[if_neg h,if_neg (by simpa using h)];show S (aR++ac "line "++_++_++_)=_;rw[B8,m];simp
   simp only[e];have o:=Nk (n:=(((q::l).map tl).length:Int)) (by simp;exact jk) (by simp;exact jj (r8 m u) (aE true));have c:(ac "line ").length=5:=by decide
   have f:(ac ", column ").length=9:=by decide
   have r:(100:Nat)<=a9:=by decide
   refine Ev.ite M (λ _=>.str) λ _=>?_;refine Ev.bJ (bb.iO (by simp only[IN,c,f];exact an (IW (gp (bX o 5) 9) (Nk (n:=((cg ((Cp j).take a) 10:Nat)+1:Int)) (jk) (jj t (aE true)))) (e3 r rfl))) (Ev.bJ (bb.iO (by simp only[IN,c,f];exact an (gp (bX o 5) 9) (e3 r rfl))) (Ev.bJ (bb.iO (by simp only[IN,c,f];exact e4 gx o (aE true))) .str ?_) .str) ?_
   · refine Ev.gG (Fn.tZ (nK (by simp;exact mz (m▸u) rfl))) (Ev.bl ql) (.cons ?_ .nil);exact Ev.cA (Fn.lh (by simp;exact yl (r8 m u) (aE true))) (Ev.bl dY) (.cons Ev.nm .nil)
   · refine Ev.gG (Fn.tZ (nK (mz t rfl))) (Ev.bl ql) (.cons (Ev.bJ bb.fc ?_ .int) .nil);simp only[s];refine Ev.cA (Fn.hZ (by refine s▸?_;exact c6 t (aE true))) (Ev.bl dY) (.cons ?_ .nil);refine Ev.Ai (Vo:=(q::l).map .str) (C:=-1) Ev.nm (Ev.h7 .int) (by decide) (by simp;exact yU) (by decide) ?_;rw[show((-1:Int)+((q::l).map tl).length).toNat=l.length by simp;exact yV,a',show l.length=(q::l).length-1 by simp,<-List.getLast?_eq_getElem?,List.getLast?_eq_some_getLast (by exact λ h=>by cases h)];rfl
 · have e:eI j a fj=ac "Escaped character is not a Unicode scalar value (at "++fi j a++ac ")":=by
     show aR++fj++ac " (at "++fi j a++ac ")"=_;rw[B9]
   have w:=qN g d;have c:(ac "Escaped character is not a Unicode scalar value (at ").length<=100:=by decide
   have f:(ac ")").length=1:=by decide
   have r:(200:Nat)<=a9:=by decide
   rw[e];exact Ev.bJ (bb.iO (by simp only[IN,f];exact e4 (r1 c w) (e3 c (aE true)) (aE true))) (Ev.bJ (bb.iO (e4 c w (aE true))) .str Ev.nm) .str
def Ca{ba:b7}{b:List Mk}(c:E.blockKind=.function)(d:E.kindOf j=some .local)(e:(v.line==J.line)=true)(f:(g.names.any λ(n,k)=>n==j&&(k==.local||k==.cell))=ap):MG (.ListComp ba b g J) (some (.Name j v)) a E=jB true:=by
 unfold MG;show(jB (E.blockKind==.function&&E.kindOf j==some .local&&v.line==J.line&&!(g.names.any λ(n,k)=>n==j&&(k==.local||k==.cell))):Sem Bool)=jB true;simp only[c,d,e,f];rfl
def St.qQ{ba T H:b7}(VO:List Str)(a:List Vd)(G:Vd->PV)(p:Vd->List (Str×PV))(c:Vd->Bool)(f:Vd->bP)(V:hf VO VK g=true)(VM:g.names.lookup j=some .local)(V3:(J.line==v.line)=true)(V9:(VK.names.any λ(n,u)=>n==j&&(u==.local||u==.cell))=ap)(We:bg u g i H T (a.map G))(V5:∀A,(p A).map (·.1)=VO)(V0:∀A∈a,BindsTo T (G A) (p A))(V2:∀A∈a,eG u (bQ VK g) (p A++cj VK i) Vt (c A))(V1:∀A∈a,c A=true->Ev u (bQ VK g) (p A++cj VK i) ba (.d (f A)))(V8:a.length<=a9)(V7:autoParam (∀l A,Ad H l A=jB A) bc):St A u g i D (.Assign [.Name j J] (.ListComp ba [⟨T,H,Vt,0⟩] VK v) Vi) (.next ((j,Li ((a.filter c).map f))::i) (bu j D)):=λ X w VS VZ l VR s E m Wg O F=>by
 rw[exec_Assign_Name_used _ _ _ _ (Ca (by have :=F.eD;unfold TV;refine this.symm▸?_;first|rfl|simp) (by rw[F.cB];exact VM) V3 V9)];refine al (It (al ?_));refine al (aG (tU a G p c f (dJ.of V).1 We V0 (λ A _ y q e=>(dJ.of V).2 y (V5 A▸jM e)) V2 V1 V8 V7 VZ F.er (some (Oq (.Name j J) l)) (Vh:=λ _ N=>c' A X w VS g l VR O s .next N (.next ((j,Li ((a.filter c).map f))::i) (bu j D))) ?_) (λ _ N V6=>ah (ah V6)) λ _ _ e=>e);intro Wf C N V' V4 B Wh Wi r Wc kp;refine ak (Ns.c9 F.ns) λ Wk VX _=>?_;have U:=V4 _ _ VX;have Y:∀b,b=C->VR.heap.objs.size<=b/\314<=b:=λ b q=>by obtain rfl:=q.symm;exact⟨an F.fresh (bn U),an F.locals (bn U)⟩
 have VP:∀{h:a7}{Wb:Str->Option ab},h.Ns C Wb->∀b o,b=C->h.get? b=some o->¬bw o:=λ n b o q e=>by
  obtain rfl:=q.symm;refine ak (Ns.c9 n) λ Wj VW d=>?_;cases aO e VW;exact eJ d
 have VQ:¬aL X l O C:=λ q=>by refine ai (F.er.ex C q) λ o e=>?_;exact bN B e
 have VN:¬gI l C:=λ q=>VQ (.inl (.inr q));refine L1 ((F.wide kp (VG:=(·=C)) (λ b q=>by obtain rfl:=q.symm;exact B) (λ b q=>by obtain rfl:=q.symm;refine ak (Ns.c9 r) λ o e _=>?_;exact⟨o,e⟩) (λ b q=>(Y b q).1) (VP r)).store (.inl VM) (Wc.mono λ b q=>qt q) λ Wd Wa VV VT L=>⟨V',r.at' λ o e=>L C o VN e,λ h' VL=>?_⟩);have VU:=VT.nt (s:=h') (a:=Wd.toks) Y (λ b q=>by obtain rfl:=q.symm;exact VQ) (VP (r.at' λ o e=>L C o VN e)) (λ b o M e=>VL.extBut b o M e) (λ t=>⟨(F.bi t).tab,(F.bi t).fa⟩);refine⟨rfl,Wa,VV,O,VU,λ b o M e=>?_,λ b q=>.inl q,λ _ q=>q,F.hO⟩;exact VL.extBut b o (λ q=>by obtain rfl:=q.symm;exact bN B e) (L b o (λ q=>M (.inl q)) (kp.keep b o e))
def lB(n k:Nat):Lg n (k:Int)=min k n:=by
 unfold Lg;rw[if_neg (JQ.mpr (IJ k))];refine aH (QQ k n) (λ h=>?_) λ h=>?_;·rw[Tg (J1.mpr h),IZ h,Pn (IJ _)];rfl
 ·rw[Int.min_eq_right (J1.mpr h),KW h,Pn (IJ _)];rfl
def qR(l:List Vd)(k:Nat)(h:k<=l.length):eE l (some (k:Int)) none=l.drop k:=by
 unfold eE;have :Lg l.length (k:Int)=k:=(lB _ _).trans (IZ h);simp only[TA,this];rw[lu (by simp)]
def Cb(l:List Vd)(k:Nat)(h:k<=l.length):eE l none (some (k:Int))=l.take k:=by
 unfold eE;have :Lg l.length (k:Int)=k:=(lB _ _).trans (IZ h);simp only[TA,this];rfl
def qS(n:Nat):dK 0 1 n=(a1 n).map λ(i:Nat)=>(i:Int):=by
 unfold dK;refine Iz λ i _=>by simp only[UL,Int.zero_add]
def Cc(n:Nat):dK ((n:Int)-1) (-1) n=(a1 n).map λ(i:Nat)=>((n-1-i:Nat):Int):=by
 unfold dK;refine Iz λ i a=>?_;have :=cI.mp a;exact yS this
noncomputable def da(a b:List Int):List Int:=(((a1 a.length).map λ i=>a.length-1-i).filter λ k=>bF (b.count (a.getD k 0)<(a.drop k).count (a.getD k 0))).map λ k=>a.getD k 0
noncomputable def df(b a:List Int):List Int:=((a1 a.length).filter λ k=>bF (b.count (a.getD k 0)<(a.take (k+1)).count (a.getD k 0))).map λ k=>a.getD k 0
def u4:cu 308 307 (bB [35]) (a0 [35]) [nm "one",nm "two"]:=.mk' (λ P=>by lia) (λ P=>by lia) (λ P=>⟨by lia,by lia,by lia,by lia,by lia,by lia⟩) (by decide) (by rfl) (by rfl) ⟨rfl,rfl⟩ rfl rfl rfl
def Cd(h:a<B.length):(B.map Pq)[((a:Nat):Int).toNat]?=some (.int (B.getD a 0)):=by simp only[b4,a',ay h,av,ay h];rfl
def Fn.j0(h:B.length<2^63):Fn u (.builtin "len") [Ls B] (I B.length):=by
 have :=Fn.lh (u:=u) (Vo:=B.map .int) (by simpa using h);rwa[be]at this
def Ev.gO(d:Ev u g i z (Ls B))(e:Ev u g i Vn (I (a:Int)))(h:a<B.length)(f:a<2^62)(j:autoParam (∀o c,Ml Vn ap (.ref o) (.int (a:Int) c)=Pz [.ref o,.int (a:Int) c] (NP (.ref o) (.int (a:Int) c))) ir):Ev u g i (.Subscript z Vn v) (I (B.getD a 0)):=Ev.dI d e (dh) (hI f (aE true)) (Cd h) j
def Ev.Ce(b:Ev u g i z (Ls B))(d:Ev u g i Vn (I (a:Int)))(c:a<=B.length)(e:B.length<=a9):Ev u g i (.Subscript z (.Slice (some Vn) none none v) J) (Ls (B.drop a)):=by
 have :=Ev.slice (v:=v) (J:=J) b (.some d) .none (by simpa using e);rw[qR _ a (by simpa using c),<-Qf]at this;exact this
def Ev.u5(b:Ev u g i z (Ls B))(d:Ev u g i Vn (I (a:Int)))(c:a<=B.length)(e:B.length<=a9):Ev u g i (.Subscript z (.Slice none (some Vn) none v) J) (Ls (B.take a)):=by
 have :=Ev.slice (v:=v) (J:=J) b .none (.some d) (by simpa using e);rw[Cb _ a (by simpa using c),<-Od]at this;exact this
def Cf(c:-(2^62)<=C)(d:C<2^62)(e:-(2^62)<=Vs)(f:Vs<2^62):Jq C Vs (-1)=true:=PySem.W.small_down c d e f
def u6(h:a<=1000):Jq ((a:Int)-1) (-1) (-1)=true/\Ig ((a:Int)-1) (-1) (-1)=a:=by
 refine⟨Cf (yR rfl) (Ks (Int.sub_le_self _ (by decide)) (fC h rfl)) (by decide) (by decide),?_⟩;unfold Ig;rw[if_neg (by decide)];split;·simp only[show(- -1:Int)=1 by decide,QY];exact(Mv _ _).trans (by rw[Int.sub_neg];exact Mv _ _)
 ·rename_i q;exact Mg dh (Int.le_add_of_sub_right_le (JQ.mp q))
def Cg{c f:List Int}(h:c.length<=100)(m:f.length<=100):Fn (a+1,true) (.ref 308) [Ls c,Ls f] (Tu [.list ((da c f).map .int),.list ((df c f).map .int)]):=by
 have s:(1000:Nat)<=a9:=by decide
 refine Fn.of u4 (λ P doc t q=>by
     refine cP (d9 q) ?_;rintro r b rfl;lia) rfl (ag.cons (o:=(nm "told",Ls (da c f))::[nm "one",nm "two"].zip [Ls c,Ls f]) (p:=[]) ?_ (ag.last (St.ret (Ev.tuple (Vo:=[.list ((da c f).map .int),.list ((df c f).map .int)]) (f:=by show 2<=a9;decide) (.cons Ev.nm (.cons ?_ .nil)))) trivial))
 · have e:Ls (da c f)=Li (((((a1 c.length).map λ i=>c.length-1-i)).filter λ a=>bF (f.count (c.getD a 0)<(c.drop a).count (c.getD a 0))).map λ a=>.int (c.getD a 0)):=by unfold da Ls;rw[dQ];rfl
   rw[e];refine St.qQ [nm "k"] ((a1 c.length).map λ i=>c.length-1-i) (λ(i:Nat)=>I (i:Int)) (λ i=>[(nm "k",I (i:Int))]) _ _ (by rfl) (by rfl) (by rfl) (by rfl) ?_ (λ _=>rfl) (λ _ _=>.name) (λ i n=>?_) (λ i n _=>?_) (by simp;exact a2 h (aE true))
   · refine(dQ).symm▸?_;have o:(a1 c.length).map ((λ(i:Nat)=>I (i:Int))∘λ i=>c.length-1-i)=(dK ((c.length:Int)-1) (-1) c.length).map λ i=>I i:=by simp only[Cc,dQ];rfl
     simp only[o];exact bg.tY rfl (Ev.bl h0) (Ev.bJ bb.sub (Ev.cA (Fn.j0 (B:=c) (c6 h (aE true))) (Ev.bl dY) (.cons Ev.nm .nil)) .int) (Ev.h7 .int) (Ev.h7 .int) (by decide) (u6 (a2 h (aE true))).1 (u6 (a2 h (aE true))).2 (by decide)
   all_goals
     have g:i<c.length:=by
       refine ak (hp.mp n) ?_;rintro j p rfl;have :=cI.mp p;exact hF this
   ·exact .one (Tr.eq (Tr.cmp aD.gt (Ev.jK JK Ku Fn.jL (Ev.Ce (B:=c) (a:=i) Ev.nm Ev.nm (j5 g) (a2 h (aE true))) (.cons (Ev.gO (B:=c) (a:=i) Ev.nm Ev.nm g (e5 g h (aE true))) .nil)) (Ev.jK JK Ku Fn.jL (Vo:=f.map .int) Ev.nm (.cons (Ev.gO (B:=c) (a:=i) Ev.nm Ev.nm g (e5 g h (aE true))) .nil))) (decide_eq_decide.mpr Mp))
   ·exact Ev.gO (B:=c) (a:=i) Ev.nm Ev.nm g (e5 g h (aE true))
 · have e:(.d (.list ((df c f).map .int)):PV)=Li (((a1 f.length).filter λ a=>bF (c.count (f.getD a 0)<(f.take (a+1)).count (f.getD a 0))).map λ a=>.int (f.getD a 0)):=by unfold df;rw[dQ];rfl
   simp only[e];refine Ev.fe [nm "k"] (a1 f.length) (λ(i:Nat)=>I (i:Int)) (λ i=>[(nm "k",I (i:Int))]) _ _ (by rfl) ?_ (λ _=>rfl) (λ _ _=>.name) (λ i n=>?_) (λ i n _=>?_) (by simp;exact a2 m (aE true))
   · have o:(a1 f.length).map (λ(i:Nat)=>I (i:Int))=(dK 0 1 ((f.length:Int)).toNat).map λ i=>I i:=by simp only[b4,qS,dQ];rfl
     simp only[o];exact bg.tX rfl (Ev.bl h0) (Ev.cA (Fn.j0 (B:=f) (c6 m (aE true))) (Ev.bl dY) (.cons Ev.nm .nil)) (dh) (fC m (aE true))
   all_goals have g:=cI.mp n
   ·exact .one (Tr.eq (Tr.cmp aD.gt (Ev.jK JK Ku Fn.jL (Ev.u5 (B:=f) (a:=i+1) Ev.nm (Ev.bJ bb.fc Ev.nm .int) (hz g) (a2 m (aE true))) (.cons (Ev.gO (B:=f) (a:=i) Ev.nm Ev.nm g (e5 g m (aE true))) .nil)) (Ev.jK JK Ku Fn.jL (Vo:=c.map .int) Ev.nm (.cons (Ev.gO (B:=f) (a:=i) Ev.nm Ev.nm g (e5 g m (aE true))) .nil))) (decide_eq_decide.mpr Mp))
   ·exact Ev.gO (B:=f) (a:=i) Ev.nm Ev.nm g (e5 g m (aE true))
noncomputable def ck:List Str->List Str->Bool
 |[],[]=>ap|[],_::_=>true|_::_,[]=>ap|x::a,y::b=>if x==y then ck a b else bF (x.cps.toList<y.cps.toList)
def h8(h:Kg Ve G):Ve.length=G.length:=by induction h with
 |nil=>rfl|cons _ _ _ a=>simp[a]
def nO(h:Kg Ve G):∀(j:Nat)(x:Str),G[j]?=some x->∃t,Ve.toArray[j]?=some (I4 x t):=by induction h with
 |nil=>intro j x h;simp at h|cons y u r a=>
  intro j x h;rcases j with _|j;·simp at h;subst h;exact⟨u,by rfl⟩
  ·simpa using a j x (by simpa using h)
def Ch{t u:Tok}(h:Vh (.bool (j.cps.toList<Vf.cps.toList)) q):aA (au Vl c) o (M5 .Lt (.str j t) (.str Vf u)) Vh y q:=lt_str h
def Ci{t u:Tok}(h:Vh (.bool (Vf.cps.toList<j.cps.toList)) q):aA (au Vl c) o (M5 .Gt (.str j t) (.str Vf u)) Vh y q:=R7 h
def Cj{r z:Array ab}{e f:List Str}(T:∀(j:Nat)(x:Str),e[j]?=some x->∃t,r[j]?=some (I4 x t))(U:∀(j:Nat)(x:Str),f[j]?=some x->∃t,z[j]?=some (I4 x t))(M:r.size=e.length)(N:z.size=f.length)(k:Nat):∀i:Nat,min e.length f.length-i=k->i<=min e.length f.length->SS (Builtin.«list.__eq__.loop» ⟨[.ref h,.ref Q,JI i,JI 0],[]⟩) (λ A R s=>s.heap.get? h=some {cls:=.type "list",data:=.seq r a}/\s.heap.get? Q=some {cls:=.type "list",data:=.seq z b}/\R (.ok (.ret (.bool (ck (e.drop i) (f.drop i))))) s):=by induction k with
 |zero=>
   intro i m G L w A R s c;obtain⟨VL,g,d,VN,os⟩:=s;refine a4 c λ p o c=>?_;wp_walk using bK p,bK o;have Y:r[((i:Nat):Int).toNat]?=none\/z[((i:Nat):Int).toNat]?=none:=by
     rw[b4];refine aH (QQ e.length f.length) (λ q=>?_) λ q=>?_;·exact .inl (Ib (j4 (j6 M) (jl m q)))
     ·exact .inr (Ib (j4 (j6 N) (jm m q)))
   have fin:(ck (e.drop i) (f.drop i))=bF (r.size<z.size):=by
     rw[M,N];refine ez (LD e.length f.length) (λ q=>?_) (λ q=>?_) λ q=>?_;·rw[Ic (l:=e) (i:=i) (jl m (j5 q)),ht (l:=f) (i:=i) (c5 (rZ G) q)];simp[ck];exact q
     ·rw[Ic (l:=e) (i:=i) (jl m (j6 q)),Ic (l:=f) (i:=i) (jm m (j7 q))];simp[ck];exact j7 q
     ·rw[Ic (l:=f) (i:=i) (jm m (j5 q)),ht (l:=e) (i:=i) (c5 (oF G) q)];simp[ck];exact j5 q
   rw[fin]at c;cases O:r[((i:Nat):Int).toNat]? with
   |none=>
     wp_walk using bK p,bK o;exact c|some v=>
     rw[Y.resolve_left (by rw[O];exact λ c=>by cases c)];wp_walk using bK p,bK o;exact c
 |succ k VM=>
   intro i m G L w A R s c;obtain⟨VL,g,d,VN,os⟩:=s;refine a4 c λ p o c=>?_;wp_walk using bK p,bK o;have H:i<e.length:=bA (iv m) fx;have J:i<f.length:=bA (iv m) hG;refine ai (T i _ (ay H)) λ t B=>?_;refine ai (U i _ (ay J)) λ u C=>?_;have B:r[((i:Nat):Int).toNat]?=some (I4 e[i] t):=by rw[b4];exact B
   have C:z[((i:Nat):Int).toNat]?=some (I4 f[i] u):=by rw[b4];exact C
   have V:((i:Int)+1)=((i+1:Nat):Int):=by push_cast;rfl
   rw[ht H,ht J]at c;rw[B,C];generalize e[i]=x at c B;generalize f[i]=y at c C;refine af (TO _ _ _ _ L w _ _ ?_);unfold ck at c;rcases D:x==y with _|_
   · have E:(y==x)=ap:=by
       have :=beq_eq_false_iff_ne.mp D;exact beq_eq_false_iff_ne.mpr λ q=>this q.symm
     first|rw[E]at c|skip
     first|rw[D]at c|skip
     wp_walk using bK p,bK o;rw[B,C];refine af (Ch ?_);wp_walk;exact c
   · have E:(y==x)=true:=by rw[pW D];exact beq_self_eq_true _
     first|rw[E]at c|skip
     first|rw[D]at c|skip
     wp_walk;rw[V];exact⟨I2 IA _,hN K0 (by
       rw[fH IA _];exact VM (i+1) (hB m) (hz (mi H J)) L w A R _ ⟨p,o,c⟩)⟩
def Ck{m k:List ab}{i j:List Str}(a:q.heap.PlainList h m.toArray)(e:q.heap.PlainList Q k.toArray)(p:Kg m i)(r:Kg k j)(t:o.units<O5)(f:Vh (.bool (ck i j)) q):aA (au P0 c) o (T7 .Lt (.ref h) (.ref Q)) Vh y q:=by
 refine aj λ z=>ai a λ n a=>ai e λ u e=>z ?_;show aA (au P0 c) o (M5 .Lt (.ref h) (.ref Q)) Vh y q;refine Qt ⟨_,a,rfl⟩ ⟨_,e,rfl⟩ Uc (KA Uc ⟨_,a,rfl⟩ F.entry_list_lt (F.args_list_lt_2 _ _) (S:=λ o R q=>q.heap.get? h=some {cls:=.type "list",data:=.seq m.toArray n}/\q.heap.get? Q=some {cls:=.type "list",data:=.seq k.toArray u}/\R (.ok (.ret (.bool (ck i j)))) q) ?_ ⟨a,e,?_⟩) t
 · intro v c o R q f;obtain⟨C,g,d,D,os⟩:=q;refine a4 f λ a e f=>?_;have B:=PP;wp_walk using bK a,bK e;exact⟨I2 IA _,hN K0 (by
     rw[fH IA _];exact Cj (e:=i) (f:=j) (nO p) (nO r) (h8 p) (h8 r) _ 0 rfl (dk _) v c o R _ ⟨a,e,f⟩)⟩
 ·exact⟨(by intro x;cases x),f⟩
def Cm{r z:Array ab}{e f:List Str}(T:∀(j:Nat)(x:Str),e[j]?=some x->∃t,r[j]?=some (I4 x t))(U:∀(j:Nat)(x:Str),f[j]?=some x->∃t,z[j]?=some (I4 x t))(M:r.size=e.length)(N:z.size=f.length)(k:Nat):∀i:Nat,min e.length f.length-i=k->i<=min e.length f.length->SS (Builtin.«list.__eq__.loop» ⟨[.ref h,.ref Q,JI i,JI 4],[]⟩) (λ A R s=>s.heap.get? h=some {cls:=.type "list",data:=.seq r a}/\s.heap.get? Q=some {cls:=.type "list",data:=.seq z b}/\R (.ok (.ret (.bool (ck (f.drop i) (e.drop i))))) s):=by induction k with
 |zero=>
   intro i m G L w A R s c;obtain⟨VL,g,d,VN,os⟩:=s;refine a4 c λ p o c=>?_;wp_walk using bK p,bK o;have Y:r[((i:Nat):Int).toNat]?=none\/z[((i:Nat):Int).toNat]?=none:=by
     rw[b4];refine aH (QQ e.length f.length) (λ q=>?_) λ q=>?_;·exact .inl (Ib (j4 (j6 M) (jl m q)))
     ·exact .inr (Ib (j4 (j6 N) (jm m q)))
   have fin:(ck (f.drop i) (e.drop i))=bF (r.size>z.size):=by
     rw[M,N];refine ez (LD e.length f.length) (λ q=>?_) (λ q=>?_) λ q=>?_;·rw[Ic (l:=e) (i:=i) (jl m (j5 q)),ht (l:=f) (i:=i) (c5 (rZ G) q)];simp[ck];exact j5 q
     ·rw[Ic (l:=e) (i:=i) (jl m (j6 q)),Ic (l:=f) (i:=i) (jm m (j7 q))];simp[ck];exact j6 q
     ·rw[Ic (l:=f) (i:=i) (jm m (j5 q)),ht (l:=e) (i:=i) (c5 (oF G) q)];simp[ck];exact q
   rw[fin]at c;cases O:r[((i:Nat):Int).toNat]? with
   |none=>
     wp_walk using bK p,bK o;exact c|some v=>
     rw[Y.resolve_left (by rw[O];exact λ c=>by cases c)];wp_walk using bK p,bK o;exact c
 |succ k VM=>
   intro i m G L w A R s c;obtain⟨VL,g,d,VN,os⟩:=s;refine a4 c λ p o c=>?_;wp_walk using bK p,bK o;have H:i<e.length:=bA (iv m) fx;have J:i<f.length:=bA (iv m) hG;refine ai (T i _ (ay H)) λ t B=>?_;refine ai (U i _ (ay J)) λ u C=>?_;have B:r[((i:Nat):Int).toNat]?=some (I4 e[i] t):=by rw[b4];exact B
   have C:z[((i:Nat):Int).toNat]?=some (I4 f[i] u):=by rw[b4];exact C
   have V:((i:Int)+1)=((i+1:Nat):Int):=by push_cast;rfl
   rw[ht H,ht J]at c;rw[B,C];generalize e[i]=x at c B;generalize f[i]=y at c C;refine af (TO _ _ _ _ L w _ _ ?_);unfold ck at c;rcases D:x==y with _|_
   · have E:(y==x)=ap:=by
       have :=beq_eq_false_iff_ne.mp D;exact beq_eq_false_iff_ne.mpr λ q=>this q.symm
     first|rw[E]at c|skip
     first|rw[D]at c|skip
     wp_walk using bK p,bK o;rw[B,C];refine af (Ci ?_);wp_walk;exact c
   · have E:(y==x)=true:=by rw[pW D];exact beq_self_eq_true _
     first|rw[E]at c|skip
     first|rw[D]at c|skip
     wp_walk;rw[V];exact⟨I2 IA _,hN K0 (by
       rw[fH IA _];exact VM (i+1) (hB m) (hz (mi H J)) L w A R _ ⟨p,o,c⟩)⟩
def Cn{m k:List ab}{i j:List Str}(a:q.heap.PlainList h m.toArray)(e:q.heap.PlainList Q k.toArray)(p:Kg m i)(r:Kg k j)(t:o.units<O5)(f:Vh (.bool (ck j i)) q):aA (au P0 c) o (T7 .Gt (.ref h) (.ref Q)) Vh y q:=by
 refine aj λ z=>ai a λ n a=>ai e λ u e=>z ?_;show aA (au P0 c) o (M5 .Gt (.ref h) (.ref Q)) Vh y q;refine Qt ⟨_,a,rfl⟩ ⟨_,e,rfl⟩ Ud (KA Ud ⟨_,a,rfl⟩ F.entry_list_gt (F.args_list_gt_2 _ _) (S:=λ o R q=>q.heap.get? h=some {cls:=.type "list",data:=.seq m.toArray n}/\q.heap.get? Q=some {cls:=.type "list",data:=.seq k.toArray u}/\R (.ok (.ret (.bool (ck j i)))) q) ?_ ⟨a,e,?_⟩) t
 · intro v c o R q f;obtain⟨C,g,d,D,os⟩:=q;refine a4 f λ a e f=>?_;have B:=PP;wp_walk using bK a,bK e;exact⟨I2 IA _,hN K0 (by
     rw[fH IA _];exact Cm (e:=i) (f:=j) (nO p) (nO r) (h8 p) (h8 r) _ 0 rfl (dk _) v c o R _ ⟨a,e,f⟩)⟩
 ·exact⟨(by intro x;cases x),f⟩
def aD.Co{l m:List Str}:aD .Lt (Lt l) (Lt m) (ck l m):=λ X w A d s v u E p j i=>by
 refine aj λ k=>?_;refine bI j.list λ a x n c q e g=>?_;obtain rfl:=c;refine bI i.list λ b t o c r f h=>?_;obtain rfl:=c;exact k (Ck e f (hY g) (hY h) (fy d) ⟨rfl,Kp.refl _⟩)
def aD.Cq{l m:List Str}:aD .Gt (Lt l) (Lt m) (ck m l):=λ X w A d s v u E p j i=>by
 refine aj λ k=>?_;refine bI j.list λ a x n c q e g=>?_;obtain rfl:=c;refine bI i.list λ b t o c r f h=>?_;obtain rfl:=c;exact k (Cn e f (hY g) (hY h) (fy d) ⟨rfl,Kp.refl _⟩)
def Cr{x y:List Str}:Fn (a+1,M) (.ref 198) [Lt x,Lt y] (I (eX (ck y x) (ck x y))):=Fn.of (Q:=197) (Vr:=bB [26]) (g:=a0 [26]) (G:=[ac "x",ac "y"]) (.mk' (λ P=>by lia) (λ P=>by lia) (λ P=>⟨by lia,by lia,by lia,by lia,by lia,by lia⟩) (by decide) (by rfl) (by rfl) ⟨rfl,rfl⟩ rfl rfl rfl) (λ P doc d b=>by
   refine cP (d9 b) ?_;rintro v u rfl;lia) rfl (by
   refine ag.cons St.doc (ag.last (St.ret (Ev.bJ bb.qj ?_ ?_)) trivial);·exact Ev.cmp aD.Cq Ev.nm Ev.nm
   ·exact Ev.cmp aD.Co Ev.nm Ev.nm)
def h9(k:Lv)(VN:ab)(L:List (ae×Obj))(b:List PV)(r:PV):Prop:=∀(X:ae->Prop)(VL:ar)(A:aq),Rm k A->∀(s:aa)(vs:List ab)(E:ab->aa->Prop),aC VL s.heap->Ex X s.heap->fg A X s.heap->(∀p∈L,¬X p.1/\s.heap.get? p.1=some p.2)->aU X s.heap vs b->aA (au P0 VL) A (I3 VN vs) (λ v a=>RV X a.heap v r/\Kq true A s a/\aC VL a.heap) E s
def eh(q:PV)(x:Str)(j:List PV):Prop:=∀(X:ae->Prop)(VM:ar)(A B:aq),A.handled=none->∀(i:Pos)(f s:aa)(E Q:ab->aa->Prop)(VL:ab),Ex X s.heap->RV X s.heap VL q->Kp f s->(∀e a c d g St h N,Kp f a->Kp a c->(∀b,N b↔X b\/a.heap.get? b=none)->dc N VM A e (.Name x i) j d g St h->St 0 c.heap->(∀b,d b->b<c.heap.objs.size)->(∀b,g b->a.heap.objs.size<=b)->(∀b,d b->¬X b)->Q e c)->aA (au P0 VM) B (LA VL) Q E s
def eh.list:eh (Li Vo) j (Vo.map .d):=λ X w A B c o p s E Q v a i kp b=>by
 refine aj λ k=>?_;refine bI i.list λ n q m g e f h=>?_;obtain rfl:=g;exact k (tW c kp a e f h b)
def eh.gg{d b c:Int}(f:Jq d b c=true)(g:Ig d b c=a):eh (.gg d b c) j ((dK d c a).map λ i=>I i):=λ X w A B k y C s E Q v e o kp h=>by
 refine aj λ p=>?_;refine o6 o λ r t u z m q l=>?_;obtain rfl:=m;exact p (ng k kp e l f g h)
def St.Cs{L:List (ae×Obj)}(n:A.t=true)(V0:∃o B,(h,o)∈L/\o.data=.func B)(VX:h9 u (.ref h) L Vk V)(VZ:Ev u g i (.Name j v) (.kept (.ref h) L))(VL:a6 u g i (z::Vt) Vk)(V2:ce g Vf=true):St A u g i D (.Assign [.Name Vf J] (.Call (.Name j v) (z::Vt) [] Vi) VC) (.next ((Vf,V)::i) (bu Vf D)):=λ X w c G d V' s E m Wb O F=>by
 refine Jh (dr (VZ.use G F.er (Kp.refl s) λ M H f _ V4 VT=>?_)) rfl;obtain⟨rfl,f⟩:=f;have l:=VL.plain (E:=d) (v:=Vi);refine aW V0 λ o B V1 VY=>?_;refine di VL.cut λ _ _ V6 VU b VM=>?_;obtain rfl:=V6;have U:=a6.use G (z:=Vi) (E:=E) (.cons VU b VM) (s:=H) (Q:=λ N t=>(t.heap.get? h=some o/\o.data=.func B)/\aA (au P0 w) c (I3 (.ref h) N) (λ M H=>aA (au P0 w) c (OF d Vf M) (λ _ t=>c' A X w c g d V' O s .next t (.next ((Vf,V)::i) (bu Vf D))) E H) E t) VT V4 λ N VQ V9 VN VO Y=>⟨⟨VN.keep _ _ ((f _ V1).2),VY⟩,by
   have T:=F.kp VO;refine aG (VX (aL X d O) w c G VQ N E Y.left Y.ex (T.lA n) (λ p l=>⟨(f p l).1,VN.keep _ _ (f p l).2⟩) V9) (λ M Wa V7=>(a4 V7 λ V8 K VS=>?_)) λ _ _ A=>A;have fr:aZ A c X d O VQ O Wa:=⟨λ b o VP z=>K.ext.keep b o (λ _=>⟨λ q=>VP (.inr (.inr ⟨n,.inl q⟩)),λ q=>VP (.inr (.inr ⟨n,.inr q⟩))⟩) z,λ b C=>.inl C,λ _ C=>C,F.hO⟩;exact(T.kt n K VS).store (dL V2) V8 λ Wc V5 VV VR V3=>⟨rfl,V5,VV,O,VR,(aZ.bR F.hO VO).trans (fr.trans (.dn F.hO V3))⟩⟩;simp only[VM]at U l⊢;exact rS (b1 U)
def Ct(P:a3):a5 P (nm "_initial_missing")=some (.ref 126):=by lia
def Cu(P:a3):a5 P (nm "iter")=none/\cR P (nm "iter")=some (.builtin "iter"):=⟨by lia,by lia⟩
def aC.Cv(L:aC c s):∃o,s.get? 126=some o/\o.cls=.type "object":=by
 refine aj λ b=>ak (L.objs (126,tp c.params) (ct (i:=82) (by lia)) rfl) λ x e q=>?_;refine b (bj x e ?_);have a:∀o,(gf o).cls=o.cls:=λ o=>by
  obtain⟨_,_,d,_⟩:=o;cases d<;>rfl
 exact(a x).symm.trans (congrArg Obj.cls q)
def iY:cu 134 133 (bB [21]) (a0 [21]) [nm "function",nm "sequence",nm "initial"]:=.mk' (λ P=>by lia) (λ P=>by lia) (λ P=>⟨by lia,by lia,by lia,by lia,by lia,by lia⟩) (by decide) (by rfl) (by rfl) ⟨rfl,rfl⟩ rfl rfl rfl
noncomputable def u7:Pos:=jr ((cE ((bB [21]).getD 3 b2)).e 0)
noncomputable abbrev u8(q:PV)(b:List bP)(a:ae)(L:List (ae×Obj)):List (Str×PV):=[nm "function",nm "sequence",nm "initial"].zip [.kept (.ref a) L,q,Li b]
def Cw(h:i.lookup (nm "initial")=some (Li Vo)):Tr u (a0 [21]) i (.Compare (.Name (nm "initial") v) [.Is] [.Name (nm "_initial_missing") J] Vi) ap:=λ X w A c B s E R=>JZ ((Ev.nm h).use c R (Kp.refl s) λ L G p _ j e=>(Ev.gl Ct).use c e j λ t H r g k f=>by
  refine aj λ x=>?_;obtain rfl:t=.ref 126:=r;refine bI ((p.keeps g.keep).list) λ z M y l C m D=>?_;obtain rfl:=l;obtain⟨n,b⟩:=m;refine ak f.left.Cv λ o d a=>x ?_;refine al (wpAny_isSame_ref_other (λ q=>?_) b d (λ q=>by injection q with q;exact absurd q (by decide)) (ah (zF ⟨rfl,k⟩)));subst q;rw[d]at b;obtain rfl:=ax b;injection a with a;exact absurd a (by decide))
def Cy(f:Rm u o)(x:Ev u g i (.Name j v) (.raw (.builtin VH)))(k:Ev u g i z V)(R:bq w c g E q.heap i)(h:∀b a,RV w a.heap b V->Kp q a->bq w c g E a.heap i->aA (au P0 c) o (I3 (.builtin VH) [b]) Vh y a)(d:autoParam (∀m E,bD (z::m) E=(ap,He z E)::bD m E) bc):aA (au P0 c) o (He (.Call (.Name j v) [z] [] J) E) Vh y q:=by
 refine dr (x.use f R (Kp.refl q) λ b L D _ B p=>?_);obtain rfl:b=.builtin VH:=D;have l:=(a6.cons k .nil d).plain (E:=E) (v:=J);have U:=a6.use f (z:=J) (E:=y) (.cons k .nil d) (s:=L) (Q:=λ n H=>aA (au P0 c) o (I3 (.builtin VH) n) Vh y H) p B λ n a G _ C t=>by
  refine ak G.one ?_;rintro M rfl r;exact h _ a r C t
 rw[d]at U l⊢;exact Ir l (b1 U)
def Cz{l:Nat->List bP}{L:List (ae×Obj)}(Wd:A.t=true)(Wb:eh V (nm "element") Vk)(V':∀i p,Vk[i]?=some p->h9 (a,true) (.ref h) L [Li (l i),p] (Li (l (i+1))))(Wa:∃o fd,(h,o)∈L/\o.data=.func fd):ag A (a,true) (a0 [21]) (u8 V (l 0) h L) [] ((bB [21]).drop 1) (.ret (Li (l Vk.length))):=λ X w n d g G s E m Ws O F=>by
 refine iq (Jh (Cy (V:=V) d (Ev.bl Cu) Ev.nm F.er λ v Wm r Wf V3=>Q9 (by decide+kernel) (by decide+kernel) kdk_entry_iter (kdk_args_iter _) ?_) rfl);unfold Builtin.«iter»;refine af (m:=someArgs "iter" 1 2 _) (cx (a:=[v]) (by first|rfl|kernel_rfl!) ?_);refine af (Wb (aL X g O) w n _ (d.calm rfl) u7 s Wm _ _ v V3.ex r Wf λ Y VP Wn V8 J S Wr N VN VY VS Fd U Wu B VV=>(ah ⟨_,rfl,?_⟩));have VZ:Kp s Wn:=VN.trans VY;have VX:G.heap.objs.size<=VP.heap.objs.size/\314<=VP.heap.objs.size:=by
   refine ak (Ns.c9 (F.ns.keeps VN.keep)) λ o e _=>?_;have :=az e;exact⟨bn (bz F.fresh this),bn (bz F.locals this)⟩
 have VT:∀b,J b->G.heap.objs.size<=b/\314<=b:=λ b V=>⟨an VX.1 (B b V),an VX.2 (B b V)⟩;have VU:∀b,J b->s.heap.get? b=none:=λ b V=>by
   rcases e:s.heap.get? b with _|o;·rfl
   ·exact absurd (az (VN.keep b o e)) (b'.mpr (B b V))
 have We:∀b,J b->N b:=λ b V=>(VS b).mpr (.inr (cW (B b V)));have V0:∀b,V8 b->¬gI g b:=λ b V Wj=>VV b V (.inl (.inr Wj));refine(F.wide VZ VU (λ b V=>Fd.there 0 _ U b (Fd.sub b V)) (λ b V=>(VT b V).1) (λ b o V e=>Fd.hV 0 _ U b o V e)).store (.inl rfl) (V:=.raw Y) rfl λ Wx Wv Wt Q VL=>?_;refine iq (Px ((Cw (by rfl)).use d Q.reads (Kp.refl _) λ Wy j _ _=>?_));refine iq (Jh ((Ev.nm (V:=Li (l 0)) (by rfl) (by rfl)).use d (Q.kp j).er (Kp.refl _) λ WA Wz Wk C _ _=>((Q.kp j).kp C).store (.inl rfl) Wk λ Wo Wg V4 VQ VM=>?_) rfl);refine J4 ?_;have Wc:S 0 Wo.heap:=Fd.frame _ _ _ (Fd.frame _ _ _ U λ b o V e=>VL b o (V0 b V) e) λ b o V e=>VM b o (V0 b V) (C.keep b o (j.keep b o e));let M:Nat->List (Str×PV):=λ i=>[(nm "value",Li (l i)),(nm "function",.kept (.ref h) L)];let u:Nat->List (Str×PV):=λ i=>match Vk[i]? with|some p=>[(nm "element",p)]|none=>[];refine iq (T2 ((Ev.nm (V:=.raw Y) (by rfl) (by rfl)).use d VQ.er (Kp.refl _) λ Wq H Wl D _ _=>?_) (by intro _;rfl));obtain rfl:Wq=Y:=Wl;have VW:S 0 H.heap:=Fd.frame _ _ _ Wc λ b o _ e=>D.keep b o e;refine Fd.self 0 H _ _ VW ?_;have VR:FB A (cX X J) w n (a0 [21]) g G (M 0) [] Wg V4 O H:=(VQ.kp D).weaken ⟨rfl,rfl,trivial⟩;have V9:=((aZ.bR F.hO VZ).trans ((aZ.dn F.hO VL).trans ((aZ.bR F.hO j).trans ((aZ.bR F.hO C).trans (.dn F.hO VM))))).trans (.bR F.hO D);have z:∀i p,Vk[i]?=some p->u i=[(nm "element",p)]:=λ i p c=>by show(match Vk[i]? with|some p=>[(nm "element",p)]|none=>[])=_;rw[c]
 refine MB (uq (z:=.Name (nm "element") u7) (y:=NR (au P0 w) n g E) Vk M (λ _=>[]) u (λ i=>.next ((nm "value",Li (l (i+1)))::(u i++M i)) []) (λ i p c=>?_) (λ i y p c=>?_) (λ i T=>?_) (λ i T=>?_) d (s:=s) (V7:=VP) VR V9 (λ b o e=>?_) VS We Fd VW VT VU VV (λ t=>⟨(F.bi t).tab,(F.bi t).fa⟩) λ _ _ V=>V) (λ r Wp c=>?_);·simp only[z i p c];exact .name
 ·cases e:Vk[i]? with
   | none => have :u i=[]:=by show(match Vk[i]? with|some p=>[(nm "element",p)]|none=>[])=_;rw[e]
             rw[this]at c;cases c|some Wi=>
     rw[z i Wi e]at c;rw[(JW (aI.mp (c))).1];rfl
 · have e:=ay T;rw[z i _ e];exact ag.cons (St.Cs Wd Wa (V' i _ e) Ev.nm (.cons Ev.nm (.cons Ev.nm .nil)) (by rfl)) ag.nil
 · have e:=ay T;rw[z i _ e];exact⟨⟨rfl,rfl,trivial⟩,rfl⟩
 · obtain⟨VO,V6⟩:∃VO,H.heap.get? b=some VO:=by
     by_cases V:gI g b;·exact VR.er.ex b (.inl (.inr V))
     ·exact⟨o,D.keep b o (VM b o V (C.keep b o (j.keep b o (VL b o V (VY.keep b o e)))))⟩
   exact⟨VO,V6⟩
 ·cases r with
   |error e=>exact c|ok f=>
     obtain⟨rfl,Wh,V5,V2,V1,_⟩:=c;exact aG ((ag.last (St.ret (Ev.nm (V:=Li (l Vk.length)) (by rfl) (by rfl))) trivial:ag A (a,true) (a0 [21]) (M Vk.length) [] ((bB [21]).drop 4) (.ret (Li (l Vk.length)))) X w n d g G Wp E Wh V5 V2 V1) (λ f Ww c=>c) λ _ _ c=>c
noncomputable def qT(a:ab):Iv:=iI [21] (ac "reduce") (ac "reduce") 3 [] (.ref 127) .none a (.str (ac "cpy313.functools") 495) none (.ref 133) .none 0
def u9(P:a3):cf P 134=qT .none:=by lia
def CA(P:a3)(a:ab):{cf P 134 with doc:=a}=qT a:=by rw[u9];rfl
def aC.CB(L:aC c s):s.get? 127=some (tn c.params):=L.eC 83 (by lia) rfl λ x e=>by
 obtain⟨b,d,a,f⟩:=x;cases a<;>first|exact e|cases e
def CC(L:aC c q.heap)(e a b d:ab):PySem.BindsTo q (qT e) ⟨[a,b,d],[]⟩ ([nm "function",nm "sequence",nm "initial"].zip [a,b,d]):=Uj rfl L.CB rfl rfl rfl
def CD{l:Nat->List bP}{L:List (ae×Obj)}(VL:eh V (nm "element") Vk)(M:∀i p,Vk[i]?=some p->h9 (a,true) (.ref h) L [Li (l i),p] (Li (l (i+1))))(O:∃o C,(h,o)∈L/\o.data=.func C):ef (a+1,true) (.ref 134) [.kept (.ref h) L,V,Li (l 0)] (Li (l Vk.length)):=λ X w A G s vs E b r T c=>by
 refine aj λ VO=>aW (b.fn (iY.fn w.params) iY.tabs.1) λ o doc Y N=>mC (iY.ok w.params) λ d t u y z B=>?_;refine bI c.three λ VU VV VW VM VP VQ VR=>?_;obtain rfl:=VM;refine VO ?_;refine ui (A:=⟨true,.ref 133,ac "reduce"++ac ".<locals>."⟩) (i:=⟨[_,_,_],[]⟩) (b:={cf w.params 134 with doc:=doc}) iY.toScOk Y N (by refine d.symm▸?_;exact b.code (iY.code w.params) iY.tabs.2) t u y z B G b r c rfl (λ Q E D=>by rw[CA];exact CC b doc _ _ _ _ _ _ _ D) d.symm (λ _=>by rw[u9];rfl) (λ _=>T) λ n VN m j U J F=>?_;exact aG ((ag.cons St.doc (Cz rfl VL M O):ag ⟨true,.ref 133,ac "reduce"++ac ".<locals>."⟩ (a,true) (a0 [21]) (u8 V (l 0) h L) [] (bB [21]) (.ret (Li (l Vk.length)))) X w _ J n s VN _ m j [] F) (λ f VS H=>by obtain⟨v,e,c,kq,g,_⟩:=H;subst e;exact b3 (c.mono λ _ V=>.inl V) (kq.outer U) g) λ _ _ x=>x
inductive CE(X:ae->Prop)(l:OL)(s:aa)(v:ab)(c:aa):Prop|mk(a:ae)(d:List ab)(e:v=.ref a)(lt:∀b o,s.heap.get? b=some o->b<a)(f:c.heap.PlainList a d.toArray)(g:RO (λ b=>X b\/b=a) c.heap d l)(k:Kp s c)
def ei(k:Lv)(a:aw)(b:List (Str×PV))(e:b7)(l:OL):Prop:=∀(X:ae->Prop)(VN:ar)(A:aq),Rm k A->∀(VM:Env)(VL:aa)(E:ab->aa->Prop),bq X VN a VM VL.heap b->aA (au P0 VN) A (He e VM) (CE X l VL) E VL
def ei.nil{l:OL}(c:l=.p []\/l=.m []):ei u g i (.List [] v) l:=λ X w A a h s E R=>wpAny_List ((a6.nil:a6 u g i [] []).use a R (Kp.refl s) λ j d r _ u f=>by
  obtain rfl:=r.none;refine⟨by decide,d.heap.objs.size,[],rfl,λ b o e=>az (u.keep b o e),⟨_,aF _ rfl⟩,?_,u.trans Kp.push⟩;rcases c with rfl|rfl;·exact⟨_,.nil⟩
  ·exact .nil)
def FB.qU{l:OL}{Q:Unit->aa->Prop}(F:FB A w c o g E q i D Vg Vp Y H)(kp:Kp H VJ)(VO:g.names.lookup j=some .local)(G:∀b d,H.heap.get? b=some d->b<h)(VP:VJ.heap.PlainList h Ve.toArray)(L:RO (λ b=>aL w E Y b\/b=h) VJ.heap Ve l)(VN:∀k r,FB A w c o g E q (i.filter λ f=>f.1 !=j) ((j,l)::bu j D) r Vp (h::Y) k->(KX (gI E) VJ.heap k.heap)->aZ A o w E Y H (h::Y) k->Q () k):aA (au P0 c) o (OF E j (.ref h)) Q y VJ:=by
 have t:∀b d,H.heap.get? b=some d->b≠h:=λ b d e=>br (G b d e);have C:∀b,aL w E (h::Y) b↔aL w E Y b\/b=h:=λ b=>by
   constructor
   · rintro(f|f);·exact .inl (.inl f)
     · refine aH (aP.mp f) (λ f=>?_) λ f=>?_;·exact .inr f
       ·exact .inl (.inr f)
   · rintro((f|f)|f);·exact .inl f
     ·exact .inr (.tail _ f)
     ·exact .inr (f▸.head _)
 rw[(funext λ b=>propext (C b).symm)]at L;have M:∀b d,¬aL w E Y b->H.heap.get? b=some d->¬aL w E (h::Y) b/\VJ.heap.get? b=some d:=λ b d u e=>⟨λ f=>((C b).mp f).elim u (t b d e),kp.keep b d e⟩;refine ak (Ns.c9 F.ns) λ VS N _=>?_;refine(F.kp kp).ud VO (an F.fresh (bn (G _ _ N))) (λ f=>by refine ai (F.er.ex h f) λ d e=>?_;exact t h d e rfl) VP L (λ v p e=>(F.er.vars v p e).shift M (λ d=>kp.keep _ d) λ _ _ _ d=>kp.keep _ d) (λ v l T=>?_) λ k r B J=>VN k r B J ⟨λ b d u e=>J b d (λ f=>u (.inl f)) (kp.keep b d e),λ b n=>?_,λ b n=>.tail _ n,B.hO⟩
 · obtain⟨b,VQ,VR,U,V,VL,VM⟩:=F.own v l T;exact kO b VQ U V (VL.at λ d e=>kp.keep _ d e) (VM.shift M)
 · rcases aP.mp n with rfl|n
   · refine .inr ?_;rcases e:H.heap.get? b with _|d;·rfl
     ·exact(t b d e rfl).elim
   ·exact .inl n
def St.own{l:OL}(h:ei u g i z l)(t:g.names.lookup j=some .local)(r:autoParam (∀b,MG z (some (.Name j v)) J.line b=jB ap) cN):St A u g i D (.Assign [.Name j v] z J) (.next (i.filter λ q=>q.1 !=j) ((j,l)::bu j D)):=λ X w c o b M s E m f O F=>Jh (aG (h _ w c o b s E F.er) (λ N H C=>by
  obtain⟨a,Q,z,p,B,G,kp⟩:=C;subst z;exact F.qU kp t p B G λ L y d _ n=>⟨rfl,y,f,_,d,n⟩) λ _ _ A=>A) (r b)
def St.u'{T U VL VM V4:Pos}{l:OL}(VS:u.2=true)(VY:Ev u g i z V)(VZ:ei u g i Vn l)(VW:ce g j=true)(VX:g.names.lookup Vf=some .local)(VV:∀c:Env,c.scope=g->J' [.Tuple [.Name j T,.Name Vf U] a VL] (.Tuple [z,Vn] b VM) c=jB (some [j,Vf]))(VT:autoParam (∀h c,bD (z::h) c=(ap,He z c)::bD h c) bc)(VU:autoParam (∀h c,bD (Vn::h) c=(ap,He Vn c)::bD h c) bc):St A u g i D (.Assign [.Tuple [.Name j T,.Name Vf U] a VL] (.Tuple [z,Vn] b VM) V4) (.next ((j,V)::i.filter λ q=>q.1 !=Vf) (bu j ((Vf,l)::bu Vf D))):=λ X w VN t c Wb s E m V' O F=>by
 refine OA (names:=[j,Vf]) (OV (IP (VY.use t F.er (Kp.refl s) λ r C V8 Q _ VP=>(IP (aG (VZ (aL X c O) w VN t c C E VP) (λ v Y V5=>?_) λ _ _ A=>A) (VU _ _))) (VT _ _))) rfl (VV c F.er.scope);obtain⟨n,vs,e,L,V3,V6,kp⟩:=V5;subst e;refine Lx ⟨by show 2<=a9;decide,?_⟩;refine PL (items:=#[r,.ref n]) (t.calm VS) ⟨_,aF _ rfl,rfl,_,rfl⟩ λ H J=>?_;have N:Kp C {Y with heap:=H}:=kp.re λ d o e=>by
   have f:=ao {cls:=.type "tuple",dict:=none,data:=.seq #[r,hk n],slots:=#[]} (kp.keep d o e);exact J d o (br (az f)) f
 have M:KO Y.heap H:=λ d o e=>by
   have f:=ao {cls:=.type "tuple",dict:=none,data:=.seq #[r,hk n],slots:=#[]} e;exact J d o (br (az f)) f
 refine Il (OO (FB.qU (H:=C) (F.kp Q) N VX L (V3.at λ o e=>M _ o e) (V6.b0 λ d o _ e=>M d o e) λ V9 Wa G V0 VR=>?_));have V7:RV (aL X c (n::O)) V9.heap r V:=V8.shift λ d o B e=>⟨λ q=>?_,V0 d o (λ q=>B (.inl (.inr q))) (N.keep d o e)⟩;·refine Il (OO (G.store (dL VW) V7 λ Wc V2 VQ VO V1=>J8 ⟨rfl,V2,VQ,_,VO,(aZ.bR F.hO Q).trans (VR.trans (.dn G.hO V1))⟩))
 · rcases q with q|q;·exact B (.inl q)
   · rcases aP.mp q with rfl|q;·exact absurd (L _ _ e) (Iy _)
     ·exact B (.inr q)
def CF{c a b d:Bool}{X:Sem (Option (List Str))}(h:c=ap)(f:a=ap)(e:G=[j,Vf])(k:[j,Vf].eraseDups.length=2)(g:b=ap)(i:d=ap):(if c=true then jB none else if a=true then jB none else if(G.length !=2||G.eraseDups.length !=G.length)=true then jB none else if b=true then jB none else if d=true then X else jB (some G))=(jB (some [j,Vf]):Sem (Option (List Str))):=by
 subst e h f g i;have q:([j,Vf].length !=2||[j,Vf].eraseDups.length !=[j,Vf].length)=ap:=by rw[k];rfl
 exact if_neg (q▸Jp)
def CG{e i:Type}{f:e->Option i}{a b:e}{c d:i}(h:f a=some c)(g:f b=some d):[a,b].filterMap f=[c,d]:=by rw[Qg h,Qg g];rfl
def CH(g:E.blockKind=.function)(k:E.kindOf j=some .local)(l:E.kindOf Vf=some .local)(h:(J.line==v.line)=true)(i:[j,Vf].eraseDups.length=2)(c:([z,Vn].any λ e=>O4 (λ _=>Bool) e (λ _ _=>true) λ _=>ap)=ap)(d:[z,Vn].all (foldedForSure 8)=ap)(f:[z,Vn].all (U3 8)=ap):J' [.Tuple [.Name j v,.Name Vf J] a Vi] (.Tuple [z,Vn] b VC) E=jB (some [j,Vf]):=CF (by rw[g];rfl) c (CG (if_pos (show(E.kindOf j==some .local&&v.line==v.line)=true by rw[k];exact beq_self_eq_true v.line)) (if_pos (show(E.kindOf Vf==some .local&&J.line==v.line)=true by rw[l];exact h))) i d f
def nP(k:g.kind=.function)(n:g.names.lookup j=some .local)(o:g.names.lookup Vf=some .local)(l:(J.line==v.line)=true)(m:[j,Vf].eraseDups.length=2)(d:([z,Vn].any λ e=>O4 (λ _=>Bool) e (λ _ _=>true) λ _=>ap)=ap)(f:[z,Vn].all (foldedForSure 8)=ap)(i:[z,Vn].all (U3 8)=ap):∀c:Env,c.scope=g->J' [.Tuple [.Name j v,.Name Vf J] a Vi] (.Tuple [z,Vn] b VC) c=jB (some [j,Vf]):=λ c h=>by
 subst h;exact CH (by unfold TV;refine k.symm▸?_;first|rfl|simp) n o l m d f i
noncomputable def lC:Str:=ac "0123456789abcdef"
noncomputable def lD:Str:=ac "0123456789ABCDEF"
noncomputable def fk(n:Int):Str:=if n%2==1 then lC else lD
noncomputable def qV:List Str:=[ac " ",ac "\n",ac " # it's\n#\n",ac "\t\n\n"]
noncomputable def hm(n:Int)(j:Nat):Str:=⟨#[(fk n).cps.getD (n/16^j%16).toNat 0]⟩
noncomputable def hn(n:Int):Str:=Txt.join aR [hm n 3,hm n 2,hm n 1,hm n 0]
noncomputable def cJ(k:Nat)(n:Int):Str:=qV.getD (((k:Int)+n/65536)%4).toNat aR
noncomputable def bG(l:List Int):Nat->Str×List Nat
 |0=>(aR,[])|k+1=>(((bG l k).1++cJ k (l.getD k 0))++hn (l.getD k 0),(bG l k).2++[((bG l k).1++cJ k (l.getD k 0)).length])
def qW(n:Int):(hn n).length=4:=rfl
def va(k:Nat)(n:Int):(cJ k n).length<=10:=by
 unfold cJ;have h:(((k:Int)+n/65536)%4).toNat<4:=oW;generalize(((k:Int)+n/65536)%4).toNat=i at h;rcases mB h with rfl|rfl|rfl|rfl<;>decide
theorem ia(l:List Int):∀k,(bG l k).1.length<=14*k/\(bG l k).2.length=k
 |0=>⟨aB 0,rfl⟩|k+1=>by
   refine am (ia l k) λ a b=>?_;have :=va k (l.getD k 0);constructor
   · show(((bG l k).1++cJ k (l.getD k 0))++hn (l.getD k 0)).length<=_;simp only[IN,IN];have q:=IW (IW a this) (Jc (qW (l.getD k 0)));exact q
   · show((bG l k).2++[_]).length=_;simp[b]
def vb:cu 284 283 (bB [31]) (a0 [31]) [nm "numbers"]:=.mk' (λ P=>by lia) (λ P=>by lia) (λ P=>⟨by lia,by lia,by lia,by lia,by lia,by lia⟩) (by decide) (by rfl) (by rfl) ⟨rfl,rfl⟩ rfl rfl rfl
noncomputable def eZ(l:List Nat):List bP:=l.map λ(n:Nat)=>.int (n:Int)
def CI(f:B.length<=100):Fn (a+1,true) (.ref 284) [Ls B] (Tu [.str (bG B B.length).1,.list (eZ (bG B B.length).2)]):=by
 have v:(2000:Nat)<=a9:=by decide
 refine Fn.of vb (λ P doc L f=>by
     refine ai (k2 f) ?_;rintro J rfl;lia) rfl ?_;let t:Nat->List (Str×PV):=λ i=>[(nm "src",S (bG B i).1),(nm "numbers",Ls B)];let H:Nat->List (Str×OL):=λ i=>[(nm "places",.p (eZ (bG B i).2))];refine ag.cons (St.u' (l:=.p []) rfl .str (ei.nil (.inl rfl)) (by rfl) (by rfl) (nP (by rfl) (by rfl) (by rfl) (by rfl) (by decide) (by rfl) (by rfl) (by rfl))) (ag.weaken (b:=t 0) ?_ ⟨rfl,rfl,trivial⟩);let s:List PV:=(dK 0 1 (B.length:Int).toNat).map λ i=>I i;have r:s.length=B.length:=by show(Tf _ _).length=_;simp[dK]
 refine ag.cons (St.nu s t H (λ i=>[(nm "k",I (i:Int))]) (λ i=>.next ((nm "src",S (bG B (i+1)).1)::(nm "src",S ((bG B i).1++cJ i (B.getD i 0)))::(nm "letters",S (fk (B.getD i 0)))::([(nm "k",I (i:Int))]++t i)) [(nm "places",.p (eZ (bG B i).2++[.int (((bG B i).1++cJ i (B.getD i 0)).length:Nat)]))]) ?_ (λ i p h=>?_) (λ i y q h=>?_) (λ i d=>?_) (λ i d=>⟨⟨rfl,rfl,trivial⟩,?_⟩)) ?_;·exact bg.tX rfl (Ev.bl h0) (Ev.cA (Fn.j0 (B:=B) (c6 f (aE true))) (Ev.bl dY) (.cons Ev.nm .nil)) (dh) (fC f (aE true))
 · have :p=I (i:Int):=by
     have e:s=(a1 B.length).map λ(i:Nat)=>I (i:Int):=by show(Tf _ _)=_;simp only[b4,qS,dQ];rfl
     rw[e,a']at h;refine ak (bh.mp h) λ j C D=>?_;have :=a8.mp C;refine ai this λ m u=>?_;simp at u;simp only[<-D,<-u]
   refine this.symm▸?_;exact .name
 · refine am (by simpa using h:y=nm "k"/\q=I (i:Int)) ?_;rintro rfl G;obtain rfl:=G;rfl
 · simp only[r]at d;have o:=(ia B i).1;have g:=va i (B.getD i 0);have E:(fk (B.getD i 0)).length=16:=by unfold fk;split<;>decide
   refine ag.cons (St.assign (V:=S (fk (B.getD i 0))) ?_ (by rfl)) (ag.cons (St.assign (V:=S ((bG B i).1++cJ i (B.getD i 0))) ?_ (by rfl)) (ag.cons (St.append (j:=nm "places") (l:=.p (eZ (bG B i).2)) (V:=I (((bG B i).1++cJ i (B.getD i 0)).length:Nat)) (by rfl) (.inl ?_) (by rfl) ?_) (ag.cons (St.assign (V:=S (bG B (i+1)).1) ?_ (by rfl)) ag.nil)))
   · have e:S (fk (B.getD i 0))=if(B.getD i 0%2==1)=true then S lC else S lD:=by unfold fk;split<;>rfl
     simp only[e];exact Ev.ite (Tr.cmp aD.jS (Ev.bJ (bb.iM (by decide)) (Ev.gO (B:=B) (a:=i) Ev.nm Ev.nm d (e5 d f (aE true))) .int) .int) (λ _=>.str) (λ _=>.str)
   · refine Ev.bJ (bb.iO (by rw[<-IN,IN];exact j4 (oX o d f g) (e3 v rfl))) Ev.nm ?_;refine Ev.dI (Vo:=qV.map .str) (C:=((i:Int)+B.getD i 0/65536)%4) (Ev.list (Vo:=qV.map .str) (e:=by decide) (.cons .str (.cons .str (.cons .str (.cons .str .nil))))) (Ev.bJ (bb.iM (by decide)) (Ev.bJ bb.fc Ev.nm (Ev.bJ (bb.fdiv (by decide) (by decide)) (Ev.gO (B:=B) (a:=i) Ev.nm Ev.nm d (e5 d f (aE true))) .int)) .int) (JB _ (by decide)) (LK (Jr _ (by decide)) (by decide)) ?_;unfold cJ;have h:(((i:Int)+B.getD i 0/65536)%4).toNat<4:=oW;generalize(((i:Int)+B.getD i 0/65536)%4).toNat=j at h;rcases mB h with rfl|rfl|rfl|rfl<;>rfl
   ·exact Ev.cA (Fn.hZ (by rw[IN];exact c6 (oX o d f g) rfl)) (Ev.bl dY) (.cons Ev.nm .nil)
   · show(eZ (bG B i).2).length<=a9;unfold eZ;simp only[be,(ia B i).2];exact j4 (j5 d) (a2 f (aE true))
   · show Ev _ _ _ _ (S (((bG B i).1++cJ i (B.getD i 0))++hn (B.getD i 0)));refine Ev.bJ (bb.iO (by simp only[IN,qW];exact j4 (gp (oX o d f g) 4) (e3 v rfl))) Ev.nm ?_;refine Ev.lj F.slot_str_join F.type_str_join (Vf:=aR) (Fn.join (G:=[hm (B.getD i 0) 3,hm (B.getD i 0) 2,hm (B.getD i 0) 1,hm (B.getD i 0) 0]) (by decide) (by simp only[uW,Ki,ML,OR,y3,L6];show 1+(1+(1+(1+0)))+4<=1048576;decide)) .str (.cons ?_ .nil);refine Ev.fe [nm "j"] [3,2,1,0] (λ(j:Nat)=>I (j:Int)) (λ j=>[(nm "j",I (j:Int))]) (λ _=>true) (λ j=>.str (hm (B.getD i 0) j)) (by rfl) ?_ (λ _=>rfl) (λ _ _=>.name) (λ _ _=>.nil) (λ j m _=>?_) (by decide);·exact bg.tY (h:=3) (b:=-1) (c:=-1) (a:=4) rfl (Ev.bl h0) .int (Ev.h7 .int) (Ev.h7 .int) (by decide) (by decide) (by decide) (by decide)
     · have w:j<4:=by simp at m;rcases m with rfl|rfl|rfl|rfl<;>decide
       have A:0<(16:Int)^((j:Int)).toNat/\(16:Int)^((j:Int)).toNat<1000000000:=by rcases mB w with rfl|rfl|rfl|rfl<;>decide
       refine Ev.m' (j:=fk (B.getD i 0)) (C:=B.getD i 0/16^j%16) Ev.nm ?_ (JB _ (by decide)) (LK (Jr _ (by decide)) (by decide)) ?_
       · refine Ev.bJ (bb.iM (by decide)) ?_ .int;have :=bb.fdiv (C:=B.getD i 0) (Vs:=(16:Int)^((j:Int)).toNat) A.1 A.2;simp only[b4]at this;refine Ev.bJ this (Ev.gO (B:=B) (a:=i) Ev.nm Ev.nm d (e5 d f (aE true))) ?_;have :=bb.Ah (C:=16) (Vs:=(j:Int)) (dh) (gw (hI w (aE true))) (by decide);simp only[b4]at this;exact Ev.bJ this .int Ev.nm
       · have z:(B.getD i 0/16^j%16).toNat<(fk (B.getD i 0)).cps.size:=by
           have :(fk (B.getD i 0)).cps.size=16:=E;exact this▸sC
         simp only[hq z,e0,hq z];rfl
 · rw[r]at d;show[(nm "places",OL.p (eZ (bG B i).2++[.int (((bG B i).1++cJ i (B.getD i 0)).length:Nat)]))]=[(nm "places",OL.p (eZ ((bG B i).2++[((bG B i).1++cJ i (B.getD i 0)).length])))];unfold eZ;rw[fs];rfl
 · rw[r];refine ag.last (St.ret (Ev.tuple (Vo:=[.str (bG B B.length).1,.list (eZ (bG B B.length).2)]) (f:=by show 2<=a9;decide) (.cons Ev.nm (.cons Ev.nm .nil)))) trivial
def CJ{M:LN}{a:List Env}{b:Unit->aa->Prop}(m:o.frames=some (E::a))(p:q.heap.FunFrames s (E::a))(i:E.frame=some h)(g:q.heap.get? Q=some O)(n:s.StaysIn q.heap)(l:s.get? Q=none)(f:O.data=.fields VB)(d:VB[1]?=some .none)(k:VB[0]?=some U)(j:∀c,Heap.NotedW s (E::a) Q O.cls U (JI h) q.heap c->b () {q with heap:=c}):aA M o (Nt (.ref Q) E) b y q:=by
 unfold Nt;rw[i];refine al (Jm g f d (bT (by decide) ?_));exact wpAny_entryW m p i g n l f (ec.mp d).1 k j
def FB.land{l:List Env}{Q:Unit->aa->Prop}(r:A.t=true)(F:FB A w c o g E q i D Vg Vp Y H)(z:o.frames=some (E::l))(kp:Kp H VJ)(VL:VJ.heap.get? h=some O)(VM:H.heap.get? h=none)(V0:O.data=.fields VB)(VW:VB[1]?=some .none)(VV:VB[0]?=some U)(V':¬bw O)(VZ:∀B C,M8 B (E::l) h O.cls U C->VJ.heap.UpToSlots C->(∀n,M8 B (E::l) h O.cls U n->VJ.heap.UpToSlots n->FB A w c o g E q i D Vg Vp Y {VJ with heap:=n}/\aZ A o w E Y H Y {VJ with heap:=n})->Q () {VJ with heap:=C}):aA (au P0 c) o (Nt (.ref h) E) (λ _ Wc=>aA (au P0 c) o (T4 (.ref h) none) Q y Wc) y VJ:=by
 have T:=F.kp kp;obtain⟨Wh,Wi,J,Wj,Wk⟩:=T.bi r;let B:=iX (λ b=>b=h\/FA o b) VJ.heap;have V:B.get? h=none:=jX (.inl rfl);refine ak (id J) λ l' V1 ok=>?_;have V2:l'=E::l:=by cases aO z V1;rfl
 subst V2;have VY:aC c B:=T.er.left.move λ b j a k=>gk.mpr ⟨λ p=>by
   rcases p with p|p
   · obtain rfl:=p.symm;rcases a with a|a;·exact ai (F.er.left.p0 a) λ j h=>bN VM h
     ·cases aO VL k;exact V' a
   · refine aH a (λ a=>?_) λ a=>?_;·exact fb.qO J a p
     · obtain⟨_,Wg,VR,d⟩:=J.fa p;cases aO k VR;exact eJ d a,k⟩;have eU:∀b j,H.heap.get? b=some j->¬FA o b->B.get? b=some j:=λ b j k G=>gk.mpr ⟨λ a=>by
   rcases a with rfl|a;·exact bN VM k
   ·exact G a,kp.keep b j k⟩;have mk:∀n,M8 B (E::l) h O.cls U n->VJ.heap.UpToSlots n->FB A w c o g E q i D Vg Vp Y {VJ with heap:=n}/\aZ A o w E Y H Y {VJ with heap:=n}:=λ n f u=>by
   have K:Kq true o H {VJ with heap:=n}:=by
     refine aW kp λ VN Wd VT VQ=>?_;subst VT;exact⟨n,Wd,rfl,λ b j G k=>f.1 b j (eU b j k (G rfl).2),λ b j fa d k=>(ai (u b _ (VQ b j k) d) λ VP t=>⟨VP,t⟩)⟩
   refine⟨F.kt r K (VY.keeps f.1),λ b j VO k=>K.ext.keep b j (λ _=>⟨λ a=>VO (.inr (.inr ⟨r,.inl a⟩)),λ a=>VO (.inr (.inr ⟨r,.inr a⟩))⟩) k,λ b v=>.inl v,λ _ v=>v,F.hO⟩
 refine CJ z (cH.nN ok λ Wf V3 L VX=>jX (.inr ⟨_,z,Wf,V3,VX⟩)) F.frame VL (λ b j h=>(gk.mp h).2) V V0 VW VV λ VN N=>aj λ M=>iB N λ V6 V7 V8 V9=>M (wpAny_landsW (s:={VJ with heap:=VN}) ⟨V6,V,V7,V8⟩ λ V4 VU We=>?_);exact VZ B V4 VU (λ b j k d=>by
   refine aj λ M=>ai (V9 b j k d) λ VP t=>ai (We b _ t d) λ Wb VS=>M ?_;exact⟨Wb,VS⟩) mk
def FA.around{A a:aq}(e:a.frames=A.frames):FA a=FA A:=by funext b;unfold FA;rw[e]
def aZ.around{a c:aq}{O d:List ae}(e:c.frames=a.frames)(f:aZ A a w E O q d H):aZ A c w E O q d H:=by
 have fa:=FA.around e;refine⟨λ b o i=>f.keep b o λ h=>i ?_,f.own,f.sub,λ b g=>⟨(f.eV b g).1,λ t=>?_⟩⟩;·unfold h2 at h⊢;refine fa.symm▸?_;exact h
 · have :=(f.eV b g).2 t;unfold ff at this⊢;refine fa.symm▸?_;exact this
theorem c'.around{d h:aq}{f:PI}(e:h.frames=d.frames){i:Go}(a:c' A w c d g E q Y H f VJ i):c' A w c h g E q Y H f VJ i:=by
 have B:∀{j l},gK A w c d g E q Y H j l VJ->gK A w c h g E q Y H j l VJ:=λ u=>by obtain⟨m,p,o,F,b⟩:=u;exact⟨m,p,o,F.around e,b.around e⟩
 cases i with
 |next=>exact⟨a.1,B a.2⟩|cont=>exact⟨a.1,B a.2⟩|brk=>exact⟨a.1,B a.2⟩|ret=>obtain⟨v,t,r,k,L,n⟩:=a;exact⟨v,t,r,k.frames e,L,n⟩
def NewExc(g:String)(e:ae)(d c:aa):Prop:=Kp d c/\d.heap.get? e=none/\∃a b f,c.heap.get? e=some a/\a.cls=.type g/\a.data=.fields b/\b[1]?=some .none/\b[0]?=some f/\¬bw a
def vc(x:Cx)(X:ae->Prop)(w:ar)(A:aq)(h:aw)(c:Env)(i:aa)(O:List ae)(s:aa)(d:String)(j:List (Str×PV))(k:List (Str×OL))(e:ae)(g:aa):Prop:=∃m f b a,FB x X w A h c i j k m f b a/\aZ x A X c O s b a/\NewExc d e a g
def nQ(x:Cx)(k:Lv)(b:aw)(g:List (Str×PV))(i:List (Str×OL))(st:Io)(d:String)(h:List (Str×PV))(j:List (Str×OL)):Prop:=∀(X:ae->Prop)(VM:ar)(A:aq),Rm k A->∀(VL:Env)(c s:aa)(Q:PI->aa->Prop)(E:ab->aa->Prop)m f O,FB x X VM A b VL c g i m f O s->(∀e a,vc x X VM A b VL c O s d h j e a->E (.ref e) a)->aA (au P0 VM) A (exec st VL) Q E s
def nR(x:Cx)(k:Lv)(b:aw)(g:List (Str×PV))(i:List (Str×OL))(VN:List Io)(d:String)(h:List (Str×PV))(j:List (Str×OL)):Prop:=∀(X:ae->Prop)(VM:ar)(A:aq),Rm k A->∀(VL:Env)(c s:aa)(Q:PI->aa->Prop)(E:ab->aa->Prop)m f O,FB x X VM A b VL c g i m f O s->(∀e a,vc x X VM A b VL c O s d h j e a->E (.ref e) a)->aA (au P0 VM) A (RH VN VL) Q E s
def nR.first{b c:List (Str×PV)}{d e:List (Str×OL)}{a:Io}(h:nQ A u g b d a VH c e):nR A u g b d (a::Vr) VH c e:=λ X w f l j o s Q E m i O F n=>iq (h X w f l j o s _ E m i O F n)
def St.CK{L M:List (Str×PV)}{N U:List (Str×OL)}{t:Io}{D:List Io}{y:Go}(C:A.t=true)(h:nR A (a,true) g L N Vr VH M U)(z:∀P,a5 P (ac VH)=none/\cR P (ac VH)=some (.type VH))(i:cG g (ac VH)=true)(VX:Km (.type VH) (.type "BaseException")=jB true)(V0:Km (.type ((RP VH).elim "type" λ A=>A.metatype)) (.type "tuple")=jB ap)(V2:Km (.type VH) (.type VH)=jB true)(V1:ag A (a,ap) g M U (t::D) y):St A (a,true) g L N (.Try Vr [.ExceptHandler (some (.Name (ac VH) v)) none (t::D) J] [] [] Vi) y:=λ X w d k u G s E m VN O F=>jF λ Q fin=>by
 refine aj λ r=>?_;obtain⟨Wf,Wg,Wh,⟨l,VY⟩,Wi⟩:=F.bi C;refine r ?_;unfold cG at i;simp only[ii,IT]at i;refine Nr (h X w d k u G s _ _ m VN O F λ e Wb R=>(aj λ r=>?_));obtain⟨V5,VO,VM,Wc,Y,VQ,kp,VZ,Wa,vs,V',VW,VU,VV,VT,VS,V6⟩:=R;refine r (Y.land C VY kp VW VZ VV VT VS V6 λ B V3 j H mk=>?_);have V:Rm (a,ap) (d.mark (some (.ref e))):=⟨k.depth,k.units,λ q=>by cases q⟩;refine RY (X:=VH) (T:=VH) (b:=true) VX V0 V2 (L7 (aG (qa (FB.around (f:=d) (h:=d.mark (some (.ref e))) rfl (mk V3 j H).1).er (nl i.1) (z _).1 (z _).2) (λ c Wd V8=>?_) λ _ _ A=>A) i.2);obtain⟨o,p⟩:=V8;subst o p;refine b3 rfl ?_ ?_
 · obtain⟨V7,o,p⟩:=j.there;exact bj V7 o (p.trans VU)
 · rw[if_pos rfl];refine lands_againW j λ V4 VP V9=>?_;obtain⟨VL,VR⟩:=mk V4 VP (H.trans V9);exact aG (V1 X w _ V u G _ _ V5 VO VM (FB.around (f:=d) (h:=d.mark (some (.ref e))) rfl VL)) (λ f We q=>(fin _ _ ((c'.around (d:=d.mark (some (.ref e))) (h:=d) rfl q).after (VQ.trans VR)))) λ _ _ A=>A
def nS(h:Kg Ve G):∀j(a:j<Ve.length)(b:j<G.length),∃t,Ve[j]=I4 G[j] t:=by induction h with
 |nil=>intro j a;simp at a|cons y u r c=>
  intro j a b;rcases j with _|j;·exact⟨u,rfl⟩
  ·exact c j (by simpa using a) (by simpa using b)
def vd(h:Kg Ve G):∀j,Kg (Ve.eraseIdx j) (G.eraseIdx j):=by induction h with
 |nil=>intro j;simp;exact .nil|cons y u r a=>
  intro j;rcases j with _|j;·exact r
  ·exact StrsAre.cons y u (a j)
def CL(D:q.heap.PlainList h Ve.toArray)(b:Kg Ve G)(L:j∈G)(J:Ve.length<=a9)(z:∀d,d.PlainList h (Ve.eraseIdx (G.idxOf j)).toArray->Js h q.heap d->Vh .none {q with heap:=d}):aA (au P0 c) o (I3 (.builtin "list.remove") [.ref h,.str j Vv]) Vh y q:=by
 refine ai D λ n g=>?_;have r:=h8 b;have m:G.idxOf j<G.length:=List.idxOf_lt_length_of_mem L;have f:G.idxOf j<Ve.length:=eO r m;refine KA LS ⟨_,g,rfl⟩ Sv (Sa _ _) (MeetsSeq.list_remove h Ve.toArray n (.str j Vv) (isStrOf j) (λ O M=>eq_isStrOf j Vv b O (by simpa using M)) (G.idxOf j) (by simpa using f) ?_ (λ i C H=>?_) (by simpa using J)) ⟨g,?_⟩
 · refine ai (nS b _ f m) λ u e=>?_;simp only[NH,e];rw[List.getElem_idxOf];exact beq_self_eq_true _
 · have k:i<Ve.length:=C;refine ai (nS b i k (je r k)) λ u e=>?_;simp only[NH,e];exact List.not_of_lt_findIdx (p:=(·==j)) (xs:=G) H
 · have B:Ve.toArray.eraseIdxIfInBounds (G.idxOf j)=(Ve.eraseIdx (G.idxOf j)).toArray:=by
     unfold P6;rw[dif_pos (by exact f)];simp
   have v:wx (λ N=>N.eraseIdxIfInBounds (G.idxOf j)) {cls:=.type "list",data:=.seq Ve.toArray n}={cls:=.type "list",data:=.seq (Ve.eraseIdx (G.idxOf j)).toArray (if(Ve.eraseIdx (G.idxOf j)).toArray.size==Ve.toArray.size then n else n+1)}:=by refine B▸?_;rfl
   refine z _ ⟨(if(Ve.eraseIdx (G.idxOf j)).toArray.size==Ve.toArray.size then n else n+1),?_⟩ (gR ..);rw[cQ _ g (by rw[v];rfl),v]
def CM(r:q.heap.PlainList h Ve.toArray)(b:Kg Ve G)(v:j∉G)(m:o.handled=none)(k:∀d C e,Heap.NewExc q.heap d e "ValueError"->y (.ref e) {q with heap:=d,toks:=C}):aA (au P0 c) o (I3 (.builtin "list.remove") [.ref h,.str j Vv]) Vh y q:=by
 refine ai r λ n g=>?_;refine KA LS ⟨_,g,rfl⟩ Sv (Sa _ _) (MeetsSeq.list_remove_none h Ve.toArray n (.str j Vv) (isStrOf j) (λ D z=>eq_isStrOf j Vv b D (by simpa using z)) (λ i p=>?_)) ⟨g,m,k⟩;have f:i<Ve.length:=p;refine ai (nS b i f (je (h8 b) f)) λ u e=>?_;simp only[NH,e];exact beq_eq_false_iff_ne.mpr λ B=>v (B▸IM _)
def RO.strs(r:RO w s Ve (.p (G.map .str))):Kg Ve G:=let⟨a,r⟩:=r;hY r
def RO.iZ(r:Kg Ve G):RO w s Ve (.p (G.map .str)):=by
 refine⟨[],?_⟩;induction r with
 |nil=>exact .nil|cons y u r a=>exact .cons (as:=[]) (.str y u) a
def St.qX(q:D.lookup j=some (.p (G.map .str)))(VL:Ev u g i z (S Vf))(VQ:Vf∈G)(VP:G.length<=a9)(Y:autoParam ((j==("__debug__":Str))=ap) ew)(c:autoParam (∀C b,bD (z::C) b=(ap,He z b)::bD C b) bc)(V:autoParam (∀b,Ka (.Name j v) (ac "remove") b (He (.Name j v) b)=He (.Name j v) b) cN)(VM:autoParam ((J.endLine==Vi.line)=true) bc):St A u g i D (.Expr (.Call (.Attribute (.Name j v) (ac "remove") J) [z] [] Vi) VC) (.next i (b8 j (.p ((G.eraseIdx (G.idxOf Vf)).map .str)) D)):=λ X w h T b VU s E m M O F=>by
 refine Pb ?_ (by unfold Op;rw[F.er.scope,F.er.kind];rfl);have n:(L9 Vi (bD [z] b)).any (·.1)=ap:=by rw[c];rfl
 refine JE (V b) (by rw[c];rfl) VM (h3 F q Y λ a vs VN V0 B VS=>?_);refine am (PlainList.ln B rfl) λ VV VW=>⟨"list","list.remove",Jv,LS,PJ,VV,VW,?_⟩;rw[c]at n⊢;refine Ir n (b1 ?_);have U:=a6.use T (z:=Vi) (E:=E) (.cons VL .nil c) (s:=s) (e:=s) (Q:=λ H d=>aA (au P0 w) h (I3 (.builtin "list.remove") ([.ref a]++H)) (λ VX d=>match VX with|.ref _=>False|_=>c' A X w h g b VU O s .next d (.next i (b8 j (.p ((G.eraseIdx (G.idxOf Vf)).map .str)) D))) E d) F.er (Kp.refl s) λ H d VT kp _ _=>by
  refine ak VT.one ?_;rintro V1 rfl r;refine ai r.str ?_;rintro t rfl;have f:=VS.strs;exact CL (B.at λ o z=>kp.keep _ _ z) f VQ (dS (h8 f) VP) λ h' VR VO=>am ((F.kp kp).lm (a:=d.toks) q VN (Ve:=vs.eraseIdx (G.idxOf Vf)) VR VO (RO.iZ (vd f _))) λ L N=>⟨rfl,m,M,O,L,(aZ.bR F.hO kp).trans N⟩
 rw[c]at U;exact U
def nQ.qX(VN:u.2=true)(VS:D.lookup j=some (.p (G.map .str)))(VP:Ev u g i z (S Vf))(VR:Vf∉G)(VO:autoParam ((j==("__debug__":Str))=ap) ew)(c:autoParam (∀L b,bD (z::L) b=(ap,He z b)::bD L b) bc)(VM:autoParam (∀b,Ka (.Name j v) (ac "remove") b (He (.Name j v) b)=He (.Name j v) b) cN)(VQ:autoParam ((J.endLine==Vi.line)=true) bc):nQ A u g i D (.Expr (.Call (.Attribute (.Name j v) (ac "remove") J) [z] [] Vi) VC) "ValueError" i D:=λ X w N f b V4 s Q E m T O F VL=>by
 refine Pb ?_ (by unfold Op;rw[F.er.scope,F.er.kind];rfl);have n:(L9 Vi (bD [z] b)).any (·.1)=ap:=by rw[c];rfl
 refine JE (VM b) (by rw[c];rfl) VQ (h3 F VS VO λ a vs V3 V2 B VV=>?_);refine am (PlainList.ln B rfl) λ VY VZ=>o' ("list") ("list.remove") Jv LS PJ VY VZ ?_;rw[c]at n⊢;refine Ir n (b1 ?_);have U:=a6.use f (z:=Vi) (E:=E) (.cons VP .nil c) (s:=s) (e:=s) (Q:=λ M d=>aA (au P0 w) N (I3 (.builtin "list.remove") ([.ref a]++M)) (λ V1 d=>match V1 with|.ref _=>False|_=>Q .next d) E d) F.er (Kp.refl s) λ M d VW kp _ _=>by
  refine ak VW.one ?_;rintro V6 rfl r;refine ai r.str ?_;rintro t rfl;exact CM (B.at λ o z=>kp.keep _ _ z) VV.strs VR (f.calm VN) λ Y V0 V ne=>VL V _ ⟨m,T,O,d,F.kp kp,.bR F.hO kp,⟨Y,V0,rfl,ne.keeps⟩,ne.new,(bS ne.there λ ob VX VU C H=>(sL ob _ VX VU C H rfl rfl (bw.hX C (by decide) H λ q t=>λ h=>by cases h)))⟩
 rw[c]at U;exact U
def Tr.ve(d:Ev u g i z (Li Vo))(h:Vo.length<2^62)(e:autoParam (∀b,isTrue z b (He z b)=(do let v<-He z b;NL z.pos;Mj [v] (truthy v))) cN):Tr u g i z (!Vo.isEmpty):=λ X w A c b s E R=>Sb (d.use c R (Kp.refl _) λ v y p _ j _=>by
  refine bI p.list λ t q r n x m o=>?_;obtain rfl:=n;have f:=cy o;refine wpAny_truthy_list m.isList (by simp;exact by rw[f];exact hI h rfl) ⟨?_,j.trans Kp.toks⟩;cases q<;>cases Vo<;>simp_all) (e b)
def St.CN{h VX v B VT:Pos}{f:Str}(L:D.lookup j=some (.p ((G++[f]).map .str)))(VR:ce g Vf=true)(VQ:G.length+1<=a9)(VM:autoParam ((j==("__debug__":Str))=ap) ew)(VL:autoParam (∀d,Ka (.Name j h) (ac "pop") d (He (.Name j h) d)=He (.Name j h) d) cN)(VO:autoParam ((v.endLine==B.line)=true) bc):St A u g i D (.Assign [.Name Vf VX] (.Call (.Attribute (.Name j h) (ac "pop") v) [] [] B) VT) (.next ((Vf,S f)::i) (bu Vf (b8 j (.p (G.map .str)) D))):=λ X w VZ V1 d V4 s E m V0 O F=>by
 refine Jh (JE (VL d) rfl VO (h3 F L VM λ a b VP V2 M VU=>(am (PlainList.ln M rfl) λ VV VW=>o' ("list") ("list.pop") Jv PySem.F.slot_list_pop PySem.F.type_list_pop VV VW ?_))) rfl;have o:=VU.strs;have c:=h8 o;simp only[eB,y3,L6]at c;refine aj λ VY=>ai (nS o G.length (bA iy (j7 c)) (by simp)) λ t e=>?_;have e:b[G.length]'(bA iy (j7 c))=I4 f t:=by simpa using e
 refine ai M λ n H=>VY ?_;have J:b.toArray.size-1=G.length:=by simp;exact hB c
 refine PySem.P.pop_list (y:=.str f t) H (by simp only[J,Nq,ay (bA iy (j7 c)),e]) ?_ (by simp;exact dS c VQ);refine J.symm▸?_;have VN:b.toArray.eraseIdxIfInBounds G.length=(b.eraseIdx G.length).toArray:=by
  unfold P6;rw[dif_pos (by simp;exact bA iy (j7 c))];simp
 have C:wx (λ r=>r.eraseIdxIfInBounds G.length) {cls:=.type "list",data:=.seq b.toArray n}={cls:=.type "list",data:=.seq (b.eraseIdx G.length).toArray (if(b.eraseIdx G.length).toArray.size==b.toArray.size then n else n+1)}:=by refine VN▸?_;rfl
 have N:=vd o G.length;have V:(G++[f]).eraseIdx G.length=G:=by rw[List.eraseIdx_append_of_length_le (aB _)];simp
 simp only[V]at N;refine am (F.lm (a:=s.toks) (s:=s.heap.update a (wx λ r=>r.eraseIdxIfInBounds G.length)) L VP (Ve:=b.eraseIdx G.length) ⟨(if(b.eraseIdx G.length).toArray.size==b.toArray.size then n else n+1),by rw[cQ _ H (by rw[C];rfl),C]⟩ (gR ..) (RO.iZ N)) λ Q Y=>?_;exact Q.store (dL VR) .mkStr λ V3 VS U T q=>⟨rfl,VS,U,O,T,Y.trans (.dn F.hO q)⟩
noncomputable def bf(VL as:List Str):Nat->List Str×List Str
 |0=>([],as)|VM+1=>if VL.getD (VL.length-1-VM) aR∈(bf VL as VM).2 then((bf VL as VM).1,(bf VL as VM).2.eraseIdx ((bf VL as VM).2.idxOf (VL.getD (VL.length-1-VM) aR)))else((bf VL as VM).1++[VL.getD (VL.length-1-VM) aR],(bf VL as VM).2)
theorem vf(VM as:List Str):∀VL,(bf VM as VL).1.length<=VL/\(bf VM as VL).2.length<=as.length
 |0=>⟨aB _,aB _⟩|VL+1=>by
   refine am (vf VM as VL) λ a b=>?_;by_cases q:VM.getD (VM.length-1-VL) aR∈(bf VM as VL).2
   · rw[show bf VM as (VL+1)=_ from if_pos q];refine⟨J0 a,an (List.length_eraseIdx_le _ _) b⟩
   · rw[show bf VM as (VL+1)=_ from if_neg q];exact⟨by simp;exact a,b⟩
def vg{a b:List Str}{i:Nat}(c:a.getD (a.length-1-i) aR∈(bf a b i).2):bf a b (i+1)=((bf a b i).1,(bf a b i).2.eraseIdx ((bf a b i).2.idxOf (a.getD (a.length-1-i) aR))):=if_pos c
def vh{a b:List Str}{i:Nat}(c:a.getD (a.length-1-i) aR∉(bf a b i).2):bf a b (i+1)=((bf a b i).1++[a.getD (a.length-1-i) aR],(bf a b i).2):=if_neg c
def CO(P:a3):a5 P (ac "ValueError")=none/\cR P (ac "ValueError")=some (.type "ValueError"):=⟨by lia,by lia⟩
def vi(b:a<G.length):G.take (G.length-a)=G.take (G.length-(a+1))++[G.getD (G.length-1-a) aR]:=by
 have c:G.length-(a+1)<G.length:=hH (gZ b) g0;simp only[(yb b),OQ c];congr 2;simp only[av,show G.length-1-a=G.length-(a+1)from by rw[MK,IE 1],ay c];rfl
def CP{b c:List Str}(o:A.t=true)(h:b.length<=1000)(m:c.length<=1000):ag A (a,true) (a0 [25]) [] [(nm "expected",.p (b.map .str)),(nm "actual",.p (c.map .str))] (bB [25]) (.ret (Tu [Ld (bf b c b.length).1,Ld (bf b c b.length).2])):=by
 have n:(2000:Nat)<=a9:=by decide
 let d:Nat->List (Str×OL):=λ i=>[(nm "missing",.p ((bf b c i).1.map .str)),(nm "expected",.p ((b.take (b.length-i)).map .str)),(nm "actual",.p ((bf b c i).2.map .str))];have j:[(nm "missing",OL.p []),(nm "expected",OL.p (b.map tl)),(nm "actual",OL.p (c.map tl))]=d 0:=by
   show _=[(nm "missing",OL.p ([].map tl)),(nm "expected",OL.p ((b.take (b.length-0)).map tl)),(nm "actual",OL.p (c.map tl))];simp only[KU,IL];rfl
 refine ag.cons St.doc (ag.cons (o:=[]) (p:=d 0) ?_ (ag.cons (St.lq b.length (λ _=>[]) d (λ i=>.next [(nm "item",S (b.getD (b.length-1-i) aR))] (d (i+1))) (λ i e=>?_) (λ i e=>?_) (λ i e=>⟨trivial,rfl⟩) (.inl ⟨?_,rfl⟩)) (ag.last (St.ret (Ev.tuple (Vo:=[Ld (bf b c b.length).1,Ld (bf b c b.length).2]) (f:=by show 2<=a9;decide) (.cons Ev.nm (.cons Ev.nm .nil)))) trivial)))
 · simp only[<-j];exact St.own (ei.nil (.inl rfl)) (by rfl)
 · refine Tr.eq (Tr.ve (Vo:=(b.take (b.length-i)).map .str) Ev.nm (by simp;exact c5 ji (c6 h (aE true)))) ?_;rw[vi e];simp
 · have q:d i=[(nm "missing",.p ((bf b c i).1.map .str)),(nm "expected",.p ((b.take (b.length-(i+1))++[b.getD (b.length-1-i) aR]).map .str)),(nm "actual",.p ((bf b c i).2.map .str))]:=by
     show[(nm "missing",_),(nm "expected",OL.p ((b.take (b.length-i)).map tl)),(nm "actual",_)]=_;rw[vi e]
   refine q.symm▸(am (vf b c i) λ r s=>?_);refine ag.cons (St.CN (G:=b.take (b.length-(i+1))) (by rfl) (by rfl) (by simp;exact an (H' (an (Nh _ _) h)) (e3 n rfl))) (ag.cons ?_ ag.nil);by_cases f:b.getD (b.length-1-i) aR∈(bf b c i).2
   · have g:d (i+1)=[(nm "missing",.p ((bf b c i).1.map .str)),(nm "expected",.p ((b.take (b.length-(i+1))).map .str)),(nm "actual",.p (((bf b c i).2.eraseIdx ((bf b c i).2.idxOf (b.getD (b.length-1-i) aR))).map .str))]:=by
       show[(nm "missing",OL.p ((bf b c (i+1)).1.map tl)),(nm "expected",_),(nm "actual",OL.p ((bf b c (i+1)).2.map tl))]=_;rw[vg f]
     rw[g];exact St.iU (ag.cons (St.qX (G:=(bf b c i).2) (by rfl) Ev.nm f (jo m s (aE true))) ag.nil)
   · have g:d (i+1)=[(nm "missing",.p ((bf b c i).1.map .str++[.str (b.getD (b.length-1-i) aR)])),(nm "expected",.p ((b.take (b.length-(i+1))).map .str)),(nm "actual",.p ((bf b c i).2.map .str))]:=by
       show[(nm "missing",OL.p ((bf b c (i+1)).1.map tl)),(nm "expected",_),(nm "actual",OL.p ((bf b c (i+1)).2.map tl))]=_;rw[vh f,fs];rfl
     rw[g];refine St.CK (VH:="ValueError") o (nR.first (nQ.qX (G:=(bf b c i).2) rfl (by rfl) Ev.nm f)) CO (by rfl) (by rw[kF];lia) (by rw[kF];lia) (by rw[kF];lia) (ag.cons (St.append (j:=nm "missing") (l:=.p ((bf b c i).1.map .str)) (V:=S (b.getD (b.length-1-i) aR)) (by rfl) (.inl Ev.nm) (by rfl) ?_) ag.nil);show((bf b c i).1.map tl).length<=a9;simp;exact j4 r (j4 (j5 e) (a2 h (aE true)))
 · refine Tr.eq (Tr.ve (Vo:=(b.take (b.length-b.length)).map .str) Ev.nm (by simp)) ?_;rw[Ng];rfl
noncomputable def fN(n:Nat)(h:a7):a7:=⟨h.objs.extract 0 n,h.life⟩
def CQ:(fN a s).get? b=some O↔b<a/\s.get? b=some O:=by
 have e:(s.objs.extract 0 a)[b]?=if b<a then s.objs[b]? else none:=by
   rw[Array.getElem?_extract];by_cases q:b<a
   · by_cases c:b<s.objs.size;·rw[if_pos (by exact mi q c),if_pos q,Im]
     ·rw[if_neg (show¬b<min a s.objs.size-0 from λ x=>c (aJ x (KV _ _))),if_pos q,Ib (j8 c)]
   ·rw[if_neg (show¬b<min a s.objs.size-0 from λ x=>q (aJ x (Nm _ _))),if_neg q]
 unfold Heap.get? fN;refine e.symm▸?_;by_cases q:b<a;·rw[if_pos q];simp[q]
 ·rw[if_neg q];simp[q]
def j1:(fN a s).get? h=some O↔h<a/\s.get? h=some O:=CQ
def CR(b:a<=s.objs.size):(fN a s).objs.size=a:=by unfold fN;simp;exact mq b
def FB.CS{vs VL:List ab}{l l':OL}(VN:A.t=true)(F:FB A w c o g E q i [] Vg Vp [] H)(VZ:i.lookup j=some (.raw (.ref h)))(V0:i.lookup Vf=some (.raw (.ref Q)))(VO:g.names.lookup j=some .local)(VP:g.names.lookup Vf=some .local)(Wf:j≠Vf)(VW:h≠Q)(V2:314<=Vq)(O:Vq<=h)(Wj:Vq<=Q)(Wk:¬w h)(Wl:¬w Q)(V7:q.heap.PlainList h vs.toArray)(V8:q.heap.PlainList Q VL.toArray)(Ws:∀Y t,RO Y t vs l)(Wt:∀Y t,RO Y t VL l'):FB A w c o g E {H with heap:=fN Vq H.heap} [] [(j,l),(Vf,l')] Vg Vp [h,Q] H:=by
 obtain⟨Wu,Wv,V9,Ww,Wx⟩:=F.bi VN;have VR:h<q.heap.objs.size:=by refine ai V7 λ _ e=>?_;exact az e
 have V5:∀f,¬w f->f<q.heap.objs.size->¬Ow w E f:=λ f Wn G k=>by
   refine ez k (λ k=>?_) (λ k=>?_) λ VU=>?_;·exact Wn k
   ·exact absurd F.fresh (IS.mpr (k▸G))
   ·exact ai VU λ Wm k=>absurd (an F.fresh (bn (F.above Wm f (mem_of_lookup k)))) (IS.mpr G)
 have V3:=V5 h Wk VR;have ob:=V5 Q Wl (by refine ai V8 λ _ e=>?_;exact az e);have keep:KX (Ow w E) q.heap H.heap:=λ f r VS e=>F.rel.ext.keep f r (λ _=>F.eU VN VS) e;have U:H.heap.PlainList h vs.toArray:=V7.at λ r e=>keep h r V3 e;have VT:H.heap.PlainList Q VL.toArray:=V8.at λ r e=>keep Q r ob e;have J:(fN Vq H.heap).objs.size=Vq:=CR (an O (bn (by refine ai U λ _ e=>?_;exact az e)));have raw:∀{v:Str}{f:ae},i.lookup v=some (.raw (.ref f))->g.names.lookup v=some .local->Vg v=some (.ref f):=λ{v f}We Wg=>by
   have V:=F.er.vars v _ We;have cB:=F.cB v;simp only[Wg]at cB;unfold cc at V;rw[cB]at V;obtain⟨Wi,u,Wq,D,Wr⟩:=V;have :Wi=Vg:=Wq.eq_nsMap.trans F.ns.eq_nsMap.symm;subst this;rw[D];exact congrArg some Wr
 have V6:∀f r,w f->¬bC f->f<q.heap.objs.size->H.heap.get? f=some r->¬bw r:=λ f r C T G e=>by
   refine ak (Wx f C T G) λ Wo Wa VS=>?_;by_cases VY:FA o f
   · obtain⟨_,WA,Wb,d⟩:=V9.fa VY;cases aO e Wb;exact eJ d
   · have :=F.rel.ext.keep f Wo (λ _=>⟨T,VY⟩) Wa;cases aO e this;exact VS
 have R:=F.er;have Wz:∀f,aL w E [] f->aL w E [h,Q] f:=λ f k=>k.elim .inl λ k=>by cases k
 have V':∀f,aL w E [h,Q] f->aL w E [] f\/f=h\/f=Q:=λ f k=>by
   refine aH k (λ k=>?_) λ k=>?_;·exact .inl (.inl k)
   ·simp only[aP,uR,or_false]at k;exact .inr k
 refine⟨⟨H.heap,H.toks,rfl,λ f r _ e=>(j1.mp e).2,λ f r _ _ e=>⟨r.slots,(j1.mp e).2⟩⟩,F.ns,by rw[J];exact an (an O (bn VR)) F.fresh,by simp only[J];exact V2,F.cell,F.cells,F.above,⟨R.left,R.scope,R.glob,R.blt,R.kind,λ f k=>?_,(λ v p e=>by cases e),R.cells⟩,λ f B=>?_,λ v L t=>?_,λ f B=>?_,?_,λ v Wy L Wh f Wc Wd M N=>?_,F.code,F.frame,F.qual,λ _=>⟨Wu,Wv,V9,Ww,λ f C T G=>?_⟩,λ _ f r C B e=>?_⟩
 · refine ez (V' f k) (λ k=>?_) ?_ λ VU=>?_;·exact R.ex f k
   · rintro rfl;refine ai U λ _ e=>?_;exact⟨_,e⟩
   · obtain rfl:=VU;refine ai VT λ _ e=>?_;exact⟨_,e⟩
 · show(fN Vq H.heap).objs.size<=f/\_;rw[J];simp only[aP,uR,or_false]at B;rcases B with rfl|rfl;·exact⟨O,V3⟩
   ·exact⟨Wj,ob⟩
 · rw[aN]at t;by_cases k:v=j
   · subst k;rw[beq_self_eq_true]at t;obtain rfl:=ax t;exact⟨h,vs,by simp only[F.cB];exact VO,raw VZ VO,.head _,U,Ws _ _⟩
   · rw[beq_eq_false_iff_ne.mpr k,aN]at t;by_cases D:v=Vf
     · subst D;rw[beq_self_eq_true]at t;obtain rfl:=ax t;exact⟨Q,VL,by rw[F.cB];exact VP,raw V0 VP,.tail _ (.head _),VT,Wt _ _⟩
     ·rw[beq_eq_false_iff_ne.mpr D]at t;exact aQ t
 · simp only[aP,uR,or_false]at B;rcases B with rfl|rfl;·exact⟨_,U⟩
   ·exact⟨_,VT⟩
 ·simpa using Wf
 · have two:∀v(L:OL),([(j,l),(Vf,l')]:List (Str×OL)).lookup v=some L->v=j\/v=Vf:=λ v L t=>by
     rw[aN]at t;by_cases k:v=j;·exact .inl k
     · rw[beq_eq_false_iff_ne.mpr k,aN]at t;by_cases D:v=Vf;·exact .inr D
       ·rw[beq_eq_false_iff_ne.mpr D]at t;exact aQ t
   have VV:=raw VZ VO;have VX:=raw V0 VP;rcases two v L Wc with rfl|rfl<;>rcases two Wy Wh Wd with rfl|rfl;·rfl
   ·rw[VV]at M;rw[VX]at N;exact(VW (RM (ax (M.trans N.symm)))).elim
   ·rw[VX]at M;rw[VV]at N;exact(VW (RM (ax (N.trans M.symm)))).elim
   ·rfl
 · have V1:f<Vq:=by
     have :f<(fN Vq H.heap).objs.size:=G;rwa[J]at this
   exact ai (R.ex f (.inl (.inl C))) λ r e=>⟨r,j1.mpr ⟨V1,e⟩,V6 f r C T (aJ V1 (an O (bn VR))) e⟩
 · by_cases k:q.heap.objs.size<=f;·exact F.xc VN f r C k e
   · refine V6 f r C (λ Wp=>?_) (IS.mp k) e;have :(fN Vq H.heap).objs.size<=f:=B;rw[J]at this;exact absurd (bC.lt Wp) (b'.mpr (an V2 this))
def vj:cu 191 190 (bB [25]) (a0 [25]) [nm "expected",nm "actual"]:=.mk' (λ P=>by lia) (λ P=>by lia) (λ P=>⟨by lia,by lia,by lia,by lia,by lia,by lia⟩) (by decide) (by rfl) (by rfl) ⟨rfl,rfl⟩ rfl rfl rfl
def CT{r u:List Str}(V6:r.length<=1000)(V7:u.length<=1000)(V8:Rm (a+1,true) o){vs VP:List ab}(L:aC c H.heap)(ex:Ex w H.heap)(T:fg o w H.heap)(VV:aC c q.heap)(kp:Kp q H)(B:∀g j,q.heap.get? g=some j->g<h/\g<Q)(V':h≠Q)(Wc:¬w h)(Wd:¬w Q)(VN:H.heap.PlainList h vs.toArray)(Wg:Kg vs r)(We:H.heap.PlainList Q VP.toArray)(Wh:Kg VP u):aA (au P0 c) o (I3 (.ref 191) [.ref h,.ref Q]) (λ v t=>RV w t.heap v (Tu [Ld (bf r u r.length).1,Ld (bf r u r.length).2])/\Kq true o q t/\aC c t.heap) Vh H:=by
 refine aj λ N=>?_;obtain⟨Wm,VY⟩:∃j,q.heap.get? 313=some j:=by
   refine ak (VV.objs (313,mO c.params) (ct (i:=268) (by lia)) rfl) λ j e _=>?_;exact⟨j,e⟩
 refine am (B 313 _ VY) λ V4 V5=>N ?_;let n:ae:=if h<=Q then h else Q;have VL:n<=h:=by show(if h<=Q then h else Q)<=h;split<;>first|exact aB _|(rename_i C;exact bn (IS.mp C))
 have Wb:n<=Q:=by show(if h<=Q then h else Q)<=Q;split<;>first|assumption|exact aB _
 have J:∀g,g<h->g<Q->g<n:=λ g G M=>by show g<(if h<=Q then h else Q);split<;>assumption
 refine jO (A:=⟨true,.ref 190,ac "unorderable_list_difference"++ac ".<locals>."⟩) (Vk:=[.raw (.ref h),.raw (.ref Q)]) (d:=⟨[.ref h,.ref Q],[]⟩) vj V8 L ex (.cons rfl (.cons rfl .nil)) rfl (λ doc=>by lia) rfl (λ _=>by lia) (λ _=>T) λ VZ D m VX Wa V9 F=>?_;refine aG (CP rfl V6 V7 w c _ V9 VZ _ D _ m VX [h,Q] (F.CS (j:=nm "expected") (Vf:=nm "actual") (Vq:=n) (l:=.p (r.map .str)) (l':=.p (u.map .str)) rfl (by rfl) (by rfl) (by rfl) (by rfl) (by decide) V' (J 313 V4 V5) VL Wb Wc Wd VN We (λ _ _=>RO.iZ Wg) (λ _ _=>RO.iZ Wh))) (λ f t VT=>?_) λ _ _ x=>x;obtain⟨v,e,Wf,kq,VU,_⟩:=VT;subst e;refine⟨Wf.mono λ _ C=>.inl C,?_,VU⟩;have O:Kq true o H D:=Kq.outer Wa F.rel;have U:Kq true o {D with heap:=fN n D.heap} t:=Kq.outer (λ VW e=>by
   rcases C:(fN n D.heap).get? VW with _|j;·rfl
   · have G:=(j1.mp C).1;cases aO F.frame e;exact absurd (aJ G (an VL (bn (by refine ai VN λ _ e=>?_;exact az e)))) (b'.mpr F.fresh)) kq;have VR:=O.ext;have VS:=U.ext;have Y:=kp.keep;refine aj λ N=>aW U λ V VO V3 _=>aW O λ Wl Wo V2 _=>aW kp λ Wk Wn V1 _=>N ?_;have r:t={q with heap:=V,toks:=VO}:=by simp only[V3,V2,V1]
 refine⟨V,VO,r,λ g j VM e=>?_,λ g j f d e=>?_⟩
 · have :=VS.keep g j VM (j1.mpr ⟨J g (B g j e).1 (B g j e).2,VR.keep g j VM (Y g j e)⟩);rw[r]at this;exact this
 · refine ai (VR.fr g j f d (Y g j e)) λ Wi G=>ai (VS.fr g {j with slots:=Wi} f d (j1.mpr ⟨J g (B g j e).1 (B g j e).2,G⟩)) λ Wj M=>?_;rw[r]at M;exact⟨Wj,M⟩
theorem vk{a:Type}{y:Str}:∀{l:List (Str×a)},y∉l.map (·.1)->l.reverse.lookup y=none
 |[],_=>rfl|(n,u)::r,h=>by
  rw[MD,hd,vk λ q=>h (.tail _ q)];have :y≠n:=λ q=>h (q▸.head _);rw[aN,beq_eq_false_iff_ne.mpr this];rfl
theorem qY{b:Type}{y:Str}{v:b}:∀{l:List (Str×b)},(l.map (·.1)).Nodup->l.lookup y=some v->l.reverse.lookup y=some v
 |[],_,h=>aQ h|(n,u)::r,e,h=>by
   refine am (Jf.mp (show(n::r.map (·.1)).Nodup from e)) λ c d=>?_;rw[MD,hd];rw[aN]at h;refine gy (M:=y==n) (λ a=>?_) λ a=>?_;·rw[a]at h;rw[qY d h];rfl
   · obtain rfl:=pW a;rw[a]at h;rw[vk c];simpa using h
def vl{j:List (Str×ae)}(t:E.locals=q.heap.objs.size)(u:E.scope=g)(z:E.cells=j)(VL:E.globals=FG)(VM:E.builtins=IV)(Q:g.kind=.function)(J:∀x∈g.names,x.2≠.cell)(T:∀n∈G,g.names.lookup n=some .local)(VQ:G.Nodup)(O:∀n,g.names.lookup n=some .free->(j.lookup n).isSome=true)(L:aC c q.heap)(H:Ex w q.heap)(VN:aU w q.heap Ve Vk)(VP:G.length=Vk.length)(M:∀n p,i.lookup n=some p->g.names.lookup n=some .free/\∃f v,j.lookup n=some f/\q.heap.IsCell f (some v)/\RV w q.heap v p)(k:s.Ns q.heap.objs.size Vg)(U:∀y v,(G.zip Ve).lookup y=some v->Vg y=some v)(h:KO q.heap s):bq (λ b=>w b\/b=E.locals) c g E s (G.zip Vk++i):=by
 have A:∀y,E.kindOf y=g.names.lookup y:=λ y=>by unfold KP;rw[u]
 rw[<-t]at k;have shift:∀{v:ab}{p:PV},RV w q.heap v p->RV (λ b=>w b\/b=E.locals) s v p:=λ r=>r.shift λ b o Y e=>⟨λ a=>a.elim Y (λ a=>(by rw[a,t,(cW (aB _))]at e;exact aQ e)),h b o e⟩;refine⟨L.keeps h,u,VL,VM,Q,λ b a=>?_,λ y p e=>?_,λ y a=>?_⟩
 · rcases a with a|a;·refine ai (H b a) λ o e=>?_;exact⟨o,h b o e⟩
   ·subst a;refine ak (Ns.c9 k) λ o e _=>?_;exact⟨o,e⟩
 · unfold cc;rw[A];rw[hd]at e;refine ey (x:=(G.zip Vk).lookup y) (λ d=>?_) λ VR d=>?_
   · rw[d]at e;refine aj λ l=>?_;obtain⟨N,f,v,B,C,D⟩:=M y p (by simpa using e);refine l ?_;rw[N];exact⟨f,v,by rw[z];exact B,C.keeps h,shift D⟩
   · rw[d]at e;obtain rfl:=ax e;refine aj λ l=>ak (VN.zip d) λ v V VO=>l ?_;rw[T y (L5 (eF d)).1];exact⟨_,v,k,U y v V,shift VO⟩
 · rw[A]at a;rw[z];rcases a with a|a;·exact(J _ (eF a) rfl).elim
   ·exact O y a
def vm{f:Iv}{l:List (Str×ae)}(VY:q.heap.get? h=some O)(VV:O.data=.func f)(VU:q.heap.CodeRec f.code f.qualname)(f2:f.body=.expr z)(f3:f.closure=l)(r:f.scope=g)(f5:f.globals=FG)(f6:f.builtins=IV)(VT:g.isCoroutine=ap)(VX:g.isGenerator=ap)(D:g.kind=.function)(C:∀x∈g.names,x.2≠.cell)(J:∀n∈G,g.names.lookup n=some .local)(N:G.Nodup)(VW:∀n,g.names.lookup n=some .free->(l.lookup n).isSome=true)(B:Rm (a+1,M) o)(L:aC c q.heap)(ex:Ex w q.heap)(U:aU w q.heap Ve Vk)(H:G.length=Vk.length)(VR:J6 f ⟨Ve,[]⟩=jB (G.zip Ve))(VS:∀n p,i.lookup n=some p->g.names.lookup n=some .free/\∃u v,l.lookup n=some u/\q.heap.IsCell u (some v)/\RV w q.heap v p)(VQ:∀d j V m,d.frame=some d.locals->d.scope=g->q.heap.objs.size<=d.locals->Rm (a,M) (o.deeper d)->bq (λ b=>w b\/b=d.locals) c g d j (G.zip Vk++i)->Kp q {q with heap:=j,toks:=V}->j.Ns d.locals m->aA (au P0 c) (o.deeper d) (He z d) y (λ e V2=>aA (au P0 c) (o.deeper d) (OG d e) (λ _ t=>Vh e t) (λ Y t=>Vh Y t) V2) {q with heap:=j,toks:=V}):aA (au P0 c) o (I3 (.ref h) Ve) y Vh q:=by
 refine Jg (kla_callFunE (by have :=B.depth;exact c5 dG (fy this)) VY VV (by rw[r];exact VT) (by rw[r];exact VX) f2 VU ?_);rw[VR,f3,r,f5,f6];refine ah (Om C (λ x V1=>J x.1 (L5 V1).1) (λ j T VZ=>?_) D);have keep:KO q.heap j:=λ b O e=>VZ.extBut b O (br (az e)) (ao _ e);refine⟨L.noLimit.keeps keep,kla_codeExpr ?_⟩;refine VQ _ j _ _ rfl rfl (aB _) (B.deeper _) (vl rfl rfl rfl rfl rfl D C J N VW L ex U H VS T (λ V3 v V0=>qY (by rw[LY (oM H U.len)];exact N) V0) keep) ⟨j,_,rfl,keep⟩ T
structure ho(a:Iv)(q:Str)(c:Jk)(body:b7)(d:aw)(b:List (Str×ae)):Prop where
 params:a.params=c
 body:a.body=.expr body
 scope:a.scope=d
 mZ:a.closure=b
 glob:a.globals=FG
 blt:a.builtins=IV
 qual:a.qualname=q
 dflt:a.defaults=.none
 kw:a.kwdefaults=.none
structure vn(a:aw)(b:List Str)(c:List (Str×ae)):Prop where
 co:a.isCoroutine=ap
 gen:a.isGenerator=ap
 kind:a.kind=.function
 cell:∀x∈a.names,x.2≠.cell
 loc:∀n∈b,a.names.lookup n=some .local
 nodup:b.Nodup
 free:∀n,a.names.lookup n=some .free->(c.lookup n).isSome=true
def h9.CU{o VV:Obj}{C:Iv}{Wb:Jk}{cl:List (Str×ae)}{Y We:List PV}{VO:List (Str×PV)}{VZ:List (ae×Obj)}(Wu:o.data=.func C)(D:ho C j Wb (.Call (.Name Vf v) (z::Vt) [] J) g cl)(Ws:C.code=.ref Vq)(WA:VV.data=.fields VB)(WC:VB[1]?=some (.str j Vv))(S:vn g G cl)(Wz:G.length=Y.length)(Wr:∀C,ho C j Wb (.Call (.Name Vf v) (z::Vt) [] J) g cl->∀VX,VX.length=Y.length->J6 C ⟨VX,[]⟩=jB (G.zip VX))(Wt:∀(X:ae->Prop)(VR:a7),(∀p∈VZ,¬X p.1/\VR.get? p.1=some p.2)->∀n p,VO.lookup n=some p->g.names.lookup n=some .free/\∃V2 N,cl.lookup n=some V2/\VR.IsCell V2 (some N)/\RV X VR N p)(Wx:∀w,fI w Vw)(Wq:ef (a,M) (.ref Vw) We V)(Ww:Ev (a,M) g (G.zip Y++VO) (.Name Vf v) (.raw (.ref Vw)))(V7:a6 (a,M) g (G.zip Y++VO) (z::Vt) We):h9 (a+1,M) (.ref h) ((h,o)::(Vq,VV)::VZ) Y V:=λ X w A Wp s vs E L ex T VT VN=>by
 refine vm (i:=VO) (G:=G) (Vk:=Y) (VT _ (.head _)).2 Wu ?_ D.body D.mZ D.scope D.glob D.blt S.co S.gen S.kind S.cell S.loc S.nodup S.free Wp L ex VN Wz (Wr C D vs VN.len) (Wt X s.heap λ p VU=>VT p (.tail _ (.tail _ VU))) λ t WZ W3 m Wc WS Wd VS R kp ns=>?_
 · simp only[Ws,D.qual];exact⟨Vq,VV,VB,Vv,rfl,(VT _ (.tail _ (.head _))).2,WA,WC⟩
 · refine dr (Ww.use VS R kp λ N WW WU WF WG V0=>?_);obtain rfl:N=.ref Vw:=WU;have VU:=V7.plain (E:=t) (v:=J);refine aW (Wx w _ V0.left) λ of Wn WB Wv=>?_;have V6:∀b,FA (A.deeper t) b->FA A b\/b=t.locals:=λ b VW=>by
     obtain⟨l,h,Vf,B,j⟩:=VW;have VQ:A.frames.map (t::·)=some l:=h;refine ak (bh.mp VQ) λ l' Wi M=>?_;subst M;rcases aP.mp B with rfl|B;·cases aO Wc j;exact .inr rfl
     ·exact .inl ⟨l',Wi,Vf,B,j⟩
   have Wo:∀b,FA A b->FA (A.deeper t) b:=λ b VW=>by obtain⟨l,h,Vf,B,j⟩:=VW;exact⟨t::l,by show A.frames.map _=_;rw[h];rfl,Vf,.tail _ B,j⟩
   refine di V7.cut λ _ _ WT VQ b V8=>?_;obtain rfl:=WT;have U:=a6.use VS (z:=J) (.cons VQ b V8) (s:=WW) (e:=s) (E:=λ z u=>aA (au P0 w) (A.deeper t) (OG t z) (λ _ H=>E z H) (λ O H=>E O H) u) (Q:=λ vs u=>(u.heap.get? Vw=some of/\of.data=.func Wn)/\aA (au P0 w) (A.deeper t) (I3 (.ref Vw) vs) (λ N u=>RV X u.heap N V/\Kq true A s u/\aC w u.heap) (λ z u=>aA (au P0 w) (A.deeper t) (OG t z) (λ _ H=>E z H) (λ O H=>E O H) u) u) V0 WG λ WY Wf WV V' VM V1=>⟨⟨V'.keep _ _ WB,Wv⟩,by
       have WD:∀b o,s.heap.get? b=some o->b≠t.locals:=λ b o z=>br (aJ (az z) Wd);refine ak (Ns.c9 ((ns.keeps WF.keep).keeps V'.keep)) λ WL V4 V3=>?_;obtain⟨W1,Wk⟩:∃o,s.heap.get? 313=some o:=by
         refine ak (L.objs (313,mO w.params) (ct (i:=268) (by lia)) rfl) λ o z _=>?_;exact⟨o,z⟩
       have Wj:314<=t.locals:=an (az Wk) Wd;have Wh:fg (A.deeper t) (λ b=>X b\/b=t.locals) Wf.heap:=by
         refine⟨λ b j=>.inl (T.tab b j),λ b j=>(V6 b j).elim (λ j=>.inl (T.fa b j)) .inr,?_,λ b o j WJ z=>?_⟩
         · refine ak T.fr λ l Wy ok=>?_;refine⟨t::l,by show A.frames.map _=_;rw[Wy];rfl,λ Vf B=>?_⟩;rcases aP.mp B with rfl|B;·exact⟨(λ j=>(by rw[WS,S.kind]at j;cases j)),_,WL,Wc,Wj,V4,V3⟩
           · obtain⟨p1,VP,o,p2,p3,p4,p5⟩:=ok Vf B;exact⟨p1,VP,o,p2,p3,VM.keep _ _ p4,p5⟩
         · rcases j with j|j
           · refine ai (ex b j) λ WK O=>?_;have :=VM.keep b WK O;cases aO z this;exact T.code b o j WJ O
           · subst j;cases aO V4 z;exact eJ V3
       refine aG (Wq _ w _ VS Wf WY _ V1.left V1.ex Wh WV) (λ N W2⟨VN,K,VP⟩=>⟨VN.mono λ b j=>.inl j,?_,VP⟩) λ _ _ x=>x;have Wg:=K.ext;have V9:=VM.keep;refine aW K λ WE WX Wm _=>aW VM λ W0 W4 Wl _=>?_;subst Wl Wm;refine⟨WE,WX,rfl,λ b o Wa z=>Wg.keep b o (λ _=>⟨(Wa rfl).1,λ j=>(V6 b j).elim (Wa rfl).2 (WD b o z)⟩) (V9 b o z),λ b o Vw d z=>Wg.fr b o (Wo b Vw) d (V9 b o z)⟩⟩;simp only[V8]at U VU⊢;exact rS (b1 U)
def qZ(o:Obj):Prop:=(∃b n,o.data=.seq b n)\/∃a n,o.data=.dict a n
def fP(h:a7)(P:a7->Prop):Prop:=∃L:List (ae×Obj),(∀q∈L,qZ q.2/\h.get? q.1=some q.2)/\∀a:a7,(∀q∈L,a.get? q.1=some q.2)->P a
def fP.all{P:a7->Prop}(k:∀a,P a):fP s P:=⟨[],λ _ q=>absurd q uR,λ _ _=>k _⟩
def fP.and{P Q R:a7->Prop}(a:fP s P)(b:fP s Q)(k:∀c,P c->Q c->R c):fP s R:=by exact ak a λ L f g=>ak b λ M d e=>bj (L++M) (λ q m=>(k9.mp m).elim (f q) (d q)) (λ c m=>k c (g c λ q n=>m q (Ip _ n)) (e c λ q n=>m q (jq _ n)))
def fP.at{P Q:a7->Prop}(e:s.get? h=some O)(d:qZ O)(b:fP s P)(k:∀c,c.get? h=some O->P c->Q c):fP s Q:=.and ⟨[(h,O)],λ q m=>aI.mp m▸⟨d,e⟩,λ c m=>m _ (.head _)⟩ b k
def vo(r:QO s U VI Y):fP s λ f=>QO f U VI Y:=Reads.rec (motive_1:=λ U VI Y _=>fP s λ f=>QO f U VI Y) (motive_2:=λ U VI Y _=>fP s λ f=>ga f U VI Y) (.all λ _=>.none) (λ b=>.all λ _=>.bool b) (λ i t=>.all λ _=>.int i t) (λ x t=>.all λ _=>.str x t) (λ g j a _ c=>.at g (.inl ⟨_,_,a⟩) c λ _ e q=>.list e j a q) (λ g j a _ c=>.at g (.inl ⟨_,_,a⟩) c λ _ e q=>.tuple e j a q) (λ g j a _ _ c k=>.at g (.inr ⟨_,_,a⟩) (.and c k λ _=>Pp) λ _ e q=>.dict e j a q.1 q.2) (.all λ _=>.nil) (λ _ _ c k=>.and c k λ _=>.cons) r
def RV.CV(r:RV VG s U (.d VI))(e:∀b o,w b->s.get? b=some o->qZ o->VG b):RV w s U (.d VI):=by exact aj λ i=>ai r λ a r=>ak (vo r) λ L f g=>i ⟨a,g _ λ q m=>dW.mpr ⟨λ c=>dH (f q m).2 (e _ _ c (dm (f q m).2) (f q m).1),e' (f q m).2,dm (f q m).2⟩⟩
def gm(X:ae->Prop)(a:Env)(O:List ae)(b:ae):Prop:=aL X a O b/\¬∃n,a.cells.lookup n=some b
def FB.nU(d:A.t=true)(F:FB A w c o g E q i D Vg Vp Y H):fg o (gm w E Y) H.heap:=by
 have T:=F.lA d;exact⟨λ b a=>⟨T.tab b a,λ⟨n,e⟩=>((F.nq d e).1 a)⟩,λ b a=>⟨T.fa b a,λ⟨n,e⟩=>(F.nq d e).2 a⟩,T.fr,λ b h a f e=>T.code b h a.1 f e⟩
def FB.q0(F:FB A w c o g E q i D Vg Vp Y H):Ex (gm w E Y) H.heap:=λ b a=>F.er.ex b a.1
def FB.CW(F:FB A w c o g E q i D Vg Vp Y H)(r:RV (gm w E Y) H.heap U (.d VI)):RV (aL w E Y) H.heap U (.d VI):=r.CV λ b t j e a=>⟨j,λ⟨n,l⟩=>by
  refine ak (F.cell n b l) λ u h f=>?_;cases aO e h;rcases a with⟨y,k,a⟩|⟨p,k,a⟩<;>(rw[a]at f;cases f)⟩
noncomputable def bH:Cx:=⟨true,.ref 312,ac "law"++ac ".<locals>."⟩
def FB.lam{V:Jk}{VM:List (Str×ae)}(F:FB bH w c o g E H i D Vg Vp Y VJ)(V4:Pc V E=([],[]))(VT:NQ VK E=jB VM)(V3:∀a x k r n p t B,B.heap.get? a=some x->x.data=.func k->ho k eS V z VK VM->k.code=.ref r->B.heap.get? r=some n->n.data=.fields p->p[1]?=some (.str eS t)->¬aL w E Y a->¬aL w E Y r->Kq true o VJ B->aC c B.heap->Vh (.ref a) B):aA (au P0 c) o (He (.Lambda V z VK v) E) Vh y VJ:=by
 refine kla_eval V4 ?_;rw[show(E.qual++(("<lambda>":String):Str))=eS from(by rw[F.qual rfl];decide)];have L:=F.er.left;refine ci L.g9 λ VL N VP VR=>?_;have fin:∀(d:a7)(h:Nat)(k:Iv)(j:ae)(l:Kq true o VJ {VJ with heap:=d,toks:=h})(M:aC c d)(U:VJ.heap.objs.size<=d.objs.size)(VV:ho k eS V z VK VM)(VS:k.code=.ref j)(VU:d.CodeRec (.ref j) eS)(VX:¬aL w E Y j),Vh (.ref d.objs.size) {VJ with heap:=d.push {cls:=.type "function",data:=.func k},toks:=h}:=λ d h k j l M U VV VS VU VX=>by
   refine du VU λ r n p t VN C G J=>?_;cases VN;have V7:Kp {VJ with heap:=d,toks:=h} {VJ with heap:=d.push {cls:=.type "function",data:=.func k},toks:=h}:=⟨_,_,rfl,λ b x e=>ao _ e⟩;exact V3 _ _ k j n p t _ (aF _ rfl) rfl VV VS (ao _ C) G J (F.er.ex.fresh U) VX (l.trans V7.kq) (M.keeps λ b x e=>ao _ e)
 rcases VO:MH v VL.toList with _|V8
 · refine kla_makeFunction (mg:=a5 c.params) (c:=312) (P:=310) (ps:=VL) VT F.er.glob L.mg F.code L.qH N VP VO (by decide) (L.nH (by decide)) λ r V2 d h u VW V5 VY V6=>?_;have l:Kq true o VJ {VJ with heap:=d,toks:=h}:=Kq.tab (h:=310) rfl (λ b f=>((F.bi rfl).dA.fa f).1) u;have M:aC c d:=L.grow rfl u (nJ (by decide) L.g9.is u L.g8) (uQ ⟨VL,N,VP,VR⟩ N u VY V6) (uP (by decide) (by decide) L.g9.is u L.g');exact fin d h _ r l M (bn (bz VW V5)) ⟨rfl,rfl,rfl,rfl,rfl,rfl,rfl,rfl,rfl⟩ rfl VY (F.er.ex.fresh VW)
 · refine aj λ VQ=>du (VR _ _ VO) λ j n p t VN C G J=>?_;subst VN;refine VQ (kla_makeFunctionHit (mg:=a5 c.params) (c:=312) (P:=310) (ps:=VL) VT F.er.glob L.mg F.code L.qH N VP VO (L.nH (by decide)) λ V2 d h l U=>?_);exact aj λ VQ=>ci (qL L (h:=j) (j:=eS) ⟨j,n,p,t,rfl,C,G,J⟩) λ x VZ V0 V1=>VQ (fin d h _ j ⟨d,h,rfl,.of_keeps l⟩ (L.keeps l) U ⟨rfl,rfl,rfl,rfl,rfl,rfl,rfl,rfl,rfl⟩ rfl ⟨j,n,p,t,rfl,l _ _ C,G,J⟩ (F.qJ rfl VZ V0 V1))
def CX(P:a3):a5 P (ac "max")=none/\cR P (ac "max")=some (.builtin "max"):=⟨by lia,by lia⟩
def Fn.CY(G:u.2=true)(n:C∈B)(D:∀a,a∈B->a<=C):Fn u (.builtin "max") [Ls B] (I C):=λ X w A z s V E L ex r=>by
 refine aj λ Y=>?_;refine ak r.one ?_;rintro VO rfl q;refine bI q.list ?_;rintro a V as rfl VN O Q;have g:=ni Q;refine ai g.allInts.items λ b e=>Y ?_;have c:B=b.toList.map (·.1):=by rw[<-g.numsOf,<-nums_intItems,<-e]
 have o:0<b.size:=by have d:=QC n;simp only[c,be,aX]at d;exact d
 have m:=O.isList;simp only[e]at m;refine max_intList (z.calm G) m o λ v p T J H=>?_;refine ai (intItems_at J) ?_;rintro t rfl;refine am (argBest_gt (SI b) (b.size-1)) λ x y=>?_;have N:SI b (argBest (λ i j=>bF (SI b i>SI b j)) (b.size-1))∈B:=by rw[c,numAt_eq];exact getD_mem (by simp only[be,aX];exact je (r2 o) (dt x))
 have U:∀a∈B,a<=SI b (argBest (λ i j=>bF (SI b i>SI b j)) (b.size-1)):=λ a f=>by
  rw[c]at f;refine ak (mem_getD f) ?_;rintro j h rfl;simp only[be,aX]at h;rw[<-numAt_eq];exact y j (jn h)
 exact⟨by rw[<-(Mg (D _ N) (U _ n))];exact .mkInt,⟨p,T,rfl,H⟩⟩
def CZ(P:a3):a5 P (ac "type")=none/\cR P (ac "type")=some (.type "type"):=⟨by lia,by lia⟩
def Fn.C0:Fn u (.type "type") [I C] (.raw (.type "int")):=λ X w A d s e E L c r=>by
 refine aj λ b=>?_;refine ak r.one λ f a q=>?_;obtain rfl:=a;refine ai q.int ?_;rintro t rfl;exact b (call_type_of (typeIs_int _ _ _) (by decide) ⟨rfl,Kp.refl _⟩)
def aD.C1:aD .IsNot (.raw (.type VH)) (.raw (.type VH)) ap:=λ X w A f s a b E e c d=>by
 obtain rfl:a=.type VH:=c;obtain rfl:b=.type VH:=d;show aA (au P0 w) A (do return T' (!(<-U1 (.type VH) (.type VH)))) _ _ _;unfold U1;simp only[beq_self_eq_true,if_true];exact al (ah (ah ⟨rfl,Kp.refl _⟩))
def C2(h:a7)(e:ae):Prop:=∃a b,h.get? e=some a/\a.data=.fields b/\b[2]?=some .none
def Hd(A:aq)(h:a7):Prop:=A.handled=none\/∃e,A.handled=some (.ref e)/\C2 h e
def C2.keeps(k:KO s Vm):C2 s h->C2 Vm h:=λ c=>by refine aW c λ o d a b=>?_;exact dw o d (k _ _ a) b
def Hd.keeps(k:KO s Vm):Hd o s->Hd o Vm:=λ H=>H.imp_right λ c=>by refine ak c λ e a b=>?_;exact bj e a (b.keeps k)
def j2(b:String)(A:aq)(e:ae)(s a:aa):Prop:=NewExc b e s a/\(A.handled=none->C2 a.heap e)
def lE(k:Lv)(c:aw)(d:List (Str×PV))(e:b7)(b:String):Prop:=∀(X:ae->Prop)(VN:ar)(A:aq),Rm k A->∀(VM:Env)(s:aa)(Q E:ab->aa->Prop),Hd A s.heap->bq X VN c VM s.heap d->(∀e a,j2 b A e s a->E (.ref e) a)->aA (au P0 VN) A (He e VM) Q E s
def lF(k:Lv)(c:aw)(d:List (Str×PV))(e:b7)(b:String):Prop:=∀(X:ae->Prop)(VN:ar)(A:aq),Rm k A->∀(VM:Env)(s:aa)(Q:Bool->aa->Prop)(E:ab->aa->Prop),Hd A s.heap->bq X VN c VM s.heap d->(∀e a,j2 b A e s a->E (.ref e) a)->aA (au P0 VN) A (isTrue e VM (He e VM)) Q E s
noncomputable def nV(b:String)(a c:ab):Obj:={cls:=.type b,dict:=none,data:=.fields #[a,.none,c,.none,.bool ap,.none]}
def C3{a c:ab}(b:VH≠"code"):¬bw (nV VH a c):=bw.hX (VH:=VH) (VB:=#[a,.none,c,.none,.bool ap,.none]) rfl b rfl λ q t=>λ h=>by cases h
def j2.of{d c:ab}(k:Kp q H)(j:KO H.heap s)(n:H.heap.get? h=none)(f:s.get? h=some (nV VH d c))(i:o.handled=none->c=.none)(g:VH≠"code"):j2 VH o h q {H with heap:=s,toks:=a}:=by
 refine⟨⟨k.trans ⟨s,a,rfl,j⟩,?_,_,_,d,f,rfl,rfl,rfl,rfl,C3 g⟩,λ b=>⟨_,_,f,rfl,by rw[i b];rfl⟩⟩;rcases b:q.heap.get? h with _|l;·rfl
 · have :=k.keep h l b;exact bN n this
def C4:KH Kl "proto.unchain"=some Builtin.«proto.unchain»:=entryFor_of_fast (by lia)
def C5(d:C2 q.heap Q)(a:Vh .none q):aA (au P0 c) o (runValue (.builtin "proto.unchain" ⟨[.ref h,.ref Q,.ref Q,.bool ap],[]⟩)) Vh y q:=by
 refine aj λ i=>bS d λ j k g f b=>i (Ol (hN C4 ?_));unfold Builtin.«proto.unchain»;refine al (Jm g f b (eP (by rfl) ?_));exact ah a
def nW{g p:String}{Q:Vd->aa->Prop}(n:PlainExc g)(f:Hd o q.heap)(h:∀k G e v d,(KO q.heap k)->q.heap.get? e=none->k.get? e=some (nV g v d)->(o.handled=none->d=.none)->y (.ref e) {q with heap:=k,toks:=G}):aA (au P0 c) o (Uv g p:Sem Vd) Q y q:=by
 unfold Uv;refine af (wpAny_mkText (af ?_));unfold UX UU;refine af (Ih ?_);refine af (m:=L2 _ _) (cx (a:=I9) (by simp only[L2,n.first];rfl) ?_);simp only[n.own];refine Ih ?_;unfold UT;refine af (Ri ?_);have j:∀(r u:Obj)b x,q.heap.get? b=some x->((q.heap.push r).push u).get? b=some x:=λ r u b x i=>ao _ (ao _ i);rcases f with f|⟨d,f,l⟩
 · rw[f];first
     |refine Ok ?_|refine af (ah (Ok ?_))
   exact h _ _ _ (.ref q.heap.objs.size) .none (j _ _) (Q7 (by simp)) (aF _ rfl) (λ _=>rfl)
 · refine f.symm▸(aj λ H=>(aW (id l) λ J _ B _=>H ?_));have z:∀t:Nat,q.heap.objs.size<=t->(hk d !=hk t)=true:=λ t C=>by
     have :d≠t:=br (aJ (az B) C);simpa using this
   refine eP (z _ (by simp)) ?_;refine af (aK (C5 (l.keeps (j _ _)) (af (Kk (o:={cls:=.type g,dict:=none,data:=.fields #[.ref q.heap.objs.size,.none,.none,.none,.bool ap,.none]}) (aF _ rfl) rfl (by simp) (Ok ?_)))));refine h _ _ _ (.ref q.heap.objs.size) (.ref d) (λ b x i=>?_) (Q7 (by simp)) (cQ _ (aF _ rfl) rfl) (λ D=>by cases f.symm.trans D);have :=j {cls:=.type "tuple",dict:=none,data:=.seq [I4 (ac p) 0].toArray 0} {cls:=.type g,dict:=none,data:=.fields #[.ref q.heap.objs.size,.none,.none,.none,.bool ap,.none]} b x i;rw[JG _ _ (IC (aJ (az i) (by simp)))];exact j _ _ b x i
def C6(p:Hd o q.heap)(d:q.heap.IsList h VB)(g:(VB.size:Int)<=C)(m:C<2^63)(b:∀f v e n i,(KO q.heap f)->q.heap.get? e=none->f.get? e=some (nV "IndexError" n i)->(o.handled=none->i=.none)->y (.ref e) {q with heap:=f,toks:=v}):aA (au P0 c) o (NP (.ref h) (.int C Vv)) Vh y q:=by
 refine aj λ x=>?_;obtain⟨B,u,z,ne,r⟩:=id d;refine x ?_;unfold NP;try with_reducible refine aK ?_
 first|refine al (ah ?_)|skip
 refine al (TD d.typeIs (by decide) ?_);refine al (JD (name:=ac "__getitem__") d.typeIs JF (IQ JF d.typeIs entry_list_getitem ?_ (args_list_getitem _ _)));show aA _ _ (N8 (.int C Vv)>>=_) _ _ q;refine al (RE (fitsIndex_both (J2 (kM rfl) g) m) ?_);clear m;refine ai (⟨C.toNat,by simp;exact(Int.max_eq_left (J2 (IJ _) g)).symm⟩:∃j:Nat,C=Ln j) ?_;rintro j rfl;refine al (al (Ut u r (ah ((Ib (by have :(VB.size:Int)<=(j:Int):=g;exact r3 this)).symm▸?_))));have a:Hd o.in1 q.heap:=p;first
  |exact al (Jw (nW Mx a b))|exact al (Jw (al (nW Mx a b)))|exact al (al (Jw (nW Mx a b)))|exact Jw (nW Mx a b)
def lE.vq(q:Ev u g i z (Li Vo))(r:Ev u g i Vn (I (a:Int)))(n:Vo.length<=a)(x:(a:Int)<2^63)(y:autoParam (∀o d,Ml Vn ap (.ref o) (.int (a:Int) d)=Pz [.ref o,.int (a:Int) d] (NP (.ref o) (.int (a:Int) d))) ir):lE u g i (.Subscript z Vn v) "IndexError":=λ X w A f VM s Q E H R p=>Mc (q.use f R (Kp.refl s) λ VS VP T _ C m=>r.use f m C λ d VQ U B j _=>by
  refine aj λ V=>?_;refine bI ((T.keeps B.keep).list) λ o vs as N VO D O=>?_;obtain rfl:=N;have h:=D.isList;refine ai U.int ?_;rintro t rfl;refine V ?_;refine Ny h.typeIs JF.lookup (C6 (H.keeps j.keep) h (by simp;exact dS (cy O) n) x λ h' VR e Y c G J L M=>p e _ (j2.of j G J L M (by decide))) (y _ _))
def lF.cmp{c:SV}(h:lE u g i z VH)(j:autoParam (Lo c Vn=ap) gX):lF u g i (.Compare z [c] [Vn] v) VH:=λ X w A e d s Q E H R f=>JZ (h X w A e d s _ E H R f) j
def Sp(B:a7)(l:List Env)(e:ae)(c b d:ab)(h a:a7):Prop:=B.StaysIn a/\a.FunFrames B l/\a.TracedAtW B e c b d/\h.UpToSlots a/\(C2 h e->C2 a e)
def lG{M:LN}{l:List Env}{r p D:ab}{f:Option ae}{Q:Unit->aa->Prop}(L:s.StaysIn q.heap)(N:q.heap.FunFrames s l)(O:q.heap.TracedAtW s h r p D)(H:∀t,Sp s l h r p (f.elim .none λ g=>JI g) q.heap t->Q () {q with heap:=t}):aA M o (T4 (.ref h) f) Q y q:=by
 refine aj λ VN=>?_;obtain⟨U,n,T,VO,C,x,J,w,u,nT,ne,k,j,G⟩:=O;refine VN ?_;have i:∀b,b≠T->(q.heap.update T (MP (·.setIfInBounds 3 (f.elim I9 λ g=>JI g)))).get? b=q.heap.get? b:=λ b a=>JG _ _ (Kb a);have z:∀b c,q.heap.get? b=some c->(∀n,c.data≠.fields n)->b≠T:=λ b c a d m=>by rw[m,k]at a;obtain rfl:=ax a;exact d C j
 have v:3<C.size:=(ec.mp G).1;unfold T4;refine al (Jm x w u (eP (show(hk T !=I9)=true from by rfl) ?_));refine Kk k j v (H _ ⟨λ b c a=>(i b λ m=>by rw[m,nT]at a;exact aQ a).trans (L b c a),N.of_keeps λ b c a d=>⟨c,(i b (z b c a d)).trans a,rfl⟩,⟨U,n,T,_,_,(i h (Kb ne)).trans x,J,w,u,nT,ne,cQ _ k (Nv (Lh j _)),Lh j _,by simp[v]⟩,λ b c a d=>⟨c.slots,(i b (z b c a d)).trans a⟩,λ⟨c,VM,V,Y,VL⟩=>?_⟩);exact kN c VM ((i h (Kb ne)).trans V) Y VL
def C7{M:LN}{l:List Env}{v:Unit->aa->Prop}(VP:o.frames=some (E::l))(n:q.heap.FunFrames s (E::l))(C:E.frame=some h)(m:q.heap.get? Q=some O)(VQ:s.StaysIn q.heap)(VO:s.get? Q=none)(j:O.data=.fields VB)(x:VB[1]?=some .none)(VL:VB[0]?=some U)(VM:∀w,Sp s (E::l) Q O.cls U (JI h) q.heap w->v () {q with heap:=w}):aA M o (Nt (.ref Q) E) v y q:=by
 have H:1<VB.size:=(ec.mp x).1;have VS:Q∉(E::l).filterMap (·.frame):=λ u=>by
   obtain⟨_,a,VR,d⟩:=n.mem u;cases aO m VR;exact d VB j
 unfold Nt;rw[C];refine af (Jm m j x (bT (by decide) ?_));refine af (wpAny_frameOf_fun VP n C λ g p=>af (wpAny_entryPlaceOf λ T G=>?_));unfold EntryCells.newEntry T6;refine af (Ih ?_ (G.sizeOk5 _ _ _ _ _));have t:g.get? Q=some O:=(p.2.1 Q VS).trans m;have J:s.StaysIn g:=λ b a i=>(p.2.1 b λ u=>bN ((n.mem u).1) i).trans (VQ b a i);generalize D:({cls:=.type "traceback",dict:=none,data:=.fields ([I9,.ref h,.none,JI h,.none]++(if T.isEmpty then List.replicate 6 I9 else T)).toArray}:Obj)=k;have ne:g.objs.size≠Q:=IC (az t);refine Kk (ao k t) j H (VM _ ?_);have keep:∀b a,b≠Q->g.get? b=some a->((g.push k).update Q (MP (·.setIfInBounds 1 (.ref g.objs.size)))).get? b=some a:=λ b a VN c=>(JG _ _ (Kb VN)).trans (ao k c);have N:∀b a,q.heap.get? b=some a->(∀VB,a.data≠.fields VB)->b≠Q:=λ b a c d f=>by rw[f,m]at c;obtain rfl:=ax c;exact d VB j
 have r:=Lh j (·.setIfInBounds 1 (hk g.objs.size));have z:=cQ (MP (·.setIfInBounds 1 (hk g.objs.size))) (ao k t) (Nv r);refine⟨λ b a i=>keep b a (λ f=>by rw[f,VO]at i;exact aQ i) (J b a i),n.of_keeps λ b a c d=>?_,⟨_,_,g.objs.size,k,_,z,⟨Ss _ _,?_⟩,r,by simp[H],J.fresh,ne,(JG (g.push k) (MP (·.setIfInBounds 1 (hk g.objs.size))) (Kb ne)).trans (aF g (by obtain rfl:=D.symm;rfl)),by subst D;rfl,?_⟩,λ b a c d=>?_,λ⟨a,VV,VT,V,VU⟩=>⟨_,_,z,r,?_⟩⟩;·exact ai (p.2.2 b a c) λ Y f=>⟨_,keep b _ (N b a c d) f,rfl⟩
 ·rw[LL (by decide)];exact VL
 ·first|(simp;done)|(rcases G with rfl|⟨_,_,_,_,_,_,_,rfl⟩<;>simp)
 ·exact ai (p.2.2 b a c) λ Y f=>⟨Y,keep b _ (N b a c d) f⟩
 · cases aO m VT;rw[j]at V;cases V;rw[LL (by decide)];exact VU
inductive ej(x:Cx)(X:ae->Prop)(w:ar)(A:aq)(i:aw)(a:Env)(j:aa)(O:List ae)(s:aa)(cls:String)(c:Bool)(k:List (Str×PV))(n:List (Str×OL))(e:ae)(b:aa):Prop|mk(m h:Str->Option ab)(f:List ae)(B:a7)(g:ab)(l:List Env)(o:A.frames=some (a::l))(p:Heap.HeldW B (a::l) e (.type cls) g a.locals b.heap)(q:c=true->C2 b.heap e)(r:¬bC e)(t:∀d,B.StaysIn d->b.heap.UpToSlots d->FB x X w A i a j k n m h f {b with heap:=d}/\aZ x A X a O s f {b with heap:=d})
def dZ(x:Cx)(k:Lv)(b:aw)(h:List (Str×PV))(j:List (Str×OL))(VN:List Io)(f:String)(c:Bool)(i:List (Str×PV))(l:List (Str×OL)):Prop:=∀(X:ae->Prop)(VM:ar)(A:aq),Rm k A->(c=true->A.handled=none)->∀(VL:Env)(d s:aa)(Q:PI->aa->Prop)(E:ab->aa->Prop)m g O,FB x X VM A b VL d h j m g O s->Hd A s.heap->(∀e,A.handled=some (.ref e)->¬bC e)->(∀e a,ej x X VM A b VL d O s f c i l e a->E (.ref e) a)->aA (au P0 VM) A (RH VN VL) Q E s
def fQ(x:Cx)(k:Lv)(b:aw)(h:List (Str×PV))(j:List (Str×OL))(st:Io)(f:String)(c:Bool)(i:List (Str×PV))(l:List (Str×OL)):Prop:=∀(X:ae->Prop)(VM:ar)(A:aq),Rm k A->(c=true->A.handled=none)->∀(VL:Env)(d s:aa)(Q:PI->aa->Prop)(E:ab->aa->Prop)m g O,FB x X VM A b VL d h j m g O s->Hd A s.heap->(∀e,A.handled=some (.ref e)->¬bC e)->(∀e a,ej x X VM A b VL d O s f c i l e a->E (.ref e) a)->aA (au P0 VM) A (exec st VL) Q E s
def ej.after{f s j d:aa}{O b:List ae}(a:aZ A o w E O s b j)(H:ej A w c o g E f b j VH M i D h d):ej A w c o g E f O s VH M i D h d:=by
 obtain⟨m,p,k,B,n,l,r,t,u,v,y⟩:=H;exact⟨m,p,k,B,n,l,r,t,u,v,λ q z C=>(y q z C).imp id a.trans⟩
def Hd.C8{O t:List ae}(F:FB A w c o g E q i D Vg Vp O H)(f:aZ A o w E O H t VJ)(b:Hd o H.heap)(y:∀e,o.handled=some (.ref e)->¬bC e):Hd o VJ.heap:=by
 refine aH b (λ b=>?_) λ B=>?_;·exact .inl b
 · obtain⟨e,b,r,l,j,h,u⟩:=B;refine .inr ⟨e,b,r,l,f.keep e r (λ a=>?_) j,h,u⟩;rcases a with a|a|⟨v,a|a⟩
   · rcases a with rfl|⟨n,a⟩
     · refine ak (Ns.c9 F.ns) λ p k n=>?_;cases aO j k;exact n l h
     · refine ak (F.cell n e a) λ p k d=>?_;cases aO j k;rw[h]at d;cases d
   ·exact ai (F.gJ e a) λ C z=>uV z j l h
   ·exact y e b a
   · obtain⟨_,p,k,n⟩:=(F.bi v).dA.fa a;cases aO j k;exact n l h
def dZ.first{b d:List (Str×PV)}{e f:List (Str×OL)}{a:Io}(h:fQ A u g b e a VH M d f):dZ A u g b e (a::Vr) VH M d f:=λ X w i n p l r s Q E m j O F H q o=>iq (h X w i n p l r s _ E m j O F H q o)
def dZ.cons{p q:List (Str×PV)}{t v:List (Str×OL)}{n:Io}(h:St A u g p t n (.next i D))(L:dZ A u g i D Vr VH M q v):dZ A u g p t (n::Vr) VH M q v:=λ X w b j J d o s Q E m B O F H l G=>iq (aG (h X w b j d o s E m B O F) (λ f U T=>by
  obtain⟨e,N,C,z,y,a⟩:=T;subst e;exact L X w b j J d o U Q E N C z y (H.C8 F a l) l λ e V r=>G e V (r.after a)) λ _ _ A=>A)
def fQ.vt{d i:List (Str×PV)}{f j:List (Str×OL)}{a b:List Io}(B:Tr u g (seen d f) z ap)(q:dZ A u g d f b VH M i j):fQ A u g d f (.If z a b v) VH M i j:=λ X w l h y o G s Q E m n O F H C p=>Px (B.use h F.reads (Kp.refl _) λ J kp _ _=>q X w l h y o G J Q E m n O (F.kp kp) (H.keeps kp.keep) C λ e D r=>p e D (r.after (.bR F.hO kp)))
def FB.held(v:A.t=true)(V1:M=true->o.handled=none)(F:FB A w c o g E q i D Vg Vp Y H)(N:j2 VH o h H VJ)(VX:∀VP,ej A w c o g E q Y H VH M i D h VP->y (.ref h) VP):PA (au P0 c) o E (NR (au P0 c) o E y) (.ref h) VJ:=by
 refine aj λ Q=>?_;refine am N λ Wm V2=>?_;obtain⟨kp,z,Wt,vs,VR,VL,V3,V4,VW,VV,Wd⟩:=Wm;have U:=F.kp kp;obtain⟨Wu,Wv,J,⟨l,t⟩,Ww⟩:=U.bi v;let B:=iX (λ b=>b=h\/FA o b) VJ.heap;have V:B.get? h=none:=jX (.inl rfl);refine ak (id J) λ l' V5 ok=>?_;have V6:l'=E::l:=by cases aO t V5;rfl
 subst V6;refine Q ?_;have VY:VJ.heap.FunFrames B (E::l):=cH.nN ok λ Wq V7 L VZ=>jX (.inr ⟨_,t,Wq,V7,VZ⟩);have V0:aC c B:=U.er.left.move λ b j a k=>gk.mpr ⟨λ p=>by
   rcases p with p|p
   · obtain rfl:=p.symm;rcases a with a|a;·exact ai (F.er.left.p0 a) λ j h=>bN z h
     ·cases aO VL k;exact Wd a
   · refine aH a (λ a=>?_) λ a=>?_;·exact fb.qO J a p
     · obtain⟨_,Ws,VS,d⟩:=J.fa p;cases aO k VS;exact eJ d a,k⟩;have eU:∀b j,H.heap.get? b=some j->¬FA o b->B.get? b=some j:=λ b j k G=>gk.mpr ⟨λ a=>by
   rcases a with rfl|a;·exact bN z k
   ·exact G a,kp.keep b j k⟩;have mk:∀n,B.StaysIn n->VJ.heap.UpToSlots n->FB A w c o g E q i D Vg Vp Y {VJ with heap:=n}/\aZ A o w E Y H Y {VJ with heap:=n}:=λ n f u=>by
   have K:Kq true o H {VJ with heap:=n}:=by
     refine aW kp λ C Wp VU VQ=>?_;subst VU;exact⟨n,Wp,rfl,λ b j G k=>f b j (eU b j k (G rfl).2),λ b j fa d k=>(ai (u b _ (VQ b j k) d) λ Wo VT=>⟨Wo,VT⟩)⟩
   refine⟨F.kt v K (V0.keeps f),λ b j VN k=>K.ext.keep b j (λ _=>⟨λ a=>VN (.inr (.inr ⟨v,.inl a⟩)),λ a=>VN (.inr (.inr ⟨v,.inr a⟩))⟩) k,λ b r=>.inl r,λ _ r=>r,F.hO⟩
 refine C7 t VY F.frame VL (λ b j h=>(gk.mp h).2) V V4 VW VV λ C Wn=>d6 Wn λ V' Wa VM Wb Wc=>?_;unfold NR;refine aj λ Q=>o8 (id VM) λ _ _ T _ _ Wj _ Wk Wl _=>Q (af (Jm (s:={VJ with heap:=C}) Wj Wk Wl ?_));rw[if_neg (λ r=>by cases r),F.frame];refine lG (q:={VJ with heap:=C}) V' Wa VM λ Wr⟨p1,p2,p3,p4,p5⟩=>VX _ ⟨Vg,Vp,Y,B,VR,l,t,⟨p1,V,p2,?_⟩,λ a=>p5 (Wc (V2 (V1 a))),?_,λ V8 f u=>mk V8 f (Wb.trans (p4.trans u))⟩;·rw[V3]at p3;exact p3
 · intro a;exact ai (F.er.left.tabs a) λ j a=>bN z a
def ej.again{a b:aq}{Q:Unit->aa->Prop}(k:E.frame=some E.locals)(d:ej A w c a g E q Y H VH M i D h VJ)(f:Q () VJ):aA (au P0 c) b (Nt (.ref h) E) Q y VJ:=by
 obtain⟨m,p,n,B,o,l,r,j,_⟩:=d;exact wpAny_noteFrame_againW k j.2.2.2 f
theorem ej.around{b d:aq}(a:d.frames=b.frames):ej A w c b g E q Y H VH M i D h VJ->ej A w c d g E q Y H VH M i D h VJ|⟨m,r,o,B,p,l,t,u,v,y,j⟩=>⟨m,r,o,B,p,l,a.trans t,u,v,y,λ f k n=>⟨(j f k n).1.around a,(j f k n).2.around a⟩⟩
def ej.iT{d a:aq}(L:E.frame=some E.locals)(N:a.frames=d.frames)(n:ej A w c d g E q Y H VH M i D h VJ)(J:∀k,ej A w c a g E q Y H VH M i D h k->y (.ref h) k):NR (au P0 c) a E y (.ref h) VJ:=by
 refine aj λ b=>?_;obtain⟨m,r,o,B,p,l,v,⟨U,V,p3,j⟩,z,C,G⟩:=n;refine b ?_;unfold NR;refine aj λ b=>o8 (id j) λ _ _ T _ _ VN _ VO VP _=>b (af (Jm VN VO VP ?_));rw[if_neg (λ t=>by cases t),L];refine lG U p3 j λ VW VQ=>by refine d6 VQ λ VR VS VT VU VV=>?_;exact J _ (ej.around N ⟨m,r,o,B,p,l,v,⟨VR,V,VS,VT⟩,λ VM=>VV (z VM),C,λ Q f u=>G Q f (VU.trans u)⟩)
def fQ.vu(l:A.t=true)(h:lF u g (seen i D) z VH):fQ A u g i D (.While z Vr [] v) VH M i D:=λ X w a d j b q s Q E m o O F H p f=>by
 refine wpAny_While (TK (λ _ n=>n=s) ?_ 0 rfl);rintro _ _ rfl;exact h _ w a d b _ _ _ H F.reads λ e r N=>F.held l j N (f e)
def fQ.C9{o p r:List (Str×PV)}{t u y:List (Str×OL)}{J f:String}{j:Io}{i:List Io}(VM:dZ A (a,true) g o t Vr J true p u)(VN:dZ A (a,ap) g p u (j::i) f ap r y):fQ A (a,true) g o t (.Try Vr [] [] (j::i) v) f ap r y:=λ X w b c _ h k s Q E m L O F H VQ VL=>by
 refine TG (VM X w b c (λ _=>c.calm rfl) h k s _ _ m L O F H VQ λ e V4 R=>(R.again F.frame ⟨ref_ne_byPass e,R.again F.frame (aj λ VY=>?_)⟩));obtain⟨VP,M,D,B,VZ,l,V0,⟨p1,p2,p3,p4⟩,U,V,Y⟩:=R;refine VY (lG p1 p3 p4 λ VO VU=>(d6 VU λ VV V2 V3 VW VX=>am (Y VO VV VW) λ C T=>?_));have z:Rm (a,ap) (b.mark (some (.ref e))):=⟨c.depth,c.units,λ q=>by cases q⟩;refine VN X w (b.mark (some (.ref e))) z (λ q=>by cases q) h k _ _ _ VP M D (FB.around (f:=b) (h:=b.mark (some (.ref e))) rfl C) (.inr ⟨e,rfl,VX (U rfl)⟩) (λ N q=>by cases q;exact V) λ N V5 d=>?_;exact d.again F.frame (ej.iT (d:=b.mark (some (.ref e))) (a:=b) F.frame rfl d λ V6 G=>VL _ _ (G.after T))
def St.C'{M N:List (Str×PV)}{U V:List (Str×OL)}{o:Io}{H:List Io}{r:Go}(h:dZ A (a,true) g M U Vr VH ap N V)(y:∀P,a5 P (ac VH)=none/\cR P (ac VH)=some (.type VH))(k:cG g (ac VH)=true)(VQ:Km (.type VH) (.type "BaseException")=jB true)(VR:Km (.type ((RP VH).elim "type" λ A=>A.metatype)) (.type "tuple")=jB ap)(VT:Km (.type VH) (.type VH)=jB true)(VS:ag A (a,ap) g N V (o::H) r):St A (a,true) g M U (.Try Vr [.ExceptHandler (some (.Name (ac VH) v)) none (o::H) J] [] [] Vi) r:=λ X w d j p L s E m VN O F=>jF λ Q fin=>by
 have u:d.handled=none:=j.calm rfl;unfold cG at k;simp only[ii,IT]at k;refine Nr (h X w d j (λ q=>by cases q) p L s _ _ m VN O F (.inl u) (λ e q=>bN u q) λ e V2 R=>?_);refine R.again F.frame (aj λ V5=>?_);obtain⟨VV,VO,VM,B,V6,l,V7,⟨p1,p2,p3,p4⟩,V8,V9,t⟩:=R;refine V5 (lG p1 p3 p4 λ z i=>(d6 i λ C V1 D G Wa=>?_));have Y:Rm (a,ap) (d.mark (some (.ref e))):=⟨j.depth,j.units,λ q=>by cases q⟩;refine RY (X:=VH) (T:=VH) (b:=true) VQ VR VT (L7 (aG (qa (FB.around (f:=d) (h:=d.mark (some (.ref e))) rfl (t z C G).1).er (nl k.1) (y _).1 (y _).2) (λ c Wb i=>(am i λ VZ V0=>?_)) λ _ _ A=>A) k.2);subst VZ V0;refine b3 rfl D.there ?_;rw[if_pos rfl];exact lG (q:={V2 with heap:=z}) C V1 D λ VU i=>d6 i λ V3 Wd We V4 Wf=>am (t VU V3 (G.trans V4)) λ VL VP=>aG (VS X w _ Y p L _ _ VV VO VM (FB.around (f:=d) (h:=d.mark (some (.ref e))) rfl VL)) (λ f Wc q=>(fin _ _ ((c'.around (d:=d.mark (some (.ref e))) (h:=d) rfl q).after VP))) λ _ _ A=>A
def St.vv{l h:List bP}(N:D.lookup j=some (.p l))(VW:Ev u g i z (Li h))(VZ:l.length+h.length<=a9)(VV:autoParam ((j==("__debug__":Str))=ap) ew)(t:autoParam (∀VL c,bD (z::VL) c=(ap,He z c)::bD VL c) bc)(VU:autoParam (∀c,Ka (.Name j v) (ac "extend") c (He (.Name j v) c)=He (.Name j v) c) cN)(VX:autoParam ((J.endLine==Vi.line)=true) bc):St A u g i D (.Expr (.Call (.Attribute (.Name j v) (ac "extend") J) [z] [] Vi) VC) (.next i (b8 j (.p (l++h)) D)):=λ X w H VR c V' s E m VP O F=>by
 refine Pb ?_ (by unfold Op;rw[F.er.scope,F.er.kind];rfl);have L:(L9 Vi (bD [z] c)).any (·.1)=ap:=by rw[t];rfl
 refine JE (VU c) (by rw[t];rfl) VX (h3 F N VV λ a B VY VS V V7=>?_);refine am (PlainList.ln V rfl) λ Wa Wb=>⟨"list","list.extend",Jv,PK,PySem.F.type_list_extend,Wa,Wb,?_⟩;rw[t]at L⊢;refine Ir L (b1 ?_);have U:=a6.use VR (z:=Vi) (E:=E) (.cons VW .nil t) (s:=s) (e:=s) (Q:=λ VN d=>aA (au P0 w) H (I3 (.builtin "list.extend") ([.ref a]++VN)) (λ Wc d=>match Wc with|.ref _=>False|_=>c' A X w H g c V' O s .next d (.next i (b8 j (.p (l++h)) D))) E d) F.er (Kp.refl s) λ VN d V9 kp _ _=>by
  refine ak V9.one λ Wf V3 r=>?_;obtain rfl:=V3;refine bI r.list λ b f as V4 T V5 Y=>?_;obtain rfl:=V4;obtain⟨V1,VT⟩:=V5;have VM:RO (aL X c O) d.heap B (.p l):=V7.b0 λ b o _ z=>kp.keep b o z;refine ai (V.at λ o z=>kp.keep _ _ z) λ n C=>?_;have l2:=cy Y;have G:B.toArray.size+f.toArray.size<=a9:=by simp only[I',VM.len,l2];exact VZ
  refine KA PK ⟨_,C,rfl⟩ PySem.F.entry_list_extend (PySem.F.args_list_extend_2 _ _) (AutoSeq1.list_extend_list_list_0 a B.toArray n b f.toArray V1 (extend_door G) (an (dx _ _) G) (J0 G)) ⟨C,VT,?_⟩;have M:=gR d.heap a (wx λ A=>A++f.toArray);refine ai VM λ We V6=>?_;have V8:RO (aL X c O) (d.heap.update a (wx λ A=>A++f.toArray)) (B++f) (.p (l++h)):=RO.b0 (λ b o T z=>M.extBut b o (λ q=>T (.inr (q▸VS))) z) (m8 V6 Y);have V2:(d.heap.update a (wx λ A=>A++f.toArray)).PlainList a (B++f).toArray:=⟨_,by rw[cQ _ C (by rw[mapSeq_app];rfl),mapSeq_app,List.append_toArray]⟩;exact am ((F.kp kp).lm (a:=d.toks) N VY V2 M V8) λ VO fr=>⟨rfl,m,VP,O,VO,(aZ.bR F.hO kp).trans fr⟩
 rw[t]at U;exact U
def St.vw(h:Ev u g (seen i D) z V)(c:eW V)(r:ce g j=true)(t:ce g Vf=true)(o:autoParam (∀a,(K5 [.Name j v,.Name Vf J] a).map (·.2)=[Oq (.Name j v) a,Oq (.Name Vf J) a]) cN)(q:autoParam (∀a,J' [.Name j v,.Name Vf J] z a=jB none) cN):St A u g i D (.Assign [.Name j v,.Name Vf J] z Vi) (.next ((Vf,V)::(j,V)::i) (bu Vf (bu j D))):=λ X w H n a T s E m L O F=>wpAny_Assign_two (h.use n F.reads (Kp.refl s) λ VL Q d u _ _=>by
  refine L1 ((F.kp u).store (dL r) (c.any d) λ U N M b C=>?_);exact L1 (b.store (dL t) (c.any d) λ Y B l f G=>⟨rfl,B,l,O,f,(aZ.bR F.hO u).trans ((aZ.dn F.hO C).trans (.dn b.hO G))⟩)) (o a) (q a)
noncomputable def bY(l:List Str)(u:Str)(i:Nat):Nat:=i+((l.drop i).takeWhile (·==u)).length
def q1(c:b<((G.drop a).takeWhile (·==j)).length):a+b<G.length/\G.getD (a+b) aR=j:=by
 have d:(G.drop a).takeWhile (·==j)<+:G.drop a:=List.takeWhile_prefix _;have h:((G.drop a).takeWhile (·==j))[b]=j:=by
  have :=List.all_takeWhile (l:=G.drop a) (p:=(·==j));have :=(H9.mp this) _ (IM c);exact pW this
 have e:b<(G.drop a).length:=bA c d.length_le;have f:=d.getElem c;simp only[MW]at e;have g:a+b<G.length:=iz e;refine⟨g,?_⟩;rw[av,ay g];simp only[OT]at f;exact f.symm.trans h
def vx{l:List Str}{u:Str}{i:Nat}(d:bY l u i<l.length):l.getD (bY l u i) aR≠u:=by
 intro e;unfold bY at d e;have :∀(m:List Str)(h:(m.takeWhile (·==u)).length<m.length),(m[(m.takeWhile (·==u)).length]'h==u)=ap:=by
   intro m;induction m with
   |nil=>intro h;simp at h|cons a r j=>
     intro h;refine gy (M:=a==u) (λ b=>?_) λ b=>?_;·simp only[Mf,b];exact b
     · simp only[Mf,b,if_true,y3]at h⊢;exact j (by simpa using h)
 have g:((l.drop i).takeWhile (·==u)).length<(l.drop i).length:=by simp only[MW];exact sb d
 have c:=this _ g;rw[OT]at c;rw[av,ay d]at e;have f:l[i+((l.drop i).takeWhile (·==u)).length]=u:=e;rw[f,beq_self_eq_true]at c;cases c
def Db(h:a<G.length):(G.map tl)[((a:Nat):Int).toNat]?=some (.str (G.getD a aR)):=by simp only[b4,a',av,ay h];rfl
def Ev.lH(d:Ev u g i z (Lt G))(e:Ev u g i Vn (I (a:Int)))(h:a<G.length)(f:a<2^62)(j:autoParam (∀o c,Ml Vn ap (.ref o) (.int (a:Int) c)=Pz [.ref o,.int (a:Int) c] (NP (.ref o) (.int (a:Int) c))) ir):Ev u g i (.Subscript z Vn v) (S (G.getD a aR)):=Ev.dI (Vo:=G.map .str) d e (dh) (hI f (aE true)) (Db h) j
def vy(a b:Str):KG (.str a) (.str b)=(a==b):=by first|rfl|(unfold KG;rfl)
def St.run{L v c:Str}{p q r s w p6 p7 p8 p9:Pos}(H:∀a,(seen ((v,I a)::i) D).lookup L=some (Lt G))(B:∀a,(seen ((v,I a)::i) D).lookup c=some (S j))(Q:∀a,(seen ((v,I a)::i) D).lookup v=some (I a))(U:dX g L=true)(Y:dX g v=true)(V:dX g c=true)(VR:ce g v=true)(T:bu v D=D)(C:(v==("__classdict__":Str))=ap)(N:∀z m,Sub ((v,I m)::i) ((v,I m)::(v,I z)::i))(M:∀y∈G,cs y=true)(O:cs j=true)(n:bY G j a<G.length)(E:G.length<=1000):St A u g ((v,I (a:Int))::i) D (.While (.Compare (.Subscript (.Name L p) (.Name v q) r) [.Eq] [.Name c s] w) [.AugAssign (.Name v p6) .Add (.Constant (.int 1) b p7) p8] [] p9) (.next ((v,I (bY G j a:Nat))::i) D):=by
 have o:∀d,d<G.length->Tr u g (seen ((v,I (d:Nat))::i) D) (.Compare (.Subscript (.Name L p) (.Name v q) r) [.Eq] [.Name c s] w) (G.getD d aR==j):=λ d f=>by
   have J:G.getD d aR∈G:=by simp only[av,ay f];exact IM f
   exact Tr.eq (Tr.cmp (aD.eq (cz.str (M _ J)) (cz.str O)) (Ev.lH (Ev.nm (H _) U) (Ev.nm (Q _) Y) f (e5 f E (aE true))) (Ev.nm (B _) V)) (vy _ _)
 refine St.lq (J:=.next ((v,I (bY G j a:Nat))::i) D) ((G.drop a).takeWhile (·==j)).length (λ t=>(v,I ((a+t:Nat):Int))::i) (λ _=>D) (λ t=>.next ((v,I (((a+t:Nat):Int)+1))::(v,I ((a+t:Nat):Int))::i) (bu v D)) (λ t h=>?_) (λ t h=>?_) (λ t h=>?_) (.inl ⟨?_,rfl⟩);·exact am (q1 h) λ VP VQ=>Tr.eq (o _ VP) (by rw[VQ,beq_self_eq_true])
 ·exact ag.cons (St.fL (by simp[aN]) .int VR C) ag.nil
 · exact ⟨by have :=N ((a+t:Nat):Int) ((a+(t+1):Nat):Int);have e:((a+t:Nat):Int)+1=((a+(t+1):Nat):Int):=rfl;refine e.symm▸?_;exact this,T⟩
 ·exact Tr.eq (o _ n) (beq_eq_false_iff_ne.mpr (vx n))
noncomputable abbrev cY(a b:Str):Bool:=bF (a.cps.toList<b.cps.toList)
abbrev nX:=Nat×Nat×List Str×List Str
noncomputable def fR(b a:List Str)(q:nX):nX:=if cY (b.getD q.1 aR) (a.getD q.2.1 aR)then(bY b (b.getD q.1 aR) (q.1+1),q.2.1,q.2.2.1++[b.getD q.1 aR],q.2.2.2)else if cY (a.getD q.2.1 aR) (b.getD q.1 aR)then(q.1,bY a (a.getD q.2.1 aR) (q.2.1+1),q.2.2.1,q.2.2.2++[a.getD q.2.1 aR])else(bY b (b.getD q.1 aR) (q.1+1),bY a (a.getD q.2.1 aR) (q.2.1+1),q.2.2.1,q.2.2.2)
noncomputable def dN(b a:List Str)(q:nX):Bool:=q.1+1==b.length&&q.2.1+1==a.length
noncomputable def aM(VM as:List Str):Nat->nX
 |0=>(0,0,[],[])|t+1=>if dN VM as (aM VM as t)then aM VM as t else fR VM as (aM VM as t)
structure cS(a:List Str)(z:Str):Prop where
 last:∃E,a=E++[z]/\∀y∈E,cY y z=true
 ok:∀y∈a,cs y=true
 len:a.length<=500
def j'(a:Str):cY a a=ap:=decide_eq_false (NG _)
def vz(h:cY j Vf=true):cY Vf j=ap:=decide_eq_false λ q=>NG _ (List.lt_trans (of_decide_eq_true h) q)
def q2(h:cY j Vf=ap)(c:cY Vf j=ap):j=Vf:=by
 have :j.cps.toList=Vf.cps.toList:=List.le_antisymm (NE.mp (of_decide_eq_false c)) (NE.mp (of_decide_eq_false h));obtain⟨⟨j⟩⟩:=j;obtain⟨⟨Vf⟩⟩:=Vf;simp only at this;rw[this]
def cS.at(H:cS G j):1<=G.length/\G.getD (G.length-1) aR=j/\∀i,i+1<G.length->cY (G.getD i aR) j=true:=by
 refine ak H.last ?_;rintro E rfl h;refine b3 (by simp) (by simp) (λ i b=>?_);have a:i<E.length:=by simpa using b
 have e:(E++[j]).getD i aR=E[i]:=by simp only[av,GZ a,ay a];rfl
 exact e.symm▸(h _ (IM a))
def cS.skip(H:cS G j)(b:a<G.length)(c:cY Vf j=true):bY G Vf a<G.length:=by
 refine a4 H.at λ g d h=>M0 λ q=>?_;have f:G.length-1-a<((G.drop a).takeWhile (·==Vf)).length:=by unfold bY at q;exact se (mr q b) (jn b)
 refine am (q1 f) λ _ e=>?_;rw[show a+(G.length-1-a)=G.length-1 by exact fz (jn b),d]at e;rw[<-e,j']at c;cases c
theorem ka{b a:List Str}{z:Str}(H:cS b z)(m:cS a z):∀t,(aM b a t).1<b.length/\(aM b a t).2.1<a.length/\(aM b a t).2.2.1.length<=(aM b a t).1/\(aM b a t).2.2.2.length<=(aM b a t).2.1/\(dN b a (aM b a t)=ap->t<=(aM b a t).1+(aM b a t).2.1)
 |0=>⟨H.at.1,m.at.1,aB 0,aB 0,λ _=>dk _⟩|t+1=>by
   refine aj λ w=>d6 (ka H m t) λ l f n o B=>w ?_;unfold aM;rcases c:dN b a (aM b a t)with _|_
   · rw[if_neg (λ h=>by cases h)];have s:=B c;generalize aM b a t=q at*;refine aj λ w=>?_;obtain⟨i,j,M,U⟩:=q;simp only at l f n o s;refine a4 H.at λ _ A r=>a4 m.at λ _ y p=>w ?_;unfold dN at c;simp only[Bool.and_eq_false_iff,beq_eq_false_iff_ne]at c;have u:i+1=b.length->b.getD i aR=z:=λ q=>by simp only[<-A];congr 1;exact jf q
     have v:j+1=a.length->a.getD j aR=z:=λ q=>by simp only[<-y];congr 1;exact jf q
     unfold fR;simp only;cases g:cY (b.getD i aR) (a.getD j aR)with
     |true=>
       have d:i+1<b.length:=by
         refine Iu l λ q=>?_;rw[u q]at g;by_cases e:j+1=a.length;·rw[v e,j']at g;cases g
         ·rw[vz (p j (oK f e))]at g;cases g
       have :=H.skip d (r i d);rw[if_pos rfl];refine g1 this f ?_ o (λ _=>?_);·simp only[eB,y3,L6];unfold bY;exact sq n
       · show t+1<=bY b _ (i+1)+j;unfold bY;exact yy s|false=>
       rw[if_neg (λ h=>by cases h)];cases k:cY (a.getD j aR) (b.getD i aR)with
       |true=>
         have e:j+1<a.length:=by
           refine Iu f λ q=>?_;rw[v q]at k;by_cases d:i+1=b.length;·rw[u d,j']at k;cases k
           ·rw[vz (r i (oK l d))]at k;cases k
         have :=m.skip e (p j e);rw[if_pos rfl];refine g1 l this n ?_ (λ _=>?_);·simp only[eB,y3,L6];unfold bY;exact sq o
         · show t+1<=i+bY a _ (j+1);unfold bY;exact yz s|false=>
         have x:=q2 g k;have d:i+1<b.length:=by
           refine Iu l λ q=>?_;rcases c with c|c;·exact c q
           · have :=p j (oK f c);rw[<-x,u q,j']at this;cases this
         have e:j+1<a.length:=by
           refine Iu f λ q=>?_;have :=r i d;rw[x,v q,j']at this;cases this
         rw[if_neg (λ h=>by cases h)];refine g1 (H.skip d (r i d)) (m.skip e (p j e)) ?_ ?_ (λ _=>?_);·simp only;unfold bY;exact j4 (ix n) dG
         ·simp only;unfold bY;exact j4 (ix o) dG
         · show t+1<=bY b _ (i+1)+bY a _ (j+1);unfold bY;exact yx s
   ·rw[if_pos rfl];exact g1 l f n o (λ q=>by rw[c]at q;cases q)
def Dc{c b:List Str}(H:cS c j)(e:cS b j)(d:dN c b (aM c b a)=ap):aM c b (a+1)=fR c b (aM c b a):=by
 show(if dN c b (aM c b a)then aM c b a else fR c b (aM c b a))=_;rw[d,if_neg (λ h=>by cases h)]
theorem vA(b a:List Str){N:Nat}(h:dN b a (aM b a N)=true):∀t,aM b a (N+t)=aM b a N
 |0=>rfl|t+1=>by
  show(if dN b a (aM b a (N+t))then aM b a (N+t)else _)=_;rw[(vA b a h t),h,if_pos rfl]
def Dd{e d:List Str}(H:cS e j)(k:cS d j):∃N,dN e d (aM e d N)=true/\(∀t,t<N->dN e d (aM e d t)=ap)/\aM e d (e.length+d.length)=aM e d N:=by
 have l:∃N,N<=e.length+d.length/\dN e d (aM e d N)=true:=by
   refine bj (e.length+d.length) (aB _) ?_;rcases f:dN e d (aM e d (e.length+d.length))with _|_
   · refine d6 (ka H k (e.length+d.length)) λ a b _ _ c=>?_;have :=c f;exact sE a b this
   ·rfl
 have v:∀(p:Nat->Bool)(n:Nat),p n=true->∃m,m<=n/\p m=true/\∀t,t<m->p t=ap:=by
   intro p n;induction n using Nat.strongRecOn with|_ n u=>
     intro r;by_cases i:∃t,t<n/\p t=true;·exact ak i λ t g o=>ci (u t g o) λ m a b c=>dU m (by exact j4 a (j5 g)) b c
     ·exact⟨n,aB _,r,λ t s=>by
         rcases h:p t with _|_;·rfl
         ·exact(i ⟨t,s,h⟩).elim⟩
 refine aj λ w=>ak l λ N q f=>ci (v (λ t=>dN e d (aM e d t)) N f) λ m a b c=>w (dU m b c ?_);have :=vA e d b (e.length+d.length-m);rw[show m+(e.length+d.length-m)=e.length+d.length by exact fz (j4 a q)]at this;exact this
def De(P:a3):a5 P (ac "IndexError")=none/\cR P (ac "IndexError")=some (.type "IndexError"):=⟨by lia,by lia⟩
def vB:cu 184 183 (bB [24]) (a0 [24]) [nm "expected",nm "actual"]:=cu.mk' (λ P=>by lia) (λ P=>by lia) (λ P=>⟨by lia,by lia,by lia,by lia,by lia,by lia⟩) (by decide) (by lia) (by lia) ⟨by rfl,by rfl⟩ (by lia) (by lia) (by lia)
def St.Df{n o p:List (Str×PV)}{q r t:List (Str×OL)}{i:Io}{h:List Io}(L:ag A u g n q Vr (.next o r))(M:ag A u g o r (i::h) (.next p t)):St A u g n q (.Try Vr [] [] (i::h) v) (.next p t):=λ X w c j d l s E m D O F=>TG (aG (L X w c j d l s _ m D O F) (λ f T⟨e,N,G,B,y,a⟩=>by
  subst e;refine J4 (aG (M X w c j d l T _ N G B y) (λ U V⟨J,Q,H,C,z,b⟩=>?_) λ _ _ A=>A);subst J;exact⟨rfl,Q,H,C,z,a.trans b⟩) λ _ _ A=>A)
noncomputable abbrev fm(b a:List Str)(i j:Nat):List (Str×PV):=[(nm "i",I (i:Int)),(nm "j",I (j:Int)),(nm "expected",Lt b),(nm "actual",Lt a)]
noncomputable abbrev dO(M U:List Str):List (Str×OL):=[(nm "unexpected",.p (U.map .str)),(nm "missing",.p (M.map .str))]
noncomputable def nY:Io:=(cE ((bB [24]).getD 4 b2)).body.getD 0 b2
noncomputable def lI:List Io:=(cE nY).body
def vC(H:cS G j)(b:a<G.length):cs (G.getD a aR)=true:=H.ok _ (by simp only[av,ay b];exact IM b)
def Dg{d f:List Str}{k:Lv}(H:cS d j)(r:cS f j){M U:List Str}(v:a<d.length)(w:x<f.length)(J:M.length<=500)(L:U.length<=500)(m:(fR d f (a,x,M,U)).1<d.length)(n:(fR d f (a,x,M,U)).2.1<f.length):∃o,ag A k (a0 [24]) (fm d f a x) (dO M U) lI (.next o (dO (fR d f (a,x,M,U)).2.2.1 (fR d f (a,x,M,U)).2.2.2))/\Sub (fm d f (fR d f (a,x,M,U)).1 (fR d f (a,x,M,U)).2.1) o:=by
 have Q:(2000:Nat)<=a9:=by decide
 have B:=H.len;have C:=r.len;have E:=vC H v;have D:=vC r w;unfold fR at m n⊢;simp only at m n⊢;generalize O:d.getD a aR=e at*;generalize N:f.getD x aR=g at*;have start:∀{o:List (Str×PV)}{G:List (Str×OL)},(St A k (a0 [24]) ((nm "a",S g)::(nm "e",S e)::fm d f a x) (dO M U) (match lI with|[_,_,s]=>s|_=>b2) (.next o G))->ag A k (a0 [24]) (fm d f a x) (dO M U) lI (.next o G):=λ h=>by refine ag.cons (St.assign (V:=S e) (by refine O▸?_;exact Ev.lH Ev.nm Ev.nm v (e5 v B (aE true))) (by rfl)) (ag.cons (St.assign (V:=S g) (by refine N▸?_;exact Ev.lH Ev.nm Ev.nm w (e5 w C (aE true))) (by rfl)) (ag.cons h ag.nil))
 rcases c1:cY e g with _|_
 · rw[c1,if_neg (λ h=>by cases h)]at m n;rw[if_neg (λ h=>by cases h)];cases c2:cY g e with
   |true=>
     rw[c2,if_pos rfl]at m n;rw[if_pos rfl];refine bj ((nm "j",I (bY f g (x+1):Nat))::(nm "a",S g)::(nm "e",S e)::[(nm "i",I (a:Int)),(nm "expected",Lt d),(nm "actual",Lt f)]) (start (St.ite (M:=ap) (Tr.eq (Tr.cmp aD.jG Ev.nm Ev.nm) c1) (λ q=>by cases q) (λ _=>ag.cons (St.ite (M:=true) (Tr.eq (Tr.cmp aD.k' Ev.nm Ev.nm) c2) (λ _=>?_) (λ q=>by cases q)) ag.nil))) ⟨rfl,rfl,rfl,rfl,trivial⟩;have t:dO M (U++[g])=[(nm "unexpected",.p (U.map .str++[.str g])),(nm "missing",.p (M.map .str))]:=by unfold dO;rw[fs];rfl
     simp only[t];refine ag.cons (St.append (j:=nm "unexpected") (l:=.p (U.map .str)) (V:=S g) (by rfl) (.inl Ev.nm) (by rfl) (by show(U.map tl).length<=a9;simp;exact a2 L (aE true))) (ag.cons (St.fL (C:=(x:Int)) (Vs:=1) (by rfl) .int (by rfl)) ?_);refine ag.weaken (b:=(nm "j",I ((x+1:Nat):Int))::(nm "a",S g)::(nm "e",S e)::[(nm "i",I (a:Int)),(nm "expected",Lt d),(nm "actual",Lt f)]) (ag.cons (St.run (G:=f) (j:=g) (λ _=>by rfl) (λ _=>by rfl) (λ _=>by rfl) (by rfl) (by rfl) (by rfl) (by rfl) (by rfl) (by rfl) (λ _ _=>⟨rfl,rfl,rfl,rfl,rfl,rfl,trivial⟩) r.ok D n (a2 C (aE true))) ag.nil) ⟨by rw[Kx];rfl,rfl,rfl,rfl,rfl,rfl,trivial⟩|false=>
     rw[c2,if_neg (λ h=>by cases h)]at m n;rw[if_neg (λ h=>by cases h)];have T:=q2 c1 c2;refine bj ((nm "j",I (bY f g (x+1):Nat))::(nm "i",I (bY d e (a+1):Nat))::(nm "a",S g)::(nm "e",S e)::[(nm "expected",Lt d),(nm "actual",Lt f)]) (start (St.ite (M:=ap) (Tr.eq (Tr.cmp aD.jG Ev.nm Ev.nm) c1) (λ q=>by cases q) (λ _=>ag.cons (St.ite (M:=ap) (Tr.eq (Tr.cmp aD.k' Ev.nm Ev.nm) c2) (λ q=>by cases q) (λ _=>?_)) ag.nil))) ⟨rfl,rfl,rfl,rfl,trivial⟩;refine ag.cons (St.fL (C:=(a:Int)) (Vs:=1) (by rfl) .int (by rfl)) (ag.weaken (b:=(nm "i",I ((a+1:Nat):Int))::(nm "a",S g)::(nm "e",S e)::[(nm "j",I (x:Int)),(nm "expected",Lt d),(nm "actual",Lt f)]) (ag.cons (St.Df (ag.cons (St.run (G:=d) (j:=e) (λ _=>by rfl) (λ _=>by rfl) (λ _=>by rfl) (by rfl) (by rfl) (by rfl) (by rfl) (by rfl) (by rfl) (λ _ _=>⟨rfl,rfl,rfl,rfl,rfl,rfl,trivial⟩) H.ok E m (a2 B (aE true))) ag.nil) (ag.cons (St.fL (C:=(x:Int)) (Vs:=1) (by rfl) .int (by rfl)) ?_)) ag.nil) ⟨by rw[Kx];rfl,rfl,rfl,rfl,rfl,rfl,trivial⟩);exact ag.weaken (b:=(nm "j",I ((x+1:Nat):Int))::(nm "i",I (bY d e (a+1):Nat))::(nm "a",S g)::(nm "e",S e)::[(nm "expected",Lt d),(nm "actual",Lt f)]) (ag.cons (St.run (G:=f) (j:=g) (λ _=>by rfl) (λ _=>by rfl) (λ _=>by rfl) (by rfl) (by rfl) (by rfl) (by rfl) (by rfl) (by rfl) (λ _ _=>⟨rfl,rfl,rfl,rfl,rfl,rfl,trivial⟩) r.ok D n (a2 C (aE true))) ag.nil) ⟨by rw[Kx];rfl,rfl,rfl,rfl,rfl,rfl,trivial⟩
 · rw[c1,if_pos rfl]at m n;rw[if_pos rfl];refine bj ((nm "i",I (bY d e (a+1):Nat))::(nm "a",S g)::(nm "e",S e)::[(nm "j",I (x:Int)),(nm "expected",Lt d),(nm "actual",Lt f)]) (start (St.ite (M:=true) (Tr.eq (Tr.cmp aD.jG Ev.nm Ev.nm) c1) (λ _=>?_) (λ q=>by cases q))) ⟨rfl,rfl,rfl,rfl,trivial⟩;have t:dO (M++[e]) U=[(nm "unexpected",.p (U.map .str)),(nm "missing",.p (M.map .str++[.str e]))]:=by unfold dO;rw[fs];rfl
   simp only[t];refine ag.cons (St.append (j:=nm "missing") (l:=.p (M.map .str)) (V:=S e) (by rfl) (.inl Ev.nm) (by rfl) (by show(M.map tl).length<=a9;simp;exact a2 J (aE true))) (ag.cons (St.fL (C:=(a:Int)) (Vs:=1) (by rfl) .int (by rfl)) ?_);refine ag.weaken (b:=(nm "i",I ((a+1:Nat):Int))::(nm "a",S g)::(nm "e",S e)::[(nm "j",I (x:Int)),(nm "expected",Lt d),(nm "actual",Lt f)]) (ag.cons (St.run (G:=d) (j:=e) (λ _=>by rfl) (λ _=>by rfl) (λ _=>by rfl) (by rfl) (by rfl) (by rfl) (by rfl) (by rfl) (by rfl) (λ _ _=>⟨rfl,rfl,rfl,rfl,rfl,rfl,trivial⟩) H.ok E m (a2 B (aE true))) ag.nil) ⟨by simp only[Kx];rfl,rfl,rfl,rfl,rfl,rfl,trivial⟩
def Dh{e d:List Str}(o:A.t=true)(H:cS e j)(m:cS d j){i c:Nat}{M U:List Str}(f:i+1=e.length)(g:c+1=d.length)(u:M.length<=500)(v:U.length<=500):∃C,ag A (x,true) (a0 [24]) (fm e d i c) (dO M U) [nY] (.brk C (dO M U)):=by
 have D:(2000:Nat)<=a9:=by decide
 have h:=H.len;have k:=m.len;have t:e.getD i aR=j:=by rw[<-H.at.2.1];congr 1;exact jf f
 have r:d.getD c aR=j:=by rw[<-m.at.2.1];congr 1;exact jf g
 have q:=j' j;have s:dO M U=[(nm "unexpected",.p (U.map .str++[])),(nm "missing",.p (M.map .str++[]))]:=by simp
 refine⟨(nm "j",I ((c:Int)+1))::(nm "i",I ((i:Int)+1))::(nm "a",S j)::(nm "e",S j)::fm e d i c,ag.last (St.C' (VH:="IndexError") (N:=(nm "j",I ((c:Int)+1))::(nm "i",I ((i:Int)+1))::(nm "a",S j)::(nm "e",S j)::fm e d i c) (V:=dO M U) ?_ De (by rfl) (by rw[kF];lia) (by rw[kF];lia) (by rw[kF];lia) ?_) trivial⟩
 · refine dZ.cons (St.assign (V:=S j) (by refine t▸?_;exact Ev.lH Ev.nm Ev.nm (kK f) (bA (kK f) (a2 h (aE true)))) (by rfl)) (dZ.cons (St.assign (V:=S j) (by refine r▸?_;exact Ev.lH Ev.nm Ev.nm (kK g) (bA (kK g) (a2 k (aE true)))) (by rfl)) (dZ.first (fQ.vt (Tr.eq (Tr.cmp aD.jG Ev.nm Ev.nm) q) (dZ.first (fQ.vt (Tr.eq (Tr.cmp aD.k' Ev.nm Ev.nm) q) (dZ.cons (St.fL (C:=(i:Int)) (Vs:=1) (by rfl) .int (by rfl)) (dZ.first (fQ.C9 (J:="IndexError") (dZ.first (fQ.vu o ?_)) (dZ.cons (St.fL (C:=(c:Int)) (Vs:=1) (by rfl) .int (by rfl)) (dZ.first (fQ.vu o ?_)))))))))));·exact lF.cmp (lE.vq (Vo:=e.map .str) (a:=i+1) Ev.nm Ev.nm (by simp;exact j7 f) (fC (dS f h) rfl))
   ·exact lF.cmp (lE.vq (Vo:=d.map .str) (a:=c+1) Ev.nm Ev.nm (by simp;exact j7 g) (fC (dS g k) rfl))
 · have w:eE (e.map tl) (some ((i:Int)+1)) none=[]:=by rw[show(i:Int)+1=((i+1:Nat):Int)from rfl,qR _ _ (by simp;exact j6 f)];simp;exact j7 f
   have B:eE (d.map tl) (some ((c:Int)+1)) none=[]:=by rw[show(c:Int)+1=((c+1:Nat):Int)from rfl,qR _ _ (by simp;exact j6 g)];simp;exact j7 g
   refine ag.cons (St.vv (j:=nm "missing") (l:=M.map .str) (h:=[]) (by rfl) (by rw[<-w];exact Ev.slice Ev.nm (.some Ev.nm) .none (by simp;exact a2 h (aE true))) (by simp;exact a2 u (aE true))) (ag.cons (St.vv (j:=nm "unexpected") (l:=U.map .str) (h:=[]) (by rfl) (by rw[<-B];exact Ev.slice Ev.nm (.some Ev.nm) .none (by simp;exact a2 k (aE true))) (by simp;exact a2 v (aE true))) (ag.last ?_ trivial));rw[s];exact St.brk
def Di:∃h p,nY=.Try lI [h] [] [] p:=⟨_,_,rfl⟩
def Dj{d c:List Str}(L:A.t=true)(H:cS d j)(f:cS c j):ag A (a,true) (a0 [24]) ([nm "expected",nm "actual"].zip [Lt d,Lt c]) [] (bB [24]) (.ret (Tu [Ld (aM d c (d.length+c.length)).2.2.1,Ld (aM d c (d.length+c.length)).2.2.2])):=by
 refine aj λ k=>ci (Dd H f) λ N m D E=>k ?_;have s:=H.len;have u:=f.len;refine E.symm▸?_;have i:(aM d c N).1+1=d.length/\(aM d c N).2.1+1=c.length:=by
   unfold dN at m;simpa only[ii,beq_iff_eq]using m
 have T:∀t,t<N->∃h,ag A (a,true) (a0 [24]) (fm d c (aM d c t).1 (aM d c t).2.1) (dO (aM d c t).2.2.1 (aM d c t).2.2.2) lI (.next h (dO (aM d c (t+1)).2.2.1 (aM d c (t+1)).2.2.2))/\Sub (fm d c (aM d c (t+1)).1 (aM d c (t+1)).2.1) h:=λ t g=>by
   refine d6 (ka H f t) λ y B O Q _=>a4 (ka H f (t+1)) λ v w _=>?_;rw[Dc H f (D t g)]at v w⊢;exact Dg H f y B (j4 O (j4 (j5 y) s)) (j4 Q (j4 (j5 B) u)) v w
 refine aj λ k=>d6 (ka H f N) λ m1 m2 m3 m4 _=>ai (Dh (A:=A) (x:=a) L H f i.1 i.2 (M:=(aM d c N).2.2.1) (U:=(aM d c N).2.2.2) (j4 (ix m3) (dS i.left s)) (j4 (ix m4) (dS i.right u))) λ V J=>cP Di λ Y VL e=>k ?_;have r:∀t,∃h:List (Str×PV),t<N->(ag A (a,true) (a0 [24]) (fm d c (aM d c t).1 (aM d c t).2.1) (dO (aM d c t).2.2.1 (aM d c t).2.2.2) [nY] (.next h (dO (aM d c (t+1)).2.2.1 (aM d c (t+1)).2.2.2))/\Sub (fm d c (aM d c (t+1)).1 (aM d c (t+1)).2.1) h):=λ t=>by
   by_cases g:t<N
   · refine ak (T t g) λ h C b=>⟨h,λ _=>⟨?_,b⟩⟩;rw[e];exact ag.cons (St.iU C) ag.nil
   ·exact⟨[],λ q=>(g q).elim⟩
 let G:=λ t=>Oe (r t);have o:=λ t=>Kf (r t);refine ag.cons St.doc (ag.cons (St.vw (V:=I 0) .int .int (by rfl) (by rfl)) (ag.cons (St.own (l:=.p []) (ei.nil (.inl rfl)) (by rfl)) (ag.cons (St.own (l:=.p []) (ei.nil (.inl rfl)) (by rfl)) (ag.weaken (b:=fm d c 0 0) (ag.cons (St.lq (J:=.next V (dO (aM d c N).2.2.1 (aM d c N).2.2.2)) N (λ t=>fm d c (aM d c t).1 (aM d c t).2.1) (λ t=>dO (aM d c t).2.2.1 (aM d c t).2.2.2) (λ t=>.next (G t) (dO (aM d c (t+1)).2.2.1 (aM d c (t+1)).2.2.2)) (λ t _=>Tr.true) (λ t g=>(o t g).1) (λ t g=>⟨(o t g).2,rfl⟩) (.inr ⟨_,Tr.true,J,rfl⟩)) (ag.last (St.ret (Ev.tuple (Vo:=[Ld _,Ld _]) (f:=by show 2<=a9;decide) (.cons Ev.nm (.cons Ev.nm .nil)))) trivial)) ⟨rfl,rfl,rfl,rfl,trivial⟩))))
def Dk{d c:List Str}(H:cS d j)(e:cS c j):ef (a+1,true) (.ref 184) [Lt d,Lt c] (Tu [Ld (aM d c (d.length+c.length)).2.2.1,Ld (aM d c (d.length+c.length)).2.2.2]):=ef.of (j:=ac "sorted_list_difference"++ac ".<locals>.") vB (λ P doc h f=>by
  refine cP (d9 f) ?_;rintro g b rfl;lia) rfl (λ P=>by lia) (Dj rfl H e)
def ag.lJ{l:OL}{c:Go}(q:D.lookup j=some l)(h:∀a,ag A u g ((j,.raw (.ref a))::i) D Vr c):ag A u g i D Vr c:=λ X w d o n v s E m f O F=>by
 obtain⟨a,H,r,t,B,C,G⟩:=F.own j l q;refine h a X w d o n v s E m f O {F with er:={F.er with vars:=λ z p e=>?_}};rw[aN]at e;refine gy (M:=z==j) (λ b=>?_) λ b=>?_;·rw[b]at e;exact F.er.vars z p e
 · rw[b]at e;obtain rfl:=ax e;obtain rfl:=pW b;unfold cc;exact r.symm▸⟨m,_,F.ns,t,rfl⟩
def RO.nZ{X:ae->Prop}{h:a7}{c:List ab}{l:List bP}(r:RO X h c (.p l)):RO X h c (.m (l.map .d)):=by
 obtain⟨e,r⟩:=r;induction l generalizing c e with
 |nil=>rw[(gi r).1];exact aU.nil|cons d l f=>
  obtain⟨_,_,_,_,rfl,_,a,b⟩:=eT r;exact aU.cons ⟨_,a⟩ (f _ b)
def ag.nZ{r:Go}(t:D.lookup j=some (.p Vo))(h:ag A u g i (b8 j (.m (Vo.map .d)) D) Vr r):ag A u g i D Vr r:=λ X w v J H VL s E m B O F=>by
 have iT:∀z c,(b8 j (.m (Vo.map .d)) D).lookup z=some c->∃Y,D.lookup z=some Y:=λ z c h=>by
   refine aH (jP h) (λ o=>?_) λ q=>?_
   · obtain⟨rfl,_⟩:=o;exact⟨_,t⟩
   · obtain⟨_,h⟩:=q;exact⟨_,h⟩
 refine h X w v J H VL s E m B O {F with own:=λ z c e=>?_,nodup:=by simp only[qr];exact F.nodup,apart:=λ z VN c VO b f n C G=>?_}
 · refine aH (jP e) (λ o=>?_) λ q=>?_
   · obtain⟨rfl,rfl⟩:=o;obtain⟨a,vs,L,M,N,Q,T⟩:=F.own z _ t;exact⟨a,vs,L,M,N,Q,T.nZ⟩
   · obtain⟨_,e⟩:=q;exact F.own z c e
 ·exact ai (iT _ _ f) λ U f=>ai (iT _ _ n) λ V n=>F.apart z VN U V b f n C G
def vD(a:Array ab)(n j:Nat)(v:ab):wx (λ x=>x.setIfInBounds j v) {cls:=.type "list",dict:=none,data:=.seq a n,slots:=#[]}={cls:=.type "list",dict:=none,data:=.seq (a.setIfInBounds j v) (if(a.setIfInBounds j v).size==a.size then n else n+1),slots:=#[]}:=rfl
def Dm{Q:Unit->aa->Prop}(g:q.heap.PlainList h Ve.toArray)(e:0<=C)(f:C<2^63)(r:C<Ve.length)(m:∀a,a.PlainList h (Ve.set C.toNat U).toArray->Js h q.heap a->Q () {q with heap:=a}):aA (au P0 c) o (setItem (.ref h) (.int C Vv) U) Q y q:=by
 refine ai (id g) λ n d=>?_;have b:=g.isList;unfold setItem;try with_reducible refine aK ?_
 first|refine al (ah ?_)|skip
 refine al (TD b.typeIs (by decide) ?_);refine al (JD (name:=ac "__setitem__") b.typeIs TH (IQ TH b.typeIs entry_list_setitem ?_ (args_list_setitem _ _ _)));show aA _ _ (N8 (.int C Vv)>>=_) _ _ q;refine al (RE (fitsIndex_of e f) ?_);clear f;refine ai (M2 e) ?_;rintro j rfl;have p:j<Ve.toArray.size:=by simp;exact kI r
 have u:Ve.toArray[j]?=some Ve.toArray[j]:=hq p;refine al (al (Ut d rfl (ah (u.symm▸?_))));have fin:Q () {q with heap:=q.heap.update h (wx (·.setIfInBounds j U))}:=by
  have i:=cQ (wx (·.setIfInBounds j U)) d (by simp only[vD];rfl);rw[vD,show Ve.toArray.setIfInBounds j U=(Ve.set j U).toArray by simp]at i;exact m _ ⟨_,i⟩ (gR ..)
 refine al (wpAny_setSeqItemAt d rfl ?_);first
  |exact al (ah (ah ⟨.none,rfl,ah fin⟩))|exact ah ⟨.none,rfl,ah fin⟩
def vE:UY (.type "object")=jB [.type "object"]:=by rw[mroOf_type];lia
def Do:Tm (.type "object") "__new__"=jB (some (.builtin "object.__new__")):=by rw[I6,FF];lia
def vF:Pl (.type "object")=jB (some "object.__new__"):=madeBy_type vE Do (by decide+kernel)
def Dp:Rr "object" "__init__" "object.__init__":=.of (owner:="object") (n:="__init__") (by rw[I6,FF];lia) (by decide+kernel) (by decide+kernel) (by decide+kernel) (.inl (by decide+kernel)) (by rw[kF];lia)
def Dq:TypeCalled "object" "object.__new__" "object.__init__":=⟨by decide+kernel,by decide+kernel,⟨_,_,vE⟩,vF,by decide+kernel,by rw[kF];lia,Dp⟩
def Dr:Qc "object.__new__" (.type "object")=jB ():=by
 unfold Qc;have e:Pr (.type "object")=jB (.type "object"):=by first|rfl|lia
 refine e.symm▸?_;rw[pure_bind,vF];first|rfl|lia|(simp;rfl)
def Ds:isType (.type "object")=jB true:=by first|rfl|lia
def Dt:SS (Builtin.«object.__new__» ⟨[.type "object"],[]⟩) (λ _ R s=>R (.ok (.ret (.ref s.heap.objs.size))) {s with heap:=s.heap.push {cls:=.type "object",dict:=none,data:=.plain}}):=by
 refine Nw λ e w A R s h=>?_;have a:=Dr;obtain⟨c,g,d,f,os⟩:=s;have b:=Ds;repeat(any_goals(first|assumption|wp_step))
 exact bj _ rfl h
def Du(v:ab):SS (Builtin.«object.__init__» ⟨[v],[]⟩) (λ _ R s=>R (.ok (.ret .none)) s):=by exact Nw λ a w A R s h=>ah ⟨_,rfl,h⟩
def Dv(h:Vh (.ref q.heap.objs.size) {q with heap:=q.heap.push {cls:=.type "object",dict:=none,data:=.plain}}):aA (au P0 c) o (I3 (.type "object") []) Vh y q:=callType_meets (Q₁:=λ v e=>v=.ref q.heap.objs.size/\e={q with heap:=q.heap.push {cls:=.type "object",dict:=none,data:=.plain}}) Dq (by lia) (by lia) F.entry_object_new F.entry_object_init Dt ⟨rfl,rfl⟩ λ f g d=>by
  obtain⟨a,b⟩:=d;subst a b;exact⟨⟨_,aF _ rfl,rfl⟩,by unfold L';lia,_,Du _,rfl,h⟩
def Dw(P:a3):a5 P (ac "object")=none/\cR P (ac "object")=some (.type "object"):=⟨by lia,by lia⟩
def ag.bare{d:Go}(t:Ev u g i (.Name Vf v) (.raw (.type "object")))(C:ce g j=true)(h:∀a,ag A u g ((j,.bare a)::i) (bu j D) Vr d)(B:autoParam (∀b,MG (.Call (.Name Vf v) [] [] Vi) (some (.Name j J)) VC.line b=jB ap) cN):ag A u g i D (.Assign [.Name j J] (.Call (.Name Vf v) [] [] Vi) VC::Vr) d:=λ X w n e b M s E m U O F=>by
 refine iq (Jh (dr (t.use e F.er (Kp.refl s) λ Q c L _ l T=>?_)) (B b));obtain rfl:Q=.type "object":=L;refine I0 rfl (UF (Dv ?_));have kp:Kp s {c with heap:=c.heap.push {cls:=.type "object",dict:=none,data:=.plain}}:=l.trans Kp.push;refine(F.kp kp).store (dL C) (V:=.bare c.heap.objs.size) ⟨rfl,(F.kp l).er.ex.fresh (aB _),aF _ rfl⟩ λ N G q o H=>?_;refine aG (h _ X w n e b M N E G q O o) (λ f V r=>r.after ((aZ.bR F.hO kp).trans (.dn F.hO H))) λ _ _ A=>A
noncomputable def kb:LO:={name:=ac "Mismatch",bases:=[.type "tuple"],mro:=[.ref 269,.type "tuple",.type "object"],ns:=268,qualname:=ac "Mismatch",hasDict:=ap,slotNames:=[],subclasses:=[],abstract:=ap,collection:=none,hasDel:=ap}
def n0(P:a3):clsIn (cn P) 269=some kb:=by lia
def Dx(P:a3):findCls (cn P) (.ref 269) (.type "type") (ac "__new__")=some (.get (.builtin "staticmethod.__get__") (.ref 270) .none (.ref 269)):=by lia
def Dy(P:a3):readsIn (cn P) 269 (.type "type")=true:=by lia
def q3(P:a3):Pd (cn P) (.ref 269) (ac "__init__")=some (some (.builtin "object.__init__")):=by lia
def vG(P:a3):OH (cn P) (.ref 269) (ac "__call__")=some (some (.builtin "type.__call__")):=by lia
def Dz(P:a3):recIn (cn P) 270 "staticmethod"=some [.ref 216]:=by lia
def DA{M:LN}:Jz M s (PU (.type "tuple")) none:=LX (by lia)
def DB(P:a3):findCls (cn P) (.type "tuple") (.type "type") (ac "__new__")=some (.val (.builtin "tuple.__new__")):=by lia
def vH{M:LN}:Jz M s (Nc (.type "tuple")) (.type "type"):=LX (by lia)
def q4{M:LN}(X:(cn Vx).In s):Jz M s (Pl (.ref 269)) none:=by
 intro A Q E a k q;unfold Pl;refine af ((((P' X (n0 Vx)).andThen .now:Jz M s (UY (.ref 269)) kb.mro)) A _ E a k ?_);unfold kb;rw[Kw];exact af (af (af (af (wpAny_loadPart (k _ _ (X 269 _ rfl)) (ah (ah (ah (ah q))))))))
def DC{M:LN}:Jz M s (Uh [.type "tuple"]) (.type "tuple"):=LX (by first|rfl|lia)
def vI{M:LN}(X:(cn Vx).In s):Jz M s (Pr (.ref 269)) (.type "tuple"):=by
 intro A Q E a k q;unfold Pr;refine af ((((P' X (n0 Vx)).andThen .now:Jz M s (UY (.ref 269)) kb.mro)) A _ E a k ?_);unfold kb;dsimp only;rw[Kw];refine af (af (af (q4 X A _ E a k (bT (by decide) ?_))));refine af (P' X (n0 Vx) A _ E a k (af (DC A _ E a k (ah ?_))));dsimp only;rw[Kw];refine af (af (cx Qk.made (eP (by decide) ?_)));exact ah (ah (ah q))
noncomputable abbrev vJ(b:Array ab)(a:ae):Obj:={cls:=.ref 269,dict:=some a,data:=.seq b}
def DD(t:ae)(l:Array ab)(x:l.size<=10):SS (Builtin.«tuple.__new__» ⟨[.ref 269,.ref t],[]⟩) (λ A R s=>A.handled=none/\(cn Vx).In s.heap/\s.heap.IsTuple t l/\∀p a n,(KO s.heap p)->s.heap.get? a=none->p.get? a=some (vJ l n)->R (.ok (.ret (.ref a))) {s with heap:=p}):=by
 refine Nw λ j w A R s C=>iB C λ U X m h=>aj λ D=>?_;obtain⟨i,g,d,r,os⟩:=s;dsimp only at X m h;obtain⟨V,m,y,nT,z⟩:=m;refine D ?_;have G:Jz (au j w) i (isType (.ref 269)) true:=(Lq (X 269 _ rfl)).andThen .now;have H:=Ot (M:=au j w) X (jC Vx).1;have J:Jz (au j w) i (Qc "tuple.__new__" (.ref 269)) ():=(vI X).andThen (by exact(Qk.made).symm▸(LX (by lia)));have L:=K' (M:=au j w) X (q3 Vx);have O:(100:Nat)<=a9:=by decide
 have fin:∀c:a7,(KO i c)->aA (au j w) A.in1 (do
   let n<-alloc {cls:=.type "dict",data:=.dict #[]}let v<-UV (.ref 269) (.seq l.toList.toArray) (some n)ret v) (λ f q=>∃v,f=.done (.ret v)/\R (.ok (.ret v)) q) (λ e q=>R (.error e) q) ⟨c,g,d,r,os⟩:=λ c k=>by
  refine al (P7 (al ?_));unfold UV newObjAsIs classHasDel;dsimp only;refine bT (by simp;exact a2 x (aE true)) ?_;refine al (P7 (al (al (MN (ao _ (ao _ (k _ _ (X 269 _ rfl)))) (ah ?_)))));refine ah (ah ⟨_,rfl,(h _ _ c.objs.size (λ b o e=>ao _ (ao _ (k b o e))) ?_ (aF _ rfl))⟩);rcases e:i.get? (c.push {cls:=.type "dict",data:=.dict #[]}).objs.size with _|o;·rfl
  ·exact absurd (az (k _ _ e)) (by simp)
 have u:∀(Q:List ab->aa->Prop)E,(∀c:a7,(KO i c)->Q l.toList ⟨c,g,d,r,os⟩)->aA (au j w) A.in1 (R1 (.ref t)) Q E ⟨i,g,d,r,os⟩:=λ Q E B=>wpAny_collect_seq t (T:="tuple") (.inr rfl) m y z B (a2 x (aE true));unfold Builtin.«tuple.__new__»;dsimp only;generalize R1 (.ref t)=N at u⊢;repeat lk
 exact u _ _ λ c k=>fin c k
def DE:cu 216 215 (bB [27,4]) (a0 [27,4]) [nm "_cls",nm "actual",nm "expected",nm "value"]:=cu.mk' (λ P=>by lia) (λ P=>by lia) (λ P=>⟨by lia,by lia,by lia,by lia,by lia,by lia⟩) (by decide) (by lia) (by lia) ⟨by rfl,by rfl⟩ (by lia) (by lia) (by lia)
def DF(P:a3):a5 P (ac "tuple")=none/\cR P (ac "tuple")=some (.type "tuple"):=⟨by lia,by lia⟩
def DG:Manifest.signature? "tuple.__new__"=some ⟨.constructor,"tuple","tuple",.cls,[{name:="iterable",kind:=.posOnly,required:=ap}]⟩:=by lia
def DH:builtinKind "tuple.__new__"=some .builtinFn:=by decide+kernel
def DI:splitId "tuple.__new__"=some ("tuple","__new__"):=by decide+kernel
def DJ{M:LN}(X:(cn Vx).In s)(t:ae):Jz M s (PW "tuple.__new__" ⟨[.ref 269,.ref t],[]⟩) ():=by
 intro A Q E c k q;have X:=X.keeps k;obtain⟨a,g,d,l,os⟩:=c;dsimp only at X;have e:Jz M a (isType (.ref 269)) true:=(Lq (X 269 _ rfl)).andThen .now;have f:=Ot (M:=M) X (jC Vx).1;have i:=vI (M:=M) X;have j:Jz M a (Pl (.type "tuple")) (some "tuple.__new__"):=LX Qk.made;have b:Bind.checkArgs "tuple.__new__" ⟨.constructor,"tuple","tuple",.cls,[{name:="iterable",kind:=.posOnly,required:=ap}]⟩ ⟨[.ref 269,.ref t],[]⟩=jB ():=by lia
 simp only[PW,DH,DI,DG];rw[b];repeat(first|rw[bne_self_eq_false,cT,if_false]|lk)
 exact q
def DK(k:VB.size<=10)(i:o.handled=none)(X:(cn c.params).In q.heap)(j:q.heap.IsTuple h VB)(g:∀b a f,(KO q.heap b)->q.heap.get? a=none->b.get? a=some (vJ VB f)->Vh (.ref a) {q with heap:=b}):aA (au P0 c) o (I3 (.builtin "tuple.__new__") [.ref 269,.ref h]) Vh y q:=by exact Jg (Ii PySem.F.plain_tuple_new F.entry_tuple_new (DJ X h _ _ _ _ (λ _ _ e=>e) (DD (Vx:=c.params) h VB k P0 c o (λ r d=>match r with|.ok (.ret v)=>Vh v d|.ok _=>False|.error e=>y e d) q ⟨i,X,j,g⟩)))
def Ev.DL{o d f:b7}(VL:u.2=true)(VQ:Ev u g i o (.raw (.type "tuple")))(VT:Ev u g i d (.raw (.ref 269)))(VU:Ev u g i f (Tu Vo))(VN:Vo.length<=10)(m:autoParam (∀j c,bD (d::j) c=(ap,He d c)::bD j c) bc)(z:autoParam (∀j c,bD (f::j) c=(ap,He f c)::bD j c) bc)(Y:autoParam (∀c,Ka o (ac "__new__") c (He o c)=He o c) cN)(VO:autoParam ((v.endLine==J.line)=true) bc):Ev u g i (.Call (.Attribute o (ac "__new__") v) [d,f] [] J) (.inst (.ref 269) Vo):=λ X w A y c s E R=>by
 simp only[arm_eval_Call,Y];refine al (VQ.use y R (Kp.refl s) λ B h V0 _ VV C=>?_);obtain rfl:B=.type "tuple":=V0;have x:=C.left.cn;refine al (It ?_);have D:(L9 J (bD [d,f] c)).any (·.1)=ap:=by rw[m,z];rfl
 have VM:methodCallForm ([d,f].length+([]:List Keyword).length) (L9 J (bD [d,f] c)) (backToKw J (keywordEach [] c))=true:=by rw[m,z];rfl
 have VR:methodCallPos true o c v J=jB J:=by unfold methodCallPos;simp[VO]
 have V2:Jz (au P0 w) h.heap (PT (.type "tuple") "__getattribute__") (some (.builtin "type.__getattribute__")):=vH.andThen (K' x (by lia));have V3:∀{Q:ab->aa->Prop},Q (.builtin "tuple.__new__") {h with toks:=h.toks+1}->aA (au P0 w) A (Qw (.type "tuple") (ac "__new__") ap) Q E h:=λ q=>cls_open x DA vH (by lia) (looks_hook (r:=none) x (by lia)) (by lia) (DB w.params) (ah (by show aA _ _ (handedOut _) _ _ _;rw[handedOut_of (by lia)];exact ah q));unfold methodCall;refine VM.symm▸(al (aK ?_));unfold calleeOf getMethod;refine al (V2 A _ E h (λ _ _ e=>e) (eP canon_tga (al (V3 (ah (al (cx VR ?_)))))));have U:=a6.use y (z:=J) (E:=E) (.cons VT (.cons VU .nil z) m) (s:={h with toks:=h.toks+1}) (e:=s) (Q:=λ p n=>aA (au P0 w) A (I3 (.builtin "tuple.__new__") p) (λ B n=>RV X n.heap B (.inst (.ref 269) Vo)/\Kp s n) E n) C (VV.trans Kp.toks) λ p M V1 _ H t=>by
  refine bS V1.two λ V6 V7 VW VY VZ=>?_;obtain rfl:=VW;obtain rfl:=VY;refine bI VZ.tuple λ T p N VX V5 VS L=>?_;obtain rfl:=VX;have t:bq X w g c M.heap i:=R.keeps H.keep;refine DK (by simp;exact dS (cy L) VN) (y.calm VL) t.left.cn VS λ O a V4 G VP V=>?_;refine⟨⟨a,_,_,p,N,rfl,(λ q=>by refine ai (t.ex a q) λ o e=>?_;exact bN VP e),V,rfl,rfl,vr (λ b o e=>dW.mpr ⟨dH e,e' e,G b o (dm e)⟩) L⟩,H.trans ⟨O,M.toks,rfl,G⟩⟩
 rw[m]at U D⊢;exact Ir D (b1 U)
def DM{e b c:bP}:Fn (a+1,true) (.ref 216) [.raw (.ref 269),.d e,.d b,.d c] (.inst (.ref 269) [e,b,c]):=Fn.of DE (λ P doc i f=>by
  refine aj λ h=>?_;obtain⟨e,b,c,d,g⟩:=z7 f;obtain rfl:=g;refine h ?_;lia) rfl (ag.cons St.doc (ag.last (St.ret (Ev.DL rfl (Ev.bl DF) Ev.nm (Ev.tuple (Vo:=[e,b,c]) (f:=by show 3<=a9;decide) (.cons Ev.nm (.cons Ev.nm (.cons Ev.nm .nil)))) (by simp))) trivial))
def DN(a b c d:ab):L' "object.__init__" ⟨[a,b,c,d],[]⟩:=by unfold L';lia
def DO{e f i:ab}(X:(cn c.params).In q.heap)(b:q.heap.get? h=some O)(k:O.cls=.ref 269)(j:Vh .none q):aA (au P0 c) o (I3 (.builtin "object.__init__") [.ref h,e,f,i]) Vh y q:=by
 obtain⟨a,g,d,r,os⟩:=q;dsimp only at X b;have l:Jz (au P0 c) a (Nc (.ref h)) (.ref 269):=k▸(Lq b).andThen .now;have m:Jz (au P0 c) a (NN (.ref h) (.type "object")) true:=l.andThen (Ot X (jC c.params).2.1);have n:=K' (M:=au P0 c) X (q3 c.params);have p:=q4 (M:=au P0 c) X;refine Jg (Ii oi_plain entry_oi (@Tq (au P0 c) _ _ _ "object.__init__" "object" "__init__" (.ref h) [e,f,i] [] _ oi_kind oi_split m (DN _ _ _ _) ?_));unfold Builtin.«object.__init__»;repeat(first|rw[bne_self_eq_false,cT,if_false]|lk)
 exact j
def DP{l b m:bP}(z:Rm (a+2,true) o)(L:aC c q.heap)(H:Ex w q.heap)(VV:aU w q.heap Ve [.d l,.d b,.d m]):aA (au P0 c) o (I3 (.ref 269) Ve) (λ v i=>RV w i.heap v (.inst (.ref 269) [l,b,m])/\Kp q i) y q:=by
 refine aj λ VZ=>?_;refine bI VV.three ?_;rintro p r t rfl N O T;have f:=L.cn;have J:q.heap.get? 269=some (mP c.params):=f 269 _ rfl;have V:Jz (au P0 c) q.heap (PT (.ref 269) "__call__") (some (.builtin "type.__call__")):=Ux f (vG _);have VL:Jz (au P0 c) q.heap (NN (.ref 269) (.type "type")) true:=looks_instIn f (jC _).2.2.2;obtain⟨h,g,d,j,os⟩:=q;refine VZ ?_;dsimp only at L H N O T f J V VL;have V3:Jz (au P0 c) h (UY (.ref 269)) kb.mro:=(P' f (n0 c.params)).andThen .now;have V2:=q4 (M:=au P0 c) f;have G:Rm (a+1,true) (o.under (.builtin "type.__call__" ⟨[.ref 269,p,r,t],[]⟩)):=⟨by have :=z.depth;show o.depth+1+_+_<_;exact oT this,by have :=z.units;show o.units+1+_+_<_;exact my this rfl,z.calm⟩;refine Jg (Mu (nd_load J ?_));show aA _ _ (Q3 (.ref 269) _) _ _ _;unfold Q3;refine af (V.at ?_);dsimp only;rw[tc_bind];refine af (ah (af (ah (ah (a:=PySem.Fin.again (.call (.builtin "type.__call__") ⟨[.ref 269,p,r,t],[]⟩)) (Pp rfl (codeAny_call_builtin_at (Le _ (by decide+kernel)) entry_typeCall (Tq tc_kind tc_split VL (tc_args _ _ _) ?_)))))));generalize o.under (.builtin "type.__call__" ⟨[.ref 269,p,r,t],[]⟩)=D at G⊢;unfold Builtin.«type.__call__»;have Y:∀{Q:ab->aa->Prop}{y},Q (.ref 216) ⟨h,g,d,j+1,os⟩->aA (au P0 c) D (Qw (.ref 269) "__new__" ap) Q y ⟨h,g,d,j,os⟩:=λ VR=>cls_bind (s:=⟨h,g,d,j,os⟩) f (Dy c.params) (Dx c.params) (Jg (sm_get (s:=⟨h,g,d,j+1,os⟩) f (Dz c.params) (handed_on (by lia) VR)));dsimp only;generalize VO:Qw (.ref 269) "__new__"=V0;rw[VO]at Y;repeat lk
 refine Y (af (aK (aG ((DM (a:=a) (e:=l) (b:=b) (c:=m)) w c D G ⟨h,g,d,j+1,os⟩ [.ref 269,p,r,t] y L H (.cons rfl (.cons N (.cons O (.cons T .nil))))) (λ V1 i VS=>(am VS λ VU kp=>?_)) λ _ _ x=>x)));obtain⟨x,VQ,n,VY,as,rfl,VP,C,B,VN,VT⟩:=VU;have u:=f.keeps kp.keep;have U:Jz (au P0 c) i.heap (Nc (.ref x)) (.ref 269):=B▸(Lq C).andThen .now;have VW:Jz (au P0 c) i.heap (NN (.ref x) (.ref 269)) true:=U.andThen (Ot u (jC _).2.2.1);have VX:Jz (au P0 c) i.heap (PT (.ref x) "__init__") (some (.builtin "object.__init__")):=U.andThen (K' u (q3 _));have fin:RV w i.heap (.ref x) (.inst (.ref 269) [l,b,m])/\Kp ⟨h,g,d,j,os⟩ i:=⟨⟨x,VQ,n,VY,as,rfl,VP,C,B,VN,VT⟩,(Kp.toks (q:=⟨h,g,d,j,os⟩)).trans kp⟩;refine af (VW _ _ _ _ (λ _ _ e=>e) (bT (by decide) ?_));refine af (aK ?_);unfold R3;refine af (VX _ _ _ _ (λ _ _ e=>e) (aK (af (cx (oi_bind (.ref x)) (af (DO u C B (ah (bT (by decide) ?_))))))));exact ah fin
def vK(P:a3):a5 P (ac "_Mismatch")=some (.ref 269):=by lia
def Ev.vL{r t u:b7}{n b c:bP}(N:Ev (a+2,true) g i (.Name j v) (.raw (.ref 269)))(y:a6 (a+2,true) g i [r,t,u] [.d n,.d b,.d c]):Ev (a+2,true) g i (.Call (.Name j v) [r,t,u] [] J) (.inst (.ref 269) [n,b,c]):=λ X w A o q s E R=>by
 refine dr (N.use o R (Kp.refl s) λ l VS VQ _ V D=>?_);obtain rfl:l=.ref 269:=VQ;have z:=y.plain (E:=q) (v:=J);refine di y.cut λ _ _ L G H B=>?_;refine am (List.cons.inj L) λ VN VO=>?_;obtain rfl:=VN;obtain rfl:=VO;have U:=a6.use o (z:=J) (E:=E) (.cons G H B) (s:=VS) (Q:=λ C h=>bq X w g q h.heap i/\aA (au P0 w) A (I3 (.ref 269) C) (λ l h=>RV X h.heap l (.inst (.ref 269) [n,b,c])/\Kp s h) E h) D V λ C VT VR _ Y f=>⟨f,aG (DP o f.left f.ex VR) (λ l VU VP=>by refine am VP λ VL VM=>?_;exact⟨VL,Y.trans VM⟩) λ _ _ j=>j⟩;rw[B]at U z⊢;unfold callWith;refine af (aK (b1 (aG U (λ VV VT O=>(af (It (am O λ f M=>?_)))) λ _ _ j=>j)));have p:=f.left.cn;rw[z];refine af (m:=keeperOf (.ref 269)) (af (MN (p 269 _ rfl) (af ((Ux p (vG _)) _ _ _ _ (λ _ _ e=>e) (ah ?_)))));rw[if_pos (by decide)];exact af (aG M (λ l VU T=>af (aK (SG (ah T)))) λ _ _ j=>j)
def aU.at{X:ae->Prop}{h:a7}{c:List ab}{b:List PV}(r:aU X h c b){i:Nat}{p:PV}(e:b[i]?=some p):∃v,c[i]?=some v/\RV X h v p:=by induction r generalizing i with
 |nil=>exact aQ e|cons a _ d=>
  rcases i with _|i;·obtain rfl:=ax e;exact bj _ rfl a
  ·exact d e
inductive vM(x:Cx)(X:ae->Prop)(w:ar)(A:aq)(m:aw)(f:Env)(o s:aa)(O:List ae)(VN:Nat->List (Str×PV))(VO:Nat->List (Str×OL))(VM:ae->Prop)(e g a:ae)(n j:Nat)(c:aa):Prop|mk(VL:Nat)(k h:Str->Option ab)(d:List ae)(F:FB x (cX X VM) w A m f o (VN VL) (VO VL) k h d c)(p:aZ x A X f O s d c)(q:∃l,IsEnum c.heap e g VL l)(r:c.heap.IsListIter g a VL)(u:VL<=n)(v:j=n+1-VL)(t:∀b,VM b->¬aL X f d b)
def St.q5{y V9 v Wy:Str}{np WW XK vp XJ XB W4:Pos}(ls:Nat->List PV)(Wq:Nat->PV)(G:Nat->List (Str×PV))(Y:Nat->List (Str×OL))(WA:Nat->Go)(Xb:u.2=true)(Wi:Ev u g (G 0) (.Name Wy np) (.raw (.type "enumerate")))(Xp:Ev u g (G 0) (.Name y WW) (.raw (.ref h)))(Xn:ce g V9=true)(Wm:ce g v=true)(W9:∀i,i<=b->(G i).lookup y=some (.raw (.ref h)))(Xi:∀i,i<=b->(Y i).lookup y=some (.m (ls i)))(Xk:∀i,i<=b->(ls i).length=b)(Xm:∀i,i<b->(ls i)[i]?=some (Wq i))(Xa:∀i,i<b->ag A u g ((v,Wq i)::(V9,I i)::G i) (bu v (bu V9 (Y i))) Vr (WA i))(Xe:∀i,i<b->fM (WA i) (G (i+1)) (Y (i+1))):St A u g (G 0) (Y 0) (.For (.Tuple [.Name V9 XK,.Name v vp] a XJ) (.Call (.Name Wy np) [.Name y WW] [] XB) Vr [] W4) (.next (G b) (Y b)):=λ X w J We z VN s E m Wx O F=>jF λ Q fin=>by
 have WE:=We.calm Xb;refine T2 (lf Wi (.cons Xp .nil) We F.er λ vs L XG Wo XO=>?_) (by intro _;rfl);refine aj λ VU=>?_;refine ak XG.one λ X1 XC XD=>?_;obtain rfl:=XC;obtain rfl:=XD;have VZ:=F.kp Wo;have lJ:∀{X':ae->Prop}{i VY VW M B},i<=b->FB A X' w J g z VN (G i) (Y i) VY VW M B->∃vs,h∈M/\B.heap.PlainList h vs.toArray/\aU (aL X' z M) B.heap vs (ls i):=λ VL VS=>by
   obtain⟨c,vs,Xr,WK,Xs,Xt,Xu⟩:=VS.own y _ (Xi _ VL);have V:=VS.er.vars y _ (W9 _ VL);unfold cc at V;rw[Xr]at V;obtain⟨XT,V',Wa,Wb,W3⟩:=V;obtain rfl:=W3;rw[VS.ns.agree Wa y,Wb]at WK;cases WK;exact⟨vs,Xs,Xt,Xu⟩
 refine ci (lJ (dk _) VZ) λ X0 XS XA XW=>VU ?_;have WG:=XA.isList;refine S8 WG λ h' VV V4 WI Xh=>TF VV (aj λ VU=>ak (id WG) λ XV Xl _=>(VU ?_));have U:h<L.heap.objs.size:=az Xl;generalize Xc:L.heap.objs.size+1=e at VV;generalize Wj:L.heap.objs.size=C at VV V4 U;have VX:C<e:=by rw[<-Xc,<-Wj];exact Ia _
 have W':h≠C:=br U;let r:ae->Prop:=λ c=>c=e\/c=C;have Wr:VN.heap.objs.size<=C/\314<=C:=by
   refine ak (Ns.c9 VZ.ns) λ o d _=>?_;have :=az d;rw[Wj]at this;exact⟨bn (bz F.fresh this),bn (bz F.locals this)⟩
 have Wg:∀c,r c->VN.heap.objs.size<=c/\314<=c:=λ c q=>by
   rcases q with rfl|rfl;·exact⟨an Wr.1 (bn VX),an Wr.2 (bn VX)⟩
   ·exact Wr
 have WC:∀c,r c->L.heap.get? c=none:=λ c q=>cW (by rw[Wj];rcases q with rfl|rfl;exact bn VX;exact aB _);have WN:∀c o,L.heap.get? c=some o->¬r c:=λ c o e q=>bN (WC c q) e;have V8:∀{N:a7}{i:Nat},(∃VQ,IsEnum N e C i VQ)->N.IsListIter C h i->∀c o,r c->N.get? c=some o->¬bw o:=λ Wh VL c o q Wz=>by
   rcases q with rfl|rfl
   · refine ai Wh λ VQ d=>?_;cases Wz.symm.trans d;exact bw.hX rfl (by decide) rfl λ q t=>λ N=>by cases N
   ·exact jJ VL o Wz
 have Wl:∀{N:a7}{i:Nat},(∃VQ,IsEnum N e C i VQ)->N.IsListIter C h i->∀c,r c->∃o,N.get? c=some o:=λ Wh VL c q=>by
   rcases q with rfl|rfl;·refine ai Wh λ VQ d=>?_;exact⟨_,d⟩
   ·refine ak VL λ o d _=>?_;exact⟨o,d⟩
 have WM:Kp L {L with heap:=h'}:=⟨h',L.toks,rfl,Xh⟩;have V5:A.t=true->(∀c,bC c->X c)/\(∀c,FA J c->Ow X z c/\c<=z.locals):=λ t=>⟨(F.bi t).tab,(F.bi t).fa⟩;have WX:FB A (cX X r) w J g z VN (G 0) (Y 0) m Wx O {L with heap:=h'}:=VZ.wide WM WC (Wl ⟨_,VV⟩ V4) (λ c q=>(Wg c q).1) (V8 ⟨_,VV⟩ V4);have W8:∀c,r c->¬aL X z O c:=λ c q l=>by exact ai (VZ.er.ex c l) λ o d=>WN c o d q
 have Xv:∀{Wu Wv:List ae}{L WU:aa},aZ A J (cX X r) z Wu L Wv WU->aZ A J X z Wu L Wv WU:=λ f=>⟨f.keep,f.own,f.sub,λ c WD=>⟨λ q=>(f.eV c WD).1 (jQ q),(f.eV c WD).2⟩⟩;refine S7 (λ j B=>vM A X w J g z VN s O G Y r e C h b j B) ?_ (b+1) ⟨0,m,Wx,O,WX,.bR F.hO (Wo.trans WM),⟨_,VV⟩,V4,dk _,rfl,W8⟩;intro j B H;obtain⟨i,VY,VW,M,VS,fr,V1,V2,VL,Xg,VP⟩:=H;subst Xg;refine ci (lJ VL VS) λ vs XR WQ WT=>?_;have Xj:vs.length=b:=by rw[WT.len,Xk i VL]
 have W:=(RJ (prog:=P0) (w:=w) WE e C h (IC VX) (br (LF U VX)) W' vs.toArray).toU;have WO:∀c o,s.heap.get? c=some o->¬r c:=λ c o e=>WN c o (Wo.keep c o e);have Wp:∀c,c∈[e,C]↔r c:=λ c=>by simp[r]
 by_cases U:i<b
 · refine W.item i B _ _ (by simp;exact eO Xj U) ⟨V1,V2,WQ.isList⟩ λ T XZ V6 VR Wm W7 WH Wk=>?_;refine aj λ VU=>?_;obtain⟨t,V',Xo,rfl⟩:=Wm;refine VU (W.go _ _ _ i T {B with heap:=V6,toks:=VR} _ _ WH λ VT XH WF=>?_);have a:KX r B.heap VT:=λ c o D d=>WF c o (λ q=>D ((Wp c).mp q)) (Wk c o (λ q=>D ((Wp c).mp q)) d);refine aj λ VU=>?_;obtain⟨Wf,V3,XQ⟩:=XH;refine VU ?_;have V0:FB A (cX X r) w J g z VN (G i) (Y i) VY VW M {B with heap:=VT,toks:=VR}:=VS.uo Wg VP (V8 V1 V2) a (Wl Wf V3) (λ t c f=>((V5 t).2 c f).1) (V8 Wf V3);have W5:aZ A J X z O s M {B with heap:=VT,toks:=VR}:=⟨λ c o D e=>a c o (WO c o e) (fr.keep c o D e),fr.own,fr.sub,fr.eV⟩;have Xy:∀c,r c->¬h2 A J z M c:=λ c q l=>by
     rcases l with l|l|⟨t,l|l⟩;·exact VP c q (.inl (.inr l))
     ·exact VP c q (.inr l)
     ·exact VP c q (.inl (.inl ((V5 t).1 c l)))
     ·exact VP c q (.inl ((V5 t).2 c l).1)
   have XF:RV (aL (cX X r) z M) VT V' (Wq i):=by
     obtain⟨XM,Wa,Wb⟩:=WT.at (Xm i U);have :XM=V':=by
       have :vs[i]?=some V':=by simpa using Xo
       cases aO Wa this;rfl
     cases this;exact Wb.shift λ c o D d=>⟨D,a c o (λ q=>D (.inl (.inl (.inr q)))) d⟩
   refine Tj WE (W7.at λ o d=>WF T o (W.apart i T _ WH) d) rfl rfl λ WJ Xd=>?_;have Wn:Kp {B with heap:=VT,toks:=VR} {B with heap:=WJ,toks:=VR}:=⟨WJ,VR,rfl,λ c o d=>Xd c o (br (az d)) d⟩;have Ws:=V0.kp Wn;refine Il (OP (Ws.store (dL Xn) (V:=I i) .mkInt λ XY XU XP Wt WS=>?_));refine Il (OP (Wt.store (dL Wm) (XF.shift λ c o D d=>⟨D,WS c o (λ q=>D (.inl (.inr q))) (Wn.keep c o d)⟩) λ XI Xw W1 WY XE=>J8 ?_));refine aG (Xa i U (cX X r) w J We z VN XI _ Xw W1 M WY) (λ f WV Xq=>?_) λ _ _ N=>N;obtain⟨Wi,Xx,W2,W0,WZ,W6⟩:=(Xe i U).qu Xq;suffices Xz:∃j,j<b+1-i/\vM A X w J g z VN s O G Y r e C h b j WV from by rcases Wi with rfl|rfl<;>exact Xz
   have Wc:=((aZ.bR V0.hO Wn).trans ((aZ.dn Ws.hO WS).trans (.dn Wt.hO XE))).trans W6;have WL:∀c o,r c->VT.get? c=some o->WV.heap.get? c=some o:=λ c o q d=>Wc.keep c o (Xy c q) d;refine ai Wf λ VQ WB=>⟨b+1-(i+1),jb U,i+1,Xx,W2,W0,WZ,W5.trans (Xv Wc),⟨VQ,WL e _ (.inl rfl) WB⟩,V3.at λ o d=>WL C o (.inr rfl) d,U,rfl,λ c q l=>?_⟩;refine aH l (λ l=>?_) λ l=>?_;·exact VP c q (.inl l)
   · refine aH (Wc.own c l) (λ l=>?_) λ l=>?_;·exact VP c q (.inr l)
     · refine ai (Wl ⟨VQ,WB⟩ V3 c q) λ o d=>?_;have WR:VT.get? c=none:=l;rw[d]at WR;exact c7 WR
 · have Xf:i=b:=gu VL U;subst Xf;have WI:vs.toArray.size=i:=by assumption
   refine W.done B _ _ (by rw[WI];exact⟨V1,V2,WQ.isList⟩) λ V6 VR Wk=>?_;have a:KX r B.heap V6:=λ c o D d=>Wk c o (λ q=>D ((Wp c).mp q)) d;have V0:FB A X w J g z VN (G i) (Y i) VY VW M {B with heap:=V6,toks:=VR}:=VS.nt Wg VP (V8 V1 V2) a V5;exact J4 (fin _ _ ⟨rfl,VY,VW,M,V0,⟨λ c o D e=>a c o (WO c o e) (fr.keep c o D e),fr.own,fr.sub,fr.eV⟩⟩)
def vN:Rr "object" (cmpInfo .Eq).2.1 "object.__eq__":=F.cmp_object.eq
def vO:Rr "str" (cmpInfo .Eq).2.2 "str.__eq__":=.of (owner:="str") (n:="__eq__") (by rw[I6,FF];lia) (by decide+kernel) (by decide+kernel) (by decide+kernel) (by first|exact .inl (by decide+kernel)|exact .inr (by decide+kernel)) (by rw[kF];lia)
def DQ:Km (.type "str") (.type "object")=jB true:=by rw[kF];lia
def DR:SS (Builtin.«str.__eq__» ⟨[.str j Vv,.ref h],[]⟩) (λ _ R s=>s.heap.get? h=some {cls:=.type "object",dict:=none,data:=.plain}/\R (.ok (.ret .notImplemented)) s):=by
 refine Nw λ i w A R s e=>?_;obtain⟨b,c⟩:=e;obtain⟨f,g,d,k,os⟩:=s;wp_walk using wpAny_loadPart' b,LZ ⟨_,b,rfl⟩;all_goals exact bj _ rfl c
def DS:SS (Builtin.«object.__eq__» ⟨[.ref h,.str j Vv],[]⟩) (λ _ R s=>R (.ok (.ret .notImplemented)) s):=by
 refine Nw λ c w A R s b=>?_;have e:U1 (.ref h) (.str j Vv)=jB ap:=by rw[isSame_plain (by rfl)];rfl
 unfold Builtin.«object.__eq__»;refine al (ah (al (cx e (bT (by decide) ?_))));exact ah ⟨_,rfl,b⟩
def aD.DT:aD .Eq (.bare h) (S j) ap:=λ X w A k s v u E p n l=>by
 refine a4 n ?_;rintro rfl q i;refine ai l.str ?_;rintro t rfl;have b:s.TypeIs (.ref h) "object":=⟨_,i,rfl⟩;have c:s.TypeIs (.str j t) "str":=JH s j t;show aA _ A (M5 .Eq _ _) _ E s;refine aj λ o=>?_;rcases g:cmpInfo CmpOp.Eq with⟨y,f,r⟩;refine o ?_;have d:=vN;have e:=vO;rw[g]at d e;rw[M5,g,b.oneThing_none];try with_reducible refine aK ?_
 refine af (wpAny_cRoomFor_or (.inr (fy k)) (af (LZ b (af (LZ c (eP (by decide) ?_))))));refine af (cx DQ ?_);simp only[if_true,Bool.not_true,cT,if_false];refine af (m:=tryCompare (.str j t) _ (.ref h)) (Q2 c e (KA vO c F.entry_str_eq (F.args_str_eq_2 _ _) DR ⟨i,rfl,(af (m:=tryCompare (.ref h) _ (.str j t)) (Q2 b d (KA vN b F.entry_object_eq (F.args_object_eq_2 _ _) DS ⟨rfl,?_⟩)))⟩));refine af (Jw (af (cx (show U1 (.ref h) (.str j t)=jB ap by rw[isSame_plain (by rfl)];rfl) (ah ⟨rfl,Kp.refl _⟩))))
def aD.vP:aD .Is (S j) (.bare h) ap:=λ X w A f s v u E d c b=>by
 refine ai c.str ?_;rintro t rfl;refine a4 b ?_;rintro rfl g e;refine wpAny_is_plain (by rfl) ⟨rfl,Kp.refl _⟩
def aD.vQ:aD .Is (.bare h) (.bare h) true:=λ X w A g s v u E e d c=>by
 refine a4 d λ b i f=>?_;obtain rfl:=b;refine a4 c λ b _ _=>?_;obtain rfl:=b;exact wpAny_is_ref_self ⟨rfl,Kp.refl _⟩
def ei.vR(H:Ev u g i (.Name j v) (.raw (.type "list")))(G:Ev u g i z (Li Vo))(M:Vo.length<=a9)(L:autoParam (∀m c,bD (z::m) c=(ap,He z c)::bD m c) bc):ei u g i (.Call (.Name j v) [z] [] J) (.p Vo):=λ X w A C c s E R=>by
 refine lf H (.cons G .nil L) C R λ vs r V f VM=>aj λ VL=>?_;refine ak V.one λ VP O U=>?_;obtain rfl:=O;refine bI U.list λ a Y t Q VN T h=>?_;obtain rfl:=Q;refine ai T λ n N=>?_;refine VL ?_;refine call_list_seq (hsz:=by simp;exact dS (cy h) M) a (.inl rfl) N rfl rfl λ B x d D=>?_;refine⟨r.heap.objs.size,Y,rfl,λ b o z=>az (f.keep b o z),⟨x,D⟩,⟨t,vr (λ b o z=>dW.mpr ⟨λ q=>?_,e' z,d b o (dm z)⟩) h⟩,f.trans ⟨B,r.toks,rfl,d⟩⟩;rcases q with q|q;·exact dH z q
 · subst q;exact absurd (az (dm z)) (Iy _)
def St.DU{VS VT VW VX Wj:Pos}{D r:List Str}(V0:u.2=true)(V9:ei u g i z (.p (D.map .str)))(V':ei u g i Vn (.p (r.map .str)))(V6:g.names.lookup j=some .local)(V8:g.names.lookup Vf=some .local)(V7:(Vf==j)=ap)(V5:∀c:Env,c.scope=g->J' [.Tuple [.Name j VS,.Name Vf VT] a VW] (.Tuple [z,Vn] b VX) c=jB (some [j,Vf]))(V3:autoParam (∀t c,bD (z::t) c=(ap,He z c)::bD t c) bc)(V4:autoParam (∀t c,bD (Vn::t) c=(ap,He Vn c)::bD t c) bc):St A u g i [] (.Assign [.Tuple [.Name j VS,.Name Vf VT] a VW] (.Tuple [z,Vn] b VX) Wj) (.next [] [(j,.p (D.map .str)),(Vf,.p (r.map .str))]):=λ X w H J c VU s E m Y O F=>by
 refine OA (names:=[j,Vf]) (OV (IP (aG (V9 (aL X c O) w H J c s E F.er) (λ Wt Q N=>?_) λ _ _ A=>A) (V3 _ _))) rfl (V5 c F.er.scope);obtain⟨f,Wq,VZ,L,G,Wm,C⟩:=N;subst VZ;refine IP (aG (V' (aL X c O) w H J c Q E (F.er.keeps C.keep)) (λ v VV N=>?_) λ _ _ A=>A) (V4 _ _);obtain⟨l,vs,e,VN,Wh,Wl,kp⟩:=N;subst e;refine Lx ⟨by show 2<=a9;decide,?_⟩;refine PL (items:=#[.ref f,.ref l]) (J.calm V0) ⟨_,aF _ rfl,rfl,_,rfl⟩ λ h' V1=>?_;have VO:KO VV.heap h':=λ d o e=>by
   have h:=ao {cls:=.type "tuple",dict:=none,data:=.seq #[.ref f,hk l],slots:=#[]} e;exact V1 d o (br (az h)) h
 have VP:Kp Q {VV with heap:=h'}:=kp.re λ d o e=>VO d o (kp.keep d o e);refine ai G λ Wg G=>?_;have B:VU.heap.objs.size<=f/\¬aL X c O f:=by exact ak (Ns.c9 F.ns) λ o h _=>dv (bn (bz F.fresh (L _ _ h))) (λ q=>(ai (F.er.ex f q) λ o h=>Iy _ (L _ _ h)))
 refine Il (OO (FB.qU (H:=Q) ((F.kp C).weaken (a:=[]) trivial) VP V8 VN (Wh.at λ o e=>VO _ o e) (RO.iZ (RO.strs Wl)) λ Wn Wr T We VL=>?_));have Wi:Wn.heap.PlainList f Wq.toArray:=⟨Wg,We _ _ (λ q=>B.2 (.inl (.inr q))) (VP.keep _ _ G)⟩;have V2:¬aL X c (l::O) f:=λ q=>by
   refine aH q (λ q=>?_) λ q=>?_;·exact B.2 (.inl q)
   · rcases aP.mp q with q|q;·exact(br (VN f _ G)) q
     ·exact B.2 (.inr q)
 refine Il (OO (T.ud V6 B.1 V2 Wi (U:=.p (D.map .str)) (RO.iZ (RO.strs Wm)) (λ _ _ e=>aQ e) (λ VY l' e=>?_) λ Wo VQ U Wk=>J8 ?_))
 · obtain⟨d,Wp,_,Wa,Wb,Wc,Wd⟩:=T.own VY l' e;refine kO d Wp Wa Wb Wc ?_;rw[aN]at e;refine gy (M:=VY==Vf) (λ M=>?_) λ M=>?_;·rw[M]at e;exact aQ e
   ·rw[M]at e;obtain rfl:=ax e;exact RO.iZ (RO.strs Wd)
 · refine⟨rfl,VQ,Y,f::l::O,?_,?_⟩
   · have e:bu j [(Vf,OL.p (r.map .str))]=[(Vf,OL.p (r.map .str))]:=by unfold bu;simp[bne,V7]
     have V:FB A X w H g c VU [] ((j,.p (D.map .str))::bu j [(Vf,OL.p (r.map .str))]) VQ Y (f::l::O) Wo:=U;rw[e]at V;exact V
   · refine⟨λ d o VR e=>Wk d o (λ q=>VR (.inl q)) (VL.keep d o VR (C.keep d o e)),λ d n=>?_,λ d n=>.tail _ (.tail _ n),U.hO⟩;rcases aP.mp n with rfl|n
     · refine .inr ?_;rcases e:s.heap.get? d with _|o;·rfl
       ·exact absurd (L _ _ e) (Iy _)
     · refine aH (VL.own d n) (λ q=>?_) λ q=>?_;·exact .inl q
       · refine .inr ?_;cases e:s.heap.get? d with
         |none=>rfl|some o=>rw[C.keep d o e]at q;exact c7 q
def St.DV{v B C G VU:Pos}{p q:PV}(V:u.2=true)(VQ:Ev u g (seen i D) z p)(VR:Ev u g (seen i D) Vn q)(N:eW p)(Q:eW q)(VO:ce g j=true)(VP:ce g Vf=true)(VN:∀c:Env,c.scope=g->J' [.Tuple [.Name j v,.Name Vf B] a C] (.Tuple [z,Vn] b G) c=jB (some [j,Vf]))(VL:autoParam (∀d c,bD (z::d) c=(ap,He z c)::bD d c) bc)(VM:autoParam (∀d c,bD (Vn::d) c=(ap,He Vn c)::bD d c) bc):St A u g i D (.Assign [.Tuple [.Name j v,.Name Vf B] a C] (.Tuple [z,Vn] b G) VU) (.next ((j,p)::(Vf,q)::i) (bu j (bu Vf D))):=λ X w V0 f c V5 s E m V2 O F=>by
 refine OA (names:=[j,Vf]) (OV (IP (VQ.use f F.reads (Kp.refl s) λ H V6 VX VS _ M=>(IP (VR.use f M VS λ J VZ VY _ t V1=>?_) (VM _ _))) (VL _ _))) rfl (VN c F.er.scope);refine Lx ⟨by show 2<=a9;decide,?_⟩;refine PL (items:=#[H,J]) (f.calm V) ⟨_,aF _ rfl,rfl,_,rfl⟩ λ U Y=>?_;have r:Kp s {VZ with heap:=U}:=t.re λ l o e=>by
  have n:=ao {cls:=.type "tuple",dict:=none,data:=.seq #[H,J],slots:=#[]} (t.keep l o e);exact Y l o (br (az n)) n
 refine Il (OO ((F.kp r).store (dL VP) (Q.any VY) λ V7 V4 V3 h VV=>?_));refine Il (OO (h.store (dL VO) (N.any VX) λ V8 VT T L VW=>J8 ⟨rfl,VT,T,_,L,(aZ.bR F.hO r).trans ((aZ.dn F.hO VV).trans (.dn h.hO VW))⟩))
noncomputable def lK:PV->Str->Bool
 |.d (.str x),u=>x==u|_,_=>ap
def n1:PV->Prop
 |.d (.str x)=>cs x=true|.bare _=>True|_=>False
def aD.bM(b:n1 V)(c:cs j=true):aD .Eq V (S j) (lK V j):=by cases V with
 |d d=>cases d with
  |str x=>
   have h:=aD.eq (cz.str b) (cz.str c);rw[vy]at h;exact h|_=>exact Ur b
 |bare a=>exact aD.DT|_=>exact Ur b
def St.vS{G b:List Io}{B:Go}(VY:D.lookup j=some (.m Vk))(VT:Ev u g i z (I (a:Int)))(VP:Ev u g i Vn (S Vf))(VS:Vk[a]?=some V)(VU:n1 V)(VW:cs Vf=true)(VR:a<2^62)(VN:lK V Vf=true->ag A u g i D G B)(VO:lK V Vf=ap->ag A u g i D b B)(VQ:autoParam ((j==("__debug__":Str))=ap) ew)(VV:autoParam (∀o Vf,Ml z ap (.ref o) (.int (a:Int) Vf)=Pz [.ref o,.int (a:Int) Vf] (NP (.ref o) (.int (a:Int) Vf))) ir)(L:autoParam (Lo .Eq Vn=ap) gX):St A u g i D (.If (.Compare (.Subscript (.Name j v) z J) [.Eq] [Vn] Vi) G b VC) B:=λ X w h d n U s E m H O F=>by
 refine Px (JZ (Mc (h3 F VY VQ λ ad vs L V9 V0 V2=>(VT.use d F.er (Kp.refl s) λ C Wa V4 _ N VL=>?_))) L);obtain⟨t,rfl⟩:=V4.int;obtain⟨C,VX,V3⟩:=aU.at V2 VS;have T:=V0.at λ o e=>N.keep _ _ e;refine Ny T.isList.typeIs JF.lookup (Th (x:=C) T.isList (dh) (hI VR (aE true)) (by simp only[b4];simpa using VX) ?_) (VV _ _);refine VP.use d VL N λ V8 V7 V5 V' Q VM=>aG (aD.bM VU VW (aL X n O) w h d.gC V7 C V8 E VM.ex (V3.keeps Q.keep) V5) (λ r Y V1=>?_) λ _ _ A=>A;obtain⟨e,VZ⟩:=V1;subst e;refine zF ?_;have kp:=Q.trans VZ;rcases M:lK V Vf with _|_;·exact aG (VO M X w h d n U Y E m H O (F.kp kp)) (λ f V6 q=>q.after (.bR F.hO kp)) λ _ _ A=>A
 ·exact aG (VN M X w h d n U Y E m H O (F.kp kp)) (λ f V6 q=>q.after (.bR F.hO kp)) λ _ _ A=>A
theorem aU.set{X:ae->Prop}{h:a7}{v:ab}{p:PV}(r:RV X h v p):∀{d:List ab}{c:List PV}(i:Nat),aU X h d c->aU X h (d.set i v) (c.set i p):=λ i z=>by induction z generalizing i with
 |nil=>exact .nil|cons a b e=>
  rcases i with _|i;·exact .cons r b
  ·exact .cons a (e i)
def St.setItem(n:D.lookup j=some (.m Vk))(VM:Ev u g i Vn V)(VP:Ev u g i z (I (a:Int)))(VO:a<Vk.length)(VN:a<2^62)(VL:autoParam ((j==("__debug__":Str))=ap) ew)(VS:autoParam (∀c,MG Vn (some (.Subscript (.Name j v) z J)) Vi.line c=jB ap) cN):St A u g i D (.Assign [.Subscript (.Name j v) z J] Vn Vi) (.next i (b8 j (.m (Vk.set a V)) D)):=λ X w V0 f c V2 s E m Q O F=>by
 refine wpAny_Assign_Subscript (VM.use f F.er (Kp.refl s) λ VZ V3 VX _ r N=>?_) (VS c);refine h3 (F.kp r) n VL λ ad L VR Y VU VV=>VP.use f N r λ V4 H VY d B V1=>?_;refine ai VY.int ?_;rintro t rfl;have G:aU (aL X c O) H.heap L Vk:=aU.keeps d.keep VV;have VQ:=aU.len G;refine Dm (VU.at λ o Vn=>d.keep _ _ Vn) (dh) (hI VN (aE true)) (iw (eO VQ VO)) λ U C h=>?_;simp only[b4]at C;have VW:RO (aL X c O) U (L.set a VZ) (.m (Vk.set a V)):=RO.b0 (λ b o VT Vn=>h.extBut b o (λ q=>VT (.inr (q▸Y))) Vn) (aU.set (VX.keeps d.keep) a G:RO _ _ _ (.m _));exact am ((F.kp B).lm (a:=H.toks) n VR C h VW) λ M T=>⟨rfl,m,Q,O,M,(aZ.bR F.hO B).trans T⟩
def bg.DW(p:u.2=true)(y:Ev u g i (.Name Vf v) (.raw (.type "range")))(q:Ev u g i z (I C))(r:Ev u g i Vn (I Vs))(D:Jq C Vs 1=true)(B:Ig C Vs 1=a)(G:autoParam (∀d c,bD (z::d) c=(ap,He z c)::bD d c) bc)(H:autoParam (∀d c,bD (Vn::d) c=(ap,He Vn c)::bD d c) bc):bg u g i (.Call (.Name Vf v) [z,Vn] [] J) (.Name j Vi) ((dK C 1 a).map λ L=>I L):=λ X w A f c s E Q R m=>by
 refine lf y (.cons q (.cons r .nil H) G) f R λ Y T O h l=>aj λ U=>?_;refine bS O.two ?_;rintro VL VM rfl M N;refine ai M.int ?_;rintro t rfl;refine ai N.int ?_;rintro V rfl;exact U (call_range_2 (ng (f.calm p) (h.re (a:=T.toks+1) λ Vs o e=>ao _ (h.keep Vs o e)) (l.ex.keeps λ Vs o e=>ao _ e) (OJ ..) D B m))
noncomputable def bM(a:ae):Option Str->PV|none=>.bare a|some x=>S x
noncomputable def bv(u:Str)(l:List (Option Str))(a t:Nat):List (Option Str):=l.mapIdx λ j o=>if bF (a<=j)&&bF (j<a+t)&&(o==some u)then none else o
noncomputable def cL(VL:Str)(l:List (Option Str))(a t:Nat):Nat:=((l.drop a).take t).count (some VL)
def i0(VO:Str)(l:List (Option Str))(lo t:Nat):(bv VO l lo t).length=l.length:=by simp[bv]
def ib(VO:Str)(l:List (Option Str))(lo t j:Nat):(bv VO l lo t)[j]?=l[j]?.map λ o=>if bF (lo<=j)&&bF (j<lo+t)&&(o==some VO)then none else o:=by simp[bv]
def vT(u:Str)(l:List (Option Str))(a:Nat):bv u l a 0=l:=by
 refine KD λ j=>?_;rw[ib];have :(bF (a<=j)&&bF (j<a+0))=ap:=by
  by_cases h:a<=j;·simp[h]
  ·simp[h]
 refine this.symm▸?_;cases l[j]?<;>simp
def vU{l:List (Option Str)}(h:a+b<l.length):bv j l a (b+1)=if l.getD (a+b) none==some j then(bv j l a b).set (a+b) none else bv j l a b:=by
 have e:l[a+b]?=some (l.getD (a+b) none):=by rw[av,ay h];rfl
 generalize l.getD (a+b) none=o at e;refine KD λ c=>?_;simp only[ib];by_cases d:c=a+b
 · subst d;have i:(bF (a<=a+b)&&bF (a+b<a+(b+1)))=true:=by simp
   have k:(bF (a<=a+b)&&bF (a+b<a+b))=ap:=by simp
   simp only[e,i];rcases f:o==some j with _|_
   · simp only[IF,f,NK,cT,if_false];simp only[ib,e,k];rfl
   · have n:a+b<(bv j l a b).length:=by simp only[i0];exact h
     simp[n];intro q;exact absurd (pW f) q
 · have g:(bF (a<=c)&&bF (c<a+(b+1)))=(bF (a<=c)&&bF (c<a+b)):=by
     by_cases m:a<=c
     · have :(c<a+(b+1))↔(c<a+b):=⟨λ q=>jd q d,kJ⟩;simp only[this]
     ·simp[m]
   refine g.symm▸?_;split;·rw[List.getElem?_set_ne (Kb d),ib]
   ·rw[ib]
def vV{l:List (Option Str)}(h:a+b<l.length):(bv j l a b)[a+b]?=some (l.getD (a+b) none):=by
 simp only[ib,av,ay h];simp
def vW{l:List (Option Str)}(h:a+b<l.length):cL j l a (b+1)=cL j l a b+(if l.getD (a+b) none==some j then 1 else 0):=by
 unfold cL;have c:b<(l.drop a).length:=by simp;exact sb h
 simp only[OQ c,KE,NI];have e:(l.drop a)[b]=l.getD (a+b) none:=by simp only[av,ay h,OT];rfl
 rw[e]
def vX(h:(D.map (·.1)).all (λ n=>n !=j)=true):bu j D=D:=by
 unfold bu;exact K4.mpr λ q a=>(H9.mp h) _ (K3 a)
def DX(VL:Str)(l a:OL)(Ω:List (Str×OL)):b8 VL a (b8 VL l Ω)=b8 VL a Ω:=by
 unfold b8;simp only[dQ];refine Iz λ q _=>?_;rw[Sl];cases b:q.1==VL<;>simp[b]
theorem vY{y:Str}(l:OL):∀{d:List (Str×OL)}{c:OL},d.lookup y=some c->(b8 y l d).lookup y=some l
 |[],_,h=>aQ h|(n,b)::r,c,h=>by
   simp only[aN]at h;show((if n==y then(n,l)else(n,b))::b8 y l r).lookup y=some l;rcases a:y==n with _|_
   · rw[a]at h;have e:(n==y)=ap:=by rw[beq_eq_false_iff_ne]at a⊢;exact Kb a
     rw[e,if_neg (λ h=>by cases h),aN,a];exact vY l h
   ·obtain rfl:=pW a;simp
theorem vZ{y:Str}{l:OL}:∀{c:List (Str×OL)},ee c->c.lookup y=some l->b8 y l c=c
 |[],_,h=>by cases h|(n,b)::r,m,h=>by
   refine am (Jf.mp m) λ j k=>?_;simp only[aN]at h;show(if n==y then(n,l)else(n,b))::b8 y l r=_;rcases a:y==n with _|_
   · rw[a]at h;have d:(n==y)=ap:=by rw[beq_eq_false_iff_ne]at a⊢;exact Kb a
     rw[d,if_neg (λ h=>by cases h),vZ k h]
   · rw[a]at h;cases h;obtain rfl:=pW a;rw[beq_self_eq_true,if_pos rfl];congr 1;unfold b8;have :∀q∈r,(if q.1==y then(q.1,l)else q)=q:=λ q i=>by
       rw[if_neg];intro e;have :=K3 (f:=(·.1)) i;simp only[pW e]at this;exact j this
     rw[Iz (g:=id) this,List.map_id]
def v0(VM:ae)(VL:Option Str)(u:Str):lK (bM VM VL) u=(VL==some u):=by
 rcases VL with _|x;·rfl
 ·show(x==u)=(some x==some u);rfl
def DY(h:a<=b)(c:b<=1000):Jq (a:Int) (b:Int) 1=true/\Ig (a:Int) (b:Int) 1=((b-a:Nat):Int):=by
 constructor;·exact RF (kM rfl) (fC (j4 h c) rfl) (kM rfl) (fC c (aE true))
 · unfold Ig;rw[if_pos (by decide)];split;·rw[QY];exact(Mv _ _).trans (Oi h).symm
   ·rename_i q;rw[Nat.sub_eq_zero_of_le (S4 λ x=>q (iw x))];rfl
def St.ic{y v c f N rg V O:Str}{np vp p1 p2 p3 p4 p5 p6 p7 p8 p9 V0 V1 V2 V3 V4 V5 V6 V7 V8:Pos}{l:List (Option Str)}(Wk:u.2=true)(Wp:b<=x)(B:x=l.length)(G:x<=1000)(VW:D.lookup y=some (.m (l.map (bM h))))(WA:ee D)(Wr:∀z,some z∈l->cs z=true)(VV:cs j=true)(WE:∀r,Ev u g ((f,I r)::i) (.Name rg np) (.raw (.type "range")))(Wx:∀r,Ev u g ((f,I r)::i) (.Name V p1) (I (b:Int)))(Ww:∀r,Ev u g ((f,I r)::i) (.Name O p2) (I (x:Int)))(VY:∀p w r,Ev u g ((v,I w)::(f,I r)::i) (.Name v p) (I w))(Wz:∀p w r L,Ev u g ((f,I L)::(v,I w)::(f,I r)::i) (.Name v p) (I w))(VX:∀p w r,Ev u g ((v,I w)::(f,I r)::i) (.Name c p) (S j))(Wy:∀p w r L,Ev u g ((f,I L)::(v,I w)::(f,I r)::i) (.Name N p) (.bare h))(Wm:(f==v)=ap)(WG:ce g v=true)(WF:ce g f=true)(Wh:(D.map (·.1)).all (λ q=>q !=v)=true)(Wg:(D.map (·.1)).all (λ q=>q !=f)=true)(Wl:(f==("__classdict__":Str))=ap)(T:(y==("__debug__":Str))=ap)(Wt:∀E VP r,Sub ((f,I VP)::i) ((f,I VP)::(v,I r)::(f,I E)::i))(Wu:∀E r,Sub ((f,I E)::i) ((v,I r)::(f,I E)::i)):St A u g ((f,I 0)::i) D (.For (.Name v vp) (.Call (.Name rg np) [.Name V p1,.Name O p2] [] p3) [.If (.Compare (.Subscript (.Name y p4) (.Name v p5) p6) [.Eq] [.Name c p7] p8) [.AugAssign (.Name f p9) .Add (.Constant (.int 1) a V0) V1,.Assign [.Subscript (.Name y V2) (.Name v V3) V4] (.Name N V5) V6] [] V8] [] V7) (.next ((f,I (cL j l b (x-b):Nat))::i) (b8 y (.m ((bv j l b (x-b)).map (bM h))) D)):=by
 refine am (DY Wp G) λ WC WD=>?_;let J:Nat->List (Str×PV):=λ d=>(f,I (cL j l b d:Nat))::i;let s:Nat->List (Str×OL):=λ d=>b8 y (.m ((bv j l b d).map (bM h))) D;let C:List PV:=(dK b 1 (x-b)).map λ Wv=>I Wv;have H:C.length=x-b:=by simp[C,dK]
 have Ws:∀d,d<x-b->C[d]?=some (I ((b+d:Nat):Int)):=λ d t=>by
   simp only[C,dK,dQ,a',Rx t,IF,Sl];simp only[UL,Kx]
 have VQ:J 0=(f,I 0)::i:=by rfl
 have Wj:s 0=D:=by
   show b8 y (.m ((bv j l b 0).map (bM h))) D=D;rw[vT,vZ WA VW]
 have VZ:∀d,(s d).map (·.1)=D.map (·.1):=λ d=>qr _ _ _;have Y:=St.nu (A:=A) (u:=u) (g:=g) (Vn:=.Call (.Name rg np) [.Name V p1,.Name O p2] [] p3) (z:=.Name v vp) (v:=V7) (Vr:=[.If (.Compare (.Subscript (.Name y p4) (.Name v p5) p6) [.Eq] [.Name c p7] p8) [.AugAssign (.Name f p9) .Add (.Constant (.int 1) a V0) V1,.Assign [.Subscript (.Name y V2) (.Name v V3) V4] (.Name N V5) V6] [] V8]) C J s (λ d=>[(v,I ((b+d:Nat):Int))]) (λ d=>if l.getD (b+d) none==some j then .next ((f,I ((cL j l b d:Nat)+1))::(v,I ((b+d:Nat):Int))::J d) (b8 y (.m (((bv j l b d).map (bM h)).set (b+d) (.bare h))) (s d))else .next ((v,I ((b+d:Nat):Int))::J d) (s d)) (by refine VQ.symm▸?_;exact bg.DW Wk (WE 0) (Wx 0) (Ww 0) WC WD) (λ d p t=>by
     have :d<x-b:=by
       have :=(a8.mp t).1;exact je H this
     rw[Ws d this]at t;cases t;exact .name) (λ d z q U=>by
     refine am (by simpa using U:z=v/\_) λ WB _=>?_;obtain rfl:=WB;exact WG) (λ d t=>?_) (λ d t=>?_)
 · rw[H]at Y;simp only[VQ,Wj]at Y;exact Y
 · rw[H]at t;have o:b+d<l.length:=bA (iz t) (j6 B);have Wn:h4 [(v,I ((b+d:Nat):Int))] (s d)=s d:=(vX (D:=s d) (by rw[VZ];exact Wh):bu v (s d)=s d);refine Wn.symm▸?_;have Q:(s d).lookup y=some (.m ((bv j l b d).map (bM h))):=vY _ VW;have VT:((bv j l b d).map (bM h))[b+d]?=some (bM h (l.getD (b+d) none)):=by simp only[a',vV o];rfl
   have Wq:∀z,l.getD (b+d) none=some z->some z∈l:=λ z e=>by
     rw[av,ay o]at e;have Wi:l[b+d]=some z:=e;refine Wi▸?_;exact IM o
   have VS:n1 (bM h (l.getD (b+d) none)):=by
     rcases U:l.getD (b+d) none with _|z;·trivial
     ·exact Wr z (Wq z U)
   have VU:=v0 h (l.getD (b+d) none) j;have Wo:b+d<((bv j l b d).map (bM h)).length:=by simp[i0];exact o
   rcases M:l.getD (b+d) none==some j with _|_
   · rw[if_neg (λ o=>by cases o)];exact ag.cons (St.vS Q (VY _ _ _) (VX _ _ _) VT VS VV (bA (eO B o) (a2 G (aE true))) (λ q=>by rw[VU,M]at q;cases q) (λ _=>ag.nil) T) ag.nil
   · rw[if_pos rfl];have VR:bu f (s d)=s d:=vX (by rw[VZ];exact Wg);refine ag.cons (St.vS Q (VY _ _ _) (VX _ _ _) VT VS VV (bA (eO B o) (a2 G (aE true))) (λ _=>?_) (λ q=>by rw[VU,M]at q;cases q) T) ag.nil;refine ag.cons (St.fL (C:=(cL j l b d:Nat)) (Vs:=1) ?_ .int WF Wl) (ag.cons (St.setItem (a:=b+d) (by rw[VR];exact Q) (Wy _ _ _ _) (Wz _ _ _ _) Wo (bA (eO B o) (a2 G (aE true))) T) ?_)
     · show((v,I ((b+d:Nat):Int))::(f,I (cL j l b d:Nat))::i).lookup f=_;rw[aN,Wm,aN,beq_self_eq_true]
     ·rw[VR];exact ag.nil
 · rw[H]at t;have o:b+d<l.length:=bA (iz t) (j6 B);show fM (if _ then _ else _) ((f,I (cL j l b (d+1):Nat))::i) (b8 y (.m ((bv j l b (d+1)).map (bM h))) D);rw[vU o,vW o];cases M:l.getD (b+d) none==some j with
   |true=>
     rw[if_pos rfl,if_pos rfl,if_pos rfl];refine⟨by have :=Wt (cL j l b d:Nat) ((cL j l b d:Nat)+1) ((b+d:Nat):Int);rwa[Kx],?_⟩;rw[DX,TZ];rfl|false=>
     rw[if_neg (λ o=>by cases o),if_neg (λ o=>by cases o),if_neg (λ o=>by cases o)];exact⟨Wu _ _,rfl⟩
abbrev d':=Nat×Nat×Str
noncomputable def n2(r:d'):List bP:=[.int (r.1:Int),.int (r.2.1:Int),.str r.2.2]
noncomputable abbrev ek(r:d'):PV:=.inst (.ref 269) (n2 r)
noncomputable def c1(i:Nat)(q:List (Option Str)×List (Option Str)×List d'):List (Option Str)×List (Option Str)×List d':=match q.1.getD i none with
 |none=>q|some e=>(bv e q.1 i (q.1.length-i),bv e q.2.1 0 q.2.1.length,if cL e q.1 i (q.1.length-i)==cL e q.2.1 0 q.2.1.length then q.2.2 else q.2.2++[(cL e q.1 i (q.1.length-i),cL e q.2.1 0 q.2.1.length,e)])
noncomputable def c2(i:Nat)(q:List (Option Str)×List d'):List (Option Str)×List d':=match q.1.getD i none with
 |none=>q|some e=>(bv e q.1 i (q.1.length-i),q.2++[(0,cL e q.1 i (q.1.length-i),e)])
noncomputable def ch(xs ys:List Str):Nat->List (Option Str)×List (Option Str)×List d'
 |0=>(xs.map some,ys.map some,[])|VL+1=>c1 VL (ch xs ys VL)
noncomputable def d0(VM:List (Option Str)×List d'):Nat->List (Option Str)×List d'
 |0=>VM|VL+1=>c2 VL (d0 VM VL)
noncomputable def ie(a b:List Str):List d':=(d0 (ch a b a.length).2 b.length).2
def fS(l:List (Option Str)):Prop:=∀z,some z∈l->cs z=true
def fS.bv{l:List (Option Str)}(h:fS l)(u:Str)(d t:Nat):fS (bv u l d t):=λ z c=>by
 refine ai (Iq c) λ j a=>?_;rw[ib]at a;refine ak (bh.mp a) λ o b e=>?_;split at e;·exact aQ e
 ·subst e;exact h z (ct b)
theorem lL{a b:List Str}(j:∀z∈a,cs z=true)(k:∀z∈b,cs z=true):∀i,(ch a b i).1.length=a.length/\(ch a b i).2.1.length=b.length/\fS (ch a b i).1/\fS (ch a b i).2.1/\(ch a b i).2.2.length<=i
 |0=>⟨by simp[ch],by simp[ch],λ z d=>j z (by simpa[ch]using d),λ z d=>k z (by simpa[ch]using d),aB 0⟩|i+1=>by
   refine aj λ l=>d6 (lL j k i) λ e f g h c=>l ?_;unfold ch c1;split;·exact g1 e f g h (J0 c)
   · refine g1 (by rw[i0];exact e) (by rw[i0];exact f) (g.bv _ _ _) (h.bv _ _ _) ?_;split;·exact J0 c
     ·simp;exact c
theorem n3{q:List (Option Str)×List d'}(h:fS q.1):∀i,(d0 q i).1.length=q.1.length/\fS (d0 q i).1/\(d0 q i).2.length<=q.2.length+i
 |0=>⟨rfl,h,aB _⟩|i+1=>by
  refine a4 (n3 h i) λ a b c=>?_;unfold d0 c2;split;·exact b3 a b (j5 (dt c))
  ·exact b3 (by rw[i0];exact a) (b.bv _ _ _) (by simp;exact hz (dt c))
def DZ(a b:Int):KG (.int a) (.int b)=(a==b):=by first|rfl|(unfold KG;rfl)
def St.D0{d:List (List bP)}(H:D.lookup j=some (.m (d.map λ l=>.inst U l)))(G:autoParam ((j==("__debug__":Str))=ap) ew):St A u g i D (.Return (some (.Name j v)) J) (.ret (.insts U d)):=λ X w VQ VT VS VV s E m VR O F=>M4 (h3 F H G λ a vs VU C M f=>by
  refine⟨_,rfl,⟨a,vs,rfl,(F.new a C).2,M,by simpa using(aU.len f),λ L VW r t z=>?_⟩,F.rel,F.er.left,m,F.ns⟩;refine aj λ VP=>?_;refine ak (aU.at f (i:=L) (p:=.inst U r) (by simp only[a',z];rfl)) λ VX B VM=>?_;cases aO t B;obtain⟨b,o,n,VO,h,N,Q,T,V,Y,VL⟩:=VM;exact VP (⟨b,o,n,VO,h,N,λ q=>Q (.inl q),T,V,Y,vr (λ b o e=>dW.mpr ⟨λ q=>dH e (.inl q),e' e,dm e⟩) VL⟩))
def v1:cu 279 278 (bB [29]) (a0 [29]) [nm "actual",nm "expected"]:=cu.mk' (λ P=>by lia) (λ P=>by lia) (λ P=>⟨by lia,by lia,by lia,by lia,by lia,by lia⟩) (by decide) (by lia) (by lia) ⟨by rfl,by rfl⟩ (by lia) (by lia) (by lia)
noncomputable abbrev cC(a b c:ae)(M N:Nat):List (Str×PV):=[(nm "t",.raw (.ref c)),(nm "s",.raw (.ref b)),(nm "NULL",.bare a),(nm "m",I (M:Int)),(nm "n",I (N:Int))]
noncomputable abbrev b9(VL:ae)(R:List d')(s t:List (Option Str)):List (Str×OL):=[(nm "result",.m (R.map ek)),(nm "s",.m (s.map (bM VL))),(nm "t",.m (t.map (bM VL)))]
noncomputable def kc:List Io:=(cE ((bB [29]).getD 5 b2)).body
noncomputable def v2:List Io:=(cE ((bB [29]).getD 6 b2)).body
noncomputable def v3:Io:=kc.getD 3 b2
def D1{i c:Nat}{R:List d'}{s t:List (Option Str)}(J:t.length<=1000)(L:fS t)(r:cs j=true):St A (Vu,true) (a0 [29]) ((nm "cnt_t",I 0)::(nm "cnt_s",I (c:Int))::(nm "elem",S j)::(nm "i",I (i:Int))::cC h Q Vq a x) (b9 h R s t) v3 (.next ((nm "cnt_t",I (cL j t 0 t.length:Nat))::(nm "cnt_s",I (c:Int))::(nm "elem",S j)::(nm "i",I (i:Int))::cC h Q Vq a x) (b9 h R s (bv j t 0 t.length))):=by
 let E:=(nm "cnt_s",I (c:Int))::(nm "elem",S j)::(nm "i",I (i:Int))::cC h Q Vq a x;let k:Nat->List (Str×PV):=λ d=>(nm "cnt_t",I (cL j t 0 d:Nat))::E;let o:Nat->List (Str×OL):=λ d=>b9 h R s (bv j t 0 d);have D:St A (Vu,true) (a0 [29]) (k 0) (o 0) v3 (.next (k t.length) (o t.length)):=St.q5 (y:=nm "t") (V9:=nm "j") (v:=nm "other_elem") (h:=Vq) (λ d=>(bv j t 0 d).map (bM h)) (λ d=>bM h (t.getD d none)) k o (λ d=>if t.getD d none==some j then .next ((nm "cnt_t",I ((cL j t 0 d:Nat)+1))::(nm "other_elem",bM h (t.getD d none))::(nm "j",I (d:Int))::k d) (b9 h R s ((bv j t 0 d).set d none))else .next ((nm "other_elem",bM h (t.getD d none))::(nm "j",I (d:Int))::k d) (o d)) rfl (Ev.bl nn) Ev.nm (by rfl) (by rfl) (λ _ _=>by rfl) (λ _ _=>by rfl) (λ d _=>by simp[i0]) (λ d g=>?_) (λ d g=>?_) (λ d g=>?_)
 · have G:o 0=b9 h R s t:=by show b9 h R s (bv j t 0 0)=_;rw[vT]
   rw[G]at D;exact D
 · have :=vV (j:=j) (l:=t) (a:=0) (b:=d) (iz g);rw[Im]at this;simp only[a',this];rfl
 · have f:0+d<t.length:=iz g;have w:n1 (bM h (t.getD d none)):=by
     rcases C:t.getD d none with _|z;·trivial
     · rw[av,ay g]at C;exact L z (C▸IM g)
   have B:=v0 h (t.getD d none) j;rcases p:t.getD d none==some j with _|_
   · rw[if_neg (λ f=>by cases f)];exact ag.cons (St.ite (M:=ap) (Tr.eq (Tr.cmp (aD.bM w r) Ev.nm Ev.nm) (by rw[B,p])) (λ q=>by cases q) (λ _=>ag.nil)) ag.nil
   · rw[if_pos rfl];refine ag.cons (St.ite (M:=true) (Tr.eq (Tr.cmp (aD.bM w r) Ev.nm Ev.nm) (by rw[B,p])) (λ _=>?_) (λ q=>by cases q)) ag.nil;have H:b9 h R s ((bv j t 0 d).set d none)=[(nm "result",.m (R.map ek)),(nm "s",.m (s.map (bM h))),(nm "t",.m (((bv j t 0 d).map (bM h)).set d (.bare h)))]:=by unfold b9;rw[TZ];rfl
     rw[H];exact ag.cons (St.fL (C:=(cL j t 0 d:Nat)) (Vs:=1) (by rfl) .int (by rfl)) (ag.cons (St.setItem (j:=nm "t") (Vk:=(bv j t 0 d).map (bM h)) (a:=d) (by rfl) Ev.nm Ev.nm (by simp[i0];exact g) (bA g (j4 J bE))) ag.nil)
 · have f:0+d<t.length:=iz g;show fM (if _ then _ else _) ((nm "cnt_t",I (cL j t 0 (d+1):Nat))::E) (b9 h R s (bv j t 0 (d+1)));rw[vU f,vW f,Im];cases p:t.getD d none==some j with
   |true=>
     rw[if_pos rfl,if_pos rfl,if_pos rfl];exact⟨⟨by simp only[Kx];rfl,rfl,rfl,rfl,rfl,rfl,rfl,rfl,rfl,trivial⟩,rfl⟩|false=>
     rw[if_neg (λ f=>by cases f),if_neg (λ f=>by cases f),if_neg (λ f=>by cases f)];exact⟨⟨rfl,rfl,rfl,rfl,rfl,rfl,rfl,rfl,rfl,trivial⟩,rfl⟩
def v4{l:List (Option Str)}(h:fS l)(b:l.getD a none=some j):cs j=true/\a<l.length:=by
 rw[av]at b;refine ey (x:=l[a]?) (λ q=>?_) λ o q=>?_;·rw[q]at b;exact aQ b
 · rw[q]at b;have c:o=some j:=b;subst c;exact⟨h j (ct q),(a8.mp q).1⟩
def v5{R:List d'}{s t:List (Option Str)}:ee (b9 h R s t):=by show[nm "result",nm "s",nm "t"].Nodup;decide
def D2{s t:List (Option Str)}{R:List d'}(C:s.length=a)(D:a<=1000)(E:t.length<=1000)(w:fS s)(T:fS t)(G:R.length<=1000):∃g,ag A (x+2,true) (a0 [29]) ((nm "elem",bM h (s.getD Vu none))::(nm "i",I (Vu:Int))::cC h Q Vq a b) (b9 h R s t) kc g/\fM g (cC h Q Vq a b) (b9 h (c1 Vu (s,t,R)).2.2 (c1 Vu (s,t,R)).1 (c1 Vu (s,t,R)).2.1):=by
 subst C;have V3:(2000:Nat)<=a9:=by decide
 unfold c1;simp only;rcases L:s.getD Vu none with _|e;·exact⟨.cont ((nm "elem",.bare h)::(nm "i",I (Vu:Int))::cC h Q Vq s.length b) (b9 h R s t),ag.last (St.ite (M:=true) (Tr.cmp aD.vQ Ev.nm Ev.nm) (λ _=>ag.last St.cont trivial) (λ q=>by cases q)) trivial,⟨rfl,rfl,rfl,rfl,rfl,trivial⟩,rfl⟩
 · simp only;refine am (v4 w L) λ z O=>?_;generalize H:cL e s Vu (s.length-Vu)=d;generalize J:cL e t 0 t.length=f;have ic:=λ V vp Y p2 p3 p4 p5 p6 p7 p8 p9 VL VM VN VO VP VQ VR VS VT U=>St.ic (A:=A) (u:=(x+2,true)) (g:=a0 [29]) (y:=nm "s") (v:=nm "j") (c:=nm "elem") (f:=nm "cnt_s") (N:=nm "NULL") (rg:=nm "range") (V:=nm "i") (O:=nm "m") (np:=V) (vp:=vp) (p1:=Y) (p2:=p2) (p3:=p3) (p4:=p4) (p5:=p5) (p6:=p6) (p7:=p7) (p8:=p8) (p9:=p9) (V0:=VL) (V1:=VM) (V2:=VN) (V3:=VO) (V4:=VP) (V5:=VQ) (V6:=VR) (V7:=VS) (V8:=VT) (a:=U) (l:=s) (b:=Vu) (x:=s.length) (h:=h) (j:=e) (i:=(nm "cnt_t",I 0)::(nm "elem",S e)::(nm "i",I (Vu:Int))::cC h Q Vq s.length b) (D:=b9 h R s t) rfl (j5 O) rfl D (by rfl) v5 w z (λ _=>Ev.bl h0) (λ _=>Ev.nm) (λ _=>Ev.nm) (λ _ _ _=>Ev.nm) (λ _ _ _ _=>Ev.nm) (λ _ _ _=>Ev.nm) (λ _ _ _ _=>Ev.nm) (by rfl) (by rfl) (by rfl) (by rfl) (by rfl) (by rfl) (by rfl) (λ _ _ _=>⟨rfl,rfl,rfl,rfl,rfl,rfl,rfl,rfl,rfl,trivial⟩) (λ _ _=>⟨rfl,rfl,rfl,rfl,rfl,rfl,rfl,rfl,rfl,trivial⟩);rw[H]at ic;have nh:=D1 (A:=A) (Vu:=x+2) (h:=h) (Q:=Q) (Vq:=Vq) (a:=s.length) (x:=b) (j:=e) (i:=Vu) (c:=d) (R:=R) (s:=bv e s Vu (s.length-Vu)) (t:=t) E T z;rw[J]at nh;have j:Tr (x+2,true) (a0 [29]) (seen ((nm "cnt_t",I (f:Int))::(nm "cnt_s",I (d:Int))::(nm "elem",S e)::(nm "i",I (Vu:Int))::cC h Q Vq s.length b) (b9 h R (bv e s Vu (s.length-Vu)) (bv e t 0 t.length))) ((cE (kc.getD 4 b2)).e 0) (!(d==f)):=Tr.eq (Tr.cmp (aD.ne cz.int cz.int) Ev.nm Ev.nm) (by simp only[DZ];congr 1;exact Pu.mpr (by simp only[beq_iff_eq];exact Oj));have start:∀{g:Go},ag A (x+2,true) (a0 [29]) ((nm "cnt_t",I (f:Int))::(nm "cnt_s",I (d:Int))::(nm "elem",S e)::(nm "i",I (Vu:Int))::cC h Q Vq s.length b) (b9 h R (bv e s Vu (s.length-Vu)) (bv e t 0 t.length)) (kc.drop 4) g->ag A (x+2,true) (a0 [29]) ((nm "elem",S e)::(nm "i",I (Vu:Int))::cC h Q Vq s.length b) (b9 h R s t) kc g:=λ o=>ag.cons (St.ite (M:=ap) (d:=.next _ _) (Tr.cmp aD.vP Ev.nm Ev.nm) (λ q=>by cases q) (λ _=>ag.nil)) (ag.cons (St.vw (V:=I 0) .int .int (by rfl) (by rfl)) (ag.weaken (b:=(nm "cnt_s",I 0)::(nm "cnt_t",I 0)::(nm "elem",S e)::(nm "i",I (Vu:Int))::cC h Q Vq s.length b) (ag.cons (ic _ _ _ _ _ _ _ _ _ _ _ _ _ _ _ _ _ _ _ _ _) (ag.weaken (b:=(nm "cnt_t",I 0)::(nm "cnt_s",I (d:Int))::(nm "elem",S e)::(nm "i",I (Vu:Int))::cC h Q Vq s.length b) (ag.cons nh o) ⟨rfl,rfl,rfl,rfl,rfl,rfl,rfl,rfl,rfl,trivial⟩)) ⟨rfl,rfl,rfl,rfl,rfl,rfl,rfl,rfl,rfl,trivial⟩));cases r:d==f with
   |true=>
     rw[if_pos rfl];rw[r]at j;exact⟨.next ((nm "cnt_t",I (f:Int))::(nm "cnt_s",I (d:Int))::(nm "elem",S e)::(nm "i",I (Vu:Int))::cC h Q Vq s.length b) _,start (ag.cons (St.ite (M:=ap) j (λ q=>by cases q) (λ _=>ag.nil)) ag.nil),⟨rfl,rfl,rfl,rfl,rfl,trivial⟩,rfl⟩|false=>
     rw[if_neg (λ o=>by cases o)];rw[r]at j;have B:b9 h (R++[(d,f,e)]) (bv e s Vu (s.length-Vu)) (bv e t 0 t.length)=[(nm "result",.m (R.map ek++[ek (d,f,e)])),(nm "s",.m ((bv e s Vu (s.length-Vu)).map (bM h))),(nm "t",.m ((bv e t 0 t.length).map (bM h)))]:=by unfold b9;refine(fs).symm▸?_;rfl
     refine B.symm▸?_;exact⟨.next ((nm "diff",ek (d,f,e))::(nm "cnt_t",I (f:Int))::(nm "cnt_s",I (d:Int))::(nm "elem",S e)::(nm "i",I (Vu:Int))::cC h Q Vq s.length b) _,start (ag.cons (St.ite (M:=true) j (λ _=>ag.cons (St.assign (V:=ek (d,f,e)) (Ev.vL (Ev.gl vK) (.cons Ev.nm (.cons Ev.nm (.cons Ev.nm .nil)))) (by rfl)) (ag.cons (St.append (j:=nm "result") (l:=.m (R.map ek)) (V:=ek (d,f,e)) (by rfl) (.inl Ev.nm) (by rfl) (by show(R.map ek).length<=a9;simp;exact a2 G (aE true))) ag.nil)) (λ q=>by cases q)) ag.nil),⟨rfl,rfl,rfl,rfl,rfl,trivial⟩,rfl⟩
def D3{s t:List (Option Str)}{R:List d'}(o:t.length=b)(r:b<=1000)(f:fS t)(w:R.length<=2000):∃g,ag A (x+2,true) (a0 [29]) ((nm "elem",bM h (t.getD Vu none))::(nm "i",I (Vu:Int))::cC h Q Vq a b) (b9 h R s t) v2 g/\fM g (cC h Q Vq a b) (b9 h (c2 Vu (t,R)).2 s (c2 Vu (t,R)).1):=by
 subst o;have VW:(3000:Nat)<=a9:=by decide
 unfold c2;simp only;rcases B:t.getD Vu none with _|e;·exact⟨.cont ((nm "elem",.bare h)::(nm "i",I (Vu:Int))::cC h Q Vq a t.length) (b9 h R s t),ag.last (St.ite (M:=true) (Tr.cmp aD.vQ Ev.nm Ev.nm) (λ _=>ag.last St.cont trivial) (λ q=>by cases q)) trivial,⟨rfl,rfl,rfl,rfl,rfl,trivial⟩,rfl⟩
 · simp only;refine am (v4 f B) λ G C=>?_;generalize z:cL e t Vu (t.length-Vu)=d;have ic:=λ E vp H p2 p3 p4 p5 p6 p7 p8 p9 J L O T U V Y VL VM D=>St.ic (A:=A) (u:=(x+2,true)) (g:=a0 [29]) (y:=nm "t") (v:=nm "j") (c:=nm "elem") (f:=nm "cnt_t") (N:=nm "NULL") (rg:=nm "range") (V:=nm "i") (O:=nm "n") (np:=E) (vp:=vp) (p1:=H) (p2:=p2) (p3:=p3) (p4:=p4) (p5:=p5) (p6:=p6) (p7:=p7) (p8:=p8) (p9:=p9) (V0:=J) (V1:=L) (V2:=O) (V3:=T) (V4:=U) (V5:=V) (V6:=Y) (V7:=VL) (V8:=VM) (a:=D) (l:=t) (b:=Vu) (x:=t.length) (h:=h) (j:=e) (i:=(nm "elem",S e)::(nm "i",I (Vu:Int))::cC h Q Vq a t.length) (D:=b9 h R s t) rfl (j5 C) rfl r (by rfl) v5 f G (λ _=>Ev.bl h0 (by rfl)) (λ _=>Ev.nm) (λ _=>Ev.nm) (λ _ _ _=>Ev.nm) (λ _ _ _ _=>Ev.nm) (λ _ _ _=>Ev.nm) (λ _ _ _ _=>Ev.nm) (by rfl) (by rfl) (by rfl) (by rfl) (by rfl) (by rfl) (by rfl) (λ _ _ _=>⟨rfl,rfl,rfl,rfl,rfl,rfl,rfl,rfl,trivial⟩) (λ _ _=>⟨rfl,rfl,rfl,rfl,rfl,rfl,rfl,rfl,trivial⟩);rw[z]at ic;have j:b9 h (R++[(0,d,e)]) s (bv e t Vu (t.length-Vu))=[(nm "result",.m (R.map ek++[ek (0,d,e)])),(nm "s",.m (s.map (bM h))),(nm "t",.m ((bv e t Vu (t.length-Vu)).map (bM h)))]:=by unfold b9;refine(fs).symm▸?_;rfl
   refine j.symm▸?_;refine⟨.next ((nm "diff",ek (0,d,e))::(nm "cnt_t",I (d:Int))::(nm "elem",S e)::(nm "i",I (Vu:Int))::cC h Q Vq a t.length) _,ag.cons (St.ite (M:=ap) (d:=.next _ _) (Tr.cmp aD.vP Ev.nm Ev.nm) (λ q=>by cases q) (λ _=>ag.nil)) (ag.cons (St.assign (V:=I 0) .int (by rfl)) (ag.cons (ic _ _ _ _ _ _ _ _ _ _ _ _ _ _ _ _ _ _ _ _ _) (ag.cons (St.assign (V:=ek (0,d,e)) (Ev.vL (Ev.gl vK) (.cons .int (.cons Ev.nm (.cons Ev.nm .nil)))) (by rfl)) (ag.cons (St.append (j:=nm "result") (l:=.m (R.map ek)) (V:=ek (0,d,e)) (by rfl) (.inl Ev.nm) (by rfl) (by show(R.map ek).length<=a9;simp;exact a2 w (aE true))) ag.nil)))),⟨rfl,rfl,rfl,rfl,rfl,trivial⟩,rfl⟩
def D4{b c:List Str}(o:∀z∈b,cs z=true)(r:∀z∈c,cs z=true)(j:b.length<=500)(k:c.length<=500):ag A (a+2,true) (a0 [29]) ([nm "actual",nm "expected"].zip [Lt b,Lt c]) [] (bB [29]) (.ret (.insts (.ref 269) ((ie b c).map n2))):=by
 have Y:(3000:Nat)<=a9:=by decide
 refine ag.cons St.doc (ag.cons (St.DU (j:=nm "s") (Vf:=nm "t") (D:=b) (r:=c) rfl (ei.vR (Ev.bl t6) Ev.nm (by simp;exact a2 j (aE true))) (ei.vR (Ev.bl t6) Ev.nm (by simp;exact a2 k (aE true))) (by rfl) (by rfl) (by rfl) (nP (by rfl) (by rfl) (by rfl) (by rfl) (by rfl) (by rfl) (by rfl) (by rfl))) (ag.cons (St.DV (p:=I (b.map tl).length) (q:=I (c.map tl).length) rfl (Ev.cA (Fn.lh (by simp;exact bA (dt j) bE)) (Ev.bl dY) (.cons Ev.nm .nil)) (Ev.cA (Fn.lh (by simp;exact bA (dt k) bE)) (Ev.bl dY) (.cons Ev.nm .nil)) .int .int (by rfl) (by rfl) (nP (by rfl) (by rfl) (by rfl) (by rfl) (by rfl) (by rfl) (by rfl) (by rfl))) (ag.bare (Ev.bl Dw) (by rfl) λ d=>ag.cons (St.own (l:=.m []) (ei.nil (.inr rfl)) (by rfl)) (ag.lJ (j:=nm "s") (by rfl) λ f=>ag.lJ (j:=nm "t") (by rfl) λ h=>ag.nZ (j:=nm "s") (Vo:=b.map .str) (by rfl) (ag.nZ (j:=nm "t") (Vo:=c.map .str) (by rfl) ?_)))));have H:∀{l:List Str},(l.map tl).map PV.d=(l.map some).map (bM d):=λ{l}=>by simp only[dQ,dQ];rfl
 rw[be,be,H,H];have B:∀i,∃g:Go,i<b.length->ag A (a+2,true) (a0 [29]) ((nm "elem",bM d ((ch b c i).1.getD i none))::(nm "i",I (i:Int))::cC d f h b.length c.length) (b9 d (ch b c i).2.2 (ch b c i).1 (ch b c i).2.1) kc g/\fM g (cC d f h b.length c.length) (b9 d (ch b c (i+1)).2.2 (ch b c (i+1)).1 (ch b c (i+1)).2.1):=λ i=>by
   by_cases e:i<b.length
   · refine d6 (lL o r i) λ D E G T U=>ai (D2 (A:=A) (x:=a) (Vu:=i) (h:=d) (Q:=f) (Vq:=h) (b:=c.length) (R:=(ch b c i).2.2) D (j4 j bE) (j4 (j6 E) (a2 k (aE true))) G T (j4 U (j4 (j5 e) (a2 j (aE true))))) λ g p=>?_;exact⟨g,λ _=>p⟩
   ·exact⟨.ret (I 0),λ q=>(e q).elim⟩
 refine aj λ V=>d6 (lL o r b.length) λ O t Q w J=>V ?_;generalize L:ch b c b.length=q at O t Q w J;have C:∀i,∃g:Go,i<c.length->ag A (a+2,true) (a0 [29]) ((nm "elem",bM d ((d0 q.2 i).1.getD i none))::(nm "i",I (i:Int))::cC d f h b.length c.length) (b9 d (d0 q.2 i).2 q.1 (d0 q.2 i).1) v2 g/\fM g (cC d f h b.length c.length) (b9 d (d0 q.2 (i+1)).2 q.1 (d0 q.2 (i+1)).1):=λ i=>by
   by_cases e:i<c.length
   · refine a4 (n3 (q:=q.2) w i) λ D E G=>ai (D3 (A:=A) (x:=a) (Vu:=i) (h:=d) (Q:=f) (Vq:=h) (a:=b.length) (s:=q.1) (R:=(d0 q.2 i).2) (D.trans t) (j4 k bE) E (an G (an (IW (an J j) (bn (aJ e k))) (by decide)))) λ g p=>?_;exact⟨g,λ _=>p⟩
   ·exact⟨.ret (I 0),λ q=>(e q).elim⟩
 refine ag.weaken (b:=cC d f h b.length c.length) (ag.cons (St.q5 (b:=b.length) (y:=nm "s") (V9:=nm "i") (v:=nm "elem") (h:=f) (λ i=>(ch b c i).1.map (bM d)) (λ i=>bM d ((ch b c i).1.getD i none)) (λ _=>cC d f h b.length c.length) (λ i=>b9 d (ch b c i).2.2 (ch b c i).1 (ch b c i).2.1) (λ i=>Oe (B i)) rfl (Ev.bl nn) Ev.nm (by rfl) (by rfl) (λ _ _=>by rfl) (λ _ _=>by rfl) (λ i _=>by rw[be];exact(lL o r i).1) (λ i e=>?_) (λ i e=>(Kf (B i) e).1) (λ i e=>(Kf (B i) e).2)) ?_) ⟨rfl,rfl,rfl,rfl,rfl,trivial⟩;·rw[a',av,ay (by rw[(lL o r i).1];exact e)];rfl
 · show ag A _ _ (cC d f h b.length c.length) (b9 d (ch b c b.length).2.2 (ch b c b.length).1 (ch b c b.length).2.1) _ _;unfold ie;refine L.symm▸?_;refine ag.cons (St.q5 (b:=c.length) (y:=nm "t") (V9:=nm "i") (v:=nm "elem") (h:=h) (λ i=>(d0 q.2 i).1.map (bM d)) (λ i=>bM d ((d0 q.2 i).1.getD i none)) (λ _=>cC d f h b.length c.length) (λ i=>b9 d (d0 q.2 i).2 q.1 (d0 q.2 i).1) (λ i=>Oe (C i)) rfl (Ev.bl nn) Ev.nm (by rfl) (by rfl) (λ _ _=>by rfl) (λ _ _=>by rfl) (λ i _=>by rw[be];exact(n3 w i).1.trans t) (λ i e=>?_) (λ i e=>(Kf (C i) e).1) (λ i e=>(Kf (C i) e).2)) (ag.last (St.D0 ?_) trivial);·rw[a',av,ay (by rw[(n3 w i).1,t];exact e)];rfl
   ·rw[dQ];rfl
def D5{c d:List Str}(h:∀z∈c,cs z=true)(i:∀z∈d,cs z=true)(e:c.length<=500)(f:d.length<=500):Fn (a+3,true) (.ref 279) [Lt c,Lt d] (.insts (.ref 269) ((ie c d).map n2)):=Fn.of v1 (λ P doc k g=>by
  refine cP (d9 g) ?_;rintro j b rfl;lia) rfl (D4 h i e f)
def dc.D6{I:ae}{t r:List ae}{P:Nat->ab->Prop}{St:Nat->a7->Prop}(W:U4 P0 c o I t r a P St)(x:a=Vk.length)(B:∀b,¬w b->∃d,s.get? b=some d)(C:∀i p v g,Vk[i]?=some p->P i v->(KX w s g)->iP w g v p z)(G:∀b∈r,s.get? b=none)(M:∀i h,St i h->∀b∈t,∃d,h.get? b=some d)(L:∀i h,St i h->∀b∈r,∀d,h.get? b=some d->¬bw d)(H:∀i v(f:aa)(Q:Unit->aa->Prop)(E:ab->aa->Prop),St i f.heap->Q () f->aA (au P0 c) o (Jn z (.ref I) v) Q E f)(J:o.handled=none):dc w c o (.ref I) z Vk (λ b=>¬w b\/b∈t) (·∈r) (λ i h=>St i h/\(KX w s h)) (λ i _ h=>St (i+1) h/\(KX w s h))where
 sub b j:=.inr (W.sub b j);frame i h g st l:=⟨W.frame i h g st.1 λ b j d e=>l b d (.inr j) e,λ b d m e=>l b d (.inl m) (st.2 b d m e)⟩;next i p f Q E y st k:=by
  refine W.item i f Q E (by refine x.symm▸?_;exact(a8.mp y).1) st.1 λ v g u D T l=>?_;have keep:KX w s g:=λ b d m e=>l b d (λ q=>bN (G b q) e) (st.2 b d m e);exact k v g u (C i p v g y D keep) ⟨T,keep⟩ l
 go i v p f Q E st O k:=H (i+1) v f Q E st.1 (k f.heap st O λ _ _ _ e=>e);done f Q E st k:=W.done f Q E (x▸st.1) λ g u l=>k g u l;self i f Q E st k:=W.self i f Q E st.1 k;calm _:=J;hV i h st b d j e:=L i h st.1 b j d e;there i h st b j:=j.elim (λ m=>let⟨d,e⟩:=B b m;⟨d,st.2 b d m e⟩) λ j=>M i h st.1 b j
def D7{I l:ae}{Q:Unit->aa->Prop}(e:q.heap.IsListIter I l a)(h:Q () q):aA (au P0 c) o (Jn z (.ref I) U) Q y q:=by
 refine ci e λ k f b d=>?_;cases z with
 |Tuple|List=>cases U with
  |ref j=>
   unfold Jn;refine af (MN f ?_);rw[b,d];refine bT (by simp only[ii];rintro⟨g,_⟩;revert g;decide) ?_;exact ah h|_=>exact ah h
 |_=>exact ah h
def v6{A B:aq}(n:A.handled=none)(T:Kp q H)(D:Ex w H.heap)(U:¬w h)(Y:H.heap.PlainList h Ve.toArray)(VL:Ve.length=Vk.length)(G:∀(i:Nat)(p:PV)(v:ab)(f:a7),Vk[i]?=some p->Ve[i]?=some v->(KX w H.heap f)->iP (λ b=>w b\/H.heap.get? b=none) f v p z)(J:∀t H g j u St C N,Kp q H->Kp H g->(∀b,N b↔w b\/H.heap.get? b=none)->dc N c A t z Vk j u St C->St 0 g.heap->(∀b,j b->b<g.heap.objs.size)->(∀b,u b->H.heap.objs.size<=b)->(∀b,j b->¬w b)->Vh t g):aA (au P0 c) B (LA (.ref h)) Vh y H:=by
 have m:=Y.isList;refine M3 m (ak (id m) λ VN L VM=>?_);have r:h<H.heap.objs.size:=az L;have l:∀b,(w b\/H.heap.get? b=none)↔w b\/H.heap.get? b=none:=λ _=>N3;refine J (.ref H.heap.objs.size) H _ _ _ _ _ (λ b=>w b\/H.heap.get? b=none) T Kp.push l (dc.D6 (s:=H.heap) (PC (n) H.heap.objs.size h (br r) Ve.toArray) (by assumption) (hW l) (λ i p v f M O keep=>?_) (λ b a=>?_) (λ i k st b a=>?_) (λ i k st b a o e=>jJ ((show b=H.heap.objs.size by exact aI.mp (a))▸st.1) o e) (λ i v q Vh y st k=>D7 st.1 k) n) ⟨⟨⟨_,aF _ rfl,rfl,rfl⟩,m.push _⟩,λ b o _ e=>ao _ e⟩ (λ b a=>?_) (λ b a=>?_) (jI l D λ b a=>?_)
 · refine G i p v f M (by simpa using O) λ b o V e=>keep b o (λ d=>?_) e;refine aH d (λ d=>?_) λ d=>?_;·exact V d
   ·rw[e]at d;exact c7 d
 · obtain rfl:b=H.heap.objs.size:=aI.mp (a);exact cW (aB _)
 · refine aH (aP.mp a) ?_ λ a=>?_
   · rintro rfl;exact ak st.1 λ o e _=>⟨o,e⟩
   · obtain rfl:b=h:=aI.mp (a);exact ak st.2 λ o e _=>⟨o,e⟩
 · show b<(H.heap.push _).objs.size;simp only[IG];rcases a with a|a
   · refine ey (x:=H.heap.get? b) (λ e=>?_) λ o e=>?_;·exact(a (.inr e)).elim
     ·exact gb (az e)
   · rcases aP.mp a with rfl|a;·exact Ia _
     · obtain rfl:b=h:=aI.mp (a);exact gb r
 · obtain rfl:b=H.heap.objs.size:=aI.mp (a);exact aB _
 · rcases aP.mp a with rfl|a;·exact .inl (cW (aB _))
   · obtain rfl:b=h:=aI.mp (a);exact .inr U
def bg.insts{t:List (List bP)}(L:u.2=true)(h:Ev u g i z (.insts (.ref 269) t)):bg u g i z (.Tuple Vt a v) (t.map λ l=>.inst (.ref 269) l):=λ X w A j VT s E Q R J=>h.use j R (Kp.refl s) λ C B VP _ Y D=>by
  refine aj λ VR=>?_;refine mE VP λ VS VV VN VL VM T H=>?_;obtain rfl:=VN;refine VR (v6 (j.calm L) Y D.ex VL VM (by simp[T]) (λ V p C h' r U keep=>?_) J);rw[a']at r;refine ak (bh.mp r) ?_;rintro f O rfl;obtain⟨b,o,n,vs,G,rfl,y,m,M,N,VO⟩:=H V C f U O;have x:∀{c:ae}{d:Obj},¬X c->B.heap.get? c=some d->¬(X c\/B.heap.get? c=none):=λ n z q=>by
   refine aH q (λ q=>?_) λ q=>?_;·exact n q
   ·rw[z]at q;exact c7 q
  exact g2 b vs f G rfl (.inr rfl) (.inr ⟨o,n,x y m,keep b o y m,M,N⟩) (vr (λ c d z=>dW.mpr ⟨x (dH z) (dm z),e' z,keep c d (dH z) (dm z)⟩) VO)
def bg.D8{x:List (List bP)}(J:u.2=true)(h:Ev u g i z (Li (x.map .tuple))):bg u g i z (.Tuple Vt a v) (x.map λ l=>Tu l):=λ X w A r VW s E Q R H=>h.use r R (Kp.refl s) λ VS B VQ _ V C=>by
  refine aj λ j=>?_;refine bI VQ.list λ VU vs as f VL VM y=>?_;obtain rfl:=f;refine j ?_;refine v6 (r.calm J) V C.ex VL VM (by have :=cy y;simpa using this) (λ U p VS h' t O keep=>?_) H;rw[a']at t;refine aj λ j=>?_;refine ak (bh.mp t) ?_;rintro m L rfl;refine aW (hc y (i:=U) (d:=.tuple m) (by simp only[a',L];rfl)) λ VY bs G VO=>?_;cases aO O G;refine bI (RV.tuple ⟨_,VO⟩) λ T VR D f nT VN VP=>?_;obtain rfl:=f;refine ak VN λ o M N=>?_;refine j ?_;have Y:∀{c:ae}{b:Obj},¬X c->B.heap.get? c=some b->¬(X c\/B.heap.get? c=none):=λ n z q=>by
   refine aH q (λ q=>?_) λ q=>?_;·exact n q
   ·rw[z]at q;exact c7 q
  exact g2 T VR m D rfl (.inl rfl) (.inl ⟨o,keep T o nT M,N⟩) (vr (λ c b z=>dW.mpr ⟨Y (dH z) (dm z),e' z,keep c b (dH z) (dm z)⟩) VP)
def D9(x:s.IsTupleIter h Q a):∀o,s.get? h=some o->¬bw o:=λ o e=>by
 refine ci x λ f b c d=>?_;cases aO e b;exact bw.hX c (by decide) d λ q t=>λ s=>by cases s
def D'{A B:aq}(VM:A.handled=none)(VO:Kp q H)(O:Ex w H.heap)(VP:¬w h)(r:H.heap.IsTuple h Ve.toArray)(G:ga (cb w H.heap) Ve Vo Y)(V:∀D H m n J St L N,Kp q H->Kp H m->(∀b,N b↔w b\/H.heap.get? b=none)->dc N c A D (.Name j v) (Vo.map .d) n J St L->St 0 m.heap->(∀b,n b->b<m.heap.objs.size)->(∀b,J b->H.heap.objs.size<=b)->(∀b,n b->¬w b)->Vh D m):aA (au P0 c) B (LA (.ref h)) Vh y H:=by
 refine wpAny_pyIter_tuple r (ak (id r) λ VS VN VR=>?_);have u:h<H.heap.objs.size:=az VN;have k:∀b,(w b\/H.heap.get? b=none)↔w b\/H.heap.get? b=none:=λ _=>N3;have t:∀{b},b∈[H.heap.objs.size,h]->b=H.heap.objs.size\/b=h:=λ f=>by simpa using f
 refine V (.ref H.heap.objs.size) H _ _ _ _ _ (λ b=>w b\/H.heap.get? b=none) VO Kp.push k (dc.qh (s:=H.heap) (Walks.tuple VM H.heap.objs.size h (br u) Ve.toArray) (by simp[cy G]) (hW k) (λ i p VT z C=>?_) (λ b f=>?_) (λ i U st b f=>?_) λ i U st b f o e=>D9 ((aI.mp f)▸st.1) o e) ⟨⟨⟨_,aF _ rfl,rfl,rfl⟩,r.push _⟩,λ b o _ e=>ao _ e⟩ (λ b f=>?_) (λ b f=>?_) (jI k O λ b f=>?_)
 · rw[a']at z;refine aj λ VQ=>?_;refine ak (bh.mp z) ?_;rintro d VL rfl;refine aW (hc G VL) λ VU M a b=>?_;cases aO a (by rw[Nq]at C;exact C);exact VQ (RV.lc k ⟨M,b⟩)
 · cases aI.mp f;exact cW (aB _)
 · refine aH (t f) ?_ λ g=>?_
   · rintro rfl;exact ak st.1 λ o e _=>⟨o,e⟩
   · obtain rfl:=g;exact ak st.2 λ o e _=>⟨o,e⟩
 · show b<(H.heap.push _).objs.size;simp only[IG];rcases f with f|f
   · refine ey (x:=H.heap.get? b) (λ e=>?_) λ o e=>?_;·exact(f (.inr e)).elim
     ·exact gb (az e)
   · refine aH (t f) ?_ λ g=>?_
     · rintro rfl;exact Ia _
     · obtain rfl:=g;exact gb u
 · cases aI.mp f;exact aB _
 · refine aH (t f) ?_ λ g=>?_
   · rintro rfl;exact .inl (cW (aB _))
   · obtain rfl:=g;exact .inr VP
def eh.tuple:eh (Tu Vo) j (Vo.map .d):=λ X w A B e m n s E Q v a h kp b=>by
 refine aj λ i=>?_;refine bI h.tuple λ T o k f nT c g=>?_;obtain rfl:=f;exact i (D' e kp a nT c g b)
def bg.v7(d:u.2=true)(h:Ev u g i z V)(f:eh V j Vk):bg u g i z (.Name j v) Vk:=λ X w A a p s E Q R c=>h.use a R (Kp.refl s) λ o n m _ l b=>f X w A A (a.calm d) v s n E Q o b.ex m l c
def cZ(x:Cx)(k:Lv)(c:aw)(f:List (Str×PV))(g:List (Str×OL))(e:b7)(p:PV):Prop:=∀(X:ae->Prop)(VN:ar)(A:aq),Rm k A->∀(VL:Env)(d s:aa)(E Q:ab->aa->Prop)m b VM,FB x X VN A c VL d f g m b VM s->(∀v a,FB x X VN A c VL d f g m b VM a->RV (aL X VL VM) a.heap v p->Kq x.t A s a->Q v a)->aA (au P0 VN) A (He e VL) Q E s
def lM(x:Cx)(k:Lv)(d:aw)(g:List (Str×PV))(h:List (Str×OL))(e:b7)(b:Bool):Prop:=∀(X:ae->Prop)(VM:ar)(A:aq),Rm k A->∀(VL:Env)(f s:aa)(E:ab->aa->Prop)(Q:Bool->aa->Prop)m c O,FB x X VM A d VL f g h m c O s->(∀a,FB x X VM A d VL f g h m c O a->Kq x.t A s a->Q b a)->aA (au P0 VM) A (isTrue e VL (He e VL)) Q E s
def RV.kq(T:M=true->∀b,¬w b->ff o b)(K:Kq M o q H)(r:RV w q.heap U V):RV w H.heap U V:=r.b0 λ b c a e=>K.ext.keep b c (λ h=>T h b a) e
def FB.Ea(F:FB A w c o g E q i D Vg Vp Y H):A.t=true->∀b,¬aL w E Y b->ff o b:=λ a b d=>F.eU a λ e=>d (.inl e)
def aZ.q6(hO:∀b∈Y,¬Ow w E b/\(A.t=true->ff o b))(K:Kq A.t o q H):aZ A o w E Y q Y H:=⟨λ b f d e=>K.ext.keep b f (λ c=>⟨λ a=>d (.inr (.inr ⟨c,.inl a⟩)),λ a=>d (.inr (.inr ⟨c,.inr a⟩))⟩) e,λ b h=>.inl h,λ _ h=>h,hO⟩
def cZ.gG(d:A.t=true)(VO:∀w,fI w h)(Y:ef u (.ref h) Vk V)(VN:Ev u g i (.Name j v) (.raw (.ref h)))(C:a6 u g i (z::Vt) Vk):cZ A u g i D (.Call (.Name j v) (z::Vt) [] J) V:=λ X w n c B V2 s E Q m V1 O F VL=>by
 refine dr (VN.use c F.er (Kp.refl s) λ f VY VW _ VS q=>?_);obtain rfl:f=.ref h:=VW;have VQ:=C.plain (E:=B) (v:=J);refine aW (VO w _ q.left) λ o T VP VM=>?_;refine di C.cut λ _ _ VT N b G=>?_;obtain rfl:=VT;have U:=a6.use c (z:=J) (E:=E) (.cons N b G) (s:=VY) (Q:=λ l L=>(L.heap.get? h=some o/\o.data=.func T)/\aA (au P0 w) n (I3 (.ref h) l) Q E L) q VS λ l VZ VX VR H t=>⟨⟨VR.keep _ _ VP,VM⟩,by
   have p:=F.kp H;refine aG (Y (aL X B O) w n c VZ l E t.left t.ex (p.lA d) VX) (λ f V0 VU=>(a4 VU λ VV K M=>?_)) λ _ _ A=>A;exact VL f V0 (p.kt d K M) VV (by refine d.symm▸?_;exact H.kq.trans K)⟩;rw[G]at U VQ⊢;exact rS (b1 U)
def cZ.comp{ba U:b7}(VQ:List Str)(h:List Vd)(T:Vd->PV)(p:Vd->List (Str×PV))(c:Vd->Bool)(f:Vd->bP)(V4:u.2=true)(VO:hf VQ VK g=true)(V':cZ A u g i D U V)(Wf:eh V j (h.map T))(H:∀A,(p A).map (·.1)=VQ)(V3:∀A∈h,BindsTo (.Name j J) (T A) (p A))(Wa:∀A∈h,eG u (bQ VK g) (p A++cj VK i) Vt (c A))(V8:∀A∈h,c A=true->Ev u (bQ VK g) (p A++cj VK i) ba (.d (f A)))(We:h.length<=a9)(Wc:autoParam (∀l A,Ad U l A=jB A) bc):cZ A u g i D (.ListComp ba [⟨.Name j J,U,Vt,0⟩] VK v) (Li ((h.filter c).map f)):=λ X w z B l VT s E Q m VX O F V2=>by
 have r:=(dJ.of VO).1;simp only[Ro];refine aj λ VM=>?_;refine ci (nd (E:=l) (g:=VK) λ n H=>F.er.cells n (by unfold KP;refine(F.er.scope).symm▸?_;exact r.free n H)) λ cl V7 V5 V6=>?_;refine VM (Nb (use:=none) rfl (Wc l) V7 r.kind r.names (V' X w z B l VT s E _ m VX O F λ Wk VU a VL VW=>Wf (aL X l O) w z z (B.calm V4) J VU VU E _ Wk a.er.ex VL (Kp.refl _) λ Ws Wv Ww Wo Wx St Wm N Wh Wi V1 Fd Wd V9 Wg Wr=>(tT h T p c f r V3 (λ A _ y V e=>(dJ.of VO).2 y (H A▸jM e)) Wa V8 We B a.er none V5 V6 Wh Wi V1 Fd Wd V9 Wg λ Wl C VS Wj Wb G Wp Wq L VL kp=>⟨Wj,L,λ h' M=>(aj λ VM=>(ak (Ns.c9 a.ns) λ Wu VZ _=>VM ?_))⟩)));have VN:=Wb _ _ VZ;have VP:∀b,b=C->VT.heap.objs.size<=b/\314<=b:=λ b V=>by obtain rfl:=V.symm;exact⟨an a.fresh (bn VN),an a.locals (bn VN)⟩
 have VR:∀b o,b=C->VS.heap.get? b=some o->¬bw o:=λ b o V e=>by
  obtain rfl:=V.symm;refine ak (Ns.c9 L) λ Wt VY d=>?_;cases aO e VY;exact eJ d
 have VV:=(a.wide kp (VG:=(·=C)) (λ b V=>by obtain rfl:=V.symm;exact G) (λ b V=>by obtain rfl:=V.symm;refine ak (Ns.c9 L) λ o e _=>?_;exact⟨o,e⟩) (λ b V=>(VP b V).1) VR).nt (s:=h') (a:=VS.toks) VP (λ b V=>by obtain rfl:=V.symm;exact λ V=>by refine ai (a.er.ex C V) λ o e=>?_;exact bN G e) VR (λ b o Y e=>M.extBut b o Y e) λ t=>⟨(F.bi t).tab,(F.bi t).fa⟩;refine V2 _ _ VV ((VL.b0 λ b o Y e=>M.extBut b o (λ V=>Y (.inr V)) e).mono λ b V=>.inl V) ?_;exact VW.trans (Kp.kq (kp.re λ b o e=>M.extBut b o (λ V=>by obtain rfl:=V.symm;exact bN G e) (kp.keep b o e)))
def lM.cmp{e:SV}{p q:PV}(G:aD e p q M)(y:cZ A u g i D z p)(B:Ev u g i Vn q)(C:autoParam (Lo e Vn=ap) gX):lM A u g i D (.Compare z [e] [Vn] v) M:=λ X w f c j N s E Q m o O F t=>JZ (y X w f c j N s _ _ m o O F λ Y VM h J l=>B.use c h.er (Kp.refl _) λ V T L d VL n=>aG (G (aL X j O) w f c.gC T Y V _ n.ex (J.keeps d.keep) L) (λ _ U H=>by refine am H λ z Vn=>?_;exact z▸zF (t U (h.kp (d.trans Vn)) (l.trans (d.trans Vn).kq))) λ _ _ A=>A) C
def St.q7(h:cZ A u g i D z V)(q:ce g j=true)(o:autoParam (∀a,MG z (some (.Name j v)) J.line a=jB ap) cN):St A u g i D (.Assign [.Name j v] z J) (.next ((j,V)::i) (bu j D)):=λ X w b n a B s E m f O F=>Jh (h X w b n a B s E _ m f O F λ H C c y K=>c.store (dL q) y λ G t l d r=>⟨rfl,t,l,O,d,(aZ.q6 F.hO K).trans (.dn F.hO r)⟩) (o a)
def St.v8{a b:List Io}{l:Go}(h:lM A u g i D z M)(y:M=true->ag A u g i D a l)(B:M=ap->ag A u g i D b l):St A u g i D (.If z a b v) l:=λ X w d n j o s E m e O F=>Px (h X w d n j o s E _ m e O F λ r p K=>by cases M with
  |true=>exact aG (y rfl X w d n j o r E m e O p) (λ f C q=>q.after (.q6 F.hO K)) λ _ _ A=>A|false=>exact aG (B rfl X w d n j o r E m e O p) (λ f C q=>q.after (.q6 F.hO K)) λ _ _ A=>A)
def FB.Eb(F:FB A w c o g E q i D Vg Vp Y H)(M:i.lookup j=some (.d VI))(G:g.names.lookup j=some .cell):∃(h:ae)(v:ab)(u:List (ae×Obj)),E.cells.lookup j=some h/\(∀a∈u,¬gm w E Y a.1/\H.heap.get? a.1=some a.2)/\∀(t:ae->Prop)(k:a7),(∀a∈u,¬t a.1/\k.get? a.1=some a.2)->k.IsCell h (some v)/\RV t k v (.d VI):=by
 have V:=F.er.vars j _ M;unfold cc at V;simp only[F.cB,G]at V;refine aj λ N=>?_;obtain⟨h,v,e,⟨y,J,C⟩,z,r⟩:=V;refine ak (vo r) λ L f B=>N (sJ h v ((h,y)::L) e (λ a b=>(aH (aP.mp b) ?_ λ b=>?_)) (λ t k l=>⟨⟨y,(l _ (.head _)).2,C⟩,z,B _ λ a b=>dW.mpr ⟨(l a (.tail _ b)).1,e' (f a b).2,(l a (.tail _ b)).2⟩⟩))
 · rintro rfl;exact dv (λ a=>a.2 ⟨j,e⟩) J
 ·exact dv (λ p=>dH (f a b).2 p.1) (dm (f a b).2)
def fT(r:aw)(v:List (Str×PV))(x:List (Str×OL))(p:Jk)(k:b7)(i:aw)(C:ae->List (ae×Obj)->Prop):Prop:=∀(X:ae->Prop)(w:ar)(A:aq)(d:Env)(u s:aa)(m l:Str->Option ab)(O:List ae)(b:List (Str×ae)),FB bH X w A r d u v x m l O s->(∀n c,b.lookup n=some c->d.cells.lookup n=some c)->(∀n,(n,cM)∈i.names->∃c,b.lookup n=some c)->∃f:List (ae×Obj),(∀q∈f,¬gm X d O q.1/\s.heap.get? q.1=some q.2)/\∀a o e g h j t,o.data=.func e->ho e eS p k i b->e.code=.ref g->h.data=.fields j->j[1]?=some (.str eS t)->C a ((a,o)::(g,h)::f)
def fT.make{l:Jk}{C:ae->List (ae×Obj)->Prop}(h:fT g i D l z VK C)(VQ:∀n,(n,cM)∈VK.names->g.names.lookup n=some .cell)(VP:∀E,Pc l E=([],[]))(F:FB bH w c o g E q i D Vg Vp Y H)(VO:∀a L b,C a L->(∃f k,(a,f)∈L/\f.data=.func k)->FB bH w c o g E q i D Vg Vp Y b->RV (gm w E Y) b.heap (.ref a) (.kept (.ref a) L)->Kq true o H b->Vh (.ref a) b):aA (au P0 c) o (He (.Lambda l z VK v) E) Vh y H:=by
 refine aj λ VW=>?_;refine ci (nd (E:=E) (g:=VK) λ n VR=>F.er.cells n (.inl (by rw[F.cB];exact VQ n VR))) λ J e VM VN=>?_;refine VW (F.lam (VP E) e λ a f k B VU vs t b M r N T U V VL VS VT K x=>?_);have p:=F.kt rfl K x;refine ak (h w c o E q b Vg Vp Y J p VM VN) λ VX u G=>VO a _ b (G a f k B VU vs t r N T V VL) ⟨f,k,.head _,r⟩ p ⟨rfl,λ j d=>(aH (aP.mp d) ?_ λ d=>?_)⟩ K
 · rintro rfl;exact⟨λ j=>VS j.1,M⟩
 · rcases aP.mp d with rfl|d;·exact⟨λ j=>VT j.1,U⟩
   ·exact u j d
def cZ.v9{d:Jk}{lp np H:Pos}{t u:b7}{l:Nat->List bP}(h:fT g i D d z VK λ Y L=>∀G p,Vk[G]?=some p->h9 (a,true) (.ref Y) L [Li (l G),p] (Li (l (G+1))))(V1:∀a,(a,cM)∈VK.names->g.names.lookup a=some .cell)(VZ:∀c,Pc d c=([],[]))(V0:Ev (a+1,true) g i (.Name j np) (.raw (.ref 134)))(VL:a6 (a+1,true) g i [t,u] [V,Li (l 0)])(V3:eh V (nm "element") Vk):cZ bH (a+1,true) g i D (.Call (.Name j np) [.Lambda d z VK lp,t,u] [] H) (Li (l Vk.length)):=λ X w A B c Wd s E Q m Wb O F VX=>by
 refine dr (V0.use B F.er (Kp.refl s) λ v V8 V7 _ VN VT=>(aj λ Wa=>?_));obtain rfl:v=.ref 134:=V7;have VM:∀VP c,bD (Pk d z VK lp::VP) c=(ap,He (.Lambda d z VK lp) c)::bD VP c:=by intros;rfl
 have Wc:=VL.plain (E:=c) (v:=H);have C:∀w,fI w 134:=de λ P=>⟨_,iY.fn P⟩;refine aW (C w _ VT.left) λ o fd V2 VY=>Wa ?_;have U:aA (au P0 w) A (Qu (L9 H (bD [Pk d z VK lp,t,u] c))) (λ vs VQ=>(VQ.heap.get? 134=some o/\o.data=.func fd)/\aA (au P0 w) A (I3 (.ref 134) vs) Q E VQ) E V8:=by
  refine IP (h.make V1 VZ (F.kp VN) λ Y L We VW C M J T=>(a6.use B VL M.er (Kp.refl _) λ vs V9 V6 k _ VU=>?_)) (VM _ _);have r:=M.kp k;refine⟨⟨k.keep _ _ (T.ext.keep 134 o (λ _=>⟨(by decide:¬c8 134=true),(λ f=>absurd ((F.bi rfl).dA.fa f).1 (by decide))⟩) V2),VY⟩,?_⟩;refine aG (CD V3 VW C (gm X c O) w A B V9 _ E VU.left r.q0 (r.nU rfl) (.cons (J.keeps k.keep) (V6.shift λ b o V4 e=>⟨λ V=>V4 V.1,e⟩))) (λ v V' V5=>(a4 V5 λ J K VS=>?_)) λ _ _ x=>x;have N:=r.kt rfl K VS;exact VX v V' N (N.CW J) (((Kp.kq VN).trans T).trans ((Kp.kq k).trans K))
 rw[VM]at U⊢;exact rS (b1 U)
section
set_option genInjectivity false
structure SD where
 objs:List (ae×Obj)n:Nat
 tk:Nat
inductive n4(b:Type)|val(a:b)|err(e:ab)|more(t:Sem b)
abbrev cD:=List (ae×ae)
abbrev i1(a:Type):=n4 a×SD×Nat×cD
noncomputable def n5(o:Obj):Option (Array ab×Nat):=match o.data with
 |.seq a k=>some (a,k)|_=>none
noncomputable def q8(v:ab):Bool:=match v with
 |.type t=>t=="list"|_=>ap
noncomputable def q9(VL:Obj):Bool:=q8 VL.cls&&(VL.dict.isNone&&(VL.slots.isEmpty&&(n5 VL).any λ x=>x.1.isEmpty&&x.2==0))
noncomputable def v'(VL:Obj):Option (Array ab):=(n5 VL).bind λ x=>d7 (q8 VL.cls&&LJ x.1.size 100) (some x.1)
noncomputable def q'(v:ab):Option ae:=match v with
 |.ref a=>some a|_=>none
noncomputable def wa(c:Tz):Option (ae×ae):=match c.pos with
 |[]=>none|VL::r=>match r with
  |[]=>none|VM::r=>d7 (r.isEmpty&&c.kw.isEmpty) ((q' VL).bind λ a=>(q' VM).bind λ b=>some (a,b))
def wb{x:Array ab×Nat}(h:n5 O=some x):O.data=.seq x.1 x.2:=by
 obtain⟨c,d,a,b⟩:=O;cases a<;>first|exact aQ h|(obtain rfl:=ax h;rfl)
def wc(h:q8 U=true):U=.type "list":=by cases U<;>first|(cases h;done)|exact congrArg Ix (pW h)
def wd(b:q' U=some h):U=.ref h:=by cases U<;>first|exact aQ b|(obtain rfl:=ax b;rfl)
noncomputable def Ec(VL:Tz)(a:SD)(b:Nat)(d:cD):Option (JJ×SD×Nat×cD):=(wa VL).bind λ c=>(a.objs[b%128]?).bind λ p=>(a.objs[b/128%128]?).bind λ q=>(v' q.2).bind λ e=>if q9 p.2 then some (.ok (.ret (.ref c.1)),⟨a.objs.set (b%128) (p.1,wx (·++e) {cls:=.type "list",data:=.seq #[] 0}),a.n,a.tk⟩,b/128/128,(c.1,p.1)::(c.2,q.1)::d)else none
noncomputable def ra(c:Nx)(e:SD)(d:Nat)(b:cD):Option (JJ×SD×Nat×cD):=match c with
 |.builtin id a=>if id=="list.__iadd__"then Ec a e d b else none|_=>none
abbrev fo(α:Type):=SD->Nat->cD->Option (i1 α)
noncomputable def we(a:Nx->SD->Nat->cD->Option (JJ×SD×Nat×cD))(o:i1 Jl):Option (JJ×SD×Nat×cD):=match o.1 with
 |.val (.done f)=>some (.ok f,o.2)|.val (.again c)=>if c.quiet=true then a c o.2.1 o.2.2.1 o.2.2.2 else none|.err e=>some (.error e,o.2)|.more _=>none
noncomputable def rb(run:Sem Jl->fo Jl)(VM:Nx->Sem Jl):Nat->Nx->SD->Nat->cD->Option (JJ×SD×Nat×cD)
 |0,_,_,_,_=>none|m+1,VL,st,sc,VN=>(ra VL st sc VN).or ((run (VM VL) st sc VN).bind (we (rb run VM m)))
noncomputable def Ed(run:Sem Vd->fo Vd)(a:ae)(q:Option ab)(k:Obj->Sem Vd):fo Vd:=λ st b c=>bif QR (b%128) 127 then some (.more (.load a q k),st,b,c)else(st.objs[b%128]?).bind λ q=>run (k q.2) st (b/128) ((a,q.1)::c)
noncomputable def Ee(run:Sem Vd->fo Vd)(a:ae)(g:Obj->Obj)(k:Unit->Sem Vd):fo Vd:=λ st b c=>(st.objs[b%128]?).bind λ q=>(alive (g q.2)).bind λ o=>run (k ()) ⟨st.objs.set (b%128) (q.1,o),st.n,st.tk⟩ (b/128) ((a,q.1)::c)
noncomputable def Ef(run:Sem Vd->fo Vd)(o:Obj)(k:ae->Sem Vd):fo Vd:=λ st b a=>(alive o).bind λ o=>run (k st.n) ⟨st.objs++[(st.n,o)],st.n+1,st.tk⟩ b a
noncomputable def Eg(run:Sem Vd->fo Vd)(a:Nx->SD->Nat->cD->Option (JJ×SD×Nat×cD))(c:Nx)(k:JJ->Sem Vd):fo Vd:=λ st d b=>(a c st d b).bind λ o=>run (k o.1) o.2.1 o.2.2.1 o.2.2.2
noncomputable def el(VP:Nx->Sem Jl)(S:Setting)(n:Nat):{α:Type}->Sem α->fo α:=n.rec (motive:=λ _=>{α:Type}->Sem α->fo α) (λ t st d b=>some (.more t,st,d,b)) λ _ r{α}t=>t.casesOn (motive:=λ _=>fo α) (λ f st d b=>some (.val f,st,d,b)) (λ e st d b=>some (.err e,st,d,b)) (λ _ _ _ _=>none) (λ _ _ _ _=>none) (λ _ k=>r (k ())) (λ _ k=>r (k ())) (λ a q k=>Ed r a q k) (λ a _ g k=>Ee r a g k) (λ o k=>Ef r o k) (λ _ _ _ _ _=>none) (λ _ k=>r (k ())) (λ _ _ _ _ _=>none) (λ k st d b=>r (k st.tk) ⟨st.objs,st.n,st.tk+1⟩ d b) (λ k=>r (k S)) (λ _ _ _ _ _ _=>none) (λ _ _ _ _ _ _=>none) (λ c h _ _ k st d b=>d7 h.isNone (Eg r (rb r VP 8) c k st d b)) (λ own k st d b=>d7 (!own) (r (k none) st d b)) (λ _ _ _ _ _=>none) (λ _ _ _ _ _=>none) (λ _ _ _ _ _ _ _=>none) (λ _ _ _ _ _ _ _=>none) (λ _ _ _ _=>none) (λ _ _ _ _ _=>none) (λ _ _ _ _=>none) (λ _ _ _ _ _ _ _ _=>none)
structure bL(st:SD)(s:aa):Prop where
 objs:∀(i:Nat)(a:ae)(o:Obj),st.objs[i]?=some (a,o)->s.heap.get? a=some o
 inj:∀(i j:Nat)(a:ae)(o b:Obj),st.objs[i]?=some (a,o)->st.objs[j]?=some (a,b)->i=j
 size:s.heap.objs.size=st.n
 tk:s.toks=st.tk
structure fp(st e:SD)(s c:aa):Prop where
 rest:c={s with heap:=c.heap,toks:=c.toks}keep:∀(b:ae)(o:Obj),(∀(i:Nat)(d:Obj),st.objs[i]?≠some (b,d))->s.heap.get? b=some o->c.heap.get? b=some o
 known:∀(i:Nat)(a:ae)(o:Obj),st.objs[i]?=some (a,o)->∃d,e.objs[i]?=some (a,d)size:s.heap.objs.size<=c.heap.objs.size
def fp.refl(a:SD)(s:aa):fp a a s s:=⟨rfl,λ _ _ _ e=>e,λ _ _ o e=>⟨o,e⟩,aB _⟩
def fp.trans{g h j:SD}(R:bL g q)(a:fp g h q H)(b:fp h j H VJ)(l:∀(i:Nat)(c:ae)(o:Obj),h.objs[i]?=some (c,o)->(∃d,g.objs[i]?=some (c,d))\/q.heap.objs.size<=c):fp g j q VJ:=by
 refine⟨by rw[b.rest,a.rest],λ c o n e=>b.keep c o (λ i d f=>?_) (a.keep c o n e),λ i c o e=>?_,an a.size b.size⟩
 · refine aH (l i c d f) (λ p=>?_) λ f=>?_;·exact ai p λ m f=>n i m f
   ·exact absurd (az e) (b'.mpr f)
 ·exact ai (a.known i c o e) λ d k=>b.known i c d k
def wf{o a:Obj}(h:alive o=some a):a=o/\o.isFreed=ap:=by
 obtain⟨c,d,b,e⟩:=o;cases b<;>first|exact⟨(ax h).symm,rfl⟩|exact aQ h
def fq(b d:SD)(e:Nat):Prop:=∀(i:Nat)(c:ae)(o:Obj),d.objs[i]?=some (c,o)->(∃a,b.objs[i]?=some (c,a))\/e<=c
def fq.trans{d f g:SD}(m:a<=b)(j:fq d f a)(k:fq f g b):fq d g a:=λ i c o e=>by
 rcases k i c o e with⟨n,l⟩|h;·exact j i c n l
 ·exact .inr (an m h)
def wg{d:SD}{o u:Obj}{g:Obj->Obj}(R:bL d q)(p:d.objs[a]?=some (h,o))(H:alive (g o)=some u):bL ⟨d.objs.set a (h,u),d.n,d.tk⟩ {q with heap:=q.heap.update h g}/\fp d ⟨d.objs.set a (h,u),d.n,d.tk⟩ q {q with heap:=q.heap.update h g}/\fq d ⟨d.objs.set a (h,u),d.n,d.tk⟩ q.heap.objs.size:=by
 refine am (wf H) ?_;rintro rfl J;have D:a<d.objs.length:=(a8.mp p).1;have r:∀(j:Nat)(c:ae)(x:Obj),(d.objs.set a (h,g o))[j]?=some (c,x)->(j=a/\c=h/\x=g o)\/(j≠a/\d.objs[j]?=some (c,x)):=λ j c x e=>by
   rw[OU]at e;by_cases f:a=j
   · subst f;rw[if_pos rfl,if_pos D]at e;cases e;exact .inl ⟨rfl,rfl,rfl⟩
   · rw[if_neg f]at e;exact .inr ⟨λ t=>f t.symm,e⟩
 refine⟨⟨λ j c x e=>?_,λ j l c x y e A=>?_,?_,R.tk⟩,⟨rfl,λ c x n e=>?_,λ j c x e=>?_,?_⟩,λ j c x e=>?_⟩
 · refine aH (r j c x e) (λ k=>?_) λ m=>?_
   · refine a4 k ?_;rintro _ rfl z;obtain rfl:=z;exact cQ _ (R.objs a _ o p) J
   · refine am m λ f e=>?_;show(q.heap.update h g).get? c=_;rw[N0 _ _ _ _ λ(t:c=h)=>f (R.inj j a c x o e (by rw[t];exact p))];exact R.objs j c x e
 · refine aH (r j c x e) (λ k=>?_) λ m=>?_
   · refine a4 k λ C E _=>aH (r l c y A) (λ k=>?_) λ m=>?_
     · refine a4 k λ w _ _=>?_;simp only[C,w]
     · refine am m λ _ v=>?_;rw[C];exact R.inj a l c o y (by rw[E];exact p) v
   · refine am m λ _ B=>aH (r l c y A) (λ k=>?_) λ m=>?_
     · refine a4 k λ w G _=>?_;simp only[w];exact R.inj j a c x o B (by rw[G];exact p)
     ·exact am m λ _ v=>R.inj j l c x y B v
 · show(q.heap.update h g).objs.size=_;simp only[O7];exact R.size
 · show(q.heap.update h g).get? c=_;rw[N0 _ _ _ _ λ(t:c=h)=>n a o (by rw[t];exact p)];exact e
 · by_cases f:a=j
   · subst f;cases aO p e;exact⟨g o,by rw[OU,if_pos rfl,if_pos D]⟩
   ·exact⟨x,by rw[OU,if_neg f];exact e⟩
 · show _<=(q.heap.update h g).objs.size;simp only[O7];exact aB _
 · refine aH (r j c x e) (λ k=>?_) λ m=>?_
   · refine a4 k ?_;rintro rfl L z;obtain rfl:=L;obtain rfl:=z;exact .inl ⟨o,p⟩
   ·exact am m λ f e=>.inl ⟨x,e⟩
def Eh{a:SD}{o b:Obj}(R:bL a q)(v:alive o=some b):bL ⟨a.objs++[(a.n,b)],a.n+1,a.tk⟩ {q with heap:=q.heap.push o}/\fp a ⟨a.objs++[(a.n,b)],a.n+1,a.tk⟩ q {q with heap:=q.heap.push o}/\fq a ⟨a.objs++[(a.n,b)],a.n+1,a.tk⟩ q.heap.objs.size:=by
 refine am (wf v) ?_;rintro rfl w;have d:∀(j:Nat)(c:ae)(x:Obj),(a.objs++[(a.n,b)])[j]?=some (c,x)->a.objs[j]?=some (c,x)\/(j=a.objs.length/\c=a.n/\x=b):=λ j c x e=>by
   rw[Rf]at e;split at e;·exact .inl e
   · rename_i z;have k:j-a.objs.length=0:=by
       have :=(a8.mp e).1;simp only[Ky]at this;exact hA (dF this) bE
     rw[k]at e;cases e;exact .inr ⟨gu (iu k) z,rfl,rfl⟩
 have m:∀(j:Nat)(c:ae)(x:Obj),a.objs[j]?=some (c,x)->c≠a.n:=λ j c x e A=>by
   have :=az (R.objs j c x e);simp only[R.size,A]at this;exact Iy _ this
 refine b3 ⟨λ j c x e=>?_,λ j l c x y e h=>?_,?_,R.tk⟩ ⟨rfl,λ c x n e=>ao _ e,λ j c x e=>⟨x,?_⟩,?_⟩ (λ j c x e=>?_)
 · rcases d j c x e with e|⟨_,rfl,rfl⟩;·exact ao _ (R.objs j c x e)
   · show(q.heap.push _).get? a.n=_;refine R.size▸?_;exact aF _ w
 · refine aH (d j c x e) (λ i=>?_) λ f=>?_
   · refine aH (d l c y h) (λ g=>?_) λ f=>?_;·exact R.inj _ _ _ _ _ i g
     ·exact a4 f λ _ u _=>(m _ _ _ i u).elim
   · refine a4 f λ p r _=>aH (d l c y h) (λ g=>?_) λ f=>?_;·exact(m _ _ _ g r).elim
     · refine a4 f λ t _ _=>?_;simp only[p,t]
 · show(q.heap.push _).objs.size=a.n+1;rw[IG,R.size]
 · show(a.objs++[(a.n,b)])[j]?=_;rw[GZ (a8.mp e).1];exact e
 · show _<=(q.heap.push _).objs.size;simp only[IG];exact I7 _
 · rcases d j c x e with e|⟨_,rfl,_⟩;·exact .inl ⟨x,e⟩
   ·exact .inr (Jc R.size)
def ke(c b:SD)(s:aa)(C:aa->Prop):Prop:=∀a,bL b a->fp c b s a->fq c b s.heap.objs.size->C a
def ke.step{a b c:SD}{C:aa->Prop}(R:bL a q)(G:fp a b q H)(N:fq a b q.heap.objs.size)(h:ke a c q C):ke b c H C:=λ g f d e=>h g f (G.trans R d N) (fq.trans G.size N e)
def n4.To(M:LN)(a:Ctx)(Q:Vd->Pos->aa->Prop)(E:ab->Pos->aa->Prop):n4 Vd->aa->Prop
 |.val f,s=>∀p,Q f p s|.err e,s=>∀p,E e p s|.more t,s=>∀p,NS M a t Q E p s
def wh(VL:eH)(VM:ar)(α:Type)(run:Sem α->SD->Nat->cD->Option (i1 α)):Prop:=∀t st f d c e g a,run t st f d=some (c,e,g,a)->(∃new,a=new++d)/\((∀q∈a,q.1=q.2)->∀(b:Ctx)p s Q E,b.handled=none->bL st s->ke st e s (n4.To (au VL VM) b Q E c)->NS (au VL VM) b t Q E p s)
def Ej(h:q9 O=true):O={cls:=.type "list",data:=.seq #[] 0}:=by
 refine am (x4.mp h) λ a h=>am (x4.mp h) λ g h=>am (x4.mp h) λ i h=>ey (x:=n5 O) (λ e=>?_) λ x e=>?_;·rw[e]at h;cases h
 · rw[e]at h;refine am (x4.mp (show(x.1.isEmpty&&x.2==0)=true from h)) λ j k=>?_;have b:=wb e;have a:=wc a;obtain⟨c,d,f,l⟩:=O;simp only[show x.1=#[]from MA.mp j,pW k]at b;simp only[show c=_ from a,show d=none from PM.mp g,show f=_ from b,show l=#[]from MA.mp i]
def Ek(h:v' O=some VB):O.cls=.type "list"/\(∃k,O.data=.seq VB k)/\VB.size<=100:=by
 refine aj λ c=>ak (e6 h) λ x e h=>am (gc h) λ a h=>?_;obtain rfl:=ax h;exact am (x4.mp a) λ a b=>c (b3 (wc a) ⟨_,wb e⟩ (bW b))
def El{d:Tz}{c:ae×ae}(h:wa d=some c):d=⟨[.ref c.1,.ref c.2],[]⟩:=by
 obtain⟨k,j⟩:=d;obtain _|⟨x,_|⟨y,r⟩⟩:=k;·exact aQ h
 ·exact aQ h
 · refine am (gc h) λ e h=>am (x4.mp e) λ e f=>ak (e6 h) λ a g h=>ak (e6 h) λ b i h=>?_;obtain rfl:=ax h;simp only[wd g,wd i,O9.mp e,show j=[]from O9.mp f]
def Em{j:Nx}{st H o r}(h:ra j st H o=some r):(∃new,r.2.2.2=new++o)/\((∀q∈r.2.2.2,q.1=q.2)->∀(d:Ctx)p s(C:JJ->aa->Prop),d.code=j->d.handled=none->bL st s->ke st r.2.1 s (C r.1)->wpCode (au Vl c) d C p s):=by
 unfold ra at h;cases j with
 |builtin id L=>
   dsimp only at h;by_cases l:(id=="list.__iadd__")=true
   · rw[if_pos l,beq_iff_eq]at*;subst l;refine ak (dg.mp h) λ e y h=>?_;obtain⟨a,b⟩:=e;refine ak (dg.mp h) λ e m h=>?_;obtain⟨f,E⟩:=e;refine ak (dg.mp h) λ e A h=>?_;obtain⟨i,O⟩:=e;refine ak (dg.mp h) λ J z h=>?_;refine a4 (Ek z) λ c2 G D=>?_;obtain⟨N,x⟩:=G;by_cases k:q9 E=true
     · dsimp only at h;cases aO (if_pos k) h;obtain rfl:=Ej k;obtain rfl:=El y;refine⟨⟨[(a,f),(b,i)],rfl⟩,λ n d p s C B M R P=>?_⟩;obtain rfl:a=f:=n (a,f) (.head _);obtain rfl:b=i:=n (b,i) (.tail _ (.head _));have X:JO (au Vl c) {handled:=d.handled,depth:=Tn d.below,frames:=none,guards:=none,units:=unitsOf d.below} (.builtin "list.__iadd__" ⟨[.ref a,.ref b],[]⟩) C s:=by
         refine hN Pj ?_;rw[fH LU _];refine wpAny_extend_seq (hsz:=an D (by decide)) a b _ 0 (.inl rfl) (R.objs _ _ _ m) (R.objs _ _ _ A) c2 x ?_;exact a4 (wg (g:=wx (·++J)) R m rfl) λ v t u=>P _ v t u
       exact X d p B ⟨rfl,aB _,λ _ h=>(by cases h),λ _ h=>(by cases h),aB _⟩
     · dsimp only at h;exact bN (if_neg k) h
   ·exact bN (if_neg l) h|_=>exact aQ h
theorem wi{D:eH}{w:ar}{run:Sem Jl->fo Jl}(S:wh D w Jl run):∀(m:Nat)(c:Nx)st E A r,rb run (Lf Kl) m c st E A=some r->(∃new,r.2.2.2=new++A)/\((∀q∈r.2.2.2,q.1=q.2)->∀(a:Ctx)p s(C:JJ->aa->Prop),a.code=c->a.handled=none->bL st s->ke st r.2.1 s (C r.1)->wpCode (au D w) a C p s)
 |0,_,_,_,_,_,h=>aQ h|m+1,c,st,E,A,r,h=>by
   refine aH (Option.or_eq_some_iff.mp h) (λ h=>?_) λ J=>?_;·exact Em h
   · obtain⟨_,h⟩:=J;refine ak (dg.mp h) λ u G h=>?_;obtain⟨o,O,N,M⟩:=u;refine am (S _ _ _ _ _ _ _ _ G) λ u b=>?_;obtain⟨z,y⟩:=u;cases o with
     |more=>exact aQ h|err e=>
       obtain rfl:=ax h;exact⟨⟨z,y⟩,λ i a p s C n g R P=>(Na _ _ _ _ _).mpr (n▸b i a p s _ _ g R λ v l j k p=>P v l j k)⟩|val f=>cases f with
       |done f=>
         obtain rfl:=ax h;exact⟨⟨z,y⟩,λ i a p s C n g R P=>(Na _ _ _ _ _).mpr (n▸b i a p s _ _ g R λ v l j k p=>P v l j k)⟩|again x=>
         unfold we at h;dsimp only at h;by_cases t:x.quiet=true
         · rw[if_pos t]at h;refine aj λ L=>?_;refine am (wi S m x _ _ _ _ h) λ u d=>?_;obtain⟨H,B⟩:=u;refine L ?_;exact⟨⟨H++z,by simp only[B,y,kn]⟩,λ i a p s C n g R P=>(Na _ _ _ _ _).mpr (n▸b (λ q t=>i q (by refine B.symm▸?_;exact jq _ t)) a p s _ _ g R λ v l j k p=>⟨t,d i (a.goto x) p v C rfl g l (P.step R j k)⟩)⟩
         ·exact bN (if_neg t) h
def En{a c d e:Type}{x:a}{y:c}{z:d}{u:e}{o:Option (a×c×d×e)}{i:a}{j:c}{k:d}{g:e}(f:M=true)(h:(bif M then some (x,y,z,u)else o)=some (i,j,k,g)):i=x/\j=y/\k=z/\g=u:=by subst f;cases h;exact iD rfl rfl rfl rfl
def Eo{x y:Vd}(f:M=ap){r:Vd}(h:(bif M then x else y)=r):y=r:=by subst f;exact h
theorem n6(z:eH)(w:ar):∀(n:Nat)(A:Type),wh z w A (el (Lf Kl) ⟨z,w.params⟩ n)
 |0,_,_,_,_,_,_,_,_,_,VL=>by cases VL;exact⟨⟨[],rfl⟩,λ _ VN p VM VP VO _ R P=>P VM R (.refl _ _) (λ i c o e=>.inl ⟨o,e⟩) p⟩|n+1,A,t,st,Y,VY,VX,V1,V0,VZ,VL=>by
   have VT:=n6 z w n A;cases t with
   |pure f=>cases VL;exact⟨⟨[],rfl⟩,λ _ VN p VM VP VO _ R P=>P VM R (.refl _ _) (λ i c o e=>.inl ⟨o,e⟩) p⟩|raise e=>cases VL;exact⟨⟨[],rfl⟩,λ _ VN p VM VP VO _ R P=>P VM R (.refl _ _) (λ i c o e=>.inl ⟨o,e⟩) p⟩|rule V2 k=>refine am (VT _ _ _ _ _ _ _ _ VL) λ a VS=>?_;exact⟨a,λ VQ VN p VM VP VO VR R P=>VS VQ VN p VM VP VO VR R P⟩|«at»q k=>refine am (VT _ _ _ _ _ _ _ _ VL) λ a VS=>?_;exact⟨a,λ VQ VN p VM VP VO VR R P=>VS VQ VN q VM VP VO VR R P⟩|point l k=>refine am (VT _ _ _ _ _ _ _ _ VL) λ a VS=>?_;exact⟨a,λ VQ VN p VM VP VO VR R P=>VS VQ VN p VM VP VO VR R P⟩|load a q k=>
     refine gy (M:=QR (Y%128) 127) (λ f=>?_) λ f=>?_;rotate_left
     · refine iB (En f VL) λ j O T U=>?_;obtain rfl:=j;obtain rfl:=O;obtain rfl:=T;obtain rfl:=U;exact⟨⟨[],rfl⟩,λ _ VN p VM VP VO _ R P=>P VM R (.refl _ _) (λ i c o e=>.inl ⟨o,e⟩) p⟩
     refine aj λ m=>?_;refine ak (dg.mp (Eo f VL)) λ j VU VL=>?_;obtain⟨VS,o⟩:=j;refine am (VT _ _ _ _ _ _ _ _ VL) λ j d=>?_;obtain⟨new,e⟩:=j;refine m ?_;refine⟨⟨new++[(a,VS)],by simp only[e,kn];rfl⟩,λ VQ VN p VM VP VO VR R P=>⟨o,?_,d VQ VN p VM VP VO VR R P⟩⟩;have :a=VS:=VQ (a,VS) (by rw[e];exact jq _ (.head _));refine this.symm▸?_;exact R.objs _ _ _ VU|update a q g k=>
     refine aj λ m=>?_;refine ak (dg.mp VL) λ j VU VL=>?_;obtain⟨VS,o⟩:=j;refine ak (dg.mp VL) λ N VW VL=>?_;refine am (VT _ _ _ _ _ _ _ _ VL) λ j d=>?_;obtain⟨new,e⟩:=j;refine m ?_;refine⟨⟨new++[(a,VS)],by simp only[e,kn];rfl⟩,λ VQ VN p VM VP VO VR R P=>?_⟩;have :a=VS:=VQ (a,VS) (by rw[e];exact jq _ (.head _));obtain rfl:=this.symm;refine a4 (wg R VU VW) λ u v y=>?_;exact⟨by rw[R.objs _ _ _ VU];rfl,d VQ VN p _ VP VO VR u (P.step R v y)⟩|alloc o k=>
     refine aj λ m=>ak (dg.mp VL) λ N VW VL=>am (VT _ _ _ _ _ _ _ _ VL) λ a d=>m ⟨a,λ VQ VN p VM VP VO VR R P=>(aj λ m=>(a4 (Eh R VW) λ u v y=>m ?_))⟩;show NS _ _ (k VM.heap.objs.size) _ _ _ _;exact(R.size).symm▸(d VQ VN p _ VP VO VR u (P.step R v y))|fresh k=>
     refine am (VT _ _ _ _ _ _ _ _ VL) λ a d=>⟨a,λ VQ VN p VM VP VO VR R P=>?_⟩;show NS _ _ (k VM.toks) _ _ _ _;refine(R.tk).symm▸?_;have u:bL ⟨st.objs,st.n,st.tk+1⟩ {VM with toks:=VM.toks+1}:=⟨R.objs,R.inj,R.size,congrArg (·+1) R.tk⟩;rw[show st.tk=VM.toks from R.tk.symm];rw[show st.tk=VM.toks from R.tk.symm]at d u;exact d VQ VN p _ VP VO VR u (P.step R ⟨rfl,λ _ _ _ e=>e,λ _ _ o e=>⟨o,e⟩,aB _⟩ λ i c o e=>.inl ⟨o,e⟩)|ask k=>refine am (VT _ _ _ _ _ _ _ _ VL) λ a VS=>?_;exact⟨a,λ VQ VN p VM VP VO VR R P=>VS VQ VN p VM VP VO VR R P⟩|handled own k=>
       refine am (gc VL) λ VU VL=>?_;obtain rfl:own=ap:=by cases own;rfl;cases VU
       refine am (VT _ _ _ _ _ _ _ _ VL) λ a VS=>⟨a,λ VQ VN p VM VP VO VR R P=>?_⟩;show NS _ _ (k VN.handled) _ _ _ _;exact VR.symm▸(VS VQ VN p VM VP VO VR R P)|call c D g l k=>
       refine aj λ m=>am (gc VL) λ G VL=>?_;obtain rfl:D=none:=PM.mp G;refine ak (dg.mp VL) λ r J VL=>?_;refine am (wi (n6 z w n Jl) 8 c _ _ _ _ J) λ j VS=>?_;obtain⟨L,C⟩:=j;refine am (VT _ _ _ _ _ _ _ _ VL) λ j d=>?_;obtain⟨M,B⟩:=j;refine m ?_;exact⟨⟨M++L,by simp only[B,C,kn]⟩,λ VQ VN p VM VP VO VR R P=>VS (λ q H=>VQ q (by rw[B];exact jq _ H)) (VN.enter c none p) p VM _ rfl VR R λ V u v y=>d VQ VN p V VP VO VR u (P.step R v y)⟩|unsupported|finish|register|fork|await|choose|os|loadIfAlive|newGen|genState|resume|«yield»|stack|thread=>exact aQ VL
def rc{a:cD}(c:a.map (·.1)=a.map (·.2)):∀q∈a,q.1=q.2:=λ q d=>by
 obtain⟨i,b,e⟩:=List.mem_iff_getElem.mp d;have :=congrArg (·[i]?) c;simp only[a',ay b,e,IF,Kd]at this;exact this
def Ep{t:Sem Vd}{f g:SD}{i:cD}{v:Vd}{Q:Vd->aa->Prop}(h:el (Lf Kl) ⟨Vl,c.params⟩ a t f b []=some (.val v,g,x,i))(u:i.map (·.1)=i.map (·.2))(r:o.handled=none)(R:bL f q)(m:∀d,bL g d->fp f g q d->fq f g q.heap.objs.size->Q v d):aA (au Vl c) o t Q y q:=λ B p z=>(n6 Vl c a Vd _ _ _ _ _ _ _ _ h).2 (rc u) B p q (λ v _ d=>Q v d) (λ e _ d=>y e d) (by simp only[z.1,r]) R λ d l j k _=>m d l j k
noncomputable def peekD(S:Setting)(d:List (ae×Obj))(t:Sem Vd):Nat->cD->Option (Vd×cD):=t.rec (motive:=λ _=>Nat->cD->Option (Vd×cD)) (λ a _ b=>some (a,b)) (λ _ _ _=>none) (λ _ _ _=>none) (λ _ _ _=>none) (λ _ _ r=>r ()) (λ _ _ r=>r ()) (λ a _ _ r c b=>(d[c%128]?).bind λ q=>r q.2 (c/128) ((a,q.1)::b)) (λ _ _ _ _ _ _ _=>none) (λ _ _ _ _ _=>none) (λ _ _ _ _ _=>none) (λ _ _ r=>r ()) (λ _ _ _ _ _=>none) (λ _ _ _ _=>none) (λ _ r=>r S) (λ _ _ _ _ _ _=>none) (λ _ _ _ _ _ _=>none) (λ _ _ _ _ _ _ _ _=>none) (λ _ _ _ _ _=>none) (λ _ _ _ _ _=>none) (λ _ _ _ _ _=>none) (λ _ _ _ _ _ _ _=>none) (λ _ _ _ _ _ _ _=>none) (λ _ _ _ _=>none) (λ _ _ _ _ _=>none) (λ _ _ _ _=>none) (λ _ _ _ _ _ _ _ _=>none)
def Er{M:LN}{u:List (ae×Obj)}:∀(t:Sem Vd)(m:Nat)(g j:cD)(r:Vd),peekD ⟨M.prog,M.w.params⟩ u t m g=some (r,j)->(∃new,j=new++g)/\((∀q∈j,q.1=q.2)->∀(c:Ctx)p s(Q:Vd->Pos->aa->Prop)E,(∀(i:Nat)(a:ae)(o:Obj),u[i]?=some (a,o)->s.heap.get? a=some o)->(∀p,Q r p s)->NS M c t Q E p s):=by
 intro t;induction t with
 |pure a=>intro m g j r h;cases h;exact⟨⟨[],rfl⟩,λ _ c p s Q E _ q=>q p⟩|rule _ k l=>intro m g j r h;refine am (l () _ _ _ _ h) λ a b=>?_;exact⟨a,λ f c p s Q E R q=>b f c p s Q E R q⟩|«at»_ k l=>intro m g j r h;refine am (l () _ _ _ _ h) λ a b=>?_;exact⟨a,λ f c p s Q E R q=>b f c _ s Q E R q⟩|point _ k l=>intro m g j r h;refine am (l () _ _ _ _ h) λ a b=>?_;exact⟨a,λ f c p s Q E R q=>b f c p s Q E R q⟩|ask k l=>intro m g j r h;refine am (l _ _ _ _ _ h) λ a b=>?_;exact⟨a,λ f c p s Q E R q=>b f c p s Q E R q⟩|load a _ k l=>
  intro m g j r h;refine aj λ w=>?_;refine ak (e6 h) λ n v h=>?_;obtain⟨b,o⟩:=n;refine am (l o _ _ _ _ h) λ n d=>?_;refine ai n λ new e=>?_;refine w ⟨⟨new++[(a,b)],e.trans (kn new [_] g).symm⟩,λ f c p s Q E R q=>⟨o,?_,d f c p s Q E R q⟩⟩;have :a=b:=f (a,b) (by rw[e];exact jq _ (.head _));refine this.symm▸?_;exact R _ _ _ v|_=>intro m g j r h;exact aQ h
def Looks.peekD{M:LN}{d:List (ae×Obj)}{t:Sem Vd}{c:cD}{r:Vd}(e:Mine.peekD ⟨M.prog,M.w.params⟩ d t a []=some (r,c))(f:c.map (·.1)=c.map (·.2))(R:∀(i:Nat)(b:ae)(o:Obj),d[i]?=some (b,o)->s.get? b=some o):Jz M s t r:=λ A Q E g k q j p l=>(Er t a [] c r e).2 (rc f) j p g _ _ (λ i b o x=>k _ _ (R i b o x)) λ _=>q
def Es{t k:Sem Vd}(n:Nat){f g:SD}{i:cD}{Q:Vd->aa->Prop}(h:el (Lf Kl) ⟨Vl,c.params⟩ n t f a []=some (.more k,g,b,i))(B:i.map (·.1)=i.map (·.2))(z:o.handled=none)(R:bL f q)(x:∀d,bL g d->fp f g q d->fq f g q.heap.objs.size->aA (au Vl c) o k Q y d):aA (au Vl c) o t Q y q:=λ l p j=>(n6 Vl c n Vd _ _ _ _ _ _ _ _ h).2 (rc B) l p q (λ v _ d=>Q v d) (λ e _ d=>y e d) (by simp only[j.1,z]) R λ d u m r p=>x d u m r l p j
end
noncomputable def dC(b:Nat->Nat->Bool)(n:Nat){c:Type}:KasT c->(c->Prop)->Prop
 |.ret a,Q=>Q a|.ask i j k,Q=>i<n/\j<n/\dC b n (k (b i j)) Q
theorem gn{d:Nat->Nat->Bool}{n:Nat}{e:Type}{Q c:e->Prop}(h:∀a,Q a->c a):∀{t:KasT e},dC d n t Q->dC d n t c
 |.ret _,q=>h _ q|.ask _ _ _,⟨a,b,q⟩=>⟨a,b,gn h q⟩
theorem kf{c:Nat->Nat->Bool}{n:Nat}{d e:Type}{f:d->KasT e}{Q:e->Prop}:∀{t:KasT d},dC c n t (λ a=>dC c n (f a) Q)->dC c n (t.bind f) Q
 |.ret _,q=>q|.ask _ _ _,⟨a,b,q⟩=>⟨a,b,kf q⟩
theorem wj{h:Nat->Nat->Bool}{n:Nat}{e:Nat->Nat->(Bool->aa->Prop)->aa->Prop}{I:aa->Prop}(g:∀i j,i<n->j<n->∀(C:Bool->aa->Prop)s,I s->(∀c,I c->C (h i j) c)->e i j C s){d:Type}{P:d->Prop}{Q:d->aa->Prop}(f:∀a s,P a->I s->Q a s):∀{t:KasT d}{s:aa},dC h n t P->I s->t.kasWp e Q s
 |.ret _,s,q,i=>f _ s q i|.ask _ _ _,s,⟨a,b,q⟩,i=>g _ _ a b _ s i λ c k=>wj g f q k
noncomputable abbrev gd(p:Array Nat)(i:Nat):Nat:=p.getD i 0
def lN{p:Array Nat}{q:Array Nat}(h:p[a]?=q[b]?):gd p a=gd q b:=by
 unfold gd;simp only[e0,e0,h]
def fU{p:Array Nat}(c:b<=p.size)(k:Nat):gd (PD p a b) k=if a<=k/\k<b then gd p (a+b-1-k)else gd p k:=by
 have e:=getElem?_mirror_all (i:=a) c k;by_cases h:a<=k/\k<b;·rw[if_pos h]at e⊢;exact lN e
 ·rw[if_neg h]at e⊢;exact lN e
def Et{p:Array Nat}(g:a<p.size)(f:b<=a)(i:Nat):gd (bubble p a b) i=if i=a-b then gd p a else if a-b<i/\i<=a then gd p (i-1)else gd p i:=by
 have e:=getElem?_bubble g b f i;by_cases h:i=a-b;·rw[if_pos h]at e⊢;exact lN e
 · rw[if_neg h]at e⊢;by_cases c:a-b<i/\i<=a;·rw[if_pos c]at e⊢;exact lN e
   ·rw[if_neg c]at e⊢;exact lN e
noncomputable abbrev d1(a:Nat->Nat)(i j:Nat):Bool:=bF (a i<a j)
def dD(c:Nat->Nat)(a b:Nat):Prop:=c a<c b\/(c a=c b/\a<b)
structure dp(n:Nat)(p:Array Nat)(k:Nat):Prop where
 size:p.size=n
 perm:p.toList.Perm (a1 n)tail:∀i,k<=i->i<n->gd p i=i
 head:∀i,i<k->gd p i<k
def dp.rev{p:Array Nat}(h:dp a p b)(f:b<=a):dp a (PD p x b) b:=by
 have d:b<=p.size:=h.size▸f;refine⟨by unfold PD;rw[mirror_size];exact h.size,((mirror_perm p x b _).toList).trans h.perm,λ j c e=>?_,λ j c=>?_⟩;·rw[fU d,if_neg (yE c)];exact h.tail j c e
 · rw[fU d];split;·rename_i q;exact h.head _ (oR q.1 q.2)
   ·exact h.head _ c
def dp.next{p:Array Nat}(h:dp a p b)(f:b<a):dp a p (b+1):=⟨h.size,h.perm,λ i c d=>h.tail i (gv c) d,λ i c=>by
  by_cases e:i=b;·simp only[e,h.tail b (aB _) f];exact Ia _
  ·have :=h.head i (jd c e);exact kJ this⟩
def Up(a:Nat->Nat)(p:Array Nat)(k:Nat):Prop:=∀VM VL,VM<VL->VL<k->dD a (gd p VM) (gd p VL)
def i2(a:Nat->Nat)(p:Array Nat)(k:Nat):Prop:=∀VM VL,VM<VL->VL<k->dD a (gd p VL) (gd p VM)
theorem rd{l:Nat->Nat}{n:Nat}{p:Array Nat}:∀(f k:Nat),1<=k->k+f<=n->dp n p k->Up l p k->dC (d1 l) n (kas_asc p f k) λ m=>k<=m/\m<=k+f/\dp n p m/\Up l p m/\(m<k+f->l (gd p m)<l (gd p (m-1)))
 |0,k,_,_,B,U=>⟨aB _,aB _,B,U,λ h=>absurd h (Iy _)⟩|f+1,k,s,t,B,U=>by
   have o:k<n:=jg t;have u:=B.tail k (aB _) o;refine b3 (kH u o) (j3 (B.head (k-1) (oO s)) o) ?_;show dC (d1 l) n (if bF (l (gd p k)<l (gd p (k-1)))=true then .ret k else kas_asc p f (k+1)) _;by_cases c:l (gd p k)<l (gd p (k-1))
   · rw[if_pos (decide_eq_true c)];exact g1 (aB _) (dG) B U (λ _=>c)
   · rw[if_neg (by simpa using c)];refine gn (λ m x=>by refine d6 x λ a b d e g=>?_;exact g1 (r9 a) (mx b) d e (λ h=>g (eO hE h))) (rd f (k+1) (bE) (hD t) (B.next o) λ i j r v=>?_);by_cases e:j=k
     · subst e;have le:l (gd p i)<=l (gd p (j-1)):=by
         by_cases q:i=j-1;·rw[q];exact aB _
         · refine aH (U i (j-1) (mv r q) (oO s)) (λ q=>?_) λ w=>?_;·exact bn q
           ·exact am w λ q _=>Jc q
       by_cases q:l (gd p i)<l (gd p j);·exact .inl q
       ·exact .inr ⟨yv c le q,eO u (B.head i r)⟩
     ·exact U i j r (jd v e)
structure Dn(a:Nat->Nat)(n:Nat)(p:Array Nat)(k q:Nat):Prop where
 base:dp n p k
 len:q+1<=k
 down:i2 a p (k-(q+1))over:∀VM VL,VM<k-(q+1)->k-(q+1)<=VL->VL<k->a (gd p VL)<a (gd p VM)last:∀VM VL,k-(q+1)<=VM->VM<VL->VL<k->a (gd p VM)=a (gd p VL)/\gd p VM<gd p VL
def Dn.turn{l:Nat->Nat}{p:Array Nat}(D:Dn l a p b x)(h:b<=a):dp a (PD p (b-(x+1)) b) b/\i2 l (PD p (b-(x+1)) b) b:=by
 have g:b<=p.size:=D.base.size▸h;have r:=D.len;refine⟨D.base.rev h,λ i j e c=>?_⟩;simp only[fU g,fU g];by_cases d:b-(x+1)<=i
 · rw[if_pos ⟨j4 d (j5 e),c⟩,if_pos ⟨d,j3 e c⟩];exact am (D.last (b-(x+1)+b-1-j) (b-(x+1)+b-1-i) (oS c) (yF e c) (oR d (j3 e c))) λ m o=>.inr ⟨m,o⟩
 · by_cases f:b-(x+1)<=j
   · rw[if_pos (yr f c),if_neg (oN d)];exact .inl (D.over i _ (j9 d) (oS c) (oR f c))
   · rw[if_neg (oN f),if_neg (oN d)];exact D.down i j e (j9 f)
def Dn.done{f:Nat->Nat}{p:Array Nat}(D:Dn f a p b 0):i2 f p b:=λ i j c d=>by
 by_cases e:j=b-1;·exact .inl (D.over i j (by have :=D.len;exact je e c) (j7 e) d)
 ·exact D.down i j c (mv d e)
def Eu{c:Nat->Nat}{p:Array Nat}(D:i2 c p a)(d:b<a):c (gd p (a-1))<=c (gd p b):=by
 by_cases e:b=a-1;·refine e.symm▸?_;exact aB _
 · refine aH (D b (a-1) (mv d e) (hH (gZ d) g0)) (λ q=>?_) λ f=>?_;·exact bn q
   ·exact am f λ q _=>Jc q
def Dn.start{d:Nat->Nat}{p:Array Nat}(B:dp a p b)(D:i2 d p b)(l:b<a)(m:1<=b)(h:d (gd p b)<d (gd p (b-1))):Dn d a p (b+1) 0:=by
 refine⟨B.next l,bE,λ i j f c=>D i j f (bA c (j6 rX)),λ i j e c g=>?_,λ i j e f c=>dR (c5 e f) (jn c)⟩;obtain rfl:j=b:=hA (dF g) c;exact aJ h (Eu D (bA e c))
theorem n7{g:Nat->Nat}{n:Nat}:∀(f k q:Nat)(p:Array Nat),k+f<=n->Dn g n p k q->dC (d1 g) n (QM f p k q) λ r=>Dn g n r.1 r.2.1 r.2.2/\r.2.1<=k+f
 |0,k,q,p,_,D=>⟨D,aB _⟩|f+1,k,q,p,t,D=>by
   have l:k<n:=jg t;have s:=D.len;have v:=D.base.tail k (aB _) l;have m:=D.base.head (k-1) (hH (yq s (aE true)) g0);refine b3 (kH v l) (j3 m l) ?_;show dC (d1 g) n (if bF (g (gd p k)<g (gd p (k-1)))=true then(if q>0 then QM f (PD p (k-(q+1)) k) (k+1) 0 else QM f p (k+1) 0)else .ask (gd p (k-1)) (gd p k) λ d=>if d=true then .ret (p,k,q)else QM f p (k+1) (q+1)) _;by_cases c:g (gd p k)<g (gd p (k-1))
   · rw[if_pos (decide_eq_true c)];by_cases u:q>0
     · rw[if_pos u];refine am (D.turn (j5 l)) λ A B=>?_;have o:k<=p.size:=D.base.size▸(j5 l);refine gn (λ r⟨a,b⟩=>⟨a,mx b⟩) (n7 f (k+1) 0 _ (hD t) (Dn.start A B l (hz (gZ m)) ?_));rw[fU o,fU o,if_neg sv,if_pos (yG s)];refine am (D.last (k-(q+1)+k-1-(k-1)) (k-1) (oS (hH (gZ m) g0)) (yH s u) (hH (gZ m) g0)) λ e _=>?_;exact eO e c
     · rw[if_neg u];obtain rfl:q=0:=sm u;exact gn (λ r⟨a,b⟩=>⟨a,mx b⟩) (n7 f (k+1) 0 _ (hD t) (Dn.start D.base D.done l (s) c))
   · rw[if_neg (by simpa using c)];refine b3 (j3 m l) (kH v l) ?_;show dC (d1 g) n (if bF (g (gd p (k-1))<g (gd p k))=true then .ret (p,k,q)else QM f p (k+1) (q+1)) _;by_cases d:g (gd p (k-1))<g (gd p k)
     · rw[if_pos (decide_eq_true d)];exact dv D (dG)
     · rw[if_neg (by simpa using d)];have eq:g (gd p (k-1))=g (gd p k):=gu (j8 c) d;have run:∀i,k-(q+1)<=i->i<k->g (gd p i)=g (gd p k)/\gd p i<gd p k:=λ i C y=>by
         have h:=D.base.head i y;by_cases e:i=k-1;·refine e.symm▸?_;exact dv eq (by rw[e]at h;exact eO v m)
         · refine am (D.last i (k-1) C (mv y e) (hH (gZ h) g0)) λ x _=>?_;exact dv (mn x (yw c d)) (eO v h)
       have w:k+1-(q+1+1)=k-(q+1):=rX;refine gn (λ r⟨a,b⟩=>⟨a,mx b⟩) (n7 f (k+1) (q+1) _ (hD t) ⟨D.base.next l,hz (dt s),by simp only[w];exact D.down,λ i j h o E=>?_,λ i j h z o=>?_⟩)
       · rw[w]at h o;by_cases e:j=k
         · subst e;have :=D.over i (j-1) h (dS (r0 s) ji) (hH (gZ m) g0);exact c5 (j8 d) this
         ·exact D.over i j h o (jd E e)
       · rw[w]at h;by_cases e:j=k;·obtain rfl:=e.symm;exact run i h z
         ·exact D.last i j h z (jd o e)
def wk{h:Nat->Nat}{p:Array Nat}(l:1<=b)(f:b<=a)(B:dp a p b)(D:i2 h p b):dC (d1 h) a (kas_tail3 b a p) λ r=>1<=r.1/\r.1<=a/\dp a r.2 r.1/\Up h r.2 r.1:=by
 have o:b<=p.size:=B.size▸f;refine kf (gn (λ m t=>by refine d6 t λ q s c d _=>?_;exact iD (j4 l q) (j4 s (j6 (fz f))) c d) (rd (a-b) b l (j6 (fz f)) (B.rev f) λ i j g e=>?_));rw[fU o,fU o,if_pos (sr g e),if_pos (ss e)];exact D _ _ (so g e) (sp g e)
def wl{e:Nat->Nat}{p:Array Nat}(l:1<=b)(d:b<a)(B:dp a p b)(D:i2 e p b)(h:e (gd p b)<e (gd p (b-1))):dC (d1 e) a (kas_descPart b a p) λ r=>1<=r.1/\r.1<=a/\dp a r.2 r.1/\Up e r.2 r.1:=by
 refine kf (gn (λ r o=>?_) (n7 (a-(b+1)) (b+1) 0 p (mw d) (Dn.start B D d l h)));obtain⟨c,f⟩:=o;obtain⟨s,m,q⟩:=r;dsimp only at c f⊢;have :=c.len;by_cases g:q>0
 · rw[if_pos g];obtain⟨i,j⟩:=c.turn (j4 f (mw d));exact wk (ya this) (j4 f (mw d)) i j
 · rw[if_neg g];obtain rfl:q=0:=sm g;exact wk (this) (j4 f (mw d)) c.base c.done
def Ew{g:Nat->Nat}{p:Array Nat}(o:1<=a)(B:dp a p 1):dC (d1 g) a (kas_count a p) λ r=>1<=r.1/\r.1<=a/\dp a r.2 r.1/\Up g r.2 r.1:=by
 refine kf (gn (λ m t=>?_) (rd (a-1) 1 (aB _) (j6 (fz o)) B λ i j f b=>hC (bA f (dF b))));refine aj λ u=>d6 t λ k q B U s=>u ?_;by_cases e:m=a
 · rw[if_pos (by simpa using e)];exact iD k (j6 e) B U
 · rw[if_neg (by simpa using e)];have d:m<a:=jc (j4 q (j6 (fz o))) e;have st:=s (bA d (j7 (fz o)));have b:m<=p.size:=B.size▸(j5 d);by_cases h:m>1
   · rw[if_pos h];refine b3 (by have :=B.head 0 (gZ h);show gd p 0<a;exact j3 this d) (by have :=B.head (m-1) (hH (gZ h) g0);show gd p (m-1)<a;exact j3 this d) ?_;show dC (d1 g) a (if bF (g (gd p 0)<g (gd p (m-1)))=true then .ret (m,p)else kas_descPart m a (PD p 0 m)) _;by_cases c:g (gd p 0)<g (gd p (m-1))
     · rw[if_pos (decide_eq_true c)];exact iD k (j5 d) B U
     · rw[if_neg (by simpa using c)];refine wl k d (B.rev (j5 d)) (λ i j f l=>?_) ?_
       · simp only[fU b,fU b,if_pos (ss l),if_pos (sr f l)];exact U _ _ (so f l) (sp f l)
       · rw[fU b,fU b,if_neg sv,if_pos ⟨dk _,oO (j5 h)⟩,show 0+m-1-(m-1)=0 from by rw[Im,Ng]];exact bA st (j8 c)
   · rw[if_neg h];exact wl k d B (λ i j f b=>hC (bA f (dF (bA b (j8 h))))) st
theorem rf{d:Nat->Nat}{n:Nat}{p:Array Nat}{k:Nat}(h:k<n)(B:dp n p k)(U:Up d p k):∀(f l r:Nat),l<=r->r<=k->r-l<=f->(∀i,i<l->d (gd p i)<=d (gd p k))->(∀i,r<=i->i<k->d (gd p k)<d (gd p i))->dC (d1 d) n (RK p k f l r) λ m=>m<=k/\(∀i,i<m->d (gd p i)<=d (gd p k))/\∀i,m<=i->i<k->d (gd p k)<d (gd p i)
 |0,l,r,o,g,s,a,b=>⟨j4 o g,a,λ i x y=>b i (yB o s x) y⟩|f+1,l,r,o,g,s,a,b=>by
   unfold RK;by_cases e:l>=r
   · rw[if_pos e];exact b3 (j4 o g) a (λ i x y=>b i (j4 e x) y)
   · rw[if_neg e];refine b3 (kH (B.tail k (aB _) h) h) (j3 (B.head ((l+r)/2) (kL g e)) h) ?_;show dC (d1 d) n (if bF (d (gd p k)<d (gd p ((l+r)/2)))=true then RK p k f l ((l+r)/2)else RK p k f ((l+r)/2+1) r) _;have le:∀i j,i<=j->j<k->d (gd p i)<=d (gd p j):=λ i j t u=>by
       by_cases q:i=j;·refine q.symm▸?_;exact aB _
       · refine aH (U i j (jc t q) u) (λ q=>?_) λ v=>?_;·exact bn q
         ·exact am v λ q _=>Jc q
     by_cases c:d (gd p k)<d (gd p ((l+r)/2))
     · rw[if_pos (decide_eq_true c)];refine rf h B U f l _ (oP e) (j5 (kL g e)) (yI s e) a λ i x y=>aJ c (le _ _ x y)
     · rw[if_neg (by simpa using c)];refine rf h B U f _ r (yu e) (g) (yJ s e) (λ i x=>?_) b;have :=le i ((l+r)/2) (dF x) (kL g e);exact j4 this (j8 c)
theorem wm{s:Nat->Nat}{n:Nat}:∀(f k:Nat)(p:Array Nat),k+f=n->dp n p k->Up s p k->dC (d1 s) n (kas_bin f p k) λ C=>dp n C n/\Up s C n
 | 0, k, p, h, B, U => by obtain rfl:k=n:=h;exact⟨B,U⟩|f+1,k,p,h,B,U=>by
   have z:k<n:=kK h;refine kf (gn (λ m G=>?_) (rf z B U k 0 k (dk _) (aB _) (gx) (λ i h=>hC h) λ i o y=>dR y o));refine aj λ H=>a4 G λ t a b=>H ?_;have u:=B.tail k (aB _) z;have g:=Et (p:=p) (b:=k-m) (B.size▸z) (ji);rw[show k-(k-m)=m from S2 t]at g;refine wm f (k+1) _ (mn hE h) ⟨by rw[bubble_size];exact B.size,((bubble_perm p k _).toList).trans B.perm,λ i o y=>?_,λ i o=>?_⟩ λ i j c r=>?_;·rw[g,if_neg (sw (c5 t o)),if_neg (λ q=>oE o q.2)];exact B.tail i (gv o) y
   · simp only[g];by_cases l:i=m;·rw[if_pos l,u];exact Ia _
     · rw[if_neg l];by_cases e:m<i/\i<=k;·rw[if_pos e];have :=B.head (i-1) (mr e.right e.left);exact kJ this
       ·rw[if_neg e];have :=B.head i (yK t o l e);exact kJ this
   · have J:=λ q=>B.head i q;have E:∀x,x<m->dD s (gd p x) (gd p k):=λ x A=>by
       have q:=a x A;by_cases D:s (gd p x)<s (gd p k);·exact .inl D
       ·exact .inr ⟨gu q D,eO u (B.head x (bA A t))⟩
     simp only[g i,g j];by_cases l:i=m
     · rw[if_pos l,if_neg (yL c l),if_pos ⟨l▸c,dF r⟩];exact .inl (b _ (yD c l) (oQ u r c))
     · rw[if_neg l];by_cases e:m<i
       · rw[if_pos ⟨e,dF (j3 c r)⟩,if_neg (sw (j3 e c)),if_pos ⟨j3 e c,dF r⟩];exact U _ _ (yt c e) (oQ u r c)
       · rw[if_neg (sn e)];by_cases v:j=m;·rw[if_pos v];exact E i (je v c)
         · rw[if_neg v];by_cases w:m<j;·rw[if_pos ⟨w,dF r⟩];exact U _ _ (bA (jc (j8 e) l) (jn w)) (oQ u r c)
           ·rw[if_neg (sn w)];exact U _ _ c (bA (jc (j8 w) v) t)
def Ey{c:Nat->Nat}(k:1<=a):dC (d1 c) a (kas_sort a) λ p=>p.size=a/\p.toList.Perm (a1 a)/\p.toList.Pairwise (dD c):=by
 have f:∀i,i<a->gd (Qz (a1 a)) i=i:=λ i h=>by simp[gd,Of,h]
 have fin:∀b,dp a b a/\Up c b a->b.size=a/\b.toList.Perm (a1 a)/\b.toList.Pairwise (dD c):=λ b d=>by
   refine am d λ B U=>b3 B.size B.perm (My.mpr λ i j o u t=>?_);have s:i<b.size:=by simpa using o
   have g:j<b.size:=by simpa using u
   have :=U i j t (B.size▸g);simpa[gd,Of,s,g]using this
 refine kf (gn (λ r d=>(aj λ v=>(iB d λ l m B U=>v ?_))) (Ew k ⟨by simp,by simp,λ i _ h=>f i h,λ i h=>by rw[f i (bA h k)];exact h⟩));by_cases e:r.1<a
 · rw[if_pos e,show max r.1 1=r.1 from Nat.max_eq_left l];exact gn fin (wm _ _ _ (fz (j5 e)) B U)
 · rw[if_neg e];obtain q:r.1=a:=gu m e;exact fin _ ⟨q▸B,q▸U⟩
noncomputable def n8:Pos:=jr ((cE iJ).e 0)
noncomputable def i3:aw:=(cE iJ).scope
def Ez:iJ=.ClassDef (nm "K") [.Name (nm "object") n8] [] kZ [] [] i3 none (nm "K") [nm "obj"] hS:=by lia
noncomputable def qK:Str:=ac "cmp_to_key.<locals>.K"
def EA(b:E.cells.lookup (nm "mycmp")=some h):NQ i3 E=jB [(nm "mycmp",h)]:=by
 have e:NQ i3 E=(QZ i3.names ([]:List (Str×ae)) (λ x a=>if(x.2==cM)=true then(do let h<-R2 E x.1;jB (I8 ((x.1,h)::a)))else jB (I8 a))>>=λ r=>jB r):=rfl;have n:i3.names=["__module__","__slots__","__init__","__lt__","__gt__","__eq__","__le__","__ge__","__hash__"].map (λ x=>(nm x,NameKind.local))++[(nm "mycmp",cM)]:=by lia
 have d:R2 E (nm "mycmp")=jB h:=by unfold R2;rw[b]
 simp only[e,n];simp only[uW,Ki,O',Ps,Kw,List.forIn_nil,d];rfl
structure bU(st a:SD)(s b:aa):Prop where
 rep:bL a b
 ig:fp st a s b
 rh:fq st a s.heap.objs.size
def bU.trans{c d e:SD}(R:bL c q)(a:bU c d q H)(b:bU d e H VJ):bU c e q VJ:=⟨b.rep,a.ig.trans R b.ig a.rh,fq.trans a.ig.size a.rh b.rh⟩
def bU.keep{d g:SD}(R:bL d q)(r:bU d g q H)(h:∀(i:Nat)a,d.objs[i]?=some a->g.objs[i]?=some a):KO q.heap H.heap:=λ b o e=>by
 by_cases f:∃(i:Nat)(c:Obj),d.objs[i]?=some (b,c)
 · refine aj λ j=>cP f λ i c a=>?_;have :=R.objs i b c a;cases aO e this;exact j (r.rep.objs i b o (h i _ a))
 ·exact r.ig.keep b o (λ i c a=>f ⟨i,c,a⟩) e
def kg{t:Sem Vd}(n:Nat)(f g:SD)(m p:Nat){e:cD}(v:Vd){Q:Vd->aa->Prop}(h:el cm ⟨P0,c.params⟩ n t f m []=some (.val v,g,p,e))(l:e.map (·.1)=e.map (·.2))(k:o.handled=none)(R:bL f q)(j:∀d,bU f g q d->Q v d):aA (au P0 c) o t Q y q:=Ep (by rw[<-jt];exact h) l k R λ d a b i=>j d ⟨a,b,i⟩
def wn{b:SD}(h:∀c∈b.objs,q.heap.get? c.1=some c.2)(f:(b.objs.map (·.1)).Nodup)(g:q.heap.objs.size=b.n)(k:q.toks=b.tk):bL b q:=by
 refine⟨λ i a o e=>h _ (ct e),λ i j a o l e d=>?_,g,k⟩;refine(Sh (by simp only[be];exact(a8.mp e).1) f).mp ?_;simp only[a',a',e,d];rfl
noncomputable def EB:Option (i1 Vd)->Bool
 |some (.val _,_)=>true|_=>ap
noncomputable def EC[Inhabited Vd]:Option (i1 Vd)->Vd
 |some (.val a,_)=>a|_=>b2
noncomputable def ED:Option (i1 Vd)->SD
 |some (_,st,_)=>st|_=>⟨[],0,0⟩
noncomputable def lO:Option (i1 Vd)->cD
 |some (_,_,_,a)=>a|_=>[]
def kh[Inhabited Vd]{t:Sem Vd}(n:Nat)(a:SD)(b:Nat){Q:Vd->aa->Prop}(h:EB (el cm ⟨P0,c.params⟩ n t a b [])=true)(f:(lO (el cm ⟨P0,c.params⟩ n t a b [])).map (·.1)=(lO (el cm ⟨P0,c.params⟩ n t a b [])).map (·.2))(i:o.handled=none)(R:bL a q)(d:∀g,bU a (ED (el cm ⟨P0,c.params⟩ n t a b [])) q g->Q (EC (el cm ⟨P0,c.params⟩ n t a b [])) g):aA (au P0 c) o t Q y q:=by
 generalize e:el cm ⟨P0,c.params⟩ n t a b []=r at h f d;obtain _|⟨v,k,j,l⟩:=r;·cases h
 cases v with
 |val v=>exact kg n a k b j v e f i R d|_=>cases h
noncomputable def wo:Obj:=⟨.type "builtin_function_or_method",none,.fields #[.builtin "type.__prepare__",.type "type"],#[]⟩
noncomputable def wq:Obj:=⟨.type "dict",none,.dict #[] 0,#[]⟩
noncomputable def ri:Obj:=⟨.type "tuple",none,.seq #[.type "object"] 0,#[]⟩
noncomputable def wr(a:Nat):Nat->Tok
 |0=>a|1=>a+1|2=>a+2|3=>a+4|_=>a+5
noncomputable def i4(P:a3)(a:Obj):List (ae×Obj):=[(0,MO P),(2,hP P),(3,js P),(4,PE P),(120,a),(124,mQ P)]
noncomputable def rj(P:a3)(b:List (ae×Obj))(n a:Nat):SD:=⟨b++[(n,ri),(n+1,wo),(n+2,wq)],n+3,a⟩
noncomputable def rk(P:a3)(n VL:Nat):SD:=⟨i4 P (Jy (k0 (n+5)))++[(n,ri),(n+1,wo),(n+2,wq),(n+3,⟨.type "tuple",none,.seq #[.str (nm "mycmp") (VL+3)] 0,#[]⟩),(n+4,Jy #[]),(n+5,pV (n+4) (n+3) (wr VL))],n+6,VL+6⟩
noncomputable def ws(b:ab)(a:ae):Obj:=⟨.type "frame",none,.plain,#[some b,some (.ref 3),some (.ref a),none,some (.str (ac "law_in0064_01") 766),none,some (.ref 0)]⟩
noncomputable def EE(P:a3)(n VM:Nat):SD:=⟨(rk P n VM).objs++[(n+6,ws (.ref (n+5)) (n+2))],n+7,VM+6⟩
def EF(P:a3)(n VN:Nat):el cm ⟨P0,P⟩ 60 (newBodyFrame (.ref (n+5)) FG (n+2) 0) (rk P n VN) 2 []=some (.val (n+6),EE P n VN,0,[(3,3)]):=by lia
noncomputable def ki(P:a3)(cK a f:ae)(t:Nat->Tok)(VM:Nat->ae):List (ae×Obj):=i4 P (Jy (k0 cK))++[(cK,pV a f t),(a,Jy (tz VM))]
noncomputable def EG(P:a3)(n a:Nat)(cK VN f:ae)(t:Nat->Tok)(VQ:Nat->ae):SD:=⟨(rj P (ki P cK VN f t VQ) n a).objs++[(n+3,ws (.ref cK) (n+2))],n+4,a⟩
def EH(P:a3)(n a:Nat)(cK VN f:ae)(t:Nat->Tok)(VQ:Nat->ae):el cm ⟨P0,P⟩ 60 (newBodyFrame (.ref cK) FG (n+2) 0) (rj P (ki P cK VN f t VQ) n a) 2 []=some (.val (n+3),EG P n a cK VN f t VQ,0,[(3,3)]):=by lia
def kj{t:Sem Vd}{f:List (ae×Obj)}(j:Nat)(v:Vd){b:cD}{Q:Vd->aa->Prop}(R:∀(i:Nat)(a:ae)(d:Obj),f[i]?=some (a,d)->q.heap.get? a=some d)(e:Mine.peekD ⟨P0,c.params⟩ f t j []=some (v,b))(g:b.map (·.1)=b.map (·.2))(h:Q v q):aA (au P0 c) o t Q y q:=(Looks.peekD (M:=au P0 c) e g R).here h
noncomputable def gP(D:ae):Obj:=⟨.type "super",none,.fields #[.ref D,.ref D,.ref D],#[]⟩
def sub_self{M:LN}{a:LO}{d:Option ae}{e:Array (Option ab)}(b:s.get? h=some ⟨U,d,.cls a,e⟩)(c:a.mro=.ref h::Ve):Jz M s (Km (.ref h) (.ref h)) true:=by
 intro A Q E f k q;unfold Km;refine al (al (al (MN (k _ _ b) (ah (ah ?_)))));rw[c];refine gz rfl (ah ?_);have :(hk h::Ve).contains (hk h)=true:=by simp
 rw[this];exact q
def EI{g:Array KI}{d:Qb}{f:J7}{p:LO}{V:Option ae}{Y:Array (Option ab)}(j:s.get? h=some ⟨U,V,.cls p,Y⟩)(N:p.mro=.ref h::Ve)(m:∀b,b.get? s.objs.size=some (gP h)->(KO s b)->b.objs.size=s.objs.size+1->Vh (.ref s.objs.size) ⟨b,g,d,a,f⟩):aA (au P0 c) o (I3 (.type "super") [.ref h,.ref h]) Vh y ⟨s,g,d,a,f⟩:=by
 refine ks_callType_codesW (Q₁:=λ u C=>u=.ref s.objs.size/\C=⟨s.push {cls:=.type "super",data:=.fields #[.none,.none,.none]},g,d,a,f⟩) F.ks_called_super (ks_wpAny_checkTypeCall_super j rfl) F.ks_entry_super_init (ks_code_super_new _ _ ⟨rfl,rfl⟩) λ u C T=>?_;obtain⟨rfl,rfl⟩:=T;have n:KO s (s.push {cls:=.type "super",data:=.fields #[.none,.none,.none]}):=λ i r e=>ao _ e;have q:(s.push {cls:=.type "super",data:=.fields #[.none,.none,.none]}).get? s.objs.size=some {cls:=.type "super",dict:=none,data:=.fields #[.none,.none,.none],slots:=#[]}:=Heap.get?_push_at rfl rfl;have O:=(sub_self (M:=au P0 c) j N).keeps n;refine b3 ⟨_,q,rfl⟩ (F.ks_initArgs_super _ _ _) ?_;have fin:∀{Vh:Jl->aa->Prop}{y:ab->aa->Prop},(∀b,b.get? s.objs.size=some (gP h)->(KO s b)->b.objs.size=s.objs.size+1->Vh (.done (.ret .none)) ⟨b,g,d,a,f⟩)->aA (au P0 c) o.in1.in1 (do UR (.ref s.objs.size) 0 (.ref h);UR (.ref s.objs.size) 1 (.ref h);UR (.ref s.objs.size) 2 (.ref h);ret .none) Vh y ⟨s.push {cls:=.type "super",data:=.fields #[.none,.none,.none]},g,d,a,f⟩:=λ{Vh y}m=>by
  refine al (Pa q (by decide) λ VL G v=>?_);refine al (Pa G (by simp) λ VM H x=>?_);refine al (Pa H (aB _) λ L J B=>?_);exact ah (m L (J) (λ i r e=>(B.2 i (br (az e))).trans ((x.2 i (br (az e))).trans ((v.2 i (br (az e))).trans (n i r e)))) (by rw[B.1,x.1,v.1,IG]))
 unfold Builtin.«super.__init__»noKeywords;repeat(first|(with_reducible refine ks_wpAny_isType_cls (n _ _ j) rfl ?_)|(with_reducible refine Looks.at O ?_)|(with_reducible refine fin ?_)|wp_step)
 intro b e k z;exact dv rfl (m b e k z)
noncomputable def wt(D:ae):Obj:=⟨.type "builtin_function_or_method",none,.fields #[.builtin "object.__init_subclass__",.ref D],#[]⟩
def EJ{g:Array KI}{d:Qb}{m:J7}{i:LO}{L:Option ae}{N:Array (Option ab)}{e:Jl->aa->Prop}(l:s.get? h=some (gP Q))(z:s.get? Q=some ⟨U,L,.cls i,N⟩)(G:i.mro=[.ref Q,.type "object"])(H:Jz (au P0 c) s (PU (.ref Q)) none){P:aa->Prop}(B:∀(e:ab->aa->Prop)y,(∀f,P f->e (.ref Vq) f)->aA (au P0 c) o (I3 (.builtin "classmethod_descriptor.__get__") [.builtin "object.__init_subclass__",.none,.ref Q]) e y ⟨s,g,d,b,m⟩)(J:∀f,P f->e (.done (.ret (.ref Vq))) f):aA (au P0 c) o (Builtin.«super.__getattribute__» ⟨[.ref h,.str (ac "__init_subclass__") Vv],[]⟩) e y ⟨s,g,d,b,m⟩:=by
 have x:Jz (au P0 c) s (UY (.ref Q)) [.ref Q,.type "object"]:=by
  intro o e y M k q;refine al (al (MN (k _ _ z) (ah (ah ?_))));show e i.mro M;rw[G];exact q
 have C:(([hk Q,.type "object"]:List ab).dropWhile (· !=.ref Q)).drop 1=[.type "object"]:=by simp
 have j:(gP Q).data=.fields #[.ref Q,.ref Q,.ref Q]:=rfl;have n:(#[.ref Q,.ref Q,.ref Q]:Array ab)[0]?=some (.ref Q):=rfl;have u:(#[.ref Q,.ref Q,.ref Q]:Array ab)[1]?=some (.ref Q):=rfl;have v:(#[.ref Q,.ref Q,.ref Q]:Array ab)[2]?=some (.ref Q):=rfl;unfold Builtin.«super.__getattribute__»;repeat(first
  |(with_reducible refine Jm l j n ?_)|(with_reducible refine Jm l j u ?_)|(with_reducible refine Jm l j v ?_)|(with_reducible refine ks_wpAny_notOpaque H ?_)|(with_reducible refine Looks.at x ?_;rw[C])|wp_step|dsimp only)
 refine cx (a:=some (.builtin "classmethod_descriptor.__get__")) (by lia) ?_;rw[show(hk Q==hk Q)=true from by simp];exact al (aK (B _ _ λ f p=>al (ah (ah (ah (ah (J f p)))))))
def EK{g:Array KI}{d:Qb}{e:J7}{i:LO}{C:Option ae}{G:Array (Option ab)}(k:s.get? h=some (gP Q))(l:s.get? Q=some ⟨U,C,.cls i,G⟩)(n:i.mro=[.ref Q,.type "object"])(u:Jz (au P0 c) s (PU (.ref Q)) none){P:aa->Prop}(m:∀(f:aq)(Vh:ab->aa->Prop)y,f.handled=o.handled->(∀b,P b->Vh (.ref Vq) b)->aA (au P0 c) f (I3 (.builtin "classmethod_descriptor.__get__") [.builtin "object.__init_subclass__",.none,.ref Q]) Vh y ⟨s,g,d,a+1,e⟩)(x:∀b,P b->Vh (.ref Vq) b):aA (au P0 c) o (Qw (.ref h) (ac "__init_subclass__")) Vh y ⟨s,g,d,a,e⟩:=by
 have j:∀H,(⟨s,g,d,H,e⟩:aa).TypeIs (.ref h) "super":=λ _=>⟨_,k,rfl⟩;unfold Qw getAttrBy;refine al (wpAny_mkText (aK (al (LZ (j _) (al (cx OW.lookup ?_))))));show aA _ _ (Uw (.ref h) (.str (ac "__init_subclass__") a) (.type "super") (.builtin "super.__getattribute__") true ap) _ _ _;unfold Uw hookBefore callGetattribute boundAndCalled;refine al (cx (show(if onTheHeap (.type "super")then Tm (.type "super") "__getattr__"else jB none)=jB none from rfl) (al (Mh (aK ?_))));show aA _ _ (bindSpecial (.builtin "super.__getattribute__") (.ref h)>>=_) _ _ _;refine al (cx (OW.bind _) ?_);refine aG (Q:=λ v b=>v=.ref Vq/\P b) (E:=λ _ _=>False) (IQ OW (j _) F.ks_entry_super_ga (EJ k l n u (λ Vh y q=>m _ Vh y rfl q) λ b p=>⟨_,rfl,rfl,p⟩) (F.ks_gaArgs_super _ _)) (λ v b B=>?_) λ _ _ z=>z.elim;refine am B ?_;rintro rfl p;exact ah (x b p)
def EL{b:SD}(R:bL b q)(e:H.heap.get? b.n=some O)(A:KO q.heap H.heap)(B:H.heap.objs.size=b.n+1)(C:H.toks=a):bL ⟨b.objs++[(b.n,O)],b.n+1,a⟩ H:=by
 have n:∀(j:Nat)(c:ae)(x:Obj),b.objs[j]?=some (c,x)->c≠b.n:=λ j c x e d=>by
   have :=az (R.objs j c x e);rw[R.size,d]at this;exact Iy _ this
 have h:∀(j:Nat)(c:ae)(x:Obj),(b.objs++[(b.n,O)])[j]?=some (c,x)->b.objs[j]?=some (c,x)\/(j=b.objs.length/\c=b.n/\x=O):=λ j c x e=>by
   rw[Rf]at e;split at e;·exact .inl e
   · rename_i z;have m:j-b.objs.length=0:=by
       have :=(a8.mp e).1;simp only[Ky]at this;exact hA (dF this) bE
     rw[m]at e;cases e;exact .inr ⟨gu (iu m) z,rfl,rfl⟩
 refine⟨λ i f x d=>?_,λ i j f x y d p=>?_,B,C⟩
 · rcases h i f x d with d|⟨_,rfl,rfl⟩;·exact A _ _ (R.objs i f x d)
   ·exact e
 · refine aH (h i f x d) (λ r=>?_) λ g=>?_
   · refine aH (h j f y p) (λ l=>?_) λ g=>?_;·exact R.inj _ _ _ _ _ r l
     ·exact a4 g λ _ w _=>(n _ _ _ r w).elim
   · refine a4 g λ t u _=>aH (h j f y p) (λ l=>?_) λ g=>?_;·exact(n _ _ _ l u).elim
     · refine a4 g λ v _ _=>?_;rw[t,v]
def EM{d:SD}(R:bL d q)(e:H.heap.get? d.n=some O)(h:KO q.heap H.heap)(l:H.heap.objs.size=d.n+1)(n:H.toks=a)(m:H={q with heap:=H.heap,toks:=H.toks}):bU d ⟨d.objs++[(d.n,O)],d.n+1,a⟩ q H:=by
 refine⟨EL R e h l n,⟨m,λ b O _ e=>h b O e,λ i p x e=>⟨x,?_⟩,by rw[l,R.size];exact I7 _⟩,λ i c x j=>?_⟩
 · show(d.objs++[(d.n,O)])[i]?=_;rw[GZ (a8.mp e).1];exact e
 · by_cases g:i<d.objs.length
   · have f:(d.objs++[(d.n,O)])[i]?=some (c,x):=j;rw[GZ g]at f;exact .inl ⟨x,f⟩
   · have f:(d.objs++[(d.n,O)])[i]?=some (c,x):=j;rw[Ja (b'.mp g)]at f;have :=(a8.mp f).1;simp only[Ky]at this;rw[show i-d.objs.length=0 by exact hA (dF this) bE]at f;cases f;exact .inr (Jc R.size)
noncomputable def lP(P:a3)(t:Nat->Tok)(a b:ae)(f:Nat->ae):Array OM:=#[⟨mM P (ac "__module__"),sN "__module__" (t 0),sN "cpy313.functools" (t 12)⟩,⟨mM P (ac "__qualname__"),sN "__qualname__" (t 1),.str qK (t 13)⟩,⟨mM P (ac "__firstlineno__"),sN "__firstlineno__" (t 2),.int 78 (t 14)⟩,⟨mM P (ac "__slots__"),sN "__slots__" (t 3),.ref a⟩,⟨mM P (ac "__init__"),sN "__init__" (t 4),.ref (f 0)⟩,⟨mM P (ac "__lt__"),sN "__lt__" (t 5),.ref (f 1)⟩,⟨mM P (ac "__gt__"),sN "__gt__" (t 6),.ref (f 2)⟩,⟨mM P (ac "__eq__"),sN "__eq__" (t 7),.ref (f 3)⟩,⟨mM P (ac "__le__"),sN "__le__" (t 8),.ref (f 4)⟩,⟨mM P (ac "__ge__"),sN "__ge__" (t 9),.ref (f 5)⟩,⟨mM P (ac "__hash__"),sN "__hash__" (t 10),.none⟩,⟨mM P (ac "__static_attributes__"),sN "__static_attributes__" (t 11),.ref b⟩]
noncomputable def EN(P:a3)(t:Nat->Tok)(SL ST:ae)(f:Nat->ae):Obj:=⟨.type "dict",none,.dict (lP P t SL ST f) 12,#[]⟩
noncomputable def EO(u:Tok):Obj:=⟨.type "list",none,.seq #[sN "obj" u] 0,#[]⟩
noncomputable def EP(u:Tok):Obj:=⟨.type "tuple",none,.seq #[sN "obj" u] 0,#[]⟩
noncomputable def fV(a:Iv):Obj:=⟨.type "function",none,.func a,#[]⟩
noncomputable def fW(P:a3)(t:Nat->Tok)(T c a b:ae)(f:Nat->ae)(fd:Nat->Iv)(n d:Nat):SD:=⟨[(T,ri),(c,EN P t a b f),(a,EO (t 15)),(b,EP (t 16)),(2,hP P),(f 0,fV (fd 0)),(f 1,fV (fd 1)),(f 2,fV (fd 2)),(f 3,fV (fd 3)),(f 4,fV (fd 4)),(f 5,fV (fd 5))],n,d⟩
noncomputable def wu(P:a3)(t:Nat->Tok)(T b c d:ae)(f:Nat->ae)(e:Nat->Iv)(m a:Nat):SD:=⟨(fW P t T b c d f e (m+314) a).objs++[(m+314,⟨.type "list",none,.seq #[sN "obj" (t 15)] 1,#[]⟩)],m+315,a⟩
noncomputable def H7(P:a3)(t:Nat->Tok)(T VS SL ST:ae)(f:Nat->ae)(fd:Nat->Iv)(m VR:Nat):SD:=⟨(wu P t T VS SL ST f fd m VR).objs++[(m+315,⟨.type "dict",none,.dict (lP P t SL ST f) 0,#[]⟩)],m+316,VR⟩
noncomputable def rl(d:LO->LO)(b:Array (Option ab))(a:ae):Obj:=⟨.type "type",none,.cls (d {name:=nm "K",bases:=[.type "object"],mro:=[],ns:=a,qualname:=qK}),b⟩
noncomputable def wv(P:a3)(t:Nat->Tok)(T VM SL ST:ae)(f:Nat->ae)(fd:Nat->Iv)(m VU:Nat)(b:Array OM)(a:Nat)(c:Obj)(d:List (ae×Obj))(n e:Nat):SD:=⟨(wu P t T VM SL ST f fd m VU).objs++[(m+315,⟨.type "dict",none,.dict b a,#[]⟩),(m+316,c)]++d,n,e⟩
noncomputable def ww(P:a3)(t:Nat->Tok)(SL ST:ae)(f:Nat->ae):Array OM:=(lP P t SL ST f).eraseIdxIfInBounds 1
noncomputable def kk(C:ae)(a:Tok):Obj:=⟨.type "member_descriptor",none,.fields #[sN "obj" a,.ref C,.builtin "proto.slot",.builtin "proto.slot#set",.int 0 0],#[]⟩
noncomputable def ih(P:a3)(t:Nat->Tok)(SL ST:ae)(f:Nat->ae)(m a:Nat):Array OM:=((ww P t SL ST f).push ⟨mM P (ac "obj"),sN "obj" (a+1),.ref (m+317)⟩).push ⟨mM P (ac "__doc__"),sN "__doc__" (a+2),.none⟩
noncomputable def n9(t:Nat->Tok)(T C a:ae):Obj:=rl (λ c=>{c with mro:=[.ref C,.type "object"],hasDel:=ap,hasDict:=ap,slotNames:=[nm "obj"]}) #[some (.ref T),none,some (.str (nm "K") (t 17)),some (.str qK (t 13)),some (.builtin "object.__new__"),some (.bool ap)] a
noncomputable def i5(P:a3)(t:Nat->Tok)(T a SL ST:ae)(f:Nat->ae)(b:Nat->Iv)(m VM:Nat):SD:=⟨(wv P t T a SL ST f b m VM (ih P t SL ST f m VM) 3 (n9 t T (m+316) (m+315)) [(m+317,kk (m+316) VM)] (m+318) (VM+3)).objs++[(m+318,gP (m+316)),(m+319,wt (m+316))],m+320,VM+4⟩
section
set_option genInjectivity false
structure Kz where
 t:Nat->Tok
 T:ae
 N:Nat
 L:ae
 S:ae
 f:Nat->ae
 m:Nat
 k:Nat
end
def Ph(_:Sem Vd):Type:=Unit
noncomputable def wy(P:a3)(z:Kz):Sem Jl:=let_mvar%?f1:=_;let_mvar%?a:=(id:Ph (Builtin.«type.__new__» ⟨[.type "type",.str (nm "K") (z.t 17),.ref z.T,.ref (z.N+314)],[]⟩)->Ph (_>>=?f1));let_mvar%?f2:=_;let_mvar%?l:=(id:Ph (?f1 (some (nm "K")))->Ph (_>>=?f2));let_mvar%?f3:=_;let_mvar%?u:=(id:Ph (?f2 (true))->Ph (_>>=?f3));let_mvar%?f4:=_;let_mvar%?v:=(id:Ph (?f3 (true))->Ph (_>>=?f4));let_mvar%?f5:=_;let_mvar%?w:=(id:Ph (?f4 (some #[Ix "object"]))->Ph (_>>=?f5));let_mvar%?f6:=_;let_mvar%?x:=(id:Ph (?f5 (MY))->Ph (_>>=?f6));let_mvar%?f7:=_;let_mvar%?y:=(id:Ph (?f6 (Ix "type"))->Ph (_>>=?f7));let_mvar%?f8:=_;let_mvar%?A:=(id:Ph (?f7 (()))->Ph (_>>=?f8));let_mvar%?f9:=_;let_mvar%?B:=(id:Ph (?f8 (Ix "object"))->Ph (@ite _ _ _ _ (_>>=?f9)));let_mvar%?f10:=_;let_mvar%?b:=(id:Ph (?f9 (lP P z.t z.L z.S z.f))->Ph (_>>=?f10));let_mvar%?f11:=_;let_mvar%?c:=(id:Ph (?f10 (some (NY "dict.__iter__")))->Ph (_>>=?f11));let_mvar%?f12:=_;let_mvar%?d:=(id:Ph (?f11 ((lP P z.t z.L z.S z.f,[])))->Ph (_>>=?f12));let_mvar%?f13:=_;let_mvar%?e:=(id:Ph (?f12 (({names:=[nm "obj"],dict:=ap,weak:=ap,inherited:=[]}:Ui)))->Ph (_>>=?f13));let_mvar%?f14:=_;let_mvar%?q14:=_;let_mvar%?C:=(id:Ph (?f13 (hk (z.m+315)))->Ph (@ite _ _ _ _ ?q14));let_mvar%?f:=(id:Ph (?q14)->Ph (_>>=?f14));let_mvar%?f15:=_;let_mvar%?q15:=_;let_mvar%?D:=(id:Ph (?f14 (()))->Ph (@ite _ _ _ _ ?q15));let_mvar%?g:=(id:Ph (?q15)->Ph (_>>=?f15));let_mvar%?f16:=_;let_mvar%?h:=(id:Ph (?f15 (some (I4 qK (z.t 13))))->Ph (_>>=?f16));let_mvar%?f17:=_;let_mvar%?i:=(id:Ph (?f16 (some (I4 qK (z.t 13))))->Ph (_>>=?f17));let_mvar%?f18:=_;let_mvar%?j:=(id:Ph (?f17 (some qK))->Ph (_>>=?f18));let_mvar%?f19:=_;let_mvar%?k:=(id:Ph (?f18 (qK))->Ph (_>>=?f19));let_mvar%?f20:=_;let_mvar%?m:=(id:Ph (?f19 (none))->Ph (_>>=?f20));let_mvar%?f21:=_;let_mvar%?n:=(id:Ph (?f20 (z.m+316))->Ph (_>>=?f21));let_mvar%?f22:=_;let_mvar%?o:=(id:Ph (?f21 (()))->Ph (_>>=?f22));let_mvar%?f23:=_;let_mvar%?p:=(id:Ph (?f22 (()))->Ph (_>>=?f23));let_mvar%?f24:=_;let_mvar%?q:=(id:Ph (?f23 (()))->Ph (_>>=?f24));let_mvar%?f25:=_;let_mvar%?r:=(id:Ph (?f24 (true))->Ph (_>>=?f25));let_mvar%?f26:=_;let_mvar%?s:=(id:Ph (?f25 (none))->Ph (_>>=?f26));let_mvar%?f27:=_;let_mvar%?t:=(id:Ph (?f26 (MY))->Ph (_>>=?f27));?f27 (none)
noncomputable def EQ(P:a3)(VL:Kz):Sem Jl:=let_mvar%?f28:=_;let_mvar%?a:=(id:Ph (wy P VL)->Ph (_>>=?f28));let_mvar%?f29:=_;let_mvar%?b:=(id:Ph (?f28 (none))->Ph (_>>=?f29));let_mvar%?f30:=_;let_mvar%?c:=(id:Ph (?f29 (none))->Ph (_>>=?f30));let_mvar%?f31:=_;let_mvar%?d:=(id:Ph (?f30 ([Ix "object"]))->Ph (_>>=?f31));let_mvar%?f32:=_;let_mvar%?e:=(id:Ph (?f31 ([hk (VL.m+316),Ix "object"]))->Ph (_>>=?f32));let_mvar%?f33:=_;let_mvar%?f:=(id:Ph (?f32 (ap))->Ph (_>>=?f33));let_mvar%?f34:=_;let_mvar%?g:=(id:Ph (?f33 (()))->Ph (_>>=?f34));let_mvar%?f35:=_;let_mvar%?h:=(id:Ph (?f34 (some "object.__new__"))->Ph (_>>=?f35));let_mvar%?f36:=_;let_mvar%?i:=(id:Ph (?f35 (()))->Ph (_>>=?f36));let_mvar%?f37:=_;let_mvar%?j:=(id:Ph (?f36 (()))->Ph (_>>=?f37));let_mvar%?f38:=_;let_mvar%?k:=(id:Ph (?f37 (()))->Ph (_>>=?f38));let_mvar%?f39:=_;let_mvar%?l:=(id:Ph (?f38 (ap))->Ph (_>>=?f39));let_mvar%?f40:=_;let_mvar%?m:=(id:Ph (?f39 (()))->Ph (_>>=?f40));let_mvar%?f41:=_;let_mvar%?n:=(id:Ph (?f40 (none))->Ph (_>>=?f41));let_mvar%?f42:=_;let_mvar%?o:=(id:Ph (?f41 (()))->Ph (_>>=?f42));let_mvar%?f43:=_;let_mvar%?p:=(id:Ph (?f42 (some (hk (VL.f 3))))->Ph (_>>=?f43));let_mvar%?f44:=_;let_mvar%?q:=(id:Ph (?f43 (some I9))->Ph (_>>=?f44));?f44 (MY)
def n'{t:Sem Vd}(n:Nat)(d g:SD)(f:Nat)(i:Sem Vd){Q:Vd->aa->Prop}(h:el cm ⟨P0,c.params⟩ n t d f []=some (.more i,g,127,lO (el cm ⟨P0,c.params⟩ n t d f [])))(m:(lO (el cm ⟨P0,c.params⟩ n t d f [])).map (·.1)=(lO (el cm ⟨P0,c.params⟩ n t d f [])).map (·.2))(l:o.handled=none)(R:bL d q)(k:∀e,bU d g q e->aA (au P0 c) o i Q y e):aA (au P0 c) o t Q y q:=Es n (jt▸h) (jt▸m) l R λ e a b j=>k e ⟨a,b,j⟩
def ER{U:Jl->aa->Prop}{n:Nat->Iv}(VU:∀k,bU (fW c.params Vy h Q Vq Vw Vz n (b+314) x) (i5 c.params Vy h Q Vq Vw Vz n b x) q k->U (.done (.ret (.ref (b+316)))) k)(p:o.handled=none)(R:bL (fW c.params Vy h Q Vq Vw Vz n (b+314) x) q)(VT:314<=Q):aA (au P0 c) o (Builtin.«type.__new__» ⟨[.type "type",.str (nm "K") (Vy 17),.ref h,.ref Q],[]⟩) U y q:=by
 refine ai (⟨Q-314,(Ll VT).symm⟩:∃N,Q=N+314) ?_;rintro N rfl;let D:=wv c.params Vy h (N+314) Vq Vw Vz n b x;let L:=ww c.params Vy Vq Vw Vz;let Y:=some (hk h);let O:=some (I4 (nm "K") (Vy 17));let V:=some (I4 qK (Vy 13));refine n' 2000 _ (D L 1 (rl id #[Y,none,O,V] (b+315)) [] (b+317) x) 22674414377920175949488378689692108463949217920 (wy c.params ⟨Vy,h,N,Vq,Vw,Vz,b,x⟩) (by lia) (by lia) p R λ V6 H=>?_;refine al (kj 12 none H.rep.objs (b:=[(b+315,b+315)]) (by lia) rfl ?_);refine al (cx (a:=none) (by lia) ?_);refine al (cx (a:=[Ix "object"]) (by lia) ?_);refine al (ah ?_);refine al ?_;have e:List.filter (λ V1=>V1 !=hk (b+316)) [hk (b+316),Ix "object"]=[Ix "object"]:=by rw[Qq (by simp),Qp rfl,Pt]
 rw[e];refine cx (a:=ap) (by lia) ?_;let VN:=some (NY "object.__new__");let VM:=L.push ⟨mM c.params (ac "obj"),sN "obj" (x+1),.ref (b+317)⟩;let VQ:LO->LO:=λ VP=>{VP with mro:=[.ref (b+316),.type "object"],hasDel:=ap,hasDict:=ap,slotNames:=[nm "obj"]};let W0:=some (T' ap);let B:=VM.push ⟨mM c.params (ac "__doc__"),sN "__doc__" (x+2),.none⟩;let j:=D B 3 (rl VQ #[Y,none,O,V,VN,W0] (b+315)) [(b+317,kk (b+316) x)] (b+318) (x+3);refine n' 2000 _ j 22674414377920216514307585993110652629320681101 (EQ c.params ⟨Vy,h,N,Vq,Vw,Vz,b,x⟩) (by lia) (by lia) p H.rep λ VZ i=>?_;refine al (QF (aK ?_));refine al (kj 12 B i.rep.objs (b:=[(b+315,b+315)]) (by lia) rfl ?_);refine al (cx (a:=ap) (by lia) ?_);refine gz (by lia) (al (kj 12 B i.rep.objs (b:=[(b+315,b+315)]) (by lia) rfl ?_));refine al (kj 1010539458256274050 MY i.rep.objs (b:=[(b+317,b+317),(Vw,Vw),(Vz 5,Vz 5),(Vz 4,Vz 4),(Vz 3,Vz 3),(Vz 2,Vz 2),(Vz 1,Vz 1),(Vz 0,Vz 0),(Vq,Vq)]) (by lia) rfl ?_);obtain⟨VR,g,d,u,os⟩:=VZ;refine al (EI (Ve:=[.type "object"]) (i.rep.objs 13 _ _ rfl) rfl λ G C VW J=>?_);rw[i.rep.size]at C J⊢;have V7:G.objs.size=b+319:=J;have VV:u=x+3:=i.rep.tk;have v:bU j ⟨j.objs++[(b+318,gP (b+316))],b+319,x+4⟩ ⟨VR,g,d,u,os⟩ ⟨G,g,d,u+1,os⟩:=EM i.rep C VW J (by rw[VV]) rfl;let z:SD:=⟨j.objs++[(b+318,gP (b+316)),(b+319,wt (b+316))],b+320,x+4⟩;refine al (aK (EK (Q:=b+316) (Vq:=b+319) (P:=λ k=>bU ⟨j.objs++[(b+318,gP (b+316))],b+319,x+4⟩ z ⟨G,g,d,u+1,os⟩ k) C (v.rep.objs 13 _ _ rfl) rfl (Looks.peekD (M:=au P0 c) (d:=j.objs++[(b+318,gP (b+316))]) (a:=4) (c:=[(2,2)]) (by lia) rfl v.rep.objs) (λ A' V4 V3 VS VX=>?_) λ V5 VL=>?_));·exact kg 400 _ z 1677 0 (e:=[(b+316,b+316),(b+316,b+316)]) (.ref (b+319)) (by lia) rfl (VS.trans p) v.rep λ k r=>VX k r
 refine al (kg 400 _ z 3517138576 0 (e:=[(b+316,b+316),(b+316,b+316),(b+316,b+316),(b+316,b+316),(b+319,b+319)]) .none (by lia) rfl p VL.rep λ V0 VY=>?_);refine ah (ah (VU V0 ?_));exact(bU.trans R (bU.trans R (bU.trans R (bU.trans R H i) v) VL) VY)
def ES:KH Kl "type.__new__"=some Builtin.«type.__new__»:=Jx (by lia)
def ET:plainId "type.__new__"=true:=by decide+kernel
def wz{d:Nat->Iv}(g:o.handled=none)(R:bL (fW c.params Vy h Q Vq Vw Vz d (b+314) x) q)(i:314<=Q)(j:∀e,bU (fW c.params Vy h Q Vq Vw Vz d (b+314) x) (i5 c.params Vy h Q Vq Vw Vz d b x) q e->Vh (.ref (b+316)) e):aA (au P0 c) o (I3 (.type "type") [.str (nm "K") (Vy 17),.ref h,.ref Q] []) Vh y q:=by
 refine Jg (Mu ?_);show aA _ _ (callAny (.type "type") _) _ _ _;refine ah ⟨Le _ (by decide+kernel),hN Q8 ?_⟩;rw[Q' (Sn "type" _ []) rfl];unfold Builtin.«type.__call__»;refine y7 rfl (gz rfl (gz rfl (gz (by lia) (al ?_))));refine cx (a:=()) (by lia) ?_;refine al (cx (a:=[Ix "type",.type "object"]) (by lia) ?_);refine gz rfl (al (cx (a:=some "type.__new__") (by lia) ?_));refine al (ah (al (aK (Jg (Ii ET ES (cx (a:=()) (by lia) (ER (λ e r=>?_) g R i)))))));refine al (kj 13 true r.rep.objs (b:=[(b+316,b+316)]) (by lia) rfl ?_);refine gz rfl (al (aK (kg 400 _ (i5 c.params Vy h Q Vq Vw Vz d b x) 1677 0 (e:=[(b+316,b+316),(b+316,b+316)]) (some I9) (by lia) rfl g r.rep λ l k=>?_)));exact gz rfl (ah (j l (bU.trans R r k)))
def bL.pick{d:SD}(R:bL d q)(dI:List Nat){m:List (ae×Obj)}(h:dI.map (λ i=>d.objs[i]?)=m.map some)(A:dI.Nodup)(y:d.n=a)(z:d.tk=b):bL ⟨m,a,b⟩ q:=by
 have f:∀(i:Nat)p,m[i]?=some p->∃j,dI[i]?=some j/\d.objs[j]?=some p:=λ i p e=>by
   have t:=congrArg (·[i]?) h;simp only[a',e,IF]at t;refine ak (bh.mp t) λ j c g=>?_;exact bj j c g
 refine⟨λ i c o e=>?_,λ i j c o B e x=>?_,y▸R.size,z▸R.tk⟩
 · refine ak (f i _ e) λ j _ g=>?_;exact R.objs j c o g
 · refine ak (f i _ e) λ k r v=>?_;refine ak (f j _ x) λ l u w=>?_;have :=R.inj k l c o B v w;subst this;exact(Sh (a8.mp r).1 A).mp (r.trans u.symm)
def bU.low{f j:SD}(R:bL f q)(r:bU f j q H)(k:∀(i:Nat)c,f.objs[i]?=some c->c.1<a->c.1≠b->j.objs[i]?=some c)(l:h<a)(m:h≠b)(e:q.heap.get? h=some O):H.heap.get? h=some O:=by
 by_cases g:∃(i:Nat)(d:Obj),f.objs[i]?=some (h,d)
 · refine cP g λ i d c=>?_;have :=R.objs i h d c;cases aO e this;exact r.rep.objs i h O (k i _ c l m)
 ·exact r.ig.keep h O (λ i d c=>g ⟨i,d,c⟩) e
noncomputable def en(i:Nat):g6:=cE (kZ.getD (i+2) b2)
noncomputable def cp(VL:Nat)(a:List (Str×ae))(x:ae)(b:ab):Iv:={name:=(en VL).name,qualname:=qK++ac "."++(en VL).name,params:=(en VL).par,body:=.stmts (en VL).body,scope:=(en VL).scope,globals:=3,closure:=a,defaults:=.none,kwdefaults:=.none,pyModule:=.str (ac "law_in0064_01") 766,code:=.ref x,closureTuple:=b}
noncomputable def ft(c:ae)(i:Nat):List (Str×ae):=if i=0 then[]else[(nm "mycmp",c)]
noncomputable def EU(a:Nat)(i:Nat):Tok:=a+[8,10,12,16,24,33,42,51,60,69,70,72,13,9,11,15,71,0].getD i 0
noncomputable def EV(a:Nat)(i:Nat):Tok:=a+[2,4,6,10,11,12,13,14,15,16,17,19,7,3,5,9,18,0].getD i 0
def bU.wA{d j X:List (ae×Obj)}{k:SD}(R:bL ⟨d++X,a,b⟩ q)(r:bU ⟨d++X,a,b⟩ k q H)(t:k.objs.take d.length=j)(p:∀(i:Nat)c,d[i]?=some c->c.1≠120->j[i]?=some c)(l:∀c∈X,x<=c.1)(m:h<x)(u:h≠120)(e:q.heap.get? h=some O):H.heap.get? h=some O:=bU.low R r (λ i c e lt ne=>by
   have f:(d++X)[i]?=some c:=e;by_cases g:i<d.length
   · rw[GZ g]at f;have :=p i c f ne;rw[<-t,Kj,if_pos g]at this;exact this
   · rw[Ja (b'.mp g)]at f;exact absurd lt (b'.mpr (l c (ct f)))) m u e
def EW{a b:Obj}(i:Nat)(q:ae×Obj)(h:(i4 Vx a)[i]?=some q)(ne:q.1≠120):(i4 Vx b)[i]?=some q:=by match i,h with
 |0,h=>exact h|1,h=>exact h|2,h=>exact h|3,h=>exact h|4,h=>obtain rfl:=ax h;exact(ne rfl).elim|5,h=>exact h|i+6,h=>exact aQ h
def EX{c:Nat->Iv}(R:bL (fW Vx Vy h Q Vq Vw Vz c (a+314) b) q)(r:bU (fW Vx Vy h Q Vq Vw Vz c (a+314) b) (i5 Vx Vy h Q Vq Vw Vz c a b) q H):KO q.heap H.heap:=r.keep R λ i d e=>by
  have :(i5 Vx Vy h Q Vq Vw Vz c a b).objs=(fW Vx Vy h Q Vq Vw Vz c (a+314) b).objs++(i5 Vx Vy h Q Vq Vw Vz c a b).objs.drop 11:=rfl;rw[this,GZ (a8.mp e).1];exact e
def EY:gB[0]?=some ((gB.getD 0 b2).1,(cp 0 [] 0 .none).qualname):=by lia
def EZ:gB[1]?=some ((gB.getD 1 b2).1,(cp 1 [] 0 .none).qualname):=by lia
def wB(e:s.get? 2=some (hP Vx)):s.NoLimit:=⟨_,k6 e (by lia),by lia⟩
noncomputable def wC(a:SD)(i:Nat):Option (ae×Str):=(a.objs[i]?).bind λ q=>(qp q.2.data).map (q.1,·)
def E0{l:SD}(R:bL l q)(f:wC l a=some (h,j)):q.heap.CodeRec (.ref h) j:=by
 refine ak (dg.mp f) λ g e f=>?_;obtain⟨b,⟨c,d,m,r⟩⟩:=g;refine ak (bh.mp f) λ x k f=>?_;refine am (JW f) λ g o=>?_;obtain rfl:=g;obtain rfl:=o;cases m with
 |fields p=>refine ai (uf k) λ t n=>?_;exact g2 _ _ p t rfl (R.objs a _ _ e) rfl n|_=>exact aQ k
def E1{c:SD}(R:bL c q)(dI:List Nat)(x:Nat->ae)(h:dI.map (wC c)=gB.zipIdx.map λ d=>some (x d.2,d.1.2)):∀(i:Nat)d,gB[i]?=some d->q.heap.CodeRec (.ref (x i)) d.2:=λ i d e=>by
 have a:=congrArg (·[i]?) h;simp only[a',Rd,e,IF,Im]at a;refine ak (bh.mp a) λ j _ b=>?_;exact E0 R b
inductive KL(P:a3)(C VM:ae)(L:List (ae×Obj))(a b:ae):Prop|mk(t:Nat->Tok)(T SL ST:ae)(f:Nat->ae)(m VO:Nat)(VN:Nat->ab)(d:C=m+316)(e:L=[(m+316,n9 t T (m+316) (m+315)),(m+315,⟨.type "dict",none,.dict (ih P t SL ST f m VO) 3,#[]⟩),(m+317,kk (m+316) VO),(f 0,fV (cp 0 (ft VM 0) a (VN 0))),(f 1,fV (cp 1 (ft VM 1) b (VN 1)))])
def E2(ne:h≠Q)(i:314<=h)(g:314<=Q):([0,2,3,4,120,124,h,Q]:List ae).Nodup:=by
 have c:∀a∈([0,2,3,4,120,124]:List ae),a<314:=by decide
 refine(Sf (l₁:=[0,2,3,4,120,124]) (l₂:=[h,Q])).mpr ⟨by decide,by simpa using ne,λ a f b d e=>?_⟩;simp only[aP,uR,or_false]at d;rcases d with rfl|rfl;·exact absurd (c a f) (b'.mpr (e▸i))
 ·exact absurd (c a f) (b'.mpr (e▸g))
noncomputable def wD(b:Env)(n c:Nat)(a:ab):Sem ab:=let_mvar%?f1:=_;let_mvar%?d:=(id:Ph (buildClass (nm "K") qK [.type "object"] [] kZ i3 [nm "obj"] hS.line b hS none)->Ph (_>>=?f1));let_mvar%?f2:=_;let_mvar%?m:=(id:Ph (?f1 (hk n))->Ph (_>>=?f2));let_mvar%?f3:=_;let_mvar%?o:=(id:Ph (?f2 ([Ix "object"],ap))->Ph (_>>=?f3));let_mvar%?f4:=_;let_mvar%?p:=(id:Ph (?f3 (Ix "type"))->Ph (_>>=?f4));let_mvar%?f5:=_;let_mvar%?q:=(id:Ph (?f4 true)->Ph (_>>=?f5));let_mvar%?f6:=_;let_mvar%?r:=(id:Ph (?f5 (Ix "type"))->Ph (_>>=?f6));let_mvar%?f7:=_;let_mvar%?s:=(id:Ph (?f6 (I4 (nm "K") c))->Ph (@ite _ _ _ _ (_>>=?f7)));let_mvar%?l1:=_;let_mvar%?f8:=_;let_mvar%?t:=(id:Ph (?f7 (hk n))->Ph (Mj ?l1 (_>>=?f8)));let_mvar%?f9:=_;let_mvar%?u:=(id:Ph (?f8 (some (hk (n+1))))->Ph (_>>=?f9));let_mvar%?f10:=_;let_mvar%?e:=(id:Ph (?f9 (hk (n+2)))->Ph (_>>=?f10));let_mvar%?f11:=_;let_mvar%?f:=(id:Ph (?f10 ())->Ph (_>>=?f11));let_mvar%?l2:=_;let_mvar%?g:=_;let_mvar%?h:=(id:Ph (?f11 (some (NY "dict.__getitem__")))->Ph (@ite _ _ _ _ (Mj ?l2 ?g)));let_mvar%?f12:=_;let_mvar%?i:=(id:Ph ?g->Ph (@ite _ _ _ _ (_>>=?f12)));let_mvar%?f13:=_;let_mvar%?j:=(id:Ph (?f12 none)->Ph (@ite _ _ _ _ (_>>=?f13)));let_mvar%?f14:=_;let_mvar%?k:=(id:Ph (?f13 none)->Ph (_>>=?f14));let_mvar%?f15:=_;let_mvar%?l:=(id:Ph (?f14 a)->Ph (_>>=?f15));Mj ?l1 (Mj ?l2 (?f15 (0:ae)))
def wE{f l:Nat->ae}(L:aC c q.heap)(z:q.heap.objs.size=b)(E:bL (fW c.params Vy h Q Vq Vw f (λ i=>cp i (ft VD i) (l i) (VF i)) (a+314) x) H)(U:∀j o,j<b->j≠120->q.heap.get? j=some o->H.heap.get? j=some o)(p:b<=a+315)(J:b<=f 0)(M:b<=f 1)(g:H.heap.get? 120=some (Jy (k0 VE)))(K:mX H.heap VE)(v:∀(i:Nat)d,gB[i]?=some d->H.heap.CodeRec (.ref (l i)) d.2)(VO:H={q with heap:=H.heap,toks:=H.toks})(N:∀C L A B VJ,KL c.params C VD L A B->(∀u∈L,q.heap.objs.size<=u.1/\VJ.heap.get? u.1=some u.2)->VJ.heap.CodeRec (.ref A) (cp 0 [] 0 .none).qualname->VJ.heap.CodeRec (.ref B) (cp 1 [] 0 .none).qualname->I5 120 q.heap VJ.heap->aC c VJ.heap->VJ={q with heap:=VJ.heap,toks:=VJ.toks}->y (.ref C) VJ)(r:bU (fW c.params Vy h Q Vq Vw f (λ i=>cp i (ft VD i) (l i) (VF i)) (a+314) x) (i5 c.params Vy h Q Vq Vw f (λ i=>cp i (ft VD i) (l i) (VF i)) a x) H VJ):y (.ref (a+316)) VJ:=by
 have k:=EX E r;have ext:I5 120 q.heap VJ.heap:=λ j o O e=>k j o (U j o (z▸az e) O e);obtain⟨D,G,VP,VQ,V,Y,VL,VM,VN⟩:=K;have is:=L.g'.is;subst z;refine N (a+316) _ (l 0) (l 1) VJ ⟨Vy,h,Vq,Vw,f,a,x,VF,rfl,rfl⟩ ?_ ((v 0 _ EY).keeps k) ((v 1 _ EZ).keeps k) ext (L.grow rfl ext (nJ (by decide) is ext L.g8) (nJ (by decide) is ext L.g9) (.inr ⟨VE,k _ _ g,D,G,VP,VQ,V,Y,k _ _ VL,k _ _ VM,λ i d e=>(VN i d e).keeps k⟩)) ?_;·exact aV ⟨J0 p,r.rep.objs 13 _ _ rfl⟩ (aV ⟨p,r.rep.objs 12 _ _ rfl⟩ (aV ⟨J0 (J0 p),r.rep.objs 14 _ _ rfl⟩ (aV ⟨J,r.rep.objs 5 _ _ rfl⟩ (aV ⟨M,r.rep.objs 6 _ _ rfl⟩ dT))))
 ·rw[r.ig.rest,VO]
def E3(l:o.handled=none)(VX:o.depth<QI)(L:aC c q.heap)(VM:314<=q.heap.objs.size)(VY:E.globals=FG)(G:E.builtins=IV)(VU:E.code=.ref 124)(N:E.scope=a0 [19])(V8:E.cells.lookup (nm "mycmp")=some h)(VT:∀C L V4 V5 p,KL c.params C h L V4 V5->(∀a∈L,q.heap.objs.size<=a.1/\p.heap.get? a.1=some a.2)->p.heap.CodeRec (.ref V4) (cp 0 [] 0 .none).qualname->p.heap.CodeRec (.ref V5) (cp 1 [] 0 .none).qualname->I5 120 q.heap p.heap->aC c p.heap->p={q with heap:=p.heap,toks:=p.toks}->Vh (.ref C) p):aA (au P0 c) o (buildClass (nm "K") qK [.type "object"] [] kZ i3 [nm "obj"] hS.line E hS none) Vh y q:=by
 have VW:=EA V8;obtain⟨sc,VZ,gl,VP,a,f,code,fr,bl⟩:=E;dsimp only at VY G VU N;subst VY G VU;obtain⟨z,g,d,j,os⟩:=q;dsimp only at VM L;refine ai (⟨z.objs.size-314,si VM⟩:∃m,z.objs.size=m+314) λ m H=>?_;rw[H]at VM;have p3:z.get? 3=some (js c.params):=L.eC 1 (by lia) rfl λ x a=>iK a;have V0:z.get? 124=some (mQ c.params):=L.eC 80 (by lia) rfl λ x a=>k1 a;have p2:z.get? 2=some (hP c.params):=L.eC 0 (by lia) rfl λ x a=>iK a;rcases L.g' with VO|⟨v,VO,u,D,t,x,VS,VV,VN,VQ,V6⟩
 · have k:bL ⟨i4 c.params (Jy #[]),m+314,j⟩ ⟨z,g,d,j,os⟩:=wn (aV L.o0 (aV p2 (aV p3 (aV L.o4 (aV VO (aV V0 dT)))))) (show([0,2,3,4,120,124]:List ae).Nodup by decide) H rfl;refine n' 2000 _ (rk c.params (m+314) (j+2)) 1171585565093284365319 (wD ⟨sc,VZ,FG,VP,a,f,.ref 124,fr,IV⟩ (m+314) j (.ref (m+319))) (by subst N;lia) (by subst N;lia) l k λ V9 T=>?_;refine aK (aK (al (kg 60 _ _ _ 0 _ (EF c.params (m+314) (j+2)) rfl l T.rep λ V' B=>?_)));refine al (cx VW ?_);refine aK (al (T1 (wB (Vx:=c.params) (B.rep.objs 1 _ _ rfl)) VX ?_));refine al (O3 (kh 400 _ 1218444920556476648424456 (by lia) (by lia) l B.rep λ Wa U=>?_));refine al (kh 4000 _ 6918851185012349553287633467598760977184294517710312941602521993879001311175498234010220349649809754838257744431217142937358725771397163480852879647352947720 (by lia) (by lia) l U.rep λ Wb V=>?_);refine al (O3 (kh 400 _ 132104 (by lia) (by lia) l V.rep λ VL n=>?_));have J:bL (fW c.params (EU j) (m+314) (m+316) (m+321) (m+369) (λ i=>m+(328+8*i)) (λ i=>cp i (ft h i) (m+(327+8*i)) (if i=0 then .none else .ref (m+(321+8*i)))) (m+56+314) (j+73)) VL:=n.rep.pick [6,8,13,61,1,20,28,36,44,52,60] (by lia) (by decide) (by lia) (by lia);have O:=bU.trans k (bU.trans k (bU.trans k (bU.trans k T B) U) V) n;have M:=E1 n.rep [19,27,35,43,51,59] (λ i=>m+(327+8*i)) (by lia);exact bT (by decide) (al (wz l J (an (by decide) (Iw 316 m)) λ p r=>ah (wE (VE:=m+319) L H J (λ b Y G ne e=>bU.wA (d:=i4 c.params (Jy #[])) (j:=i4 c.params (Jy (k0 (m+319)))) (X:=[]) (x:=m+314) k O (by lia) EW dT G ne e) (bX (by decide:314<=56+315) m) (bX (by decide:314<=328) m) (bX (by decide:314<=336) m) (n.rep.objs 4 _ _ (by lia)) ⟨m+318,m+317,wr (j+2),_,an (by decide) (Iw 318 m),an (by decide) (Iw 319 m),n.rep.objs 11 _ _ (by lia),n.rep.objs 10 _ _ (by lia),M⟩ M (by rw[O.ig.rest]) VT r)))
 · have ne:v≠u:=λ a=>by rw[a,VQ]at VN;cases VN
   have k:bL ⟨ki c.params v u D t x,m+314,j⟩ ⟨z,g,d,j,os⟩:=wn (aV L.o0 (aV p2 (aV p3 (aV L.o4 (aV VO (aV V0 (aV VN (aV VQ dT)))))))) (E2 ne VV VS) H rfl;refine n' 2000 _ (rj c.params (ki c.params v u D t x) (m+314) (j+2)) 558655531468041 (wD ⟨sc,VZ,FG,VP,a,f,.ref 124,fr,IV⟩ (m+314) j (.ref v)) (by subst N;lia) (by subst N;lia) l k λ V9 T=>?_;refine aK (aK (al (kg 60 _ _ _ 0 _ (EH c.params (m+314) (j+2) v u D t x) rfl l T.rep λ V' B=>?_)));refine al (cx VW ?_);refine aK (al (T1 (wB (Vx:=c.params) (B.rep.objs 1 _ _ rfl)) VX ?_));refine al (O3 (kh 400 _ 1523056150695595810522378 (by lia) (by lia) l B.rep λ Wa U=>?_));refine al (kh 4000 _ 101663381027025170724223156391845936030820719330667420222765700501987253658045865797657832069550772042371707392231638282 (by lia) (by lia) l U.rep λ Wb V=>?_);refine al (O3 (kh 400 _ 165130 (by lia) (by lia) l V.rep λ VL n=>?_));have J:bL (fW c.params (EV j) (m+314) (m+316) (m+318) (m+330) (λ i=>m+(319+2*i)) (λ i=>cp i (ft h i) (x i) (if i=0 then .none else .ref (m+(318+2*i)))) (m+17+314) (j+20)) VL:=n.rep.pick [8,10,12,24,1,13,15,17,19,21,23] (by lia) (by decide) (by lia) (by lia);have O:=bU.trans k (bU.trans k (bU.trans k (bU.trans k T B) U) V) n;have low:=λ b Y G ne e=>bU.wA (d:=ki c.params v u D t x) (j:=ki c.params v u D t x) (X:=[]) (x:=m+314) k O (by lia) (λ _ _ V7 _=>V7) dT (h:=b) (O:=Y) G ne e;have M:∀(i:Nat)d,gB[i]?=some d->VL.heap.CodeRec (.ref (x i)) d.2:=λ i d e=>nI L.g'.is (λ b Y ne a=>low b Y (H▸az a) ne a) (V6 i d e);exact bT (by decide) (al (wz l J (an (by decide) (Iw 316 m)) λ p r=>ah (wE L H J low (bX (by decide:314<=17+315) m) (bX (by decide:314<=319) m) (bX (by decide:314<=321) m) (n.rep.objs 4 _ _ (by lia)) ⟨u,D,t,x,VS,VV,n.rep.objs 6 _ _ (by lia),n.rep.objs 7 _ _ (by lia),M⟩ M (by rw[O.ig.rest]) VT r)))
noncomputable def oa:Cx:=⟨true,.ref 124,ac "cmp_to_key"++ac ".<locals>."⟩
def E4(P:a3):a5 P (nm "object")=none/\cR P (nm "object")=some (.type "object"):=⟨by lia,by lia⟩
def E5{M:LN}{x:Sem ab}{Q:Tz->aa->Prop}(h:aA M o (Qu [(ap,x)]) (λ b a=>Q ⟨b,[]⟩ a) y q):aA M o (evalArgs U ap [(ap,x)] []) Q y q:=by
 unfold evalArgs;show aA M o (Qu [(ap,x)]>>=_) Q y q;exact al (aG h (λ b a c=>(aK (al (ah (al (ah (ah c))))))) λ _ _ x=>x)
def E6{Q:PI->aa->Prop}(VL:Rm (a,true) o)(F:FB oa w c o (a0 [19]) E q i D Vg Vp Y H)(V':E.cells.lookup (nm "mycmp")=some h)(V8:∀C L G J j Wd V2,KL c.params C h L G J->(∀g∈L,¬aL w E Y g.1/\j.heap.get? g.1=some g.2)->(¬aL w E Y G/\j.heap.CodeRec (.ref G) (cp 0 [] 0 .none).qualname)->(¬aL w E Y J/\j.heap.CodeRec (.ref J) (cp 1 [] 0 .none).qualname)->FB oa w c o (a0 [19]) E q ((nm "K",.kept (.ref C) L)::i) (bu (nm "K") D) Wd V2 Y j->(∀b u,¬gI E b->¬bC b->H.heap.get? b=some u->j.heap.get? b=some u)->Q .next j):aA (au P0 c) o (exec iJ E) Q y H:=by
 simp only[Ez,arm_exec_ClassDef];have VT:=F.er.blt;have Wc:=F.er.scope;refine al (cx (a:=[]) rfl (al (It (al ?_))));unfold buildClassGuard;refine VT.symm▸?_;refine al (kj (f:=[(0,MO c.params)]) 0 (some (.builtin "__build_class__")) (λ VU VQ u e=>by cases VU with
  |zero=>cases e;exact F.er.left.o0|succ VU=>exact aQ e) (b:=[(0,0)]) (by lia) rfl ?_);refine ah (al (aK (al ?_)));have V9:a6 (a,true) (a0 [19]) i [.Name (nm "object") n8] [.raw (.type "object")]:=.cons (Ev.bl E4) .nil;have Wb:∀V E,bD (Expr.Name (nm "object") n8::V) E=(ap,He (.Name (nm "object") n8) E)::bD V E:=by intros;rfl
 have U:=a6.use VL (z:=hS) (E:=y) V9 (s:=H) (e:=H) (Q:=λ B j=>B=[.type "object"]/\Kp H j) F.er (Kp.refl H) λ B j r _ kp _=>by
  refine ak r.one ?_;rintro Wl rfl Wh;obtain rfl:=(show _=Ix "object"from Wh);exact⟨rfl,kp⟩
 simp only[Wb]at U⊢;refine E5 (aG U (λ B Wk⟨e,kp⟩=>?_) λ _ _ x=>x);subst e;have v:=F.kp kp;refine al (It (aK ?_));have Wa:E.kindOf (nm "K")=some .local:=by rw[F.cB];rfl
 have l:QJ E (nm "K") (nm "K")=qK:=by
  unfold QJ;rw[Wa,F.qual rfl];decide
 rw[l];have V6:∀b,FA o b->314<=b:=λ b f=>((F.bi rfl).dA.fa f).1;refine E3 (VL.calm rfl) (by have :=VL.depth;exact c5 dG (fy this)) v.er.left (by refine ak (Ns.c9 v.ns) λ Wj V5 _=>?_;exact an v.locals (bn (az V5))) F.er.glob VT F.code Wc V' λ C L G J j V7 VS V1 c1 ext VP V=>?_;have VO:=v.kt rfl (by rw[V];exact Kq.tab (h:=120) rfl V6 ext) VP;refine al (ah (al (It (al (wpAny_bindName ?_)))));have N:∀g∈L,¬aL w E Y g.1/\j.heap.get? g.1=some g.2:=λ g l=>⟨v.er.ex.fresh (VS g l).1,(VS g l).2⟩;refine VO.store (j:=nm "K") (V:=.kept (.ref C) L) (.inl rfl) ⟨rfl,N⟩ λ VW We V3 VX VM=>ah ?_;have VN:∀g∈L,¬gI E g.1:=λ g l n=>(N g l).1 (.inl (.inr n));have V4:∀{M:ae}{g:Str},j.heap.CodeRec (.ref M) g->¬aL w E Y M/\VW.heap.CodeRec (.ref M) g:=λ{M g}VR=>by
  refine ci (qL VP VR) λ u VY VZ V0=>?_;have VV:=VO.qJ rfl VY VZ V0;refine du VR λ Wi Wg B t e VQ b d=>?_;cases e;exact⟨VV,M,Wg,B,t,rfl,VM _ _ (λ n=>VV (.inl (.inr n))) VQ,b,d⟩
 refine V8 C L G J VW We V3 V7 (λ g l=>⟨(N g l).1,VM _ _ (VN g l) (N g l).2⟩) ?_ ?_ VX λ b u VN Wf e=>VM b u VN (ext b u (λ g=>Wf (by simp only[g];rfl)) (kp.keep b u e));all_goals refine V4 ?_
 ·exact V1
 ·exact c1
noncomputable def wF:g6:=cE ((bB [19]).getD 0 b2)
noncomputable def rm:Str×Nat×Pos:=zC (wF.e 0)
noncomputable def rn:g6:=cE ((bB [19]).getD 2 b2)
def E7:bB [19]=[.Expr (.Constant (.str rm.1) rm.2.1 rm.2.2) wF.pos,iJ,.Return (some (.Name (nm "K") (jr (rn.e 0)))) rn.pos]:=by lia
def wG:cu 125 124 (bB [19]) (a0 [19]) [nm "mycmp"]:=.mk' (λ P=>by lia) (λ P=>by lia) (λ P=>⟨by lia,by lia,by lia,by lia,by lia,by lia⟩) (by decide) (by rfl) (by rfl) ⟨rfl,rfl⟩ rfl rfl rfl
def E8{j:List (ae×Obj)}(VN:Rm (a+1,true) o)(L:aC c q.heap)(M:Ex w q.heap)(T:fg o w q.heap)(VT:RV w q.heap (.ref h) (.kept (.ref h) j))(VP:∀C l z g r t i,KL c.params C l g r t->z.data=.cell (some (.ref h))->(∀b∈(l,z)::g,¬w b.1/\i.heap.get? b.1=some b.2)->(¬w r/\i.heap.CodeRec (.ref r) (cp 0 [] 0 .none).qualname)->(¬w t/\i.heap.CodeRec (.ref t) (cp 1 [] 0 .none).qualname)->Kq true o q i->aC c i.heap->Vh (.ref C) i):aA (au P0 c) o (I3 (.ref 125) [.ref h]) Vh y q:=by
 refine jO (A:=oa) (d:=⟨[.ref h],[]⟩) (Vk:=[.kept (.ref h) j]) wG VN L M (.cons VT .nil) rfl (λ doc=>by lia) rfl (λ _=>by lia) (λ _=>T) λ J VV m VL VR B F=>?_;have V:=F.er.vars (nm "mycmp") (.kept (.ref h) j) rfl;unfold cc at V;rw[F.cB,show(a0 [19]).names.lookup (nm "mycmp")=some .cell by rfl]at V;obtain⟨l,v,D,_,_⟩:=V;refine E7.symm▸(iq (aG ((St.doc:St oa (a,true) (a0 [19]) _ [] _ _) w c _ B J q VV _ m VL [] F) (λ f V6 VS=>?_) λ _ _ x=>x));obtain⟨e,V3,VZ,Y,U,_⟩:=VS;subst e;refine iq (E6 B U D λ C g r t V7 V4 V0 VO V1 H c1 d V2=>(iq (M4 ((Ev.nm (V:=.kept (.ref C) g) (by rfl) (by rfl):Ev (a,true) (a0 [19]) ((nm "K",.kept (.ref C) g)::[nm "mycmp"].zip [.kept (.ref h) j]) (.Name (nm "K") (jr (rn.e 0))) _).use B d.er (Kp.refl _) λ v VW VU kp _ R=>?_))));refine aj λ VX=>?_;obtain⟨rfl,N⟩:=VU;have V:=d.er.vars (nm "mycmp") (.kept (.ref h) j) rfl;unfold cc at V;rw[d.cB,show(a0 [19]).names.lookup (nm "mycmp")=some .cell by rfl]at V;obtain⟨VY,V8,VQ,⟨z,VM,doc⟩,rfl,_⟩:=V;cases aO D VQ;refine VX ?_;have G:∀{O:ae},¬aL w J Y O->¬w O:=λ n b=>n (.inl (.inl b));refine VP C l z g r t VW VO doc (λ b u=>?_) ⟨G H.1,H.2.keeps kp.keep⟩ ⟨G c1.1,c1.2.keeps kp.keep⟩ ((d.rel.trans kp.kq).outer VR) (d.er.left.keeps kp.keep);rcases aP.mp u with rfl|u
 · refine⟨λ b=>?_,kp.keep _ _ VM⟩;obtain⟨V5,e⟩:=M l b;exact absurd (az e) (b'.mpr (an d.fresh (bn (d.above _ _ (mem_of_lookup D)))))
 ·exact⟨G (N b u).1,(N b u).2⟩
def kl{t:Sem Vd}{L:List (ae×Obj)}(d:∀q∈L,s.get? q.1=some q.2)(g:Nat)(v:Vd){b:cD}(e:Mine.peekD ⟨P0,c.params⟩ L t g []=some (v,b))(f:b.map (·.1)=b.map (·.2)):Jz (au P0 c) s t v:=Looks.peekD (M:=au P0 c) e f λ i a o q=>d (a,o) (ct q)
def KL.makes{L:List (ae×Obj)}(K:KL c.params h Q L Vq Vw)(a:∀q∈L,s.get? q.1=some q.2):Makes (au P0 c) s h:=by
 obtain⟨t,T,SL,ST,f,m,e,d,rfl,rfl⟩:=K;have b:=a _ (.head _);refine⟨⟨_,_,_,_,b,rfl,rfl,rfl⟩,?_,?_,sub_self b (Ve:=[.type "object"]) rfl,?_,?_,?_⟩;·exact kl a 0 _ (b:=[(m+316,m+316),(m+316,m+316)]) (by lia) rfl
 ·exact kl a 0 _ (b:=[(m+316,m+316),(m+316,m+316),(m+316,m+316)]) (by lia) rfl
 ·exact kl a 0 _ (b:=[(m+316,m+316)]) (by lia) rfl
 ·exact kl a 0 _ (b:=[(m+316,m+316)]) (by lia) rfl
 ·exact kl a 0 _ (b:=[(m+316,m+316)]) (by lia) rfl
def E9{f:Iv}{l:List (Str×ae)}(VZ:q.heap.get? h=some O)(VW:O.data=.func f)(VV:q.heap.CodeRec f.code f.qualname)(f2:f.body=.stmts [.Return (some z) v])(f3:f.closure=l)(r:f.scope=g)(f5:f.globals=FG)(f6:f.builtins=IV)(VU:g.isCoroutine=ap)(VY:g.isGenerator=ap)(H:g.kind=.function)(D:∀x∈g.names,x.2≠.cell)(N:∀n∈G,g.names.lookup n=some .local)(T:G.Nodup)(VX:∀n,g.names.lookup n=some .free->(l.lookup n).isSome=true)(C:Rm (a+1,M) o)(L:aC c q.heap)(ex:Ex w q.heap)(V:aU w q.heap Ve Vk)(J:G.length=Vk.length)(VS:J6 f ⟨Ve,[]⟩=jB (G.zip Ve))(VT:∀n p,i.lookup n=some p->g.names.lookup n=some .free/\∃B u,l.lookup n=some B/\q.heap.IsCell B (some u)/\RV w q.heap u p)(VR:∀d j Y m,d.frame=some d.locals->d.scope=g->q.heap.objs.size<=d.locals->Rm (a,M) (o.deeper d)->bq (λ b=>w b\/b=d.locals) c g d j (G.zip Vk++i)->Kp q {q with heap:=j,toks:=Y}->j.Ns d.locals m->aA (au P0 c) (o.deeper d) (He z d) y (λ e V3=>aA (au P0 c) (o.deeper d) (OG d e) (λ _ t=>Vh e t) (λ VL t=>Vh VL t) V3) {q with heap:=j,toks:=Y}):aA (au P0 c) o (I3 (.ref h) Ve) y Vh q:=by
 refine Jg (Sq (fd:=f) (by have :=C.depth;exact c5 dG (fy this)) VZ VW (by rw[r];exact VU) (by rw[r];exact VY) f2 VV ?_);rw[VS,f3,r,f5,f6];refine ah (Om D (λ x V2=>N x.1 (L5 V2).1) (λ j U V0=>?_) H);have keep:KO q.heap j:=λ b O e=>V0.extBut b O (br (az e)) (ao _ e);refine⟨L.noLimit.keeps keep,codeAny_func ?_⟩;refine iq (M4 (VR _ j _ _ rfl rfl (aB _) (C.deeper _) (vl rfl rfl rfl rfl rfl H D N T VX L ex V J VT U (λ V4 u V1=>qY (by rw[LY (oM J V.len)];exact T) V1) keep) ⟨j,_,rfl,keep⟩ U))
noncomputable def fu(C a:ae)(b:Array (Option ab)):Obj:={cls:=.ref C,dict:=some a,data:=.plain,slots:=b}
noncomputable def bo(P:a3)(t:Nat->Tok)(T SL ST:ae)(f:Nat->ae)(m VQ:Nat)(VN a b:ae)(VO:Nat->ab):Frag:=[(m+316,n9 t T (m+316) (m+315)),(m+315,⟨.type "dict",none,.dict (ih P t SL ST f m VQ) 3,#[]⟩),(m+317,kk (m+316) VQ),(f 0,fV (cp 0 (ft VN 0) a (VO 0))),(f 1,fV (cp 1 (ft VN 1) b (VO 1)))]
def oc:(bo Vx Vy h Q Vq Vz a b Vw VD VE VF).lookup (a+316)=some (n9 Vy h (a+316) (a+315)):=Np
def E':(bo Vx Vy h Q Vq Vz a b Vw VD VE VF).lookup (a+315)=some ⟨.type "dict",none,.dict (ih Vx Vy Q Vq Vz a b) 3,#[]⟩:=by
 unfold bo;rw[aN,show(a+315==a+316)=ap by simp];exact Np
def ro:(bo Vx Vy h Q Vq Vz a b Vw VD VE VF).lookup (a+317)=some (kk (a+316) b):=by
 unfold bo;rw[aN,show(a+317==a+316)=ap by simp];dsimp only;rw[aN,show(a+317==a+315)=ap by simp];exact Np
def km{r:Option (Option ab)}(d:(match(match(ih Vx Vy Q Vq Vz a b).toList.find? (·.key.isStr j)with|some e=>some (some e.val)|none=>if(ih Vx Vy Q Vq Vz a b).toList.any (·.refKey)then none else some none)with
   |some (some v)=>some (some v)|some none=>(match(some (fastBuiltinOwn "object" j):Option (Option ab))with|some (some v)=>some (some v)|some none=>some none|none=>none)|none=>none)=r):Pd (bo Vx Vy h Q Vq Vz a b Vw VD VE VF) (.ref (a+316)) j=r:=by
 subst d;unfold Pd;dsimp only;rw[oc];show alongIn _ j [.ref (a+316),.type "object"]=_;have o:ownIn (bo Vx Vy h Q Vq Vz a b Vw VD VE VF) j (.ref (a+316))=nsIn (bo Vx Vy h Q Vq Vz a b Vw VD VE VF) (a+315) j:=by
  unfold ownIn;dsimp only;rw[oc];rfl
 have n:nsIn (bo Vx Vy h Q Vq Vz a b Vw VD VE VF) (a+315) j=(match(ih Vx Vy Q Vq Vz a b).toList.find? (·.key.isStr j)with|some e=>some (some e.val)|none=>if(ih Vx Vy Q Vq Vz a b).toList.any (·.refKey)then none else some none):=by
  unfold nsIn;rw[E'];rfl
 unfold alongIn;rw[o,n];rfl
def Fa:Pd (bo Vx Vy h Q Vq Vz a b Vw VD VE VF) (.ref (a+316)) (ac "__getattribute__")=some (some (.builtin "object.__getattribute__")):=km (by lia)
def Fb:Pd (bo Vx Vy h Q Vq Vz a b Vw VD VE VF) (.ref (a+316)) (ac "__getattr__")=some none:=km (by lia)
def wH:Pd (bo Vx Vy h Q Vq Vz a b Vw VD VE VF) (.ref (a+316)) (ac "obj")=some (some (.ref (a+317))):=km (by lia)
def Fc:Pd (bo Vx Vy h Q Vq Vz a b Vw VD VE VF) (.ref (a+316)) (ac "__lt__")=some (some (.ref (Vz 1))):=km (by lia)
def Fe:Pd (bo Vx Vy h Q Vq Vz a b Vw VD VE VF) (.ref (a+316)) (ac "__setattr__")=some (some (.builtin "object.__setattr__")):=km (by lia)
def rp:clsIn (bo Vx Vy h Q Vq Vz a b Vw VD VE VF) (a+316)=some {name:=nm "K",bases:=[.type "object"],mro:=[.ref (a+316),.type "object"],ns:=a+315,qualname:=qK,hasDict:=ap,slotNames:=[nm "obj"],hasDel:=ap}:=by
 unfold clsIn;refine oc.symm▸?_;rfl
def rq:typeIn (bo Vx Vy h Q Vq Vz a b Vw VD VE VF) (.ref (a+317))=some (.type "member_descriptor"):=by
 unfold typeIn;simp only[ro];rfl
def Ff:OH (bo Vx Vy h Q Vq Vz a b Vw VD VE VF) (.ref (a+317)) (ac "__get__")=some (some (.builtin "member_descriptor.__get__")):=by
 unfold OH;refine rq.symm▸?_;lia
def Fg:OH (bo Vx Vy h Q Vq Vz a b Vw VD VE VF) (.ref (a+317)) (ac "__set__")=some (some (.builtin "member_descriptor.__set__")):=by
 unfold OH;refine rq.symm▸?_;lia
def wI:takesIn (bo Vx Vy h Q Vq Vz a b Vw VD VE VF) (.ref (a+317))=some true:=by
 unfold takesIn;rw[show OH (bo Vx Vy h Q Vq Vz a b Vw VD VE VF) (.ref (a+317)) "__set__"=_ from Fg]
def Fh{d:Option Obj}:findObj (bo Vx Vy h Q Vq Vz a b Vw VD VE VF) (a+316) d (ac "obj")=some (.bind (.builtin "member_descriptor.__get__") (.ref (a+317))):=by
 unfold findObj;rw[rp,LR,wH,LR];dsimp only;rw[Ff,LR];dsimp only;rw[wI];rfl
def Fi:slotIn (bo Vx Vy h Q Vq Vz a b Vw VD VE VF) (a+317) (a+316)=some 0:=by
 unfold slotIn recIn;rw[rp,ro];have e:([hk (a+316),.type "object"]:List ab).contains (.ref (a+316))=true:=by simp
 show(if _&&_&&_&&([hk (a+316),.type "object"]:List ab).contains (.ref (a+316))&&_ then _ else _)=_;refine e.symm▸?_;rfl
def rr{b:Array (Option ab)}(d:q.heap.get? h=some (fu (a+316) Q b))(c:q.heap.get? Q=some JT):InstAt q.heap h (fu (a+316) Q b) (a+316) (some JT):=⟨d,rfl,rfl,c⟩
def Fj{e l n x d:ae}(X:(bo Vx Vy h Q Vq Vz a b e l n VF).In q.heap)(k:q.heap.get? x=some (fu (a+316) d #[some U]))(i:q.heap.get? d=some JT)(j:handedIn U=true)(g:Vh U {q with toks:=q.toks+1}):aA (au P0 c) o (Qw (.ref x) (ac "obj") true) Vh y q:=by
 have I:=rr k i;refine get_bind X I Fa Fh Fb (Jg (slot_get (s:={q with toks:=q.toks+1}) X I Fi (v:=U) rfl ?_));show aA _ _ (handedOut U) _ _ _;rw[handedOut_of j];exact ah g
def Fk:plainOver (bo c.params Vy h Q Vq Vz a b Vw VD VE VF) (a+316)=true:=by
 unfold plainOver;rw[rp];rfl
def Fl:takerIn (bo c.params Vy h Q Vq Vz a b Vw VD VE VF) (a+316) (ac "obj")=some (some (.ref (a+317))):=by
 unfold takerIn;rw[wH,LR];dsimp only;rw[wI];rfl
def Fm(X:(bo c.params Vy h Q Vq Vz a b Vw VD VE VF).In q.heap):q.heap.get? (a+317)=some (kk (a+316) b):=X _ _ ro
def Fo{B H J x p:ae}{R:JJ->aa->Prop}(X:(bo c.params Vy h Q Vq Vz a b B H J VF).In q.heap)(i:q.heap.get? x=some (fu (a+316) p #[]))(D:∀n,n.get? x=some (fu (a+316) p #[some U])->Js x q.heap n->R (.ok (.ret .none)) {q with heap:=n}):JO (au P0 c) o (.call (.builtin "member_descriptor.__set__") ⟨[.ref (a+317),.ref x,U],[]⟩) R q:=by
 obtain⟨e,g,N,u,os⟩:=q;have d:=Fm X;have r:e.get? (a+316)=_:=X _ _ oc;dsimp only at i d;have Lt:Jz (au P0 c) e (Nc (.ref x)) (.ref (a+316)):=(Lq i).andThen .now;have z:Jz (au P0 c) e (Tx (.ref (a+317)) (.ref x)) ():=by
  intro o L E q k G;unfold Tx descrNameAndClass NN;have j:=Ou (M:=au P0 c) d 0 (v:=sN "obj" b) rfl;exact al (al (j _ _ _ _ k (al ((Ou (M:=au P0 c) d 1 (v:=.ref (a+316)) rfl) _ _ _ _ k (ah (al (al (Lt _ _ _ _ k ((sub_self (M:=au P0 c) r (Ve:=[.type "object"]) rfl) _ _ _ _ k (gz rfl (ah G)))))))))))
 have C:Jz (au P0 c) e (descrItself (.ref (a+317))) [.ref (a+317)]:=((Lq (part:=none) d).andThen .now).andThen (LX (by lia));refine Ii Q4.plain KF.entry_mset (Q4.check _ _ _ _ _ _ _ _ ⟨_,d,rfl⟩ (KF.args_mset _ _ _) ?_);unfold Builtin.«member_descriptor.__set__»descrSet descrStoreThrough;refine gz rfl (al (z.here (al (C.here (al ((Ou (M:=au P0 c) d 3 (v:=.builtin "proto.slot#set") rfl).here (al (Jw ?_))))))));refine ah ⟨Le _ (by decide+kernel),hN KF.entry_slotset ?_⟩;have j:=Ou (M:=au P0 c) d 0 (v:=.str (ac "obj") b) rfl;have y:Jz (au P0 c) e (Ug (.ref (a+316))) [nm "obj"]:=((Lq (part:=none) r).andThen .now).andThen .now;unfold Builtin.«proto.slot#set»Uf;refine al (al ((Ou (M:=au P0 c) d 4 (v:=.int 0 0) rfl).here (al (j.here (al (Lt.here ?_))))));refine al (y.here (bT (by decide) (ah (al ?_))));unfold setSlotAt;refine bT (by decide) ?_;exact wpAny_updatePart i (ah (D _ (cQ _ i rfl) (gR ..)))
def Fp{i:Unit->aa->Prop}{k r u x g:ae}(X:(bo c.params Vy h Q Vq Vz a b k r u VF).In q.heap)(j:q.heap.get? x=some (fu (a+316) g #[]))(n:q.heap.get? g=some JT)(l:∀d,d.get? x=some (fu (a+316) g #[some U])->Js x q.heap d->i () {q with heap:=d,toks:=q.toks+1}):aA (au P0 c) o (setAttr (.ref x) (ac "obj") U) i y q:=have I:=rr j n;set_plain X I Fe (osa_descr (s:={q with toks:=q.toks+1}) Q4 X I Fk Fl rq (Fo (q:={q with toks:=q.toks+1}) X j λ d e p=>l d e p))
noncomputable def od:g6:=cE ((en 0).body.getD 0 b2)
def Fq:(en 0).body=[.Assign [.Attribute (.Name (nm "self") (tj (od.e 1)).1) (nm "obj") (tj (od.e 1)).2] (.Name (nm "obj") (jr (od.e 0))) od.pos]:=by lia
def Fs:ScOk (en 0).scope [nm "self",nm "obj"]:=⟨by decide,by lia,by lia,by lia,by lia,by lia⟩
noncomputable def wJ:g6:=cE ((en 1).body.getD 0 b2)
noncomputable def wK:Pos:=wJ.pos
noncomputable def rs:b7:=wJ.e 0
def Ft:(en 1).body=[.Return (some rs) wK]:=by lia
def Rm.create{d:List (Str×ab)}(b:Rm (a+1,M) o):Rm (a,M) (o.under (.builtin "type.__call__" ⟨.ref h::Ve,d⟩)):=by
 refine⟨?_,?_,b.calm⟩
 · show o.depth+1+10*a+20<QI;exact oT b.depth
 · show o.units+(TW "type.__call__" ⟨.ref h::Ve,d⟩).cUnits+60*a+200<O5;have :(TW "type.__call__" ⟨.ref h::Ve,d⟩).cUnits=1:=rfl;exact by refine this.symm▸?_;exact my b.units rfl
def Fu{g:Array KI}{d:Qb}{os:J7}(VS:Rm (Vu+2,true) o)(L:aC c s)(ex:Ex w s)(M:(bo c.params Vy h Q Vq Vz b x Vw VD VE VF).In s)(VP:s.CodeRec (.ref VD) (cp 0 [] 0 .none).qualname)(G:∀q∈bo c.params Vy h Q Vq Vz b x Vw VD VE VF,s.get? q.1=some q.2)(VT:∀J D n V1,s.get? J=none->s.get? D=none->n.get? J=some (fu (b+316) D #[some (.int C Vv)])->n.get? D=some JT->(KO s n)->Vh (.ref J) ⟨n,g,d,V1,os⟩):aA (au P0 c) o (I3 (.ref (b+316)) [.int C Vv]) Vh y ⟨s,g,d,a,os⟩:=by
 have K:KL c.params (b+316) Vw (bo c.params Vy h Q Vq Vz b x Vw VD VE VF) VD VE:=⟨Vy,h,Q,Vq,Vz,b,x,VF,rfl,rfl⟩;have Y:=K.makes G;have VV:Jz (au P0 c) s (Tm (.ref (b+316)) (ac "__init__")) (some (.ref (Vz 0))):=K' M (km (by lia));have VU:∀H,Jz (au P0 c) s (bindSpecial (.ref (Vz 0)) H) (.ref (Vz 0),[H]):=λ H=>kl G 3 _ (b:=[(Vz 0,Vz 0)]) (by lia) rfl;have z:∀j l,s.get? j=some l->((s.push JT).push (TL (b+316) s.objs.size)).get? j=some l:=λ j l e=>ao _ (ao _ e);have VW:(s.push JT).objs.size=s.objs.size+1:=IG ..;have VX:((s.push JT).push (TL (b+316) s.objs.size)).get? (s.objs.size+1)=some (fu (b+316) s.objs.size #[]):=by refine VW▸?_;exact aF _ rfl
 have O:((s.push JT).push (TL (b+316) s.objs.size)).get? s.objs.size=some JT:=ao _ (aF _ rfl);refine Jg (make_core (rest:=[.int C Vv]) (kw:=[]) Y VV VU (.inl rfl) ?_);refine MB (uh (A:=⟨ap,.ref VD,aR⟩) (u:=cp 0 (ft Vw 0) VD (VF 0)) (O:=fV (cp 0 (ft Vw 0) VD (VF 0))) (Vr:=(en 0).body) (G:=[nm "self",nm "obj"]) (Vk:=[.raw (.ref (s.objs.size+1)),.raw (.int C Vv)]) (w:=w) (Ve:=[.ref (s.objs.size+1),.int C Vv]) (y:=λ v VM=>v=.none/\Vh (.ref (s.objs.size+1)) VM) (Vh:=y) Fs (z _ _ (G _ (.tail _ (.tail _ (.tail _ (.head _)))))) rfl (VP.keeps z) rfl rfl rfl rfl rfl VS.create (L.keeps z) (ex.keeps z) (.cons rfl (.cons rfl .nil)) rfl (λ Vh y s=>ah s) rfl (λ q=>by cases q) (λ q=>by cases q) λ V4 V8 V7 V3 V5 N F=>?_) λ r VM q=>?_
 · have kp:=F.rel.kp.keep;refine Fq.symm▸(iq (plainObj_wpAny_Assign_Attribute (Ev.use (V:=.raw (.int C Vv)) (u:=(Vu,true)) Ev.nm N F.er (Kp.refl _) λ v V9 VY U _ VO=>?_) rfl));obtain rfl:v=.int C Vv:=VY;refine Ev.use (V:=.raw (.ref (s.objs.size+1))) (u:=(Vu,true)) Ev.nm N VO (Kp.refl _) λ v V0 VZ V _ V2=>?_;obtain rfl:v=.ref (s.objs.size+1):=VZ;have B:∀j l,((s.push JT).push (TL (b+316) s.objs.size)).get? j=some l->V0.heap.get? j=some l:=λ j l e=>V.keep _ _ (U.keep _ _ (kp j l e));refine Fp (M.keeps λ j l e=>B j l (z j l e)) (B _ _ VX) (B _ _ O) λ n e VN=>J4 ⟨rfl,(aW (F.rel.kp.trans (U.trans V)) λ V6 V' VR _=>?_)⟩;subst VR;refine VT _ _ n _ (cW (I7 _)) (cW (aB _)) e ((VN.2 _ (br (Ia _))).trans (B _ _ O)) λ j l q=>(VN.2 j (br (gb (az q)))).trans (B j l (z j l q))
 ·rcases r with e|(v|_|_|_)<;>exact q
def gQ(k:Lv)(VN:ab)(L:List (ae×Obj))(b:List PV)(r:PV):Prop:=∀(X:ae->Prop)(VM:ar)(A:aq),Rm k A->∀(s:aa)(vs:List ab)(E:ab->aa->Prop),aC VM s.heap->Ex X s.heap->(∀p∈L,¬X p.1/\s.heap.get? p.1=some p.2)->aU X s.heap vs b->aA (au P0 VM) A (I3 VN vs) (λ v a=>RV X a.heap v r/\Kp s a) E s
def Ev.Fv{L:List (ae×Obj)}(Y:∃o l,(h,o)∈L/\o.data=.func l)(N:gQ u (.ref h) L Vk V)(T:Ev u g i (.Name j v) (.kept (.ref h) L))(t:a6 u g i (z::Vt) Vk):Ev u g i (.Call (.Name j v) (z::Vt) [] J) V:=λ X w A m M s E R=>by
 refine dr (T.use m R (Kp.refl s) λ D VR c _ VM G=>?_);obtain⟨rfl,c⟩:=c;have f:=t.plain (E:=M) (v:=J);refine aW Y λ o l VL O=>?_;refine di t.cut λ _ _ VO H b B=>?_;obtain rfl:=VO;have U:=a6.use m (z:=J) (E:=E) (.cons H b B) (s:=VR) (Q:=λ n d=>(d.heap.get? h=some o/\o.data=.func l)/\aA (au P0 w) A (I3 (.ref h) n) (λ D d=>RV X d.heap D V/\Kp s d) E d) G VM λ n VS VQ C VN q=>⟨⟨C.keep _ _ ((c _ VL).2),O⟩,aG (N X w A m VS n E q.left q.ex (λ p f=>⟨(c p f).1,C.keep _ _ (c p f).2⟩) VQ) (λ _ _ VP=>by refine am VP λ h b=>?_;exact⟨h,VN.trans b⟩) λ _ _ x=>x⟩;rw[B]at U f⊢;exact rS (b1 U)
noncomputable def ij(F:List (ae×Obj))(C:ae)(x a:ae)(v:ab):List (ae×Obj):=(x,fu C a #[some v])::(a,JT)::F
def oe{F:Frag}(H:∀q∈F,s.get? q.1=some q.2):F.In s:=λ a o e=>H (a,o) (mem_of_lookupK e)
def Ev.wL{x e:ae}(l:Ev u g i (.Name j v) (.kept (.ref x) (ij (bo Vx Vy h Q Vq Vz a b Vw VD VE VF) (a+316) x e (.int C Vv)))):Ev u g i (.Attribute (.Name j v) (ac "obj") J) (I C):=λ X w A n z s E R=>by
 refine Attribute_name (l.use n R (Kp.refl s) λ D B d _ p r=>?_);obtain⟨rfl,d⟩:=d;exact Fj (oe λ q o=>(d q (.tail _ (.tail _ o))).2) (d _ (.head _)).2 (d _ (.tail _ (.head _))).2 rfl ⟨.mkInt,p.trans Kp.toks⟩
def Fw:∀(n:Str)(a:Jt),(n,a)∈(en 1).scope.names->(n=nm "self"/\a=.local)\/(n=nm "other"/\a=.local)\/(n=nm "mycmp"/\a=.free):=λ n a h=>by
 have e:(en 1).scope.names=[(nm "self",.local),(nm "other",.local),(nm "mycmp",.free)]:=by lia
 rw[e]at h;simpa using h
def Fx{u g l z B:ae}{r:List (ae×Obj)}{i j n:Int}{D G:Tok}(Y:Rm (x+2,true) o)(L:aC c q.heap)(O:Ex w q.heap)(H:∀d∈ij (bo Vx Vy h Q Vq Vz a b Vw VD VE VF) (a+316) g z (.int i D),¬w d.1/\q.heap.get? d.1=some d.2)(VR:∀d∈ij (bo Vx Vy h Q Vq Vz a b Vw VD VE VF) (a+316) l B (.int j G),¬w d.1/\q.heap.get? d.1=some d.2)(VP:q.heap.IsCell Vw (some (.ref u)))(VN:∀d∈r,¬w d.1/\q.heap.get? d.1=some d.2)(VQ:∃J U,(u,J)∈r/\J.data=.func U)(VM:gQ (x+1,true) (.ref u) r [I i,I j] (I n))(c1:q.heap.CodeRec (.ref VE) (cp 1 [] 0 .none).qualname):aA (au P0 c) o (I3 (.ref (Vz 1)) [.ref g,.ref l]) (λ v M=>v=.bool (bF (n<0))/\Kp q M) y q:=by
 refine E9 (a:=x+1) (M:=true) (f:=cp 1 (ft Vw 1) VE (VF 1)) (z:=rs) (v:=wK) (g:=(en 1).scope) (l:=[(nm "mycmp",Vw)]) (G:=[nm "self",nm "other"]) (Vk:=[.kept (.ref g) (ij (bo Vx Vy h Q Vq Vz a b Vw VD VE VF) (a+316) g z (.int i D)),.kept (.ref l) (ij (bo Vx Vy h Q Vq Vz a b Vw VD VE VF) (a+316) l B (.int j G))]) (i:=[(nm "mycmp",.kept (.ref u) r)]) (H _ (.tail _ (.tail _ (.tail _ (.tail _ (.tail _ (.tail _ (.head _)))))))).2 rfl c1 (by show FuncBody.stmts (en 1).body=_;rw[Ft]) rfl rfl rfl rfl (by lia) (by lia) (by lia) (by decide) (by decide) (by decide) ?_ Y L O (.cons ⟨rfl,H⟩ (.cons ⟨rfl,VR⟩ .nil)) rfl (by lia) ?_ λ N VY V4 VZ V1 V2 V3 VL R kp ns=>?_
 · intro n V;refine ez (Fw n _ (eF V)) (λ VT=>?_) (λ VU=>?_) λ VV=>?_
   · refine am VT λ _ e=>?_;cases e
   · refine am VU λ _ e=>?_;cases e
   · refine am VV λ e _=>?_;subst e;rfl
 · intro n p e;refine gy (M:=n==nm "mycmp") (λ C=>?_) λ C=>?_;·simp only[aN,C]at e;exact aQ e
   · obtain rfl:=pW C;obtain rfl:=ax e;exact⟨by rfl,Vw,_,by rfl,VP,rfl,VN⟩
 · have VO:Ev (x+1,true) (en 1).scope ([nm "self",nm "other"].zip [.kept (.ref g) (ij (bo Vx Vy h Q Vq Vz a b Vw VD VE VF) (a+316) g z (.int i D)),.kept (.ref l) (ij (bo Vx Vy h Q Vq Vz a b Vw VD VE VF) (a+316) l B (.int j G))]++[(nm "mycmp",.kept (.ref u) r)]) rs (Bo (bF (n<0))):=Ev.cmp aD.lt (Ev.Fv VQ VM Ev.nm (.cons (Ev.wL Ev.nm) (.cons (Ev.wL Ev.nm) .nil (by intros;rfl)) (by intros;rfl))) Ev.int;exact aG (VO _ c _ VL N _ _ R) (λ v M VW=>by refine am VW λ VX VS=>?_;exact⟨VX.bool,kp.trans VS⟩) λ _ _ g=>g
def Fy{R:JJ->aa->Prop}{t u v:Tok}(x:o.handled=none)(z:R8 q.heap h 0 a 1 t u v)(k:a<1000)(l:∀d j f g,(KO q.heap d)->d.get? q.heap.objs.size=some {cls:=.type "list",dict:=none,data:=.seq f g,slots:=#[]}->ItemsOf (λ i v=>∃t,v=.int (0+i*1) t) f a->R (.ok (.ret (.ref q.heap.objs.size))) {q with heap:=d,toks:=j}):JO (au P0 c) o (.builtin "proto.collect" ⟨[.ref h],[]⟩) R q:=by
 refine hN RS ?_;rw[fH RQ _];refine al (Ih (ah ⟨I2 LU _,hN Pj ?_⟩));rw[fH LU _];exact wpAny_extend_range (A:=o) (n:=a) x (ao _ z) (RF (by decide) (by decide) (kM rfl) (hI k (aE true))) (by rw[Rn];exact oZ dh) (an (bn k) (by decide)) q.heap.objs.size _ 0 (aF _ rfl) λ d j f g y m p=>l d j f g (λ b B e=>y b B (br (az e)) (ao _ e)) m p
def FC{t u v:Tok}{Q:List ab->aa->Prop}(k:o.handled=none)(p:R8 q.heap h 0 a 1 t u v)(m:a<1000)(g:∀b f,b.length=a->(∀(i:Nat)(v:ab),b[i]?=some v->∃t,v=.int i t)->Kp q f->Q b f):aA (au P0 c) o (R1 (.ref h)) Q y q:=by
 unfold R1;refine al (Ol (Fy k p m λ B C x z l j d=>(al (MN j ?_))));refine ah (g _ _ (by simp only[aX];exact d.1) (λ i v e=>?_) (Kp.mk' l));refine ai (d.2 i v (by rw[<-Ji];exact e)) λ t e=>?_;exact⟨t,by rw[e,show(0:Int)+(i:Int)*1=i by simp]⟩
inductive FD(c:a7)(C d:ae)(j:Nat)(h:a7)(x:ab):Prop|mk(a b:ae)(e:Tok)(f:x=.ref a)(g:c.get? a=none)(i:c.get? b=none)(k:a≠d)(l:b≠d)(m:h.get? a=some (fu C b #[some (.int j e)]))(n:h.get? b=some JT)
structure e1(a:a7)(C D c:ae)(f:Nat)(b:Array ab)(e:Nat)(h:a7):Prop where
 keep:KO a h
 ks:h.get? c=some (L4 "list" b e)d:h.get? D=some (L4 "list" #[] f)inst:∀(j:Nat)(x:ab),b[j]?=some x->FD a C c j h x
def e1.keeps{g d f:a7}(I:e1 g h Q Vq a VB b d)(k:KO d f):e1 g h Q Vq a VB b f:=⟨λ c o q=>k c o (I.keep c o q),k _ _ I.ks,k _ _ I.d,λ j x q=>by
  obtain⟨i,l,v,m,n,p,r,s,t,u⟩:=I.inst j x q;exact⟨i,l,v,m,n,p,r,s,k _ _ t,k _ _ u⟩⟩
def Rm.in1(h:Rm (a+1,M) o):Rm (a,M) o.in1:=by
 refine⟨?_,?_,h.calm⟩
 · show o.depth+10*a+20<_;exact yO h.depth
 · show o.units+1+60*a+200<_;exact my h.units rfl
theorem wM:∀{p:List Nat}{c:List ab},c.length=p.length->(∀(i:Nat)(VM:ab)(VL:Nat),c[i]?=some VM->p[i]?=some VL->∃t,VM=.int VL t)->M' c (p.map Ln)
 |[],[],_,_=>.nil|[],_::_,h,_=>by cases h|_::_,[],h,_=>by cases h|VL::p,VM::c,h,VN=>by
  refine ai (VN 0 VM VL rfl rfl) ?_;rintro t rfl;exact .cons _ t (wM (MJ h) λ i VM VL a b=>VN (i+1) VM VL a b)
def FE(K:(bo Vx Vy h Q Vq Vz a b Vw VD VE VF).In s)(H:∀q∈bo Vx Vy h Q Vq Vz a b Vw VD VE VF,s.get? q.1=some q.2):isFn (bo Vx Vy h Q Vq Vz a b Vw VD VE VF) (.ref (Vz 1))=true:=by
 have m1:(Vz 1,fV (cp 1 (ft Vw 1) VE (VF 1)))∈bo Vx Vy h Q Vq Vz a b Vw VD VE VF:=.tail _ (.tail _ (.tail _ (.tail _ (.head _))));refine ey (x:=(bo Vx Vy h Q Vq Vz a b Vw VD VE VF).lookup (Vz 1)) (λ e=>?_) λ o e=>?_;·exact absurd (List.lookup_eq_none_iff.mp e _ m1) (by simp)
 · have :=K _ _ e;cases aO (H _ m1) this;unfold isFn typeIn;dsimp only;rw[e];rfl
structure lQ(P:a3)(X:ae->Prop)(w:ar)(k n:Nat)(f:Nat->Nat)(cv:Nat->Nat->Int)(b:a7)(F:List (ae×Obj))(m:Nat)(c g h a:ae)(d:List (ae×Obj)):Prop where
 left:aC w b
 ex:Ex X b
 og:∀q∈F,¬X q.1/\b.get? q.1=some q.2
 cell:b.IsCell c (some (.ref a))fn:∀q∈d,¬X q.1/\b.get? q.1=some q.2
 isFn:∃o e,(a,o)∈d/\o.data=.func e
 cmp:∀VL VM,VL<n->VM<n->gQ (k+1,true) (.ref a) d [I VL,I VM] (I (cv VL VM))cv:∀VL VM,VL<n->VM<n->bF (cv VL VM<0)=d1 f VL VM
 c0:b.CodeRec (.ref g) (cp 0 [] 0 .none).qualname
 c1:b.CodeRec (.ref h) (cp 1 [] 0 .none).qualname
def FH(x:ae):(hk x==hk x)=true:=by simp
def FI{g:Array KI}{d:Qb}{os:J7}{z H J N:ae}{VN:Nat->Nat}{VU:Nat->Nat->Int}{VT:List (ae×Obj)}{VL e:Nat}(K:lQ c.params w c x Vu VN VU s (bo c.params Vy h Q Vq Vz a b z H J VF) a z H J N VT)(VM:Rm (x+2,true) o){G:Array Keyed}(V4:VB.size=Vu)(V1:∀i,i<Vu->(Lp G i).1=VB.getD i .none){i j:Nat}(B:i<Vu)(O:j<Vu){C:Bool->aa->Prop}(V2:∃r b,q=⟨r,g,d,b,os⟩/\e1 s (a+316) Vw VD VL VB e r)(V0:∀U,(∃r b,U=⟨r,g,d,b,os⟩/\e1 s (a+316) Vw VD VL VB e r)->C (d1 VN i j) U):kas_cmp P0 c o Oz G i j C q:=by
 refine aj λ V=>?_;refine aW V2 ?_;rintro r VQ rfl S;have Y:∀i,i<Vu->∃u,VB[i]?=some u/\(Lp G i).1=u:=λ i B=>by
   have M:i<VB.size:=V4▸B;refine bj (VB[i]) (by simp[M]) ?_;simp only[V1 i B];simp[Of,M]
 refine ak (Y i B) λ u ex VW=>ak (Y j O) λ y VZ VX=>?_;obtain⟨Wd,E,Wh,rfl,V8,V9,Wj,Wk,VR,VS⟩:=S.inst i u ex;obtain⟨We,Wf,Wi,rfl,V',Wa,Wl,Wm,Wb,Wc⟩:=S.inst j y VZ;refine V ?_;have VO:∀{L:ae},s.get? L=none->¬w L:=λ e l=>by refine ai (K.ex _ l) λ Wg VV=>?_;exact bN e VV
 have Fr:∀l∈bo c.params Vy h Q Vq Vz a b z H J VF,¬w l.1/\r.get? l.1=some l.2:=λ l p=>⟨(K.og l p).1,S.keep _ _ (K.og l p).2⟩;have inst:∀{u E:ae}{v:ab},s.get? u=none->s.get? E=none->r.get? u=some (fu (a+316) E #[some v])->r.get? E=some JT->∀l∈ij (bo c.params Vy h Q Vq Vz a b z H J VF) (a+316) u E v,¬w l.1/\r.get? l.1=some l.2:=λ N L z d l p=>by
   refine aH (aP.mp p) ?_ λ p=>?_
   · rintro rfl;exact dv (VO N) z
   · refine aH (aP.mp p) ?_ λ p=>?_
     · rintro rfl;exact dv (VO L) d
     ·exact Fr l p
 show aA (au P0 c) o (keyLt' Oz (Lp G i).1 (Lp G j).1) C _ _;simp only[VW,VX,keyLt'_oneType,oneLt'_eq];simp only[if_true];refine al (UO (by have :=VM.units;exact c5 dG (fy this)) ?_);refine al (ifBound_K (K:=bo c.params Vy h Q Vq Vz a b z H J VF) (f:=Vz 1) (oe λ l p=>(Fr l p).2) (rr VR VS) Fc ?_ (aG (Fx VM (K.left.keeps S.keep) (K.ex.keeps S.keep) (inst V8 V9 VR VS) (inst V' Wa Wb Wc) (K.cell.keeps S.keep) (λ l p=>⟨(K.fn l p).1,S.keep _ _ (K.fn l p).2⟩) K.isFn (K.cmp i j B O) (K.c1.keeps S.keep)) (λ v U V3=>?_) λ _ _ e=>e));·exact FE (oe λ l p=>(Fr l p).2) (λ l p=>(Fr l p).2)
 · refine aj λ V=>?_;refine am V3 λ V6 kp=>?_;obtain rfl:=V6;refine aW kp λ M VQ V7 V5=>?_;obtain rfl:=V7;refine V ?_;simp only[K.cv i j B O];exact zF (V0 _ ⟨M,VQ,rfl,S.keeps V5⟩)
def e1.push{f:a7}(I:e1 s Vq h Q a VB b Vm)(J:s.get? Q=none)(H:h≠Q)(m:Vm.get? Vw=none)(l:Vm.get? VD=none)(u:f.get? Vw=some (fu Vq VD #[some (.int VB.size Vv)]))(v:f.get? VD=some JT)(g:KO Vm f):∃t,e1 s Vq h Q a (VB.push (.ref Vw)) t (f.update Q (wx (·.push (.ref Vw)))):=by
 have d:=gR f Q (wx (·.push (.ref Vw)));have k:∀{c:ae},Vm.get? c=none->c≠Q:=λ b q=>by rw[q,I.ks]at b;exact c7 b
 have new:∀{c:ae},Vm.get? c=none->s.get? c=none:=λ{c}b=>by
   rcases q:s.get? c with _|o;·rfl
   ·rw[I.keep c o q]at b;exact c7 b
 refine⟨_,λ c o q=>(d.2 c (λ b=>by rw[b,J]at q;exact aQ q)).trans (g c o (I.keep c o q)),Ql (g _ _ I.ks) _,(d.2 _ H).trans (g _ _ I.d),λ j y i=>?_⟩;rw[KZ]at i;split at i
 · rename_i w;obtain rfl:=ax i;exact⟨Vw,VD,Vv,rfl,new m,new l,k m,k l,(d.2 _ (k m)).trans (by refine w.symm▸?_;exact u),(d.2 _ (k l)).trans v⟩
 · obtain⟨c,r,L,z,A,B,n,p,E,G⟩:=I.inst j y i;exact⟨c,r,L,z,A,B,n,p,(d.2 _ n).trans (g _ _ E),(d.2 _ p).trans (g _ _ G)⟩
def FJ{g:Array KI}{d:Qb}{V:J7}{U:Nat->Nat}{C e:Nat}{P:Jl->aa->Prop}{f:SortSt}{p:Array Nat}(S:e1 s (a+316) h Q C VB e Vm)(VU:s.get? Q=none)(VQ:s.get? h=none)(VP:h≠Q)(T:VB.size=b)(z:Ve.length=b)(G:b<64)(VT:∀(i:Nat)(v:ab),Ve[i]?=some v->∃t,v=.int i t)(L:p.size=b)(H:TX f=p.map (Lp (VB.zip Ve.toArray)))(VS:failedOf f=none)(M:p.toList.Perm (a1 b))(VV:p.toList.Pairwise (dD U))(VR:∀(l:a7)(V1:Nat)(p:List Nat)(Y:Array ab)(VM:Nat),(KO s l)->l.get? h=some (L4 "list" Y VM)->p.Perm (a1 b)->p.Pairwise (dD U)->M' Y.toList (p.map Ln)->P (.done (.ret .none)) ⟨l,g,d,V1,V⟩):aA (au P0 c) o (ksk_tail h ap C (.ref Q) f) P y ⟨Vm,g,d,x,V⟩:=by
 have N:(TX f).size=b:=by simp only[H,Lw,L]
 have VL:=gR Vm Q (wx λ _=>(#[]:Array ab));have B:=(VL.2 h VP).trans S.d;have VZ:=gR (Vm.update Q (wx λ _=>(#[]:Array ab))) h (wx λ _=>(TX f).map (·.2));unfold ksk_tail;refine al (O8 S.ks rfl ?_ (by simp only[T,LM];exact j4 (j5 G) bE) (dk _));refine al (wpAny_letGo (al (seqEpoch_at B rfl ?_)));refine al (O8 B rfl ?_ (dk _) (by show((TX f).map (·.2)).size<=_;simp only[Lw,N,LM];exact j4 (j5 G) bE));simp only[VS];simp only[bne_self_eq_false,cT,if_false];refine ah (VR _ x p.toList ((TX f).map (·.2)) _ (λ k VY q=>(VZ.2 k λ e=>by rw[e,VQ]at q;exact aQ q).trans ((VL.2 k λ e=>by rw[e,VU]at q;exact aQ q).trans (S.keep k VY q))) (Ql B _) M VV (wM (by simp[N,L]) λ i v j O J=>?_));have r:j<b:=cI.mp (M.mem_iff.mp (ct J));have V2:j<Ve.length:=z.symm▸r;have VX:Ve[j]?=some Ve[j]:=by simp[z,r]
 refine ai (VT j _ VX) λ V0 VO=>⟨V0,?_⟩;simp only[H,Array.map_map,Array.toList_map,a',J]at O;have VN:(Lp (VB.zip Ve.toArray) j).2=Ve[j]:=by
  unfold Lp;simp[Of,T,z,r]
 have VW:(Lp (VB.zip Ve.toArray) j).2=v:=ax (O);simp only[<-VW,VN,VO]
def FK{g:Array KI}{d:Qb}{B:J7}{VR VW VX V1:ae}{k n u:Nat}{O:Nat->Nat}{V4:Nat->Nat->Int}{z H:a7}{VZ:List (ae×Obj)}{P:Jl->aa->Prop}(K:lQ c.params w c k n O V4 z (bo c.params Vy h Vq Vw Vz a b VR VW VX VF) a VR VW VX V1 VZ)(V6:Rm (k+2,true) o)(S:e1 z (a+316) VD VE x VB Vu H)(Wc:z.get? VE=none)(V9:z.get? VD=none)(V8:VD≠VE)(J:VB.size=n)(N:Ve.length=n)(L:2<=n)(VS:n<64)(Wa:∀(i:Nat)(v:ab),Ve[i]?=some v->∃Vy,v=.int i Vy)(V':∀(l:a7)(b:Nat)(p:List Nat)(VV:Array ab)(V3:Nat),(KO z l)->l.get? VD=some (L4 "list" VV V3)->p.Perm (a1 n)->p.Pairwise (dD O)->M' VV.toList (p.map Ln)->P (.done (.ret .none)) ⟨l,g,d,b,B⟩):aA (au P0 c) o (ksk_end VD ap Ve.toArray x (.ref VE) VB) P y ⟨H,g,d,u,B⟩:=by
 unfold ksk_end;dsimp only;simp only[cT,if_false];have VU:¬Ve.toArray.size<2:=by rw[I'];exact oD (jh N L)
 rw[if_neg VU,if_neg VU];have VT:=kas_kind (M:=au P0 c) (A:=o) (E:=y) (s:=⟨H,g,d,u,B⟩) (vs:=VB.toList) (T:=.ref (a+316)) (Q:=λ κ r=>κ=Oz/\r=⟨H,g,d,u,B⟩) (by simp only[aX];exact jh J L) (λ v Wf=>by
   obtain⟨j,VP⟩:=No.mp Wf;obtain⟨Wm,Wj,Wk,rfl,_,_,_,_,q,_⟩:=S.inst j v (by rw[<-Ji];exact VP);exact(Lq q).andThen .now) rfl (FH _) ⟨rfl,rfl⟩;rw[<-((Q1).symm)]at VT;refine af (aG VT (λ κ r Wg=>?_) λ _ _ Vu=>Vu);obtain⟨rfl,rfl⟩:=Wg;have We:(VB.zip Ve.toArray).size=n:=by simp only[Array.size_zip,J,I',N,Um]
 have V5:TY Oz (VB.zip Ve.toArray) #[] 7 none=kas_st Oz (VB.zip Ve.toArray) (Qz (a1 n)):=by
  have Vu:=kas_range (VB.zip Ve.toArray);rw[We]at Vu;show _=TY Oz ((Qz (a1 n)).map (Lp (VB.zip Ve.toArray))) #[] 7 none;rw[Vu]
 refine V5.symm▸?_;have Wb:∀i,i<n->(Lp (VB.zip Ve.toArray) i).1=VB.getD i .none:=λ i VO=>by
  unfold Lp;simp[Of,J,N,VO]
 have run:=kas_runs (prog:=P0) (w:=c) (A:=o) (E:=y) (κ:=Oz) (it:=VB.zip Ve.toArray) (n:=n) (s:=⟨H,g,d,u,B⟩) (Q:=λ _ U r=>∃(p:Array Nat)(l:a7)(b:Nat),p.size=n/\TX U=p.map (Lp (VB.zip Ve.toArray))/\failedOf U=none/\(p.toList.Perm (a1 n)/\p.toList.Pairwise (dD O))/\r=⟨l,g,d,b,B⟩/\e1 z (a+316) VD VE x VB Vu l) (G:=λ p r=>(p.size=n/\p.toList.Perm (a1 n)/\p.toList.Pairwise (dD O))/\∃l b,r=⟨l,g,d,b,B⟩/\e1 z (a+316) VD VE x VB Vu l) L VS (λ Wh U r V Y VL Wi=>by obtain⟨VM,l,b,VN,V2⟩:=Wi;exact sL Wh l b V Y VL VM.2 VN V2) (wj (I:=λ r=>∃l b,r=⟨l,g,d,b,B⟩/\e1 z (a+316) VD VE x VB Vu l) (λ i j VO VP C r VQ V7=>FI K V6 J Wb VO VP VQ V7) (λ p r Wd VQ=>⟨Wd,VQ⟩) (Ey (e3 L (aE true))) ⟨H,u,rfl,S⟩);refine af (aG run ?_ λ _ _ Vu=>Vu);rintro⟨⟨⟩,U⟩r⟨p,l,Wl,V,Y,VL,⟨VM,VN⟩,rfl,V0⟩;exact FJ V0 Wc V9 V8 J N VS Wa V Y VL VM VN V'
def FL{g:Array KI}{d:Qb}{L:J7}{Y VV VW VZ:ae}{k n u:Nat}{VS:Nat->Nat}{V1:Nat->Nat->Int}{VY:List (ae×Obj)}{P:Jl->aa->Prop}(K:lQ c.params w c k n VS V1 s (bo c.params Vy h Q Vq Vz a b Y VV VW VF) a Y VV VW VZ VY)(VL:Rm (k+2,true) o)(kp:KO s Vm)(VM:s.get? Vw=none)(H:Vm.get? Vw=some (L4 "list" Ve.toArray 0))(B:Ve.length=n)(V3:2<=n)(z:n<64)(VN:∀(i:Nat)(v:ab),Ve[i]?=some v->∃Vy,v=.int i Vy)(V4:∀(l:a7)(b:Nat)(p:List Nat)(VT:Array ab)(V0:Nat),(KO s l)->l.get? Vw=some (L4 "list" VT V0)->p.Perm (a1 n)->p.Pairwise (dD VS)->M' VT.toList (p.map Ln)->P (.done (.ret .none)) ⟨l,g,d,b,L⟩):aA (au P0 c) o (ksk_tree Vw (.ref (a+316)) ap) P y ⟨Vm,g,d,u,L⟩:=by
 refine ai (⟨_,Ql H λ _=>#[]⟩:∃M,(Vm.update Vw (wx λ _=>(#[]:Array ab))).get? Vw=some (L4 "list" #[] M)) λ M VQ=>?_;have VP:((Vm.update Vw (wx λ _=>(#[]:Array ab))).push (L4 "tuple" Ve.toArray 0)).objs.size=Vm.objs.size+1:=by simp only[IG,O7]
 have O:s.get? ((Vm.update Vw (wx λ _=>(#[]:Array ab))).push (L4 "tuple" Ve.toArray 0)).objs.size=none:=by
   rcases q:s.get? ((Vm.update Vw (wx λ _=>(#[]:Array ab))).push (L4 "tuple" Ve.toArray 0)).objs.size with _|C;·rfl
   · have :=az (kp _ C q);rw[VP]at this;exact absurd this (b'.mpr (I7 _))
 have N:Vw≠((Vm.update Vw (wx λ _=>(#[]:Array ab))).push (L4 "tuple" Ve.toArray 0)).objs.size:=by simp only[VP];exact br (gb (az H))
 unfold ksk_tree;refine al (listItems_at H rfl ?_);refine al (O8 H rfl ?_ (by rw[I',LM];exact j4 (j4 (j6 B) (j5 z)) (j4 bE gx)) (dk _));refine al (seqEpoch_at VQ rfl ?_);refine al (wpAny_newTuple ?_ (by show Ve.length<=_;rw[LM];exact j4 (j4 (j6 B) (j5 z)) (j4 bE gx)));refine al (Rh (aK ?_) (dk _));unfold ksk_rest;refine al (Jw ?_);rw[List.forIn_toArray];show aA (au P0 c) o (QZ Ve MY _>>=_) _ _ ⟨_,g,d,u,L⟩;generalize V5:((Vm.update Vw (wx λ _=>(#[]:Array ab))).push (L4 "tuple" Ve.toArray 0)).objs.size=V6 at O N;refine al (ksk_fold (λ i V=>∃(l:a7)(b:Nat)(J:Array ab)(e:Nat),V=⟨l,g,d,b,L⟩/\J.size=i/\e1 s (a+316) Vw V6 M J e l) Ve 0 _ ⟨_,_,#[],0,rfl,rfl,λ G C q=>ao _ (ao _ ((λ G C q=>((gR Vm Vw (wx λ _=>(#[]:Array ab))).2 G λ e=>by simp only[e,VM]at q;exact aQ q).trans (kp G C q)) G C q)),by refine V5▸?_;exact aF _ rfl,ao _ (ao _ VQ),λ j x q=>by simp at q⟩ ?step ?done);case step=>
   rintro j x V VR⟨l,Wa,J,e,rfl,r,I⟩;refine ai (VN j x VR) ?_;rintro Wd rfl;simp only[Im]at r⊢;have VO:j<n:=B▸(a8.mp VR).1;refine al (Mh (Fu (Vu:=k) VL (K.left.keeps I.keep) (K.ex.keeps I.keep) (oe λ q U=>I.keep _ _ (K.og q U).2) (K.c0.keeps I.keep) (λ q U=>I.keep _ _ (K.og q U).2) λ x Wb Wc We V7 V8 V9 V' VU=>?_));refine al (O8 (VU _ _ I.ks) rfl ?_ (by simp only[r,LM];exact j4 (j4 (j5 VO) (j5 z)) (j4 bE gx)) (by simp only[Po,r,LM];exact j4 (j4 (hz VO) (j5 z)) (j4 bE dG)));refine ai (I.push O N V7 V8 (by rw[r];exact V9) V' VU) λ V2 VX=>?_;exact ah ⟨rfl,_,_,_,V2,rfl,by simp only[Po,r],VX⟩
 case done=>
   rintro V⟨l,Wa,J,e,rfl,r,I⟩;exact al (listItems_at I.ks rfl (FK K VL I O VM N (r.trans ((Im _).trans B)) B V3 z VN V4))
def FM{g:Array KI}{d:Qb}{J:J7}{v L M O:ae}{k n u:Nat}{C:Nat->Nat}{Y:Nat->Nat->Int}{N:List (ae×Obj)}(K:lQ c.params w c k n C Y s (bo c.params Vy h Q Vq Vz a b v L M VF) a v L M O N)(x:Rm (k+4,true) o){VW VX VY:Tok}(VS:R8 s Vw 0 n 1 VW VX VY)(VL:2<=n)(i:n<64)(VN:∀(D:ae)(e:a7)(b:Nat)(p:List Nat)(l:List ab),(KO s e)->s.get? D=none->e.PlainList D l.toArray->p.Perm (a1 n)->p.Pairwise (dD C)->M' l (p.map Ln)->Vh (.ref D) ⟨e,g,d,b,J⟩):aA (au P0 c) o (I3 (.builtin "sorted") [.ref Vw] [(ac "key",.ref (a+316))]) Vh y ⟨s,g,d,u,J⟩:=by
 refine call_function_entry_kw kind_sorted plain_sorted entry_sorted (ksk_s1 _ _) ?_;unfold Builtin.«sorted»;refine af (m:=checkCount "sorted" 1 1 _) (ah (af (FC (x.calm rfl) VS (me i (aE true)) λ l V0 z VO kp=>(aj λ VZ=>?_))));refine aW kp λ B V1 VV G=>?_;obtain rfl:=VV;refine VZ ?_;refine af (Rh ?_ (by simp only[LM];exact j4 (j4 (j6 z) (j5 i)) (j4 bE gx)));have H:s.get? B.objs.size=none:=by
  rcases q:s.get? B.objs.size with _|j;·rfl
  ·exact absurd (az (G _ j q)) (Iy _)
 refine af (aK (wpAny_call_entry_kw Vb ⟨_,aF _ rfl,rfl⟩ UG ?_ (ksk_l1 _ _)));simp only[ksk_t1];refine FL K x.in1.in1 (λ U j q=>ao _ (G U j q)) H (aF _ rfl) z VL i VO λ e b p VU V VT VM VR VQ VP=>⟨_,rfl,ah ⟨_,rfl,?_⟩⟩;exact VN _ e b p VU.toList VT H ⟨V,by simp only[Q1];exact VM⟩ VR VQ VP
def Fn.range:Fn u (.type "range") [I a] (.gg 0 a 1):=λ X w A g s h E L c r=>by
 refine aj λ f=>?_;refine ak r.one λ i d q=>?_;obtain rfl:=d;refine ai q.int ?_;rintro t rfl;exact f (call_range_1 ⟨⟨_,_,_,_,rfl,c.fresh (aB _),OJ ..⟩,Kp.mk' λ b o e=>ao _ e⟩)
def FB.FN(F:FB bH w c o g E q i D Vg Vp Y H)(d:¬gm w E Y h):ff o h:=⟨λ a=>d ((F.nU rfl).tab h a),λ a=>d ((F.nU rfl).fa h a)⟩
def FB.FO{h:Jk}{lp np VL:Pos}{C:ae->List (ae×Obj)->Prop}(V2:fT g i D h z VK C)(V1:∀n,(n,cM)∈VK.names->g.names.lookup n=some .cell)(V0:∀E,Pc h E=([],[]))(VY:Ev (a+1,true) g i (.Name j np) (.raw (.ref 125)))(VM:Rm (a+1,true) o)(F:FB bH w c o g E q i D Vg Vp Y H)(VX:∀K t u r B G p L d,KL c.params K t r B G->C p L->(∃e M,(p,e)∈L/\e.data=.func M)->u.data=.cell (some (.ref p))->(∀b∈(t,u)::r,¬gm w E Y b.1/\d.heap.get? b.1=some b.2)->(∀b∈L,¬gm w E Y b.1/\d.heap.get? b.1=some b.2)->d.heap.CodeRec (.ref B) (cp 0 [] 0 .none).qualname->d.heap.CodeRec (.ref G) (cp 1 [] 0 .none).qualname->Kq true o H d->FB bH w c o g E q i D Vg Vp Y d->Vh (.ref K) d):aA (au P0 c) o (He (.Call (.Name j np) [.Lambda h z VK lp] [] VL) E) Vh y H:=by
 refine dr (VY.use VM F.er (Kp.refl H) λ v V6 V5 _ VO VS=>(aj λ V9=>?_));obtain rfl:v=.ref 125:=V5;have VN:∀VQ E,bD (Pk h z VK lp::VQ) E=(ap,He (.Lambda h z VK lp) E)::bD VQ E:=by intros;rfl
 have N:∀c,fI c 125:=de λ P=>⟨_,wG.fn P⟩;refine aW (N c _ VS.left) λ e M V3 VZ=>V9 ?_;have U:aA (au P0 c) o (Qu (L9 VL (bD [Pk h z VK lp] E))) (λ vs d=>(d.heap.get? 125=some e/\e.data=.func M)/\aA (au P0 c) o (I3 (.ref 125) vs) Vh y d) y V6:=by
  refine IP (V2.make V1 V0 (F.kp VO) λ p L V' VU N l x V=>(Lx ⟨⟨V.ext.keep 125 e (λ _=>⟨(by decide:¬c8 125=true),(λ f=>absurd ((F.bi rfl).dA.fa f).1 (by decide))⟩) V3,VZ⟩,?_⟩)) (VN _ _);refine E8 VM l.er.left l.q0 (l.nU rfl) x λ K t u r B G V7 VV V4 VW VT c1 J VR=>?_;exact VX K t u r B G p L V7 VV VU N V4 VW (λ b T=>⟨(x.2 b T).1,J.ext.keep _ _ (λ _=>l.FN (x.2 b T).1) (x.2 b T).2⟩) VT.2 c1.2 ((Kp.kq VO).trans (V.trans J)) (l.kt rfl J VR)
 rw[VN]at U⊢;exact rS (b1 U)
def cZ.FP{J:Jk}{M:aw}{lp np V2 kp VV VS:Pos}{H:Nat->Nat}{G:Nat->Nat->Int}{VT:List Nat}(Wh:fT VK i D J z M λ C L=>∀h l,h<b->l<b->gQ (a+1,true) (.ref C) L [I h,I l] (I (G h l)))(Wc:∀h l,h<b->l<b->bF (G h l<0)=d1 H h l)(Wf:∀b,(b,cM)∈M.names->VK.names.lookup b=some .cell)(Wd:∀e,Pc J e=([],[]))(Wq:Ev (a+4,true) VK i (.Name Vf VV) (.raw (.builtin "sorted")))(Wo:Ev (a+4,true) VK i Vn (.gg 0 b 1))(Wb:Ev (a+4,true) VK i (.Name j np) (.raw (.ref 125)))(V4:2<=b)(V5:b<64)(Wl:∀p:List Nat,p.Perm (a1 b)->p.Pairwise (dD H)->p=VT)(Wp:autoParam (∀VU e,bD (Vn::VU) e=(ap,He Vn e)::bD VU e) bc):cZ bH (a+4,true) VK i D (.Call (.Name Vf VV) [Vn] [⟨some (ac "key"),.Call (.Name j np) [.Lambda J z M lp] [] V2,kp⟩] VS) (Ls (VT.map Ln)):=λ X w A B e WE s E Q m WC O F Wa=>by
 refine Tl (Wq.use B F.er (Kp.refl s) λ v WF Wu _ VN WA=>?_);obtain rfl:v=.builtin "sorted":=Wu;have VM:L9 VS (bD [Vn] e)=(ap,He Vn e)::[]:=by rw[Wp];rfl
 have N:=F.kp VN;refine callWith_builtin_kwB (by rw[VM];rfl) rfl ?_;refine VM.symm▸(evalArgs_kwB rfl (N7 (Wo.use B N.er (Kp.refl _) λ WK WG Wv VO _ WB=>Oy ?_)));have U:=N.kp VO;refine kws_cons (FB.FO (a:=a+3) Wh Wf Wd Wb B U λ K c Ws Wz VX VY C L o V9 V6 We Wj VL V' V1 c1 V x=>kws_nil (aj λ Wx=>?_));obtain⟨t,T,SL,ST,f,VQ,Ww,V3,rfl,rfl⟩:=V9;refine o6 (RV.kq (λ _ V0 Wr=>U.Ea rfl V0 Wr) V Wv) λ r WH WI WJ Wt WD Wn=>?_;obtain rfl:=Wt;refine Wx ?_;have VZ:lQ w.params (gm X e O) w a b H (λ h l=>G h l) o.heap (bo w.params t T SL ST f VQ Ww c VX VY V3) VQ c VX VY C L:=⟨x.er.left,x.q0,λ q Wm=>VL q (.tail _ Wm),⟨Ws,(VL _ (.head _)).2,Wj⟩,V',We,V6,Wc,V1,c1⟩;refine(FM (y:=E) (Vh:=Q) (g:=o.gens) (d:=o.drawn) (J:=o.os) (u:=o.toks) VZ B Wn V4 V5) λ Wy Y VW p vs keep V8 V7 Wk Wi Wg=>?_;obtain rfl:=Wl p Wk Wi;have VP:Kp o ⟨Y,o.gens,o.drawn,VW,o.os⟩:=⟨Y,VW,rfl,keep⟩;exact Wa _ _ (x.kp VP) (.gD (x.er.ex.jU V8) V7 (qi _ Wg)) ((Kp.kq VN).trans ((Kp.kq VO).trans (V.trans (Kp.kq VP))))
def FQ{R:JJ->aa->Prop}{ba i f:b7}{d:Mk}{e b:ab}(l:JO (au Vl c) o (.compLoop (.ListComp ba [d,⟨i,f,Vt,0⟩] g v) 1 e b E) R q)(h:aA (au Vl c) o (LA e) (λ j a=>JO (au Vl c) o (.compLoop (.ListComp ba [d,⟨i,f,Vt,0⟩] g v) 1 j b E) R a) (PA (au Vl c) o E λ x a=>R (.error x) a) q):JO (au Vl c) o (.compStart (.ListComp ba [d,⟨i,f,Vt,0⟩] g v) 1 e b E) R q:=by
 refine Mu (wpAny_notedAt ?_);unfold compStart;refine al (IR (wpAny_ite ?_));split;·exact ah (Pp rfl l)
 ·exact al (Jw (al (It (al (aG h (λ j a k=>ah (Pp rfl k)) λ _ _ x=>x)))))
def he.FR{ba O G:b7}{VO:Mk}{t:List (Str×ae)}{B:List (Str×PV)}(H:List Vd)(it:Vd->PV)(J:Vd->List (Str×PV))(z:Vd->Bool)(f:Vd->bP)(Wf:dJ VK g)(VP:Rm u o)(R:bq w c g E q.heap i)(Wk:∀n z,t.lookup n=some z->E.cells.lookup n=some z)(Wl:∀n,(n,cM)∈VK.names->∃z,t.lookup n=some z)(WE:bg u (bQ VK g) (B++cj VK i) G O (H.map it))(Wi:∀y∈H,BindsTo O (it y) (J y))(Wr:∀x∈H,∀y j,(J x).lookup y=some j->VK.names.lookup y=some .local)(V1:∀y j,B.lookup y=some j->VK.names.lookup y=some .local)(Wc:∀x∈H,∀y j,B.lookup y=some j->(J x).lookup y=none)(Wn:∀y∈H,eG u (bQ VK g) ((J y++B)++cj VK i) Vt (z y))(Wm:∀y∈H,z y=true->Ev u (bQ VK g) ((J y++B)++cj VK i) ba (.d (f y)))(Wh:∀b,VG b->w b\/q.heap.get? b=none)(VR:VG Q)(VQ:VG h)(V2:Q≠h)(WA:q.heap.get? Q=none)(Wz:q.heap.get? h=none)(Wt:∀E x,Ad G E x=jB x):he VG c o (bQ VK g) q h Q (IB VK t h E) (B++cj VK i) [] (do
       let x<-He G (IB VK t h E)NL G.pos let x<-Ad G (IB VK t h E) x let _<-US (.compStart (.ListComp ba [VO,⟨O,G,Vt,0⟩] VK v) 1 (<-Mj [x] (LA x)) (.ref Q) (IB VK t h E)) (IB VK t h E)) ((H.filter z).map f):=λ T WP WR m VN VW Wp Wu V4 VZ VM Wg=>by
 refine af (aG (WE VG c o VP (IB VK t h E) _ VM (λ VV M=>aA (au P0 c) o (do let _<-US (.compStart (.ListComp ba [VO,⟨O,G,Vt,0⟩] VK v) 1 VV (.ref Q) (IB VK t h E)) (IB VK t h E)) VZ VM M) VN ?_) (λ x WF Ww=>?_) λ _ _ e=>e);rotate_left
 · rw[Wt];exact af (It (af (ah (af (aK Ww)))))
 intro VV WF Y WL VL St WK N V6 Wy We Fd VS WN V5 V3;refine aj λ WJ=>aW (V6.trans Wy) λ WO WQ V0 Wx=>?_;have U:∀b p,T.get? b=some p->¬VL b:=λ b p e j=>absurd (az (V6.keep b p e)) (b'.mpr (V5 b j));have L:KO T Y.heap:=by rw[V0];exact Wx
 have WD:∀{b p},¬VG b->T.get? b=some p->¬(VG b\/VL b)/\Y.heap.get? b=some p:=λ{b p}VY e=>⟨λ j=>j.elim VY (U b p e),L b p e⟩;have Wd:∀y j,B.lookup y=some j->∃V',m y=some V'/\RV (λ b=>VG b\/VL b) Y.heap V' j:=λ y j e=>by
   have V:=VN.vars y j (by rw[hd,e];rfl);unfold cc at V;rw[show(IB VK t h E).kindOf y=(VK.names.lookup y).map (gH g y)from(by show(Qv VK E).names.lookup y=_;rw[na R.scope];exact nb g y VK.names),V1 y j e]at V;have V:m5 VG (IB VK t h E) T y j:=V;obtain⟨VX,WH,a,b,r⟩:=V;have :VX=m:=a.eq_nsMap.trans V4.eq_nsMap.symm;obtain rfl:=this.symm;exact⟨WH,b,r.shift λ b p VY e=>WD VY e⟩
 have V7:∀V9,JO (au P0 c) o (.compLoop (.ListComp ba [VO,⟨O,G,Vt,0⟩] VK v) 1 VV (.ref Q) (IB VK t h E)) (λ r M=>match r with|.ok _=>VZ () M|.error e=>NR (au P0 c) o (IB VK t h E) VM e M) {q with heap:=Y.heap,toks:=V9}:=λ V9=>by
   refine tR (B:=B) (VG:=λ b=>VG b\/VL b) (Wp:=do let _<-I3 (.builtin "list.append") [.ref Q,<-He ba (IB VK t h E)]) H it J z (λ y=>[f y]) Wf Wi Wr V1 Wc Wn VP R Wk Wl rfl (λ y Wv Wj=>he.ba VP (Wm y Wv Wj) (.inl VR) (.inl VQ) V2) Fd (λ b j=>?_) (λ b j=>?_) (.inl VR) (.inl VQ) (λ b j=>.inr j) V2 WA Wz (λ b j=>⟨λ e=>V3 b j (e▸VR),λ e=>V3 b j (e▸VQ)⟩) (λ b p e=>U b p (VW b p e)) (λ b p e=>L b p (VW b p e)) VS (Wp.at λ p e=>L _ p e) (V4.keeps L) Wd (λ b j=>?_) ?_ λ vs as h' WG VX Wq V8 Ws WM Wo=>?_
   · rcases j with j|j;·exact Wh b j
     · refine .inr ?_;rcases e:q.heap.get? b with _|p;·rfl
       ·exact absurd j (U b p (VW b p e))
   ·exact(We b).mpr (j.elim .inl λ j=>.inr ((λ b j=>cW (V5 b j)) b j))
   · rcases j with j|j;·refine ai (VN.ex b j) λ p e=>?_;exact⟨p,L b p e⟩
     ·exact Fd.there _ _ VS b (Fd.sub b j)
   · have e:∀l:List Vd,l.flatMap (λ y=>[f y])=l.map f:=λ l=>by induction l with|nil=>rfl|cons a l VT=>simp[VT]
     rw[e];exact Wu
   · have e:∀l:List Vd,l.flatMap (λ y=>[f y])=l.map f:=λ l=>by induction l with|nil=>rfl|cons a l VT=>simp[VT]
     rw[e]at V8;exact Wg vs as h' WG VX Wq (nf (λ b j=>.inl j) V8) Ws (λ _ _ e=>by cases e) λ b p WC WB e=>Wo b p (U b p e) WC WB (L b p e)
 subst V0;refine WJ (af (wpAny_runOwn (A:=o) (MB (FQ (V7 _) (Fd.self 0 _ _ _ VS (V7 _))) λ r M j=>?_)));rcases r with e|f;·exact j
 ·exact ah j
def FS(ba b e l a:b7)(d h:List b7)(k:aw)(j:Pos)(f g:ab)(VL:Env):QL (.ListComp ba [⟨b,e,d,0⟩,⟨l,a,h,0⟩] k j) 0 f g VL=(do
  NL e.pos match<-KN f with
  |none=>jB (.done .next)|some v=>
   Jn b f v
   assign b VL v let mut i:=true
   for VN in d do if i then i<-isTrue VN VL (He VN VL)
   if i then(do
    let VM<-He a VL
    NL a.pos let VM<-Ad a VL VM let _<-US (.compStart (.ListComp ba [⟨b,e,d,0⟩,⟨l,a,h,0⟩] k j) 1 (<-Mj [VM] (LA VM)) g VL) VL)
   again (.compLoop (.ListComp ba [⟨b,e,d,0⟩,⟨l,a,h,0⟩] k j) 0 f g VL)):=by
 simp only[QW,pure_bind];rfl
def Ev.FT{r H:Type}{ba M L O p:b7}{U V:List b7}(a:List r)(Y:r->PV)(j:r->List (Str×PV))(c:r->Bool)(h:r->List H)(VL:H->PV)(t:H->List (Str×PV))(B:r->H->Bool)(f:r->H->bP)(G:dJ VK g)(Wh:bg u g i L M (a.map Y))(VX:∀x∈a,BindsTo M (Y x) (j x))(VP:∀x∈a,∀y q,(j x).lookup y=some q->VK.names.lookup y=some .local)(V3:∀x∈a,eG u (bQ VK g) (j x++cj VK i) U (c x))(Wi:∀x∈a,c x=true->bg u (bQ VK g) (j x++cj VK i) p O ((h x).map VL))(VY:∀x∈a,∀y∈h x,BindsTo O (VL y) (t y))(V5:∀x∈a,∀z∈h x,∀y q,(t z).lookup y=some q->VK.names.lookup y=some .local)(VR:∀x∈a,∀z∈h x,∀y q,(j x).lookup y=some q->(t z).lookup y=none)(V4:∀x∈a,∀y∈h x,eG u (bQ VK g) ((t y++j x)++cj VK i) V (B x y))(V1:∀x∈a,∀y∈h x,B x y=true->Ev u (bQ VK g) ((t y++j x)++cj VK i) ba (.d (f x y)))(V8:((a.filter c).flatMap λ x=>((h x).filter (B x)).map (f x)).length<=a9)(V6:autoParam (∀l x,Ad L l x=jB x) bc)(V9:autoParam (∀l x,Ad p l x=jB x) bc):Ev u g i (.ListComp ba [⟨M,L,U,0⟩,⟨O,p,V,0⟩] VK v) (Li ((a.filter c).flatMap λ x=>((h x).filter (B x)).map (f x))):=λ X w A Q l s E R=>by
 simp only[Ro];refine aj λ Wj=>?_;refine ci (nd (E:=l) (g:=VK) λ n T=>R.cells n (by unfold KP;refine(R.scope).symm▸?_;exact G.free n T)) λ cl V0 VN VO=>?_;refine Wj (Nb (use:=none) rfl (V6 l) V0 G.kind G.names (Wh X w A Q l s E _ R λ Wq Ws Wt Wn Wu St Wk N Wa Wb VT Fd V7 V2 V' _=>?_));refine tS (V4:=λ D J=>do
   let x<-He p J
   NL p.pos let x<-Ad p J x let _<-US (.compStart (.ListComp ba [⟨M,L,U,0⟩,⟨O,p,V,0⟩] VK v) 1 (<-Mj [x] (LA x)) (.ref D) J) J) a Y j c _ G VX VP V3 V8 Q R none VN VO (λ _ _ _=>FS ..) (λ XX C D VW VV VU VM We Wd x m VZ=>he.FR (h x) VL t (B x) (f x) G Q R VN VO (Wi x m VZ) (VY x m) (V5 x m) (VP x m) (VR x m) (V4 x m) (V1 x m) VW VV VU VM We Wd V9) Wa Wb VT Fd V7 V2 V' λ D C Wr Wc _ VS Wp VM T Wg kp=>⟨Wc,T,λ h' VQ=>⟨?_,?_⟩⟩;·exact(Wg.b0 λ b o Wf e=>VQ.extBut b o (λ q=>Wf (.inr q)) e).mono λ b q=>.inl q
 ·exact kp.re λ b o e=>VQ.extBut b o (λ q=>by obtain rfl:=q.symm;exact bN VS e) (kp.keep b o e)
theorem wN{w:ar}{A:aq}{E:ab->aa->Prop}{I b:ae}{a:Array ab}(m:A.handled=none)(j:b≠I):∀(n i:Nat)(s:aa)(Q:List ab->aa->Prop),s.heap.IsListIter I b i->s.heap.IsList b a->i+n<=a.size->(∀c,c.IsListIter I b (i+n)->Js I s.heap c->Q ((a.toList.drop i).take n) {s with heap:=c})->aA (au P0 w) A (draw (.ref I) n) Q E s
 |0,i,s,Q,e,_,_,d=>ah (by simpa using d s.heap e (Nl ..))|n+1,i,s,Q,e,f,g,d=>by
  have h:i<a.size:=by exact jg g
  refine al (wpAny_pyNext_list_item e f (x:=a[i]) (by simp[h]) λ t o k=>?_);refine al (aK (wN m j n (i+1) _ _ o (f.extBut k.extBut j) (hD g) λ r p q=>ah ?_));have l:a.toList.drop i=a[i]::a.toList.drop (i+1):=by simp[ht,h]
  have :=d r (by simp only[show i+(n+1)=i+1+n by exact mf];exact p) (k.trans q);simp only[l,K2]at this;exact this
def FU{Q:List ab->aa->Prop}(i:o.handled=none)(d:q.heap.IsList h VB)(k:∀g r,(KO q.heap g)->Q VB.toList {q with heap:=g,toks:=r}):aA (au P0 c) o (P8 (.ref h) VB.size none) Q y q:=by
 have f:h≠q.heap.objs.size:=by refine ak d λ a n _=>?_;exact br (az n)
 have ne:∀b a,q.heap.get? b=some a->b≠q.heap.objs.size:=λ b a e=>br (az e);unfold P8;refine al ?_;unfold T5;refine al (NX d.typeIs slot_list_iter.lookup (ah ?_));simp only[cT,if_false];refine al (aK (M3 d (al (aK (wN i f VB.size 0 _ _ ⟨_,aF _ rfl,rfl,rfl⟩ (d.push _) (iu sh) λ u m j=>?_)))));rw[show Vc VB.size (SE 0 VB.toList)=VB.toList by rw[Lz];exact lu (aB _)];refine bT (by simp) ?_;refine al (aK ((PC i _ h f VB).done _ _ _ ⟨by simpa using m,(d.push _).extBut j.extBut f⟩ λ p t l=>?_));simp only[Ra,cT,if_false];exact ah (k p t λ b a e=>l b a (by simpa using ne b a e) (j.extBut b a (ne b a e) (ao _ e)))
def FB.wO{Q:Unit->aa->Prop}{l n:ab}{p b:bP}(N:o.handled=none)(F:FB A w c o g E q i D Vg Vp Y H)(T:H.heap.IsList h #[l,n])(VT:RV (aL w E Y) H.heap l (.d p))(VU:RV (aL w E Y) H.heap n (.d b))(VL:ce g j=true)(VM:ce g Vf=true)(M:∀k VO G,FB A w c o g E q ((Vf,.d b)::(j,.d p)::i) (bu Vf (bu j D)) VO G Y k->aZ A o w E Y H Y k->Q () k):aA (au P0 c) o (Oq (.Tuple [.Name j v,.Name Vf J] a Vi) E (.ref h)) Q y H:=by
 simp only[T9];refine af (It ?_);unfold unpack;have U:(K5 [.Name j v,.Name Vf J] E).length=(#[l,n]:Array ab).size:=rfl;have V:(K5 [.Name j v,.Name Vf J] E).findIdx? (·.1)=none:=rfl;simp only[U,V];refine af (aK (FU N T λ r u f=>?_));have kp:Kp H {H with heap:=r,toks:=u}:=⟨r,u,rfl,f⟩;exact Il (assign_Name ((F.kp kp).store (dL VL) (VT.keeps f) λ VY VX VW B t=>(Il (assign_Name (B.store (dL VM) ((VU.keeps f).b0 λ b VR VQ e=>t b VR (λ VS=>VQ (.inl (.inr VS))) e) λ VV VP L C VN=>J8 (M VV VP L C ((aZ.bR F.hO kp).trans ((aZ.dn F.hO t).trans (.dn F.hO VN)))))))))
def St.FV{l b:bP}(r:u.2=true)(h:Ev u g i z (Li [l,b]))(C:ce g j=true)(G:ce g Vf=true)(t:autoParam (∀c,Rk [.Tuple [.Name j v,.Name Vf J] a Vi] z VC.line c=jB ap) cN)(B:autoParam (∀c,J' [.Tuple [.Name j v,.Name Vf J] a Vi] z c=jB none) cN):St A u g i D (.Assign [.Tuple [.Name j v,.Name Vf J] a Vi] z VC) (.next ((Vf,.d b)::(j,.d l)::i) (bu Vf (bu j D))):=λ X w V n c VP s E m VM O F=>by
 refine Mw (h.use n F.er (Kp.refl s) λ VR VO N kp _ _=>(aj λ U=>?_)) (t c) (B c);refine bI N.list λ VL vs Y M VN L f=>?_;obtain rfl:=M;refine du (eT f) λ _ _ _ _ _ _ Q f=>?_;obtain⟨_,_,_,_,rfl,_,T,f⟩:=eT f;obtain⟨rfl,_⟩:=gi f;subst_vars;exact U ((F.kp kp).wO (a:=a) (n.calm r) L.isList ⟨_,Q⟩ ⟨_,T⟩ C G λ VQ H p o q=>⟨rfl,H,p,O,o,(aZ.bR F.hO kp).trans q⟩)
def St.FW{y z o:Str}{f h j l r:Pos}{q b:bP}(L:u.2=true)(N:D.lookup o=some (.p [q,b]))(VS:g.names.lookup o=some .local)(U:ce g y=true)(V:ce g z=true)(M:autoParam ((o==("__debug__":Str))=ap) ew)(Q:autoParam (∀c,Rk [.Tuple [.Name y h,.Name z j] a l] (.Name o f) r.line c=jB ap) cN)(T:autoParam (∀c,J' [.Tuple [.Name y h,.Name z j] a l] (.Name o f) c=jB none) cN):St A u g i D (.Assign [.Tuple [.Name y h,.Name z j] a l] (.Name o f) r) (.next ((z,.d b)::(y,.d q)::i) (bu z (bu y D))):=λ X w VN J c VT s E m VQ O F=>by
 refine aj λ n=>?_;obtain⟨VP,vs,C,G,VR,H,as,e⟩:=F.own o _ N;refine n ?_;refine Mw (L7 (On (by refine(F.er.scope).symm▸?_;exact F.er.kind) C F.ns G ?_) M) (Q c) (T c);refine aj λ n=>du (eT e) λ _ _ _ _ _ _ VL e=>?_;obtain⟨_,_,_,_,rfl,_,VM,e⟩:=eT e;obtain⟨rfl,_⟩:=gi e;subst_vars;exact n (F.wO (a:=a) (J.calm L) H.isList ⟨_,VL⟩ ⟨_,VM⟩ U V λ VU Y v t B=>⟨rfl,Y,v,O,t,B⟩)
def gQ.wP{o u:Obj}{d:Iv}{H:Jk}{e:List (Str×ae)}{B:List (ae×Obj)}(VN:o.data=.func d)(D:ho d j H z g e)(VL:d.code=.ref Q)(VP:u.data=.fields VB)(VR:VB[1]?=some (.str j Vv))(S:vn g G e)(VO:G.length=Vk.length)(Y:∀d,ho d j H z g e->∀y,y.length=Vk.length->J6 d ⟨y,[]⟩=jB (G.zip y))(VM:∀(X:ae->Prop)(l:a7),(∀p∈B,¬X p.1/\l.get? p.1=some p.2)->∀n p,i.lookup n=some p->g.names.lookup n=some .free/\∃C v,e.lookup n=some C/\l.IsCell C (some v)/\RV X l v p)(U:Ev (a,M) g (G.zip Vk++i) z V):gQ (a+1,M) (.ref h) ((h,o)::(Q,u)::B) Vk V:=λ X w A O s vs E L N t f=>by
 refine vm (i:=i) (G:=G) (Vk:=Vk) (t _ (.head _)).2 VN ?_ D.body D.mZ D.scope D.glob D.blt S.co S.gen S.kind S.cell S.loc S.nodup S.free O L N f VO (Y d D vs f.len) (VM X s.heap λ p VQ=>t p (.tail _ (.tail _ VQ))) λ J VV V1 m VX VY VZ T R kp ns=>?_
 · simp only[VL,D.qual];exact g2 Q u VB Vv rfl ((t _ (.tail _ (.head _))).2) VP VR
 ·exact aG (U _ w _ T J _ _ R) (λ v V0 VT=>by refine am VT λ f VS=>?_;exact dv (f.mono λ b j=>.inl j) (kp.trans VS)) λ _ _ x=>x
def gQ.l{L:List (ae×Obj)}(h:gQ u U L Vk V):h9 u U L Vk V:=λ X w A e s j E c d T f i=>aG (h X w A e s j E c d f i) (λ v l g=>by refine am g λ a b=>?_;exact b3 a b.kq (c.keeps b.keep)) λ _ _ x=>x
def fT.one{J:Jk}{C:ae->List (ae×Obj)->Prop}(VN:i.lookup j=some (.d VI))(Y:g.names.lookup j=some .cell)(VL:(j,cM)∈VK.names)(VM:VK.names.lookup j=some .free)(V:∀b,VK.names.lookup b=some .free->b=j)(h:∀a o l q y B t k f,o.data=.func l->ho l eS J z VK k->l.code=.ref q->y.data=.fields B->B[1]?=some (.str eS t)->(∀b,VK.names.lookup b=some .free->(k.lookup b).isSome=true)->(∀(X:ae->Prop)(h:a7),(∀p∈f,¬X p.1/\h.get? p.1=some p.2)->∀b p,[(j,PV.d VI)].lookup b=some p->VK.names.lookup b=some .free/\∃r v,k.lookup b=some r/\h.IsCell r (some v)/\RV X h v p)->C a ((a,o)::(q,y)::f)):fT g i D J z VK C:=λ X w A VX VY s m VW O k F Q T=>by
 refine aj λ VV=>o3 (F.Eb VN Y) λ r v f e H G=>ai (T j VL) λ M E=>?_;have :=Q j M E;cases aO e this;refine VV ?_;refine⟨f,H,λ a o l q y B t VO VP VQ VR VS=>h a o l q y B t k f VO VP VQ VR VS (λ b c=>by rw[V b c,E];rfl) λ L N U b p c=>?_⟩;simp only[aN]at c;refine gy (M:=b==j) (λ u=>?_) λ u=>?_;·rw[u]at c;exact aQ c
 · rw[u]at c;obtain rfl:=ax c;obtain rfl:=pW u;exact am (G L N U) λ VT VU=>⟨VM,r,v,E,VT,VU⟩
def fT.zero{j:Jk}{C:ae->List (ae×Obj)->Prop}(h:∀a o b c d e t f,o.data=.func b->ho b eS j z VK f->b.code=.ref c->d.data=.fields e->e[1]?=some (.str eS t)->C a ((a,o)::(c,d)::[])):fT g i D j z VK C:=λ X w A u y s m r O f F v x=>⟨[],λ _ h=>(nomatch h),λ a o b c d e t k l n p q=>h a o b c d e t f k l n p q⟩
noncomputable abbrev bV:aw:=a0 [36]
noncomputable abbrev bZ:List Io:=bB [36]
noncomputable def eo(l:List Int):List Int:=l.take 4++[97,8364,55297,97,10,233]
noncomputable def et(l:List Int):List Int:=(l.drop 4).take 4++[233,97,57344,57343,8364]
def FX(l:List Vd):eE l none (some 4)=l.take 4:=by
 have e:Lg l.length 4=min 4 l.length:=lB _ 4;show(l.drop 0).take (Lg l.length 4-0)=_;simp only[e,Lz,KU];by_cases h:4<=l.length;·rw[IZ h]
 ·rw[KW (j5 (j9 h)),lu (aB _),lu (j5 (j9 h))]
def FY(l:List Vd):eE l (some 4) (some 8)=(l.drop 4).take 4:=by
 have e:Lg l.length 4=min 4 l.length:=lB _ 4;have b:Lg l.length 8=min 8 l.length:=lB _ 8;show(l.drop (Lg l.length 4)).take (Lg l.length 8-Lg l.length 4)=_;rw[e,b];by_cases h:8<=l.length;·rw[IZ h,IZ (by exact e3 h (aE true))]
 · by_cases a:4<=l.length;·rw[IZ a,KW (j5 (j9 h)),lu (by simp),lu (by simp;exact j5 (j9 h))]
   · simp only[KW (j5 (j9 h)),KW (j5 (j9 a)),Ic (aB _),Ic (j5 (j9 a))];simp
noncomputable abbrev Lk:Lv:=(12,true)
noncomputable abbrev Dl(l:List Int):bP:=.list (l.map .int)
def lR{a b:List Int}(c:Ev Lk g i z (Ls a))(d:Ev Lk g i Vn (Ls b))(h:a.length+b.length<=1000):Ev Lk g i (.BinOp z .Add Vn v) (Ls (a++b)):=by
 have :=Ev.bJ (v:=v) (bb.m9 (l:=a.map .int) (m:=b.map .int) (by simpa using an h (by decide))) c d;rwa[<-fs]at this
def FZ(b:Ev Lk g i z (Ls B))(h:B.length<=1000):Ev Lk g i (.Subscript z (.Slice none (some (.Constant (.int 4) a J)) none v) Vi) (Ls (B.take 4)):=by
 have :=Ev.slice (v:=v) (J:=Vi) b .none (.some (Ev.int (C:=4) (a:=a) (v:=J))) (by simpa using an h (by decide));rw[FX,<-Od]at this;exact this
def F0(c:Ev Lk g i z (Ls B))(h:B.length<=1000):Ev Lk g i (.Subscript z (.Slice (some (.Constant (.int 4) a J)) (some (.Constant (.int 8) b Vi)) none v) VC) (Ls ((B.drop 4).take 4)):=by
 have :=Ev.slice (v:=v) (J:=VC) c (.some (Ev.int (C:=4) (a:=a) (v:=J))) (.some (Ev.int (C:=8) (a:=b) (v:=Vi))) (by simpa using an h (by decide));rw[FY,<-Qf,<-Od]at this;exact this
def F1(c:B.length<=63):St bH Lk bV [(nm "script",Ls B)] [] (bZ.getD 0 b2) (.next [(nm "rows",Li [Dl (eo B),Dl (et B)]),(nm "script",Ls B)] [(nm "told",.p [])]):=by
 have d:(1000:Nat)<=a9:=by decide
 refine St.u' (V:=Li [Dl (eo B),Dl (et B)]) (l:=.p []) rfl (Ev.list (Vo:=[Dl (eo B),Dl (et B)]) (e:=by show 2<=a9;decide) (.cons ?_ (.cons ?_ .nil))) (ei.nil (.inl rfl)) (by rfl) (by rfl) (nP (by rfl) (by rfl) (by rfl) (by rfl) (by decide) (by rfl) (by rfl) (by rfl));·exact lR (a:=B.take 4) (b:=[97,8364,55297,97,10,233]) (FZ Ev.nm (a2 c (aE true))) (Ev.list (Vo:=[.int 97,.int 8364,.int 55297,.int 97,.int 10,.int 233]) (e:=by decide) (.cons .int (.cons .int (.cons .int (.cons .int (.cons .int (.cons .int .nil))))))) (by simp;exact j4 fx bE)
 ·exact lR (a:=(B.drop 4).take 4) (b:=[233,97,57344,57343,8364]) (F0 Ev.nm (a2 c (aE true))) (Ev.list (Vo:=[.int 233,.int 97,.int 57344,.int 57343,.int 8364]) (e:=by decide) (.cons .int (.cons .int (.cons .int (.cons .int (.cons .int .nil)))))) (by simp;exact j4 fx bE)
def oh(x y:Str):Cp (x++y)=Cp x++Cp y:=by
 show(x.cps++y.cps).toList=_;simp
def oi(VL:Str):(Cp VL).length=VL.length:=by simp[Ox]
def wQ(VL:Str)(i:Nat):VL.cps[i]?=(Cp VL)[i]?:=by simp
theorem wR(l:List Int)(VL:Nat):∀j,∃R,Cp (bG l (VL+j)).1=Cp (bG l VL).1++R
 |0=>⟨[],(IY _).symm⟩|j+1=>by
  obtain⟨R,e⟩:=wR l VL j;refine⟨R++(Cp (cJ (VL+j) (l.getD (VL+j) 0))++Cp (hn (l.getD (VL+j) 0))),?_⟩;show Cp (((bG l (VL+j)).1++cJ (VL+j) (l.getD (VL+j) 0))++hn (l.getD (VL+j) 0))=_;simp only[oh,oh,e,kn,kn]
theorem wS(l:List Int)(VL:Nat):∀j,(bG l (VL+1+j)).2.getD VL 0=((bG l VL).1++cJ VL (l.getD VL 0)).length
 |0=>by
  show((bG l VL).2++[_]).getD VL 0=_;rw[av,Ja (by rw[(ia l VL).2];exact aB _),(ia l VL).2,Ng];rfl|j+1=>by
  simp only[<-wS l VL j];show((bG l (VL+1+j)).2++[_]).getD VL 0=_;rw[av,GZ (by rw[(ia l _).2];exact bA iy dG),av]
def F2:∀d,d<16->eg (lC.cps.getD d 0) d:=by
 intro d VL;have :∀d,d<16->(gM (lC.cps.getD d 0)=true/\Pf (lC.cps.getD d 0)=some d):=by decide+kernel
 exact b3 ((this d VL).1) ((this d VL).2) VL
def F3:∀d,d<16->eg (lD.cps.getD d 0) d:=by
 intro d VL;have :∀d,d<16->(gM (lD.cps.getD d 0)=true/\Pf (lD.cps.getD d 0)=some d):=by decide+kernel
 exact b3 ((this d VL).1) ((this d VL).2) VL
def F4(n:Int)(h:a<16):eg ((fk n).cps.getD a 0) a:=by
 unfold fk;split;·exact F2 a h
 ·exact F3 a h
noncomputable def hr(n:Int)(j:Nat):Nat:=(fk n).cps.getD (n/16^j%16).toNat 0
def oj(n:Int)(VM:Nat):eg (hr n VM) (n/16^VM%16).toNat:=F4 n sC
def F5(n:Int):Cp (hn n)=[hr n 3,hr n 2,hr n 1,hr n 0]:=rfl
def rt(m M:Int)(h:0<M):(m/16%M).toNat*16+(m%16).toNat=(m%(16*M)).toNat:=by
 have e:m%(16*M)=m%16+16*(m/16%M):=by rw[QX,QX m,QX (m/16),<-QD (by decide),Int.mul_sub,<-Int.mul_assoc,<-Int.add_sub_assoc,Mv]
 refine aj λ f=>ai (M2 (JB (m/16) (Int.ne_of_gt h))) λ a c=>ai (M2 (JB m (show(16:Int)≠0 by decide))) λ b d=>f ?_;simp only[e,c,d,show(b:Int)+16*(a:Int)=((b+16*a:Nat):Int)from rfl,b4,b4,b4,IE,Ul]
def F6(n:Int):((((n/16^3%16).toNat*16+(n/16^2%16).toNat)*16+(n/16^1%16).toNat)*16+(n/16^0%16).toNat)=(n%65536).toNat:=by
 have e:∀j,n/16^j/16=n/16^(j+1):=λ j=>by rw[QD (Mq (Int.pow_pos (by decide))),Int.pow_succ]
 simp only[<-e 2,rt _ 16 (by decide),<-e 1,rt _ (16*16) (by decide),<-e 0,rt _ (16*(16*16)) (by decide)];simp only[Int.pow_zero,QY];rfl
def F7{P R:List Nat}(h:Cp j=P++(Cp (cJ b C)++a::R))(l:eY a=ap)(g:a≠35):fh j P.length (P.length+(cJ b C).length):=by
 have d:∀i,j.cps[P.length+i]?=(Cp (cJ b C)++a::R)[i]?:=λ i=>by rw[wQ,h,Ja (dx _ _),Qy]
 have f:∀i,(Cp j)[P.length+i]?=(Cp (cJ b C)++a::R)[i]?:=λ i=>by rw[<-wQ];exact d i
 unfold cJ at d f⊢;have r:(((b:Int)+C/65536)%4).toNat<4:=oW;generalize(((b:Int)+C/65536)%4).toNat=s at r d f⊢;rcases mB r with rfl|rfl|rfl|rfl;·exact .lw (n:=1) (by decide) (λ i e=>(by rw[LH.mp e];exact bj (32) (d 0) rfl)) (d 1) l g (.stop (d 1) l g)
 ·exact .lw (n:=1) (by decide) (λ i e=>(by rw[LH.mp e];exact bj (10) (d 0) rfl)) (d 1) l g (.stop (d 1) l g)
 · refine .comment (n:=1) (q:=P.length+7) (λ i e=>(by rw[LH.mp e];exact bj (32) (d 0) rfl)) (d 1) (bX (by decide:2<=7) _) (f 7) (λ i o p=>?_) (.comment (n:=1) (q:=P.length+9) (λ i e=>(by rw[LH.mp e];exact bj (10) (d 7) rfl)) (d 8) (gx) (f 9) (λ i o p=>dR p o) ?_)
   · refine ai (Nat.exists_eq_add_of_le o) ?_;rintro m rfl;rcases m with _|_|_|_|_|m;·exact dU _ (f 2) (by decide) (by decide)
     ·exact dU _ (f 3) (by decide) (by decide)
     ·exact dU _ (f 4) (by decide) (by decide)
     ·exact dU _ (f 5) (by decide) (by decide)
     ·exact dU _ (f 6) (by decide) (by decide)
     ·exact absurd p (b'.mpr (gp (dx (P.length+2) m) 5))
   ·exact .lw (n:=1) (by decide) (λ i e=>(by rw[LH.mp e];exact bj (10) (d 9) rfl)) (d 10) l g (.stop (d 10) l g)
 · refine .lw (n:=3) (by decide) (λ i e=>?_) (d 3) l g (.stop (d 3) l g);rcases i with _|_|_|i;·exact bj (9) (d 0) rfl
   ·exact bj (10) (d 1) rfl
   ·exact bj (10) (d 2) rfl
   ·exact absurd e (b'.mpr (Iw 3 i))
noncomputable abbrev eK(N:List Int):Str:=(bG N N.length).1
noncomputable abbrev d2(N:List Int):List Nat:=(bG N N.length).2
noncomputable def lS(N:List Int)(VM:Nat):Nat:=(bG N VM).1.length
def wT(N:List Int)(g:a<N.length):fh (eK N) (lS N a) ((d2 N).getD a 0)/\gj (eK N) ((d2 N).getD a 0) (N.getD a 0%65536).toNat/\(d2 N).getD a 0+4=lS N (a+1):=by
 refine aj λ h=>ai (⟨N.length-(a+1),ym g⟩:∃j,N.length=a+1+j) λ j f=>?_;refine ai (wR N (a+1) j) λ R e=>h ?_;rw[<-f]at e;have d:Cp (eK N)=Cp (bG N a).1++(Cp (cJ a (N.getD a 0))++hr (N.getD a 0) 3::(hr (N.getD a 0) 2::hr (N.getD a 0) 1::hr (N.getD a 0) 0::R)):=by
   rw[e];show Cp (((bG N a).1++cJ a (N.getD a 0))++hn (N.getD a 0))++R=_;simp only[oh,oh,F5];simp
 have c:(d2 N).getD a 0=(Cp (bG N a).1).length+(cJ a (N.getD a 0)).length:=by
   have :=wS N a j;rw[<-f,IN,<-oi]at this;exact this
 have b:=oj (N.getD a 0) 3;refine b3 ?_ ⟨_,_,_,_,_,_,_,_,?_,b,oj _ 2,oj _ 1,oj _ 0,(F6 _).symm⟩ ?_
 · have :=F7 d b.facts.2.2.2.2.2.2.2.2.2.2.1 b.facts.2.2.2.2.2.2.2.2.2.2.2;simp only[c];unfold lS;rw[oi]at this⊢;exact this
 · rw[c,<-oi (cJ a _),d,<-kn,<-eB,List.drop_left];rfl
 · rw[c];show _=(((bG N a).1++cJ a (N.getD a 0))++hn (N.getD a 0)).length;simp only[IN,IN,qW,oi]
def F8(N:List Int):lS N N.length=(eK N).length:=rfl
noncomputable def fv(n:Int):Bool:=bF (n%65536<55296)||bF (57343<n%65536)
def F9(n:Int):hl ((n%65536).toNat:Int)=fv n:=by
 unfold hl fv;have a:0<=n%65536:=JB _ (by decide);simp only[K7 a,decide_eq_true a,Qh,decide_eq_true (J2 (Mq (Jr _ (by decide))) (by decide:(65536:Int)<=1114111)),TC,decide_eq_decide.mpr (Int.lt_add_one_iff (b:=55295)).symm];rfl
noncomputable def sg(x:Int):Str:=⟨#[x.toNat]⟩
noncomputable def c3(N:List Int):List Str:=(b6 N).map sg
noncomputable def eu(N:List Int)(i:Nat):List Str:=((a1 i).filter λ j=>!fv (N.getD j 0)).map λ j=>eI (eK N) ((d2 N).getD j 0+4) fj
noncomputable def eL(N:List Int)(VM:Nat):List bP:=[.int (lS N VM),Ld (c3 (N.take VM)),Ld (eu N VM)]
def ru(a b:List Int):b6 (a++b)=b6 a++b6 b:=by unfold b6;simp only[I1,fs]
def ol(N:List Int):(b6 N).length<=N.length:=by unfold b6;rw[be];exact Ei _ _
def F'(n:Int):b6 [n]=if fv n=true then[n%65536]else[]:=by
 unfold b6 fv;rw[H8];split<;>rfl
def rv(N:List Int)(h:N.length<=10):(eK N).length<=1000:=by have :=(ia N N.length).1;show(bG N N.length).1.length<=1000;exact an this (an (RU 14 h) (by decide))
def hs(b:a<B.length):B.take (a+1)=B.take a++[B.getD a 0]:=by simp only[Sd,av,ay b];rfl
def Ga(f:B.length<=10)(g:x<B.length):ef (Vu+4,true) (.ref 291) [S (eK B),Li (eL B x)] (Li (eL B (x+1))):=by
 refine a4 (wT B g) λ l m n=>?_;have d:=F9 (B.getD x 0);have p:=rv B f;have e:(eu B (x+1))=eu B x++if fv (B.getD x 0)=true then[]else[eI (eK B) ((d2 B).getD x 0+4) fj]:=by
   unfold eu;simp only[Nj,I1,fs,H8];cases fv (B.getD x 0)<;>rfl
 have c:c3 (B.take (x+1))=c3 (B.take x)++if fv (B.getD x 0)=true then[⟨#[(B.getD x 0%65536).toNat]⟩]else[]:=by
   unfold c3;simp only[hs g,ru,fs,F'];split<;>rfl
 have q:(c3 (B.take x)).length<=1000:=by
   unfold c3;rw[be];have :=ol (B.take x);simp only[KS]at this;exact j4 (oF this) (a2 f (aE true))
 have r:(eu B x).length<=1000:=by
   unfold eu;rw[be];have :=Ei (λ j=>!fv (B.getD j 0)) (a1 x);simp only[Ly]at this;exact j4 this (j4 (j5 g) (a2 f (aE true)))
 rcases o:fv (B.getD x 0)with _|_
 · rw[o]at d e c;have :=B3 (Vu:=Vu) (g:=c3 (B.take x)) (f:=eu B x) l m d (a2 p (aE true)) r;unfold eL;rw[e,c,<-n,if_neg (λ h=>by cases h),if_neg (λ h=>by cases h),IY];exact this
 · rw[o]at d e c;have :=B2 (Vu:=Vu) (f:=c3 (B.take x)) (g:=eu B x) l m d (a2 p (aE true)) q;unfold eL;rw[e,c,<-n,if_pos rfl,if_pos rfl,IY];exact this.t
def Tr.nD{a b d:b7}{j l:SV}{p q r:PV}{x y:Bool}(L:aD j p q x)(M:aD l q r y)(D:Ev u g i a p)(G:Ev u g i b q)(H:Ev u g i d r)(J:autoParam (lastMarks [j,l] [b,d]=ap) gX):Tr u g i (.Compare a [j,l] [b,d] v) (x&&y):=λ X w A f VO s E R=>isTrue_chain (D.use f R (Kp.refl s) λ VN VP V _ Q B=>test_link (G.use f B Q λ t VL o N n m=>aG (L X w A f.gC VL VN t E m.ex (V.keeps N.keep) o) (λ c VQ⟨e,h⟩=>by
     subst e;refine zF ?_;rcases x with _|_;·exact⟨rfl,n.trans h⟩
     · refine test_last (H.use f (m.keeps h.keep) (n.trans h) λ z VM Y O T C=>(aG (M X w A f.gC VM t z E C.ex ((o.keeps h.keep).keeps O.keep) Y) (λ c VR⟨e,U⟩=>?_) λ _ _ x=>x));subst e;exact zF ⟨rfl,T.trans U⟩) λ _ _ x=>x)) J
noncomputable def fw:List Io:=(cE (bZ.getD 1 b2)).body
def Gb(P:a3):a5 P (nm "_law_text")=some (.ref 284):=by lia
def Gc(P:a3):a5 P (nm "_law_words")=some (.ref 303):=by lia
def wU(P:a3):a5 P (nm "_law_fit")=some (.ref 296):=by lia
def Gd(P:a3):a5 P (nm "_law_step")=some (.ref 291):=by lia
def wV(P:a3):a5 P (nm "reduce")=some (.ref 134):=by lia
noncomputable abbrev rw(N:List Int)(R:PV):List (Str×PV):=[(nm "numbers",Ls N),(nm "rows",R)]
noncomputable abbrev om(N:List Int)(R:PV):List (Str×PV):=(nm "places",.d (.list (eZ (d2 N))))::(nm "src",S (eK N))::rw N R
noncomputable abbrev dq(T:List bP):List (Str×OL):=[(nm "told",.p T)]
def Ge(c:B.length<=10):St bH Lk bV (rw B V) (dq Vo) (fw.getD 0 b2) (.next (om B V) (dq Vo)):=St.uY (f:=.str (eK B)) (b:=.list (eZ (d2 B))) rfl (Ev.ed (de λ P=>⟨_,vb.fn P⟩) (CI (a:=11) (a2 c (aE true))) (Ev.gl Gb) (.cons Ev.nm .nil)) (by rfl) (by rfl)
def Gf(N:List Int)(c:N.length<=10):(iQ (N.map .int) (eZ (d2 N))).map PV.d=(a1 N.length).map λ j=>Tu [.int (N.getD j 0),.int ((d2 N).getD j 0:Nat)]:=by
 have b:(d2 N).length=N.length:=(ia N N.length).2;apply KD;intro i;unfold iQ eZ;by_cases VM:i<N.length
 · have a:i<(d2 N).length:=eO b VM;simp[P5,VM,a]
 · have a:¬i<(d2 N).length:=λ q=>VM (b▸q);simp[VM];exact j4 fx (j8 VM)
def Gg(a:B.length<=10):St bH Lk bV (om B V) (dq Vo) (fw.getD 1 b2) (.next ((nm "words",Lt (eu B B.length))::om B V) (dq Vo)):=by
 have e:Lt (eu B B.length)=Li (((a1 B.length).filter λ j=>!fv (B.getD j 0)).map λ j=>.str (eI (eK B) ((d2 B).getD j 0+4) fj)):=by unfold eu Lt;rw[dQ];rfl
 rw[e];refine St.qQ [nm "place",nm "x"] (a1 B.length) (λ j=>Tu [.int (B.getD j 0),.int ((d2 B).getD j 0:Nat)]) (λ j=>[(nm "place",I ((d2 B).getD j 0:Nat)),(nm "x",I (B.getD j 0))]) _ _ (by rfl) (by rfl) (by rfl) (by rfl) ?_ (λ _=>rfl) (λ j _=>.lb (by decide)) (λ j b=>?_) (λ j b _=>?_) (by simp;exact an a (by decide))
 · simp only[<-Gf B a];exact bg.zip rfl (Ev.bl t5) Ev.nm Ev.nm
 · have c:(!fv (B.getD j 0))=(bF ((55295:Int)<B.getD j 0%65536)&&bF (B.getD j 0%65536<57344)):=by
     unfold fv;rw[Pu];simp only[IT,Bool.or_eq_false_iff,ii,decide_eq_true_eq,decide_eq_false_iff_not];exact⟨λ q=>⟨Kr (by decide) (JQ.mp q.1),Int.lt_add_one_of_le (JQ.mp q.2)⟩,λ q=>⟨JQ.mpr q.1,JQ.mpr (Int.le_of_lt_add_one q.2)⟩⟩
   simp only[c];exact .one (Tr.nD aD.lt aD.lt .int (Ev.bJ (bb.iM (by decide)) Ev.nm .int) .int)
 · have d:=(wT B (cI.mp b)).2.1.h5;refine Ev.ed (de λ P=>⟨_,u3.fn P⟩) (B' (b:=11) (a2 (rv B a) (aE true)) d) (Ev.gl Gc) (.cons Ev.nm (.cons ?_ .nil));simp only[show(((d2 B).getD j 0+4:Nat):Int)=((d2 B).getD j 0:Nat)+4 by exact mh];exact Ev.bJ bb.fc Ev.nm .int
noncomputable abbrev on(N:List Int)(R:PV):List (Str×PV):=(nm "words",Lt (eu N N.length))::om N R
noncomputable abbrev ko(N:List Int)(R:PV):List (Str×PV):=(nm "read",Li (eL N N.length))::on N R
def wW(h:(g.names.all λ q=>q.2 !=.free||q.1==j)=true):∀a,g.names.lookup a=some .free->a=j:=λ a e=>by
 have :=H9.mp h _ (eF e);exact pW (this)
def rx(h:(VK.names.all λ q=>q.2 !=.free||g.names.lookup q.1==some .cell)=true):∀n,(n,cM)∈VK.names->g.names.lookup n=some .cell:=λ n e=>by
 have :=H9.mp h _ e;exact pW (this)
def wX(h:x<=1000):eh (.gg 0 x 1) j ((a1 x).map λ(i:Nat)=>I (i:Int)):=by
 have :=eh.gg (j:=j) (d:=0) (b:=x) (c:=1) (a:=x) (RF (by decide) (by decide) (kM rfl) (fC h (aE true))) (by rw[Rn];exact oZ dh);rwa[qS,dQ]at this
def Gh(h:((a1 a).map λ(b:Nat)=>I (b:Int))[b]?=some V):b<a/\V=I (b:Int):=by
 rw[a']at h;refine aj λ g=>ak (bh.mp h) λ j e f=>ai (a8.mp e) λ d c=>?_;refine g ?_;simp at d c;exact⟨d,by rw[<-f,<-c]⟩
def wY(h:Ev u g i z (Ls B))(c:B.length<=1000)(f:cG g (nm "range")=true)(d:cG g (nm "len")=true)(j:autoParam (∀b a,bD (z::b) a=(ap,He z a)::bD b a) bc):Ev u g i (.Call (.Name (nm "range") v) [.Call (.Name (nm "len") J) [z] [] VC] [] Vi) (.gg 0 B.length 1):=Ev.gG Fn.range (Ev.bl h0 f) (.cons (Ev.cA (Fn.j0 (B:=B) (c6 c (aE true))) (Ev.bl dY d) (.cons h .nil j)) .nil)
def Gi(c:B.length<=10):St bH Lk bV (on B V) (dq Vo) (fw.getD 2 b2) (.next (ko B V) (dq Vo)):=by
 have m:((a1 B.length).map λ(i:Nat)=>I (i:Int)).length=B.length:=by simp
 have e:Li (eL B B.length)=Li (eL B ((a1 B.length).map λ(i:Nat)=>I (i:Int)).length):=by rw[m]
 show St bH Lk bV (on B V) (dq Vo) (fw.getD 2 b2) (.next ((nm "read",Li (eL B B.length))::on B V) (dq Vo));refine e.symm▸(St.q7 (cZ.v9 (a:=11) (V:=.gg 0 B.length 1) (l:=eL B) (fT.one (j:=nm "src") (VI:=.str (eK B)) (by rfl) (by rfl) (by decide) (by rfl) ?_ λ a o f A G J t C z r s u v w x y i p j=>?_) ?_ (λ E=>rfl) (Ev.gl wV) (.cons (wY Ev.nm (a2 c (aE true)) (by rfl) (by rfl)) (.cons ?_ .nil)) ?_) (by rfl));·exact wW (by rfl)
 · refine am (Gh j) ?_;rintro g rfl;exact h9.CU (a:=10) (G:=[nm "state",nm "k"]) (VO:=[(nm "src",S (eK B))]) r s u v w ⟨rfl,rfl,rfl,by decide,by decide,by decide,x⟩ rfl (λ f D H h=>by
       refine cP (d9 h) ?_;rintro a b rfl;unfold J6;rw[D.params,D.dflt,D.kw];lia) y (de λ P=>⟨_,qP.fn P⟩) (Ga (Vu:=6) c g) (Ev.gl Gd) (.cons Ev.nm (.cons Ev.nm .nil))
 ·exact rx (by rfl)
 ·exact Ev.list (Vo:=eL B 0) (e:=by show 3<=a9;decide) (.cons .int (.cons (Ev.list (Vo:=[]) .nil) (.cons (Ev.list (Vo:=[]) .nil) .nil)))
 ·exact wX (a2 c (aE true))
def aD.kr(a:cz VI):aD .NotEq (.d VI) (.d VI) ap:=by
 have :=aD.ne a a;rwa[PG _ a.1]at this
def lT(s:String):cs (ac s)=true:=by
 rw[Str.ofString_eq_toList];unfold cs;rw[List.all_toArray,List.all_map,H9];intro c _;have h:=c.valid;show bF (c.toNat<0x110000)=true;simp only[decide_eq_true_eq];refine aH h (λ h=>?_) λ a=>?_;·exact LF h (by decide)
 ·exact am a λ _ h=>h
def Gj(c:cs j=true)(d:cs Vf=true):cs (j++Vf)=true:=by
 show(j.cps++Vf.cps).all _=true;rw[Array.all_append];exact x4.mpr ⟨c,d⟩
theorem ry:∀{xs:List Str}{VL:Str},cs VL=true->(∀x∈xs,cs x=true)->cs (gN VL xs)=true
 |[],VL,h,_=>h|x::r,VL,h,H=>ry (xs:=r) (VL:=VL++x) (Gj h (H x (.head _))) λ y a=>H y (.tail _ a)
def Gk(VN:Str)(p:Nat)(VL:Str)(h:cs VL=true):cs (eI VN p VL)=true:=by
 have b:cs (fi VN p)=true:=by
   unfold fi;split;·exact lT _
   · refine ry (by decide+kernel) λ x a=>?_;simp only[aP,uR,or_false]at a;rcases a with rfl|rfl|rfl|rfl<;>exact lT _
 refine ry (by decide+kernel) λ x a=>?_;simp only[aP,uR,or_false]at a;rcases a with rfl|rfl|rfl|rfl;·exact h
 ·exact lT _
 ·exact b
 ·exact lT _
def wZ:∀w,fI w 296:=de λ P=>⟨cf P 296,by lia⟩
def w0(h:∀x∈G,cs x=true):(Ld G).canLay0=true/\(Ld G).depth<=8:=by
 refine⟨?_,?_⟩
 · show Lm (G.map .str)=true;rw[canLayAll_strs',H9];exact h
 · show JU (G.map .str)+1<=8;have :JU (G.map .str)=0:=by induction G with
     |nil=>rfl|cons a r c=>show max 0 (JU (r.map .str))=0;rw[c λ x b=>h x (.tail _ b)];rfl
   exact e4 (j6 this) gx (aE true)
def w1(l:List Int):(Dl l).canLay0=true/\(Dl l).depth<=8:=by
 refine⟨?_,?_⟩
 · show Lm (l.map .int)=true;induction l with
   |nil=>rfl|cons a r b=>show(true&&Lm (r.map .int))=true;refine b.symm▸?_;rfl
 · show JU (l.map .int)+1<=8;have :JU (l.map .int)=0:=by induction l with
     |nil=>rfl|cons a r b=>show max 0 (JU (r.map .int))=0;refine b.symm▸?_;rfl
   exact e4 (j6 this) gx (aE true)
def lU(h:C∈b6 B):0<=C/\C<65536/\(C<55296\/57343<C):=by
 unfold b6 at h;refine ak (hp.mp h) ?_;rintro y a rfl;have :=(hu.mp a).2;simp only[JY,decide_eq_true_eq]at this;exact b3 (JB _ (by decide)) (Jr _ (by decide)) this
def rz:∀x∈c3 B,cs x=true:=λ x a=>by
 unfold c3 at a;refine ak (hp.mp a) ?_;rintro y b rfl;have :=lU b;unfold cs sg;simp;exact oY this rfl
def Gl:∀x∈eu B B.length,cs x=true:=λ x a=>by
 unfold eu at a;refine ak (hp.mp a) ?_;rintro y b rfl;exact Gk _ _ _ (lT _)
def rA(N:List Int):eL N N.length=[.int ((eK N).length:Nat),Ld (c3 N),Ld (eu N N.length)]:=by
 unfold eL;simp only[IL,F8]
def Gm{m p o b n:Pos}(f:B.length<=10)(h:hf [nm "x"] VK g=true)(c:cG (bQ VK g) (nm "chr")=true)(d:dX (bQ VK g) (nm "x")=true)(j:Ev Lk g i z (Ls (b6 B)))(k:autoParam (∀a x,Ad z a x=jB x) bc):Ev Lk g i (.ListComp (.Call (.Name (nm "chr") m) [.Name (nm "x") p] [] b) [⟨.Name (nm "x") o,z,[],0⟩] VK n) (Lt (c3 B)):=by
 have z:Lt (c3 B)=Li (((b6 B).filter λ _=>true).map λ x=>.str (sg x)):=by unfold c3 Lt;rw[dQ,K4.mpr λ _ _=>rfl];rfl
 simp only[z];refine Ev.fe [nm "x"] (b6 B) (λ x=>I x) (λ x=>[(nm "x",I x)]) _ _ h (bg.iR rfl j) (λ _=>rfl) (λ _ _=>.name) (λ _ _=>.nil) (λ x l _=>?_) (an (an (ol B) f) (by decide)) k;have :=lU l;exact Ev.cA (Fn.nk (this.left) (Mq (oY this rfl))) (Ev.bl no c) (.cons (Ev.nm (by rfl) d) .nil)
def Gn(a:B.length<=10):St bH Lk bV (ko B V) (dq Vo) (fw.getD 3 b2) (.next (ko B V) (dq Vo)):=by
 refine St.ite (M:=ap) ?_ (λ h=>by cases h) (λ _=>ag.nil);refine Tr.cmp (p:=.d (.list (eL B B.length))) (q:=.d (.list (eL B B.length))) (aD.kr (jN λ d b=>?_)) Ev.nm ?_
 · rw[rA]at b;simp only[aP,uR,or_false]at b;rcases b with rfl|rfl|rfl;·exact⟨rfl,dk _⟩
   ·exact w0 rz
   ·exact w0 Gl
 · rw[rA];refine Ev.list (Vo:=[.int ((eK B).length:Nat),Ld (c3 B),Ld (eu B B.length)]) (e:=by show 3<=a9;decide) (.cons ?_ (.cons ?_ (.cons Ev.nm .nil)));·exact Ev.cA (Fn.hZ (c6 (rv B a) (aE true))) (Ev.bl dY) (.cons Ev.nm .nil)
   ·exact Gm a (by rfl) (by rfl) (by rfl) (Ev.ed wZ (uk (a:=11) (a2 a (aE true))) (Ev.gl wU) (.cons Ev.nm .nil))
def Gp(a:Vo.length<=10):St bH Lk bV (ko B V) (dq Vo) (fw.getD 4 b2) (.next (ko B V) (dq (Vo++[Ld (c3 B)]))):=by
 refine St.append (j:=nm "told") (l:=.p Vo) (B:=.p (Vo++[Ld (c3 B)])) (V:=.d (Ld (c3 B))) (by rfl) (.inl ?_) (by rfl) (an a (by decide));refine Ev.dI (Vo:=eL B B.length) (C:=1) Ev.nm .int (by decide) (by decide) ?_;rw[rA];rfl
noncomputable abbrev RR(l:List Int):PV:=Li [Dl (eo l),Dl (et l)]
noncomputable def ku(l:List Int):Nat->List Int|0=>eo l|_=>et l
noncomputable abbrev gS(l:List Int):List bP:=[Ld (c3 (eo l)),Ld (c3 (et l))]
def lV(l:List Int)(VM:Nat):(ku l VM).length<=10:=by
 rcases VM with _|_;·show(l.take 4++_).length<=10;simp;exact fx
 ·show((l.drop 4).take 4++_).length<=10;simp;exact j4 fx bE
def Gq:fw=[fw.getD 0 b2,fw.getD 1 b2,fw.getD 2 b2,fw.getD 3 b2,fw.getD 4 b2]:=by lia
def Gr:St bH Lk bV [(nm "rows",RR B)] (dq []) (bZ.getD 1 b2) (.next [(nm "rows",RR B)] (dq (gS B))):=by
 refine St.nu (v:=_) ([Dl (eo B),Dl (et B)].map .d) (λ _=>[(nm "rows",RR B)]) (λ i=>dq ((gS B).take i)) (λ i=>[(nm "numbers",Ls (ku B i))]) (λ i=>.next (ko (ku B i) (RR B)) (dq ((gS B).take (i+1)))) (bg.list rfl Ev.nm) (λ i p c=>?_) (λ i y q f=>?_) (λ i b=>?_) λ i b=>?_;·rcases sG c with⟨rfl,rfl⟩|⟨rfl,rfl⟩<;>exact .name
 · refine am (by simpa using f:y=nm "numbers"/\q=Ls (ku B i)) ?_;rintro rfl g;obtain rfl:=g;rfl
 · have a:=lV B i;have e:(gS B).take (i+1)=(gS B).take i++[Ld (c3 (ku B i))]:=by rcases o2 b with rfl|rfl<;>rfl
   show ag bH Lk bV (rw (ku B i) (RR B)) (dq ((gS B).take i)) fw _;rw[e,Gq];exact ag.cons (Ge a) (ag.cons (Gg a) (ag.cons (Gi a) (ag.cons (Gn a) (ag.cons (Gp (by rw[KS];show min i 2<=10;exact j4 hG bE)) ag.nil))))
 ·exact⟨⟨rfl,trivial⟩,rfl⟩
noncomputable abbrev fA(l:List Int):List Int:=b6 (eo l)
noncomputable abbrev fB(l:List Int):List Int:=b6 (et l)
noncomputable abbrev sA(l:List Int):List Str:=c3 (eo l)
noncomputable abbrev sB(l:List Int):List Str:=c3 (et l)
noncomputable abbrev eM(l:List Int):List (Str×PV):=[(nm "second",Ls (fB l)),(nm "first",Ls (fA l)),(nm "two",Lt (sB l)),(nm "one",Lt (sA l))]
def Gs:St bH Lk bV [(nm "rows",RR B)] (dq (gS B)) (bZ.getD 2 b2) (.next [(nm "two",Lt (sB B)),(nm "one",Lt (sA B)),(nm "rows",RR B)] (dq (gS B))):=St.FW (q:=Ld (sA B)) (b:=Ld (sB B)) rfl (by rfl) (by rfl) (by rfl) (by rfl)
def Gu:St bH Lk bV [(nm "two",Lt (sB B)),(nm "one",Lt (sA B)),(nm "rows",RR B)] (dq (gS B)) (bZ.getD 3 b2) (.next ((nm "second",Ls (fB B))::(nm "first",Ls (fA B))::[(nm "two",Lt (sB B)),(nm "one",Lt (sA B)),(nm "rows",RR B)]) (dq (gS B))):=by
 refine St.FV (l:=Dl (fA B)) (b:=Dl (fB B)) rfl ?_ (by rfl) (by rfl);have e:Li [Dl (fA B),Dl (fB B)]=Li (([eo B,et B].filter λ _=>true).map λ N=>Dl (b6 N)):=rfl;simp only[e];refine Ev.fe [nm "numbers"] [eo B,et B] (λ N=>Ls N) (λ N=>[(nm "numbers",Ls N)]) (λ _=>true) (λ N=>Dl (b6 N)) (by rfl) (bg.list (Vo:=[Dl (eo B),Dl (et B)]) rfl Ev.nm) (λ _=>rfl) (λ _ _=>.name) (λ _ _=>.nil) (λ N c _=>?_) (by show 2<=a9;decide);have d:N.length<=10:=by
   refine aH (aP.mp c) ?_ λ c=>?_
   · rintro rfl;exact lV B 0
   ·cases aI.mp c;exact lV B 1
 exact Ev.ed wZ (uk (a:=11) (a2 d (aE true))) (Ev.gl wU) (.cons Ev.nm .nil)
def Gv(l:List Vd):eE l none none=l:=by
 show(l.drop 0).take (l.length-0)=l;simp
def w2(M:Ev u g i z (Lt G))(O:G.length<=1000)(n:Rm u o)(R:bq w c g E q.heap i)(L:∀b d m,(∀j f,q.heap.get? j=some f->j<b)->¬w b->m.heap.PlainList b d.toArray->Kg d G->Kp q m->bq w c g E m.heap i->Vh (.ref b) m):aA (au P0 c) o (He (.Subscript z (.Slice none none none v) J) E) Vh y q:=Mc (M.use n R (Kp.refl q) λ VT VS VO _ U C=>qb n .none .none C U λ b VU VV B Y VL N T t D=>by
  refine aj λ VP=>?_;refine bI ((VO.keeps T.keep).list) λ f d as VN VR V x=>?_;obtain rfl:=VN;refine VP ?_;have r:=V.isList;have e:=cy x;refine Ny (ops:=[.ref b,.ref f]) r.typeIs JF.lookup (Rj r N Y VL .none (λ h=>by cases h) ?_ (by simp only[be]at e;simp[e];exact an O (by decide))) rfl;have H:slicePick d.toArray none none none=d.toArray:=by simp only[Uu];simp
  refine H.symm▸?_;have kp:Kp q {B with heap:=B.heap.push (L4 "list" d.toArray 0)}:=t.trans Kp.push;exact L _ d _ (λ j f VM=>az (t.keep j f VM)) (D.ex.fresh (aB _)) ⟨_,aF _ rfl⟩ (hY x) kp (R.keeps kp.keep))
def Gw(P:a3):a5 P (nm "unorderable_list_difference")=some (.ref 191):=by lia
def cZ.Gx{d e:List Str}{G J M L N H:Pos}(VU:Ev (a+1,true) g i z (Lt d))(VV:Ev (a+1,true) g i Vn (Lt e))(B:d.length<=1000)(C:e.length<=1000)(VR:cG g (nm "unorderable_list_difference")=true):cZ bH (a+1,true) g i D (.Call (.Name (nm "unorderable_list_difference") G) [.Subscript z (.Slice none none none J) M,.Subscript Vn (.Slice none none none L) N] [] H) (Tu [Ld (bf d e d.length).1,Ld (bf d e d.length).2]):=λ X w A f VN V9 s E Q m V8 O F VP=>by
 refine dr ((Ev.gl Gw VR:Ev (a+1,true) g i (.Name (nm "unorderable_list_difference") G) _).use f F.er (Kp.refl s) λ v V5 V2 _ t h=>(aj λ V7=>?_));obtain rfl:v=.ref 191:=V2;have l:=F.kp t;refine aW ((de λ P=>⟨_,vj.fn P⟩) w _ h.left) λ o fd VT VQ=>V7 ?_;have U:aA (au P0 w) A (Qu (L9 H (bD [.Subscript z (.Slice none none none J) M,.Subscript Vn (.Slice none none none L) N] VN))) (λ V T=>(T.heap.get? 191=some o/\o.data=.func fd)/\aA (au P0 w) A (I3 (.ref 191) V) Q E T) E V5:=by
  refine IP (w2 VU B f h λ VM V V' VS VW VY V3 u VL=>(IP (w2 VV C f VL λ b Wb Wa r VX VZ V4 y n=>(ai VY λ _ p=>?_)) rfl)) rfl;have j:=u.trans y;refine Lx ⟨⟨j.keep _ _ VT,VQ⟩,?_⟩;refine aG (CT B C f n.left n.ex ((l.kp j).lA rfl) h.left j (λ c o q=>⟨VS c o q,r c o (u.keep c o q)⟩) (br (r VM _ p)) VW VX ⟨_,y.keep _ _ p⟩ V3 VZ V4) (λ v V6 V0=>(a4 V0 λ V1 K Y=>?_)) λ _ _ x=>x;exact VP v V6 (l.kt rfl K Y) V1 ((Kp.kq t).trans K)
 exact rS (b1 U)
noncomputable def b5(a:List Int):List Int:=((a1 a.length).filter λ k=>!(a.take k).any (·==a.getD k 0)).map λ k=>a.getD k 0
noncomputable abbrev lW(l:List Int):List Int:=b5 (fA l++fB l)
def Gy(l:List Int)(a:Int):((l.map Pq).any λ y=>KG y (.int a))=l.any (·==a):=by
 rw[List.any_map];congr 1
def rB(l:List Int):cz (Dl l):=jN λ d a=>by
 refine ak (hp.mp a) ?_;rintro x _ rfl;exact⟨rfl,dk _⟩
def Tr.w3(c:Ev u g i z (I C))(d:Ev u g i Vn (Ls B))(e:autoParam (Lo .NotIn Vn=ap) gX):Tr u g i (.Compare z [.NotIn] [Vn] v) (!B.any (·==C)):=by
 have :=Tr.cmp (v:=v) (aD.Ay (VI:=.int C) (Vo:=B.map .int) cz.int (rB B)) c d e;rwa[Gy]at this
def gT(l:List Int):(fA l).length<=10/\(fB l).length<=10:=⟨an (ol _) (lV l 0),an (ol _) (lV l 1)⟩
def Gz(l:List Int):(lg (l.map .int)).map PV.d=(a1 l.length).map λ j=>Tu [.int (j:Nat),.int (l.getD j 0)]:=by
 apply KD;intro i;unfold lg;by_cases h:i<l.length;·simp[h]
 ·simp[h]
noncomputable abbrev i6(l:List Int):List (Str×PV):=(nm "firsts",Ls (lW l))::eM l
def GA:St bH Lk bV (eM B) [] (bZ.getD 4 b2) (.next (i6 B) []):=by
 refine am (gT B) λ c d=>?_;have m:(1000:Nat)<=a9:=by decide
 have h:(fA B++fB B).length<=20:=by rw[eB];exact e4 c d (aE true)
 have e:Ls (lW B)=Li (((a1 (fA B++fB B).length).filter λ k=>!((fA B++fB B).take k).any (·==(fA B++fB B).getD k 0)).map λ k=>.int ((fA B++fB B).getD k 0)):=by unfold lW b5 Ls;rw[dQ];rfl
 show St bH Lk bV (eM B) [] (bZ.getD 4 b2) (.next ((nm "firsts",Ls (lW B))::eM B) []);rw[e];refine St.qQ [nm "x",nm "k"] (a1 (fA B++fB B).length) (λ j=>Tu [.int (j:Nat),.int ((fA B++fB B).getD j 0)]) (λ j=>[(nm "x",I ((fA B++fB B).getD j 0)),(nm "k",I (j:Nat))]) _ _ (by rfl) (by rfl) (by rfl) (by rfl) ?_ (λ _=>rfl) (λ j _=>.lb (by decide)) (λ j f=>?_) (λ j f _=>Ev.nm) (by simp;exact e4 c d (aE true))
 · rw[<-Gz];exact bg.nh rfl (Ev.bl nn) (lR (a:=fA B) (b:=fB B) Ev.nm Ev.nm (e4 c d (aE true)))
 · have g:j<(fA B++fB B).length:=cI.mp f;exact .one (Tr.w3 Ev.nm (Ev.u5 (B:=fA B++fB B) (a:=j) (lR (a:=fA B) (b:=fB B) Ev.nm Ev.nm (e4 c d (aE true))) Ev.nm (j5 g) (a2 h (aE true))))
noncomputable def gU(F G:List Int):List Int:=(b5 (F++G)).filter λ x=>F.count x !=G.count x
noncomputable abbrev ik(F G:List Int)(x:Int):List bP:=[.int (F.count x:Nat),.int (G.count x:Nat),.int x]
def GB(a b:Nat):((a:Int)!=(b:Int))=(a !=b):=by
 rw[Pu,bne_iff_ne,bne_iff_ne];exact not_congr Oj
def GC(L:List Int)(F VN:List Int):cz (.list (L.map λ VL=>.tuple (ik F VN VL))):=jN λ d a=>by
 refine ak (hp.mp a) ?_;rintro VL _ rfl;exact⟨rfl,by show max 0 (max 0 (max 0 0))+1<=8;decide⟩
def lX(h:C∈b5 B):C∈B:=by
 unfold b5 at h;refine ak (hp.mp h) ?_;rintro k a rfl;have :=cI.mp (hu.mp a).1;simp only[av,ay this];exact IM this
def i7(VL:List Int):(b5 VL).length<=VL.length:=by
 unfold b5;rw[be];exact an (Ei _ _) (by rw[Ly];exact aB _)
def rC(h:C∈fA B++fB B):0<=C/\C<65536:=by rcases k9.mp h with h|h<;>(have q:=lU h;exact⟨q.1,q.2.1⟩)
def GD(F VM:List Int):(gU F VM).length<=(F++VM).length:=an (Ei _ _) (i7 _)
def oo(l:List Int):(sA l).length<=10/\(sB l).length<=10:=by
 unfold sA sB c3;rw[be,be];exact gT l
def GF(P:a3):a5 P (nm "_count_diff_all_purpose")=some (.ref 279):=by lia
def w4(d:0<=C)(e:i.lookup j=some (S (sg C)))(a:dX g j=true)(b:cG g (nm "ord")=true):Ev u g i (.Call (.Name (nm "ord") v) [.Name j J] [] Vi) (I C):=by
 have :=Ev.cA (v:=v) (J:=Vi) (Fn.nj (u:=u) (a:=C.toNat)) (Ev.bl AD b) (.cons (Ev.nm (v:=J) e a) .nil);rwa[K7 d]at this
def op(d:i.lookup j=some (Ls B))(e:i.lookup Vf=some (I C))(a:dX g j=true)(b:dX g Vf=true)(c:autoParam ((Vi.endLine==VC.line)=true) bc):Ev u g i (.Call (.Attribute (.Name j v) (ac "count") Vi) [.Name Vf J] [] VC) (I (B.count C:Nat)):=Ev.jK JK Ku Fn.jL (Ev.nm d a) (.cons (Ev.nm e b) .nil) (f:=by show 1<29;decide) (h:=c)
def GG(i:ie (sA B) (sB B)=(gU (fA B) (fB B)).map λ x=>((fA B).count x,(fB B).count x,sg x)):St bH Lk bV (i6 B) [] (bZ.getD 5 b2) (.next (i6 B) []):=by
 refine am (gT B) λ b d=>?_;have j:(1000:Nat)<=a9:=by decide
 have f:=GD (fA B) (fB B);have g:=i7 (fA B++fB B);simp only[eB]at f g;refine St.ite (M:=ap) ?_ (λ h=>by cases h) (λ _=>ag.nil);refine Tr.cmp (p:=Li ((gU (fA B) (fB B)).map λ x=>.tuple (ik (fA B) (fB B) x))) (q:=Li ((gU (fA B) (fB B)).map λ x=>.tuple (ik (fA B) (fB B) x))) (aD.kr (GC _ _ _)) ?_ ?_
 · have e:Li ((gU (fA B) (fB B)).map λ x=>.tuple (ik (fA B) (fB B) x))=Li (((gU (fA B) (fB B)).filter λ _=>true).map λ x=>.tuple (ik (fA B) (fB B) x)):=by rw[K4.mpr λ _ _=>rfl]
   simp only[e];refine Ev.fe [nm "sign",nm "k",nm "j"] (gU (fA B) (fB B)) (λ x=>.inst (.ref 269) [.int ((fA B).count x:Nat),.int ((fB B).count x:Nat),.str (sg x)]) (λ x=>[(nm "sign",S (sg x)),(nm "k",I ((fB B).count x:Nat)),(nm "j",I ((fA B).count x:Nat))]) _ _ (by rfl) ?_ (λ _=>rfl) (λ x _=>.Ak (.inr rfl) (by decide) (by decide) (by decide)) (λ _ _=>.nil) (λ x a _=>?_) (j4 f (e4 b d (aE true)))
   · have e:(gU (fA B) (fB B)).map (λ x=>PV.inst (.ref 269) [.int ((fA B).count x:Nat),.int ((fB B).count x:Nat),.str (sg x)])=((ie (sA B) (sB B)).map n2).map λ r=>.inst (.ref 269) r:=by simp only[i,dQ,dQ];rfl
     simp only[e];exact bg.insts rfl (Ev.ed (de λ P=>⟨_,v1.fn P⟩) (D5 (a:=9) (c:=sA B) (d:=sB B) rz rz (by have :=(oo B).1;exact a2 this (aE true)) (by have :=(oo B).2;exact a2 this (aE true))) (Ev.gl GF) (.cons Ev.nm (.cons Ev.nm .nil)))
   ·exact Ev.tuple (Vo:=ik (fA B) (fB B) x) (f:=by show 3<=a9;decide) (.cons Ev.nm (.cons Ev.nm (.cons (w4 (rC (B:=B) (lX (hu.mp a).1)).1 (by rfl) (by rfl) (by rfl)) .nil)))
 · refine Ev.fe [nm "x"] (lW B) (λ x=>I x) (λ x=>[(nm "x",I x)]) (λ x=>(fA B).count x !=(fB B).count x) (λ x=>.tuple (ik (fA B) (fB B) x)) (by rfl) (bg.iR rfl Ev.nm) (λ _=>rfl) (λ _ _=>.name) (λ x a=>?_) (λ x a _=>?_) (j4 g (e4 b d (aE true)));·exact .one (Tr.eq (Tr.cmp aD.nF (op (by rfl) (by rfl) (by rfl) (by rfl)) (op (by rfl) (by rfl) (by rfl) (by rfl))) (GB _ _))
   ·exact Ev.tuple (Vo:=ik (fA B) (fB B) x) (f:=by show 3<=a9;decide) (.cons (op (by rfl) (by rfl) (by rfl) (by rfl)) (.cons (op (by rfl) (by rfl) (by rfl) (by rfl)) (.cons Ev.nm .nil)))
def GH(P:a3):a5 P (nm "_law_less")=some (.ref 308):=by lia
def GI(P:a3):a5 P (nm "sorted_list_difference")=some (.ref 184):=by lia
def w5(a b:List Int):cz (.list [Dl a,Dl b]):=jN λ d c=>by
 refine aH (aP.mp c) ?_ λ c=>?_
 · rintro rfl;exact w1 a
 ·cases aI.mp c;exact w1 b
def cZ.w6{c f h:aw}{O U n q Q m V T:Pos}{a b:List Int}(j:u.2=true)(E:cZ bH u c i D z (Tu [Ld (a.map sg),Ld (b.map sg)]))(A:∀x∈a,0<=x)(C:∀x∈b,0<=x)(L:a.length<=1000)(M:b.length<=1000)(w:hf [nm "row"] f c=true)(y:hf [nm "sign"] h (bQ f c)=true)(s:dX (bQ f c) (nm "row")=true)(t:dX (bQ h (bQ f c)) (nm "sign")=true)(v:cG (bQ h (bQ f c)) (nm "ord")=true)(H:autoParam (∀p x,Ad z p x=jB x) bc):cZ bH u c i D (.ListComp (.ListComp (.Call (.Name (nm "ord") O) [.Name (nm "sign") U] [] q) [⟨.Name (nm "sign") n,.Name (nm "row") m,[],0⟩] h Q) [⟨.Name (nm "row") V,z,[],0⟩] f T) (Li [Dl a,Dl b]):=by
 have B:∀N∈[a,b],(∀x∈N,0<=x)/\N.length<=1000:=λ N g=>by
   refine aH (aP.mp g) ?_ λ g=>?_
   · rintro rfl;exact⟨A,L⟩
   ·cases aI.mp g;exact⟨C,M⟩
 have e:Li [Dl a,Dl b]=Li (([a,b].filter λ _=>true).map λ N=>Dl N):=rfl;simp only[e];refine cZ.comp [nm "row"] [a,b] (λ N=>.d (Ld (N.map sg))) (λ N=>[(nm "row",.d (Ld (N.map sg)))]) (λ _=>true) (λ N=>Dl N) j w E (eh.tuple (Vo:=[Ld (a.map sg),Ld (b.map sg)])) (λ _=>rfl) (λ _ _=>.name) (λ _ _=>.nil) (λ N g _=>?_) (by show 2<=a9;decide) H;refine am (B N g) λ r G=>?_;have o:PV.d (Dl N)=Li ((N.filter λ _=>true).map λ x=>.int x):=by rw[K4.mpr λ _ _=>rfl]
 simp only[o];refine Ev.fe [nm "sign"] N (λ x=>S (sg x)) (λ x=>[(nm "sign",S (sg x))]) (λ _=>true) (λ x=>.int x) y ?_ (λ _=>rfl) (λ _ _=>.name) (λ _ _=>.nil) (λ x J _=>w4 (r x J) (by rfl) t v) (j4 G (by decide));have :=bg.strs (u:=u) (g:=bQ f c) (i:=[(nm "row",PV.d (Ld (N.map sg)))]++cj f i) (G:=N.map sg) (j:=nm "sign") (v:=n) j (Ev.nm (j:=nm "row") (v:=m) (by rfl) s);rwa[dQ]at this
def GJ(d:bf (sA B) (sB B) (sA B).length=((da (fA B) (fB B)).map sg,(df (fA B) (fB B)).map sg))(g:∀x∈da (fA B) (fB B),0<=x)(j:∀x∈df (fA B) (fB B),0<=x)(m:(da (fA B) (fB B)).length<=1000)(n:(df (fA B) (fB B)).length<=1000):St bH Lk bV (i6 B) [] (bZ.getD 6 b2) (.next (i6 B) []):=by
 refine aj λ o=>am (gT B) λ f i=>am (oo B) λ a b=>o (St.v8 (M:=ap) (lM.cmp (p:=Li [Dl (da (fA B) (fB B)),Dl (df (fA B) (fB B))]) (q:=Li [Dl (da (fA B) (fB B)),Dl (df (fA B) (fB B))]) (aD.kr (w5 _ _)) ?_ ?_) (λ h=>by cases h) (λ _=>ag.nil))
 · refine cZ.w6 rfl ?_ g j m n (by rfl) (by rfl) (by rfl) (by rfl) (by rfl);have e:Tu [Ld ((da (fA B) (fB B)).map sg),Ld ((df (fA B) (fB B)).map sg)]=Tu [Ld (bf (sA B) (sB B) (sA B).length).1,Ld (bf (sA B) (sB B) (sA B).length).2]:=by rw[d]
   simp only[e];exact cZ.Gx (a:=11) Ev.nm Ev.nm (a2 a (aE true)) (a2 b (aE true)) (by rfl)
 · have e:Li [Dl (da (fA B) (fB B)),Dl (df (fA B) (fB B))]=Li (([da (fA B) (fB B),df (fA B) (fB B)].filter λ _=>true).map λ N=>Dl N):=rfl;simp only[e];exact Ev.fe [nm "row"] [da (fA B) (fB B),df (fA B) (fB B)] (λ N=>Ls N) (λ N=>[(nm "row",Ls N)]) (λ _=>true) (λ N=>Dl N) (by rfl) (bg.v7 (Vk:=[Ls (da (fA B) (fB B)),Ls (df (fA B) (fB B))]) rfl (Ev.ed (de λ P=>⟨_,u4.fn P⟩) (Cg (a:=11) (a2 f (aE true)) (a2 i (aE true))) (Ev.gl GH) (.cons Ev.nm (.cons Ev.nm .nil))) (eh.tuple (Vo:=[Dl (da (fA B) (fB B)),Dl (df (fA B) (fB B))]))) (λ _=>rfl) (λ _ _=>.name) (λ _ _=>.nil) (λ N _ _=>Ev.nm) (by show 2<=a9;decide)
noncomputable def bx(l:List Int):List Int:=l.mergeSort λ a b=>bF (a<=b)
def w7{a b:List Int}(p:a.Perm b)(c:a.Pairwise (·<=·))(d:b.Pairwise (·<=·)):a=b:=Mo (λ _ _ _ _=>Mg) c d p
def oq(l:List Int):(bx l).Pairwise (·<=·):=by
 have :=List.pairwise_mergeSort (le:=λ a b:Int=>bF (a<=b)) (λ a b c d e=>by simp at d e⊢;exact r5 d e) (λ a b=>by simp;exact Int.le_total _ _) l;exact this.imp λ h=>by simpa using h
def ea(l:List Int):(bx l).Perm l:=List.mergeSort_perm ..
def w8{l m:List Int}(p:m.Perm l)(h:m.Pairwise (·<=·)):m=bx l:=w7 (p.trans (ea l).symm) h (oq l)
def il(l:List Int):(bx l).length=l.length:=(ea l).length_eq
def rD(h:Ev u g i z (Ls B))(d:B.length<64)(c:cG g (nm "sorted")=true)(f:autoParam (∀b a,bD (z::b) a=(ap,He z a)::bD b a) bc):Ev u g i (.Call (.Name (nm "sorted") v) [z] [] J) (Ls (bx B)):=Ev.cA (Fn.Av d λ m p q=>w8 p q) (Ev.bl lk c) (.cons h .nil f)
noncomputable def gq(VL G:List Int):List Int:=(bx (b5 VL)).filter λ x=>!G.any (·==x)
noncomputable abbrev oA(l:List Int):List Int:=gq (fA l++fB l) (fB l)
noncomputable abbrev oB(l:List Int):List Int:=gq (fA l++fB l) (fA l)
noncomputable abbrev rE(l:List Int):List (Str×PV):=(nm "only",Li [Dl (oA l),Dl (oB l)])::i6 l
def w9{G a:List Int}{o p u v t w s q r:Pos}(c:a.length<=20)(m:hf [nm "x"] VK g=true)(n:i.lookup (nm "firsts")=some (Ls (b5 a)))(f:dX g (nm "firsts")=true)(h:cG g (nm "sorted")=true)(l:∀x,([(nm "x",I x)]++cj VK i).lookup j=some (Ls G))(b:dX (bQ VK g) (nm "x")=true)(k:dX (bQ VK g) j=true):Ev Lk g i (.ListComp (.Name (nm "x") u) [⟨.Name (nm "x") t,.Call (.Name (nm "sorted") o) [.Name (nm "firsts") p] [] q,[.Compare (.Name (nm "x") v) [.NotIn] [.Name j w] r],0⟩] VK s) (Ls (gq a G)):=by
 have z:(1000:Nat)<=a9:=by decide
 have d:=i7 a;have e:Ls (gq a G)=Li (((bx (b5 a)).filter λ x=>!G.any (·==x)).map λ x=>.int x):=rfl;simp only[e];exact Ev.fe [nm "x"] (bx (b5 a)) (λ x=>I x) (λ x=>[(nm "x",I x)]) _ _ m (bg.iR rfl (rD (Ev.nm n f) (bA (dt d) (iA c (aE true))) h)) (λ _=>rfl) (λ _ _=>.name) (λ x _=>.one (Tr.w3 (Ev.nm (by rfl) b) (Ev.nm (l x) k))) (λ x _ _=>Ev.nm (by rfl) b) (j4 (j6 (il (b5 a))) (jo c d (aE true)))
def GK:St bH Lk bV (i6 B) [] (bZ.getD 7 b2) (.next (rE B) []):=by
 refine am (gT B) λ b c=>?_;have a:(fA B++fB B).length<=20:=by rw[eB];exact e4 b c (aE true)
 exact St.assign (Ev.list (Vo:=[Dl (oA B),Dl (oB B)]) (e:=by show 2<=a9;decide) (.cons (w9 a (by rfl) (by rfl) (by rfl) (by rfl) (λ _=>by rfl) (by rfl) (by rfl)) (.cons (w9 a (by rfl) (by rfl) (by rfl) (by rfl) (λ _=>by rfl) (by rfl) (by rfl)) .nil))) (by rfl)
noncomputable def aY(F:List Int):List Str:=(bx F).map sg++[sg 65536]
def GL(b:cG g (nm "chr")=true):Ev u g i (.Call (.Name (nm "chr") v) [.Constant (.int 65536) a J] [] Vi) (S (sg 65536)):=Ev.cA (Fn.nk (by decide) (by decide)) (Ev.bl no b) (.cons .int .nil)
def w'{o u p c q r s t:Pos}(b:B.length<=10)(k:∀m:List Str,m.Perm (B.map sg)->M9 m=true->m=(bx B).map sg)(n:i.lookup j=some (Lt (B.map sg)))(d:dX g j=true)(f:cG g (nm "sorted")=true)(h:cG g (nm "chr")=true):Ev Lk g i (.BinOp (.Call (.Name (nm "sorted") o) [.Name j u] [] q) .Add (.List [.Call (.Name (nm "chr") p) [.Constant (.int 65536) a c] [] r] s) t) (Lt (aY B)):=by
 have e:Lt (aY B)=Li (((bx B).map sg).map .str++[.str (sg 65536)]):=by unfold aY Lt;refine(fs).symm▸?_;rfl
 simp only[e];exact Ev.bJ (bb.m9 (by simp;exact an (gp ((il B)▸b) 1) (by decide))) (Ev.cA (Fn.t0 (l:=B.map sg) (by rw[be];exact c6 b (aE true)) k) (Ev.bl lk f) (.cons (Ev.nm n d) .nil)) (Ev.list (Vo:=[.str (sg 65536)]) (e:=by decide) (.cons (GL h) .nil))
def GN(j:∀m:List Str,m.Perm (sA B)->M9 m=true->m=(bx (fA B)).map sg)(k:∀m:List Str,m.Perm (sB B)->M9 m=true->m=(bx (fB B)).map sg)(H:cS (aY (fA B)) (sg 65536))(a:cS (aY (fB B)) (sg 65536))(b:(aM (aY (fA B)) (aY (fB B)) ((aY (fA B)).length+(aY (fB B)).length)).2.2=((oA B).map sg,(oB B).map sg))(f:∀x∈oA B,0<=x)(i:∀x∈oB B,0<=x)(o:(oA B).length<=1000)(r:(oB B).length<=1000):St bH Lk bV (rE B) [] (bZ.getD 8 b2) (.next (rE B) []):=by
 refine am (gT B) λ d g=>St.v8 (M:=ap) (lM.cmp (p:=Li [Dl (oA B),Dl (oB B)]) (q:=Li [Dl (oA B),Dl (oB B)]) (aD.kr (w5 _ _)) ?_ Ev.nm) (λ h=>by cases h) (λ _=>ag.nil);refine cZ.w6 rfl ?_ f i o r (by rfl) (by rfl) (by rfl) (by rfl) (by rfl);have e:Tu [Ld ((oA B).map sg),Ld ((oB B).map sg)]=Tu [Ld (aM (aY (fA B)) (aY (fB B)) ((aY (fA B)).length+(aY (fB B)).length)).2.2.1,Ld (aM (aY (fA B)) (aY (fB B)) ((aY (fA B)).length+(aY (fB B)).length)).2.2.2]:=by rw[b]
 simp only[e];exact cZ.gG rfl (de λ P=>⟨_,vB.fn P⟩) (Dk (a:=11) H a) (Ev.gl GI) (.cons (w' d j (by rfl) (by rfl) (by rfl) (by rfl)) (.cons (w' g k (by rfl) (by rfl) (by rfl) (by rfl)) .nil))
def xa(P:a3):a5 P (nm "three_way_cmp")=some (.ref 198):=by lia
def GO(P:a3):a5 P (nm "cmp_to_key")=some (.ref 125):=by lia
def xb:∀w,fI w 198:=de λ P=>⟨cf P 198,by lia⟩
noncomputable def gV:List Io:=(cE (bZ.getD 9 b2)).body
noncomputable abbrev kv(F:List Int)(a:List (Str×PV)):List (Str×PV):=(nm "numbers",Ls F)::(nm "signs",Lt (F.map sg))::a
noncomputable abbrev cq(F:List Int)(i:Nat):Nat:=(F.getD i 0).toNat
noncomputable def rF(F:List Int)(i j:Nat):Int:=eX (bF (cq F j<cq F i)) (bF (cq F i<cq F j))
def xd(a b:Nat):bF ([a]<[b])=bF (a<b):=by
 rw[decide_eq_decide,QV];exact⟨λ h=>h.elim id λ h=>absurd h.2 (NG _),.inl⟩
def GP(F:List Int)(i j:Nat):bF (rF F i j<0)=d1 (cq F) i j:=by
 unfold rF d1;by_cases h:cq F i<cq F j;·rw[decide_eq_true h,decide_eq_false (b'.mpr (bn h))];rfl
 · rw[decide_eq_false h];cases bF (cq F j<cq F i)<;>rfl
def xe(F:List Int)(h:a<F.length):((F.map sg).map tl)[((a:Nat):Int).toNat]?=some (.str ⟨#[cq F a]⟩):=by
 simp only[b4,a',a',ay h];unfold cq;rw[av,ay h];rfl
noncomputable def hv(F:List Int):List Int:=bx (b5 F)
noncomputable def fX(F:List Int):List Nat:=(hv F).flatMap λ x=>(a1 F.length).filter λ k=>F.getD k 0==x
def GQ(h:Ev u g i z (Lt (B.map sg)))(c:B.length<=1000)(f:cG g (nm "range")=true)(d:cG g (nm "len")=true)(j:autoParam (∀b a,bD (z::b) a=(ap,He z a)::bD b a) bc):Ev u g i (.Call (.Name (nm "range") v) [.Call (.Name (nm "len") J) [z] [] VC] [] Vi) (.gg 0 B.length 1):=by
 have :=Fn.lh (u:=u) (Vo:=(B.map sg).map .str) (by simp;exact c6 c (aE true));simp only[be,be]at this;exact Ev.gG Fn.range (Ev.bl h0 f) (.cons (Ev.cA this (Ev.bl dY d) (.cons h .nil j)) .nil)
def GR(m:2<=B.length)(f:B.length<=10)(r:∀p:List Nat,p.Perm (a1 B.length)->p.Pairwise (dD (cq B))->p=fX B):St bH Lk bV (kv B i) [] (gV.getD 0 b2) (.next ((nm "places",Ls ((fX B).map Ln))::kv B i) []):=by
 refine St.q7 (cZ.FP (a:=8) (b:=B.length) (H:=cq B) (G:=rF B) (fT.one (j:=nm "signs") (VI:=.list ((B.map sg).map .str)) (by rfl) (by rfl) (by decide) (by rfl) (wW (by rfl)) λ a o l G L N t H E s u v w z A C e j g h=>?_) (λ e j _ _=>GP B e j) (rx (by rfl)) (λ J=>rfl) (Ev.bl lk) ?_ (Ev.gl GO) m (c6 f (aE true)) r) (by rfl)
 · refine gQ.wP (a:=8) (G:=[nm "j",nm "k"]) (i:=[(nm "signs",Lt (B.map sg))]) s u v w z ⟨rfl,rfl,rfl,by decide,by decide,by decide,A⟩ rfl (λ l D M q=>by
       refine cP (d9 q) ?_;rintro a b rfl;unfold J6;rw[D.params,D.dflt,D.kw];lia) C ?_;have :=AM (j:=⟨#[cq B e]⟩) (Vf:=⟨#[cq B j]⟩) (a:=7) (M:=true);simp only[show bF ((⟨#[cq B j]⟩:Str).cps.toList<(⟨#[cq B e]⟩:Str).cps.toList)=bF (cq B j<cq B e)from xd _ _,show bF ((⟨#[cq B e]⟩:Str).cps.toList<(⟨#[cq B j]⟩:Str).cps.toList)=bF (cq B e<cq B j)from xd _ _]at this;exact Ev.ed xb this (Ev.gl xa) (.cons (Ev.dI (C:=e) Ev.nm Ev.nm (dh) (mj (iw g) (fC f (aE true))) (xe B g)) (.cons (Ev.dI (C:=j) Ev.nm Ev.nm (dh) (mj (iw h) (fC f (aE true))) (xe B h)) .nil))
 ·exact GQ (B:=B) Ev.nm (a2 f (aE true)) (by rfl) (by rfl)
def lY:Prop:=∀{k:Lv}{a:aw}{d:List (Str×PV)}{f g h i:Pos}{e:b7}{F:List Int},k.2=true->F.length<=10->Ev k a d e (Ls F)->cG a (nm "sorted")=true->cG a (nm "set")=true->(∀c b,bD (e::c) b=(ap,He e b)::bD c b)->Ev k a d (.Call (.Name (nm "sorted") f) [.Call (.Name (nm "set") g) [e] [] i] [] h) (Ls (hv F))
noncomputable abbrev i8(F:List Int):List Int:=(fX F).map Ln
def GS(F:List Int):(hv F).length<=F.length:=by
 unfold hv;rw[il];exact i7 F
def GU(c:B.length<=10):(fX B).length<=100:=by
 unfold fX;rw[List.length_flatMap];have :∀L:List Int,(L.map λ x=>((a1 B.length).filter λ k=>B.getD k 0==x).length).sum<=L.length*10:=λ L=>by induction L with
  |nil=>exact dk _|cons a r d=>
   have b:=Ei (λ k=>B.getD k 0==a) (a1 B.length);simp only[Ly]at b;simp only[uW,ML,y3];exact by rw[Nat.succ_mul,IE];exact IW d (an b c)
 have :=this (hv B);exact an this (KQ 10 (an (GS B) c))
def xf(F:List Int):Ls (i8 F)=Li (((hv F).filter λ _=>true).flatMap λ x=>((a1 F.length).filter λ k=>F.getD k 0==x).map λ(k:Nat)=>.int (k:Int)):=by
 rw[K4.mpr λ _ _=>rfl];unfold i8 fX Ls;rw[dQ,List.map_flatMap];rfl
def GV{f:List (Str×PV)}(g:lY)(a:B.length<=10):St bH Lk bV ((nm "places",Ls (i8 B))::kv B f) [] (gV.getD 1 b2) (.next ((nm "places",Ls (i8 B))::kv B f) []):=by
 have n:(1000:Nat)<=a9:=by decide
 refine St.ite (M:=ap) (Tr.cmp (p:=Ls (i8 B)) (q:=Ls (i8 B)) (aD.kr (rB _)) Ev.nm ?_) (λ h=>by cases h) (λ _=>ag.nil);have m:(((hv B).filter λ _=>true).flatMap λ x=>((a1 B.length).filter λ k=>B.getD k 0==x).map λ(k:Nat)=>Pq (k:Int)).length<=a9:=by
   have :=congrArg (λ p=>match p with|PV.d (.list l)=>l.length|_=>0) (xf B);simp only[<-this,be,be];exact a2 (GU a) (aE true)
 rw[xf];refine Ev.FT (hv B) (λ x=>I x) (λ x=>[(nm "x",I x)]) (λ _=>true) (λ _=>a1 B.length) (λ(k:Nat)=>I (k:Int)) (λ k=>[(nm "k",I (k:Int))]) (λ x k=>B.getD k 0==x) (λ _(k:Nat)=>.int (k:Int)) (dJ.of (G:=[nm "x",nm "k"]) (by rfl)).1 (bg.iR rfl (g rfl a Ev.nm (by rfl) (by rfl) (by intros;rfl))) (λ _ _=>.name) (λ x _ y q e=>?_) (λ _ _=>.nil) (λ x _ _=>?_) (λ _ _ _ _=>.name) (λ x _ z _ y q e=>?_) (λ x _ z _ y q e=>?_) (λ x _ j b=>?_) (λ x _ j b _=>Ev.nm) m
 · have h:=jM e;exact(dJ.of (VK:=bV) (G:=[nm "x",nm "k"]) (by rfl)).2 y (by simp at h⊢;exact .inl h)
 ·exact bg.v7 rfl (wY Ev.nm (a2 a (aE true)) (by rfl) (by rfl)) (wX (a2 a (aE true)))
 · have h:=jM e;exact(dJ.of (VK:=bV) (G:=[nm "x",nm "k"]) (by rfl)).2 y (by simp at h⊢;exact .inr h)
 · have h:=jM e;obtain rfl:y=nm "x":=aI.mp (h);rfl
 · have d:j<B.length:=cI.mp b;exact .one (Tr.cmp aD.jS (Ev.gO (B:=B) (a:=j) Ev.nm Ev.nm d (e5 d a (aE true))) Ev.nm)
noncomputable def kx(q:Str×Int×Int)(x:Str):Str×Int×Int:=if cY q.1 x=true then(x,q.2.1+q.2.2,1)else(q.1,q.2.1+(if cY x q.1=true then 1 else 0),q.2.2+(if(x==q.1)=true then 1 else 0))
noncomputable def d3(F:List Int):Nat->Str×Int×Int
 |0=>(aR,0,0)|VM+1=>kx (d3 F VM) (sg (F.getD VM 0))
noncomputable def d4(q:Str×Int×Int):List bP:=[.str q.1,.int q.2.1,.int q.2.2]
def im{q:Str×Int×Int}(h:i.lookup j=some (Li (d4 q)))(b:dX g j=true)(f:0<=C)(e:C<2^63)(c:(d4 q)[C.toNat]?=some VI):Ev u g i (.Subscript (.Name j v) (.Constant (.int C) a J) Vi) (.d VI):=Ev.dI (Vo:=d4 q) (C:=C) (Ev.nm h b) .int f e c
def GW(h:(((B.map sg).map tl).map PV.d)[a]?=some V):V=S (sg (B.getD a 0)):=by
 simp only[a',a',a']at h;refine ey (x:=B[a]?) (λ e=>?_) λ x e=>?_;·rw[e]at h;exact aQ h
 · rw[e]at h;rw[av,e];exact(ax h).symm
noncomputable abbrev ky(F:List Int)(a:List (Str×PV)):List (Str×PV):=(nm "places",Ls (i8 F))::kv F a
def GX(E:B.length<=10):St bH Lk bV (ky B i) [] (gV.getD 2 b2) (.next ((nm "most",Li (d4 (d3 B B.length)))::ky B i) []):=by
 have r:(((B.map sg).map tl).map PV.d).length=B.length:=by simp
 have e:Li (d4 (d3 B B.length))=Li (d4 (d3 B (((B.map sg).map tl).map PV.d).length)):=by rw[r]
 refine e.symm▸(St.q7 (cZ.v9 (a:=11) (V:=Lt (B.map sg)) (l:=λ d=>d4 (d3 B d)) (fT.zero λ a o g z G J t A s u v w y d p m=>?_) (rx (by rfl)) (λ C=>rfl) (Ev.gl wV) (.cons Ev.nm (.cons ?_ .nil)) eh.list) (by rfl))
 · obtain rfl:=GW m;refine(gQ.wP (a:=10) (G:=[nm "state",nm "sign"]) (i:=[]) s u v w y ⟨rfl,rfl,rfl,by decide,by decide,by decide,λ n h=>(by
     have :=eF h;simp at this)⟩ rfl (λ g D H j=>by
       refine cP (d9 j) ?_;rintro a b rfl;unfold J6;rw[D.params,D.dflt,D.kw];lia) (λ _ _ _ _ _ e=>by cases e) ?_).l;show Ev _ _ _ _ (Li (d4 (kx (d3 B d) (sg (B.getD d 0)))));generalize d3 B d=q;generalize sg (B.getD d 0)=x;have e:Li (d4 (kx q x))=if cY q.1 x=true then Li [.str x,.int (q.2.1+q.2.2),.int 1]else Li [.str q.1,.int (q.2.1+(if cY x q.1=true then 1 else 0)),.int (q.2.2+(if(x==q.1)=true then 1 else 0))]:=by unfold kx;split<;>rfl
   have f:∀c:Bool,I (if c=true then 1 else 0)=if c=true then I 1 else I 0:=λ c=>by cases c<;>rfl
   simp only[e];refine Ev.ite (Tr.cmp aD.k' Ev.nm (im (q:=q) (by rfl) (by rfl) (by decide) (by decide) rfl)) (λ _=>?_) (λ _=>?_);·exact Ev.list (Vo:=[.str x,.int (q.2.1+q.2.2),.int 1]) (e:=by show 3<=a9;decide) (.cons Ev.nm (.cons (Ev.bJ bb.fc (im (q:=q) (by rfl) (by rfl) (by decide) (by decide) rfl) (im (q:=q) (by rfl) (by rfl) (by decide) (by decide) rfl)) (.cons .int .nil)))
   · refine Ev.list (Vo:=[.str q.1,.int (q.2.1+(if cY x q.1=true then 1 else 0)),.int (q.2.2+(if(x==q.1)=true then 1 else 0))]) (e:=by show 3<=a9;decide) (.cons (im (q:=q) (by rfl) (by rfl) (by decide) (by decide) rfl) (.cons (Ev.bJ bb.fc (im (q:=q) (by rfl) (by rfl) (by decide) (by decide) rfl) ?_) (.cons (Ev.bJ bb.fc (im (q:=q) (by rfl) (by rfl) (by decide) (by decide) rfl) ?_) .nil)))
     · simp only[f];exact Ev.ite (Tr.cmp aD.jG Ev.nm (im (q:=q) (by rfl) (by rfl) (by decide) (by decide) rfl)) (λ _=>.int) (λ _=>.int)
     · simp only[f];exact Ev.ite (Tr.cmp aD.qE Ev.nm (im (q:=q) (by rfl) (by rfl) (by decide) (by decide) rfl)) (λ _=>.int) (λ _=>.int)
 ·exact Ev.list (Vo:=d4 (d3 B 0)) (e:=by show 3<=a9;decide) (.cons .str (.cons .int (.cons .int .nil)))
noncomputable def hw(F:List Int)(M:Int):Str×Int×Int:=(sg M,((F.filter λ x=>bF (x<M)).length:Nat),(F.count M:Nat))
def rG(e:u.2=true)(f:C∈B)(d:∀a,a∈B->a<=C)(h:i.lookup j=some (Ls B))(b:dX g j=true)(c:cG g (nm "max")=true):Ev u g i (.Call (.Name (nm "max") v) [.Name j J] [] Vi) (I C):=Ev.cA (Fn.CY e f d) (Ev.bl CX c) (.cons (Ev.nm h b) .nil)
def GY(j:B.length<=10)(k:0<=C)(g:C<65536)(f:C∈B)(b:∀a,a∈B->a<=C)(m:d3 B B.length=hw B C):St bH Lk bV ((nm "most",Li (d4 (d3 B B.length)))::ky B i) [] (gV.getD 3 b2) (.next ((nm "most",Li (d4 (d3 B B.length)))::ky B i) []):=by
 have n:(1000:Nat)<=a9:=by decide
 refine m.symm▸(St.ite (M:=ap) (Tr.cmp (p:=Li (d4 (hw B C))) (q:=Li (d4 (hw B C))) (aD.kr (jN λ d e=>?_)) Ev.nm ?_) (λ h=>by cases h) (λ _=>ag.nil))
 · unfold d4 hw at e;simp only[aP,uR,or_false]at e;rcases e with rfl|rfl|rfl
   · refine⟨?_,dk _⟩;show cs (sg C)=true;unfold cs sg;simp;exact LK g (by decide)
   ·exact⟨rfl,dk _⟩
   ·exact⟨rfl,dk _⟩
 · refine Ev.list (Vo:=d4 (hw B C)) (e:=by show 3<=a9;decide) (.cons ?_ (.cons ?_ (.cons ?_ .nil)));·exact Ev.cA (Fn.nk (k) (Mq (LK g (by decide)))) (Ev.bl no) (.cons (rG rfl f b (by rfl) (by rfl) (by rfl)) .nil)
   ·exact Ev.cA (Fn.j0 (B:=B.filter λ x=>bF (x<C)) (c6 (an (Ei _ _) j) (aE true))) (Ev.bl dY) (.cons (Ev.fe [nm "x"] B (λ x=>I x) (λ x=>[(nm "x",I x)]) (λ x=>bF (x<C)) (λ x=>.int x) (by rfl) (bg.iR rfl Ev.nm) (λ _=>rfl) (λ _ _=>.name) (λ x _=>.one (Tr.cmp aD.lt Ev.nm (rG rfl f b (by rfl) (by rfl) (by rfl)))) (λ x _ _=>Ev.nm) (a2 j (aE true))) .nil)
   ·exact Ev.jK JK Ku Fn.jL Ev.nm (.cons (rG rfl f b (by rfl) (by rfl) (by rfl)) .nil) (f:=by decide)
structure kz(F:List Int)(M:Int):Prop where
 two:2<=F.length
 ot:F.length<=10
 ps:∀p:List Nat,p.Perm (a1 F.length)->p.Pairwise (dD (cq F))->p=fX F
 low:0<=M
 high:M<65536
 mem:M∈F
 max:∀a,a∈F->a<=M
 most:d3 F F.length=hw F M
def G0:gV=[gV.getD 0 b2,gV.getD 1 b2,gV.getD 2 b2,gV.getD 3 b2]:=by lia
def xg(a:lY)(H:kz B C):ag bH Lk bV (kv B i) [] gV (.next ((nm "most",Li (d4 (d3 B B.length)))::ky B i) []):=by exact G0.symm▸(ag.cons (GR H.two H.ot H.ps) (ag.cons (GV a H.ot) (ag.cons (GX H.ot) (ag.cons (GY H.ot H.low H.high H.mem H.max H.most) ag.nil))))
noncomputable def lZ(l:List Int):Nat->List Int|0=>fA l|_=>fB l
def G1(a:lY)(d:kz (fA B) C)(e:kz (fB B) Vs):St bH Lk bV (eM B) [] (bZ.getD 9 b2) (.next (eM B) []):=by
 refine St.nu (v:=_) ([[Ld (sA B),Dl (fA B)],[Ld (sB B),Dl (fB B)]].map λ B=>Tu B) (λ _=>eM B) (λ _=>[]) (λ i=>[(nm "numbers",Ls (lZ B i)),(nm "signs",Lt ((lZ B i).map sg))]) (λ i=>.next ((nm "most",Li (d4 (d3 (lZ B i) (lZ B i).length)))::ky (lZ B i) (eM B)) []) (bg.D8 (x:=[[Ld (sA B),Dl (fA B)],[Ld (sB B),Dl (fB B)]]) rfl ?_) (λ i p f=>?_) (λ i y q c=>?_) (λ i b=>?_) λ i b=>?_;·refine Ev.list (Vo:=[.tuple [Ld (sA B),Dl (fA B)],.tuple [Ld (sB B),Dl (fB B)]]) (e:=by show 2<=a9;decide) (.cons (Ev.tuple (Vo:=[Ld (sA B),Dl (fA B)]) (f:=by show 2<=a9;decide) (.cons Ev.nm (.cons Ev.nm .nil))) (.cons (Ev.tuple (Vo:=[Ld (sB B),Dl (fB B)]) (f:=by show 2<=a9;decide) (.cons Ev.nm (.cons Ev.nm .nil))) .nil))
 ·rcases sG f with⟨rfl,rfl⟩|⟨rfl,rfl⟩<;>exact .lb (by decide)
 · have g:y=nm "numbers"\/y=nm "signs":=by
     simp only[aP,uR,or_false,LQ]at c;exact c.imp (·.1) (·.1)
   rcases g with rfl|rfl<;>rfl
 · refine aH (o2 b) ?_ λ h=>?_
   · rintro rfl;exact xg a (B:=fA B) d
   · obtain rfl:=h;exact xg a (B:=fB B) e
 ·exact⟨⟨rfl,rfl,rfl,rfl,trivial⟩,rfl⟩
noncomputable def kA(F VM:List Int):List Int:=(((bx F).zip (bx VM)).filter λ q=>q.1 !=q.2).map λ q=>if q.2<q.1 then 1 else-1
noncomputable def io(F G:List Int):List Int:=kA F G++[eX (bF (G.length<F.length)) (bF (F.length<G.length))]
def G2(F G:List Int):(iQ (F.map .int) (G.map .int)).map PV.d=(F.zip G).map λ q=>Tu [.int q.1,.int q.2]:=by
 unfold iQ;simp only[List.zip_map,dQ,dQ];rfl
def G3:St bH Lk bV (eM B) [] (bZ.getD 10 b2) (.next ((nm "unlike",Ls (io (fA B) (fB B)))::eM B) []):=by
 refine am (gT B) λ c g=>?_;have t:(1000:Nat)<=a9:=by decide
 have f:=il (fA B);have i:((bx (fA B)).zip (bx (fB B))).length<=10:=by rw[List.length_zip];exact j4 fx (dS f c)
 have m:(kA (fA B) (fB B)).length<=10:=by unfold kA;rw[be];exact an (Ei _ _) i
 refine St.assign (V:=Ls (io (fA B) (fB B))) (lR (a:=kA (fA B) (fB B)) (b:=[eX (bF ((fB B).length<(fA B).length)) (bF ((fA B).length<(fB B).length))]) ?_ (Ev.list (Vo:=[.int (eX (bF ((fB B).length<(fA B).length)) (bF ((fA B).length<(fB B).length)))]) (e:=by show 1<=a9;decide) (.cons ?_ .nil)) (by simp;exact a2 m (aE true))) (by rfl)
 · have e:Ls (kA (fA B) (fB B))=Li ((((bx (fA B)).zip (bx (fB B))).filter λ q=>q.1 !=q.2).map λ q=>.int (if q.2<q.1 then 1 else-1)):=by unfold kA Ls;rw[dQ];rfl
   simp only[e];refine Ev.fe [nm "k",nm "j"] ((bx (fA B)).zip (bx (fB B))) (λ q=>Tu [.int q.1,.int q.2]) (λ q=>[(nm "k",I q.2),(nm "j",I q.1)]) (λ q=>q.1 !=q.2) (λ q=>.int (if q.2<q.1 then 1 else-1)) (by rfl) ?_ (λ _=>rfl) (λ _ _=>.lb (by decide)) (λ q _=>.one (Tr.cmp aD.nF Ev.nm Ev.nm)) (λ q _ _=>?_) (a2 i (aE true))
   · rw[<-G2];exact bg.zip rfl (Ev.bl t5) (rD Ev.nm (c6 c (aE true)) (by rfl)) (rD Ev.nm (c6 g (aE true)) (by rfl))
   · have j:I (if q.2<q.1 then 1 else-1)=if bF (q.2<q.1)=true then I 1 else I (-1):=by by_cases h:q.2<q.1<;>simp[h]
     simp only[j];exact Ev.ite (Tr.cmp aD.gt Ev.nm Ev.nm) (λ _=>.int) (λ _=>Ev.h7 .int)
 · have e:∀a b:Nat,bF ((a:Int)<(b:Int))=bF (a<b):=λ a b=>by rw[decide_eq_decide];exact Mp
   have d:∀{y:Str}{o s r:Pos}{F:List Int},F.length<=10->(eM B).lookup y=some (Ls F)->dX bV y=true->Ev Lk bV (eM B) (.Call (.Name (nm "len") o) [.Name y s] [] r) (I (F.length:Nat)):=λ k n f=>Ev.cA (Fn.j0 (c6 k (aE true))) (Ev.bl dY) (.cons (Ev.nm n f) .nil);simp only[<-e,<-e];exact Ev.bJ bb.qj (Ev.cmp aD.gt (d c (by rfl) (by rfl)) (d g (by rfl) (by rfl))) (Ev.cmp aD.lt (d c (by rfl) (by rfl)) (d g (by rfl) (by rfl)))
def G4(n:Nat):Lg n (-1)=n-1:=by
 rcases n with _|n;·rfl
 · unfold Lg;rw[if_pos (by decide),show(-1:Int)+((n+1:Nat):Int)=(n:Int)from Int.neg_add_cancel_left 1 n|>λ h=>by rw[Int.natCast_succ,Uq (n:Int) 1];exact h,Tg (J1.mpr (I7 n)),Pn (IJ _)];rfl
def G5(l:List Vd):eE l none (some (-1))=l.dropLast:=by
 show(l.drop 0).take (Lg l.length (-1)-0)=_;simp only[(G4 _),Lz,KU,List.dropLast_eq_take]
def Ev.G6{x y:Bool}(f:Ev u g i z (Bo x))(h:x=true->Ev u g i Vn (Bo y)):Ev u g i (.BoolOp .And [z,Vn] v) (Bo (x&&y)):=λ X w A c n s E R=>BoolOp_and (f.use c R (Kp.refl s) λ r o l _ d e=>by
  obtain rfl:=l.bool;refine zF ?_;rcases x with _|_;·exact⟨.k8,d⟩
  ·exact BoolOp_one ((h rfl).use c e d λ q p m _ j _=>⟨m,j⟩))
def aD.xh(a:cz VI):aD .Eq (.d VI) (.d VI) true:=by
 have :=aD.eq a a;rwa[PG _ a.1]at this
noncomputable abbrev fY(VL VM:List Str):Int:=eX (ck VM VL) (ck VL VM)
noncomputable def fZ(l:List Int):List Int:=[fY ((bx (fA l)).map sg) ((bx (fB l)).map sg),fY ((bx (fB l)).map sg) ((bx (fA l)).map sg),fY (sA l) (sA l),fY (sA l).dropLast (sA l),fY (sA l) (sA l).dropLast]
noncomputable abbrev xi(l:List Int):List (Str×PV):=(nm "unlike",Ls (io (fA l) (fB l)))::eM l
noncomputable abbrev rH(l:List Int):List (Str×PV):=(nm "compared",Ls (fZ l))::xi l
def ou(d:B.length<=10)(f:∀m:List Str,m.Perm (B.map sg)->M9 m=true->m=(bx B).map sg)(h:Ev Lk g i z (Lt (B.map sg)))(c:cG g (nm "sorted")=true)(j:autoParam (∀b a,bD (z::b) a=(ap,He z a)::bD b a) bc):Ev Lk g i (.Call (.Name (nm "sorted") v) [z] [] J) (Lt ((bx B).map sg)):=Ev.cA (Fn.t0 (l:=B.map sg) (by rw[be];exact c6 d (aE true)) f) (Ev.bl lk c) (.cons h .nil j)
def l0{x y:List Str}(f:Ev Lk g i z (Lt x))(h:Ev Lk g i Vn (Lt y))(c:cG g (nm "three_way_cmp")=true)(d:autoParam (∀b a,bD (z::b) a=(ap,He z a)::bD b a) bc)(e:autoParam (∀b a,bD (Vn::b) a=(ap,He Vn a)::bD b a) bc):Ev Lk g i (.Call (.Name (nm "three_way_cmp") v) [z,Vn] [] J) (I (fY x y)):=Ev.ed xb (Cr (a:=11)) (Ev.gl xa c) (.cons f (.cons h .nil e) d)
def G7(b:Ev Lk g i z (Lt G))(c:G.length<=1000):Ev Lk g i (.Subscript z (.Slice none none none v) J) (Lt G):=by
 have :=Ev.slice (v:=v) (J:=J) b .none .none (by simpa using an c (by decide));rwa[Gv]at this
def xj(b:Ev Lk g i z (Lt G))(c:G.length<=1000):Ev Lk g i (.Subscript z (.Slice none (some (.UnaryOp .USub (.Constant (.int 1) a J) Vi)) none v) VC) (Lt G.dropLast):=by
 have :=Ev.slice (v:=v) (J:=VC) b .none (.some (Ev.h7 (v:=Vi) (Ev.int (C:=1) (a:=a) (v:=J)))) (by simpa using an c (by decide));rw[show(-(1:Int))=-1 from rfl,G5,<-List.map_dropLast]at this;exact this
def G8(d:∀m:List Str,m.Perm (sA B)->M9 m=true->m=(bx (fA B)).map sg)(e:∀m:List Str,m.Perm (sB B)->M9 m=true->m=(bx (fB B)).map sg):St bH Lk bV (xi B) [] (bZ.getD 11 b2) (.next (rH B) []):=by
 refine aj λ f=>am (gT B) λ b c=>am (oo B) λ a g=>f ?_;exact St.assign (V:=Ls (fZ B)) (Ev.list (Vo:=(fZ B).map .int) (e:=by show 5<=a9;decide) (.cons (l0 (ou b d Ev.nm (by rfl)) (ou c e Ev.nm (by rfl)) (by rfl)) (.cons (l0 (ou c e Ev.nm (by rfl)) (ou b d Ev.nm (by rfl)) (by rfl)) (.cons (l0 Ev.nm (G7 Ev.nm (a2 a (aE true))) (by rfl)) (.cons (l0 (xj Ev.nm (a2 a (aE true))) Ev.nm (by rfl)) (.cons (l0 Ev.nm (xj Ev.nm (a2 a (aE true))) (by rfl)) .nil)))))) (by rfl)
def G9(g:(io (fA B) (fB B))[0]?=some C)(c:fZ B=[C,0-C,0,-1,1]):St bH Lk bV (rH B) [] (bZ.getD 12 b2) (.ret (Bo true)):=by
 have a:∀{b m k:Pos}{j:Nat},Ev Lk bV (rH B) (.Subscript (.Name (nm "unlike") m) (.Constant (.int 0) j b) k) (I C):=λ{_ _ _ _}=>Ev.dI (Vo:=(io (fA B) (fB B)).map .int) (C:=0) Ev.nm .int (by decide) (by decide) (by rw[a'];show Option.map _ (io (fA B) (fB B))[0]?=_;rw[g];rfl);refine St.ret (Ev.G6 (Ev.cmp (p:=Ls (fZ B)) (q:=Ls (fZ B)) (aD.xh (rB _)) Ev.nm ?_) λ _=>?_)
 · rw[c];exact Ev.list (Vo:=[.int C,.int (0-C),.int 0,.int (-1),.int 1]) (e:=by show 5<=a9;decide) (.cons a (.cons (Ev.bJ bb.sub .int a) (.cons .int (.cons (Ev.h7 .int) (.cons .int .nil)))))
 · refine Ev.cmp (p:=Li []) (q:=Li []) (aD.xh (jN λ d f=>by cases f)) ?_ (Ev.list (Vo:=[]) .nil);have e:Li []=Li (((fZ B).filter λ _=>ap).map λ x=>Pq x):=by rw[show(fZ B).filter (λ _=>ap)=[]by rfl];rfl
   simp only[e];exact Ev.fe [nm "number"] (fZ B) (λ x=>I x) (λ x=>[(nm "number",I x)]) (λ _=>ap) (λ x=>.int x) (by rfl) (bg.iR rfl Ev.nm) (λ _=>rfl) (λ _ _=>.name) (λ x _=>.one (Tr.cmp (aD.C1 (VH:="int")) (Ev.gG Fn.C0 (Ev.bl CZ) (.cons Ev.nm .nil)) (Ev.bl qm))) (λ _ _ h=>by cases h) (by show 5<=a9;decide)
structure xk(l:List Int):Prop where
 cd:ie (sA l) (sB l)=(gU (fA l) (fB l)).map λ x=>((fA l).count x,(fB l).count x,sg x)un:bf (sA l) (sB l) (sA l).length=((da (fA l) (fB l)).map sg,(df (fA l) (fB l)).map sg)G':∀x∈da (fA l) (fB l),0<=x
 Ha:∀x∈df (fA l) (fB l),0<=x
 xl:∀m:List Str,m.Perm (sA l)->M9 m=true->m=(bx (fA l)).map sg
 xm:∀m:List Str,m.Perm (sB l)->M9 m=true->m=(bx (fB l)).map sg
 Hb:cS (aY (fA l)) (sg 65536)Hc:cS (aY (fB l)) (sg 65536)sd:(aM (aY (fA l)) (aY (fB l)) ((aY (fA l)).length+(aY (fB l)).length)).2.2=((oA l).map sg,(oB l).map sg)eo:∃M,kz (fA l) M
 et:∃M,kz (fB l) M
 cmp:∃u,(io (fA l) (fB l))[0]?=some u/\fZ l=[u,0-u,0,-1,1]
def Hf:bZ=[bZ.getD 0 b2,bZ.getD 1 b2,bZ.getD 2 b2,bZ.getD 3 b2,bZ.getD 4 b2,bZ.getD 5 b2,bZ.getD 6 b2,bZ.getD 7 b2,bZ.getD 8 b2,bZ.getD 9 b2,bZ.getD 10 b2,bZ.getD 11 b2,bZ.getD 12 b2]:=by lia
def Hg(VL VM:List Int):(da VL VM).length<=VL.length/\(df VL VM).length<=VM.length:=by
 unfold da df;simp only[be,be];exact⟨an (Ei _ _) (by simp),an (Ei _ _) (by simp)⟩
def xn{a G:List Int}(h:C∈gq a G):C∈a:=lX ((ea _).mem_iff.mp (hu.mp h).1)
def xo(VL VM:List Int):(gq VL VM).length<=VL.length:=an (Ei _ _) (by rw[il];exact i7 _)
def ag.Hh{a:Go}(h:ag A u g i [] Vr a):ag A u g i D Vr a:=λ X w b f d j s E m c O F=>h X w b f d j s E m c O {F with own:=λ _ _ e=>(nomatch e),nodup:=NF,apart:=λ _ _ _ _ _ e=>(nomatch e)}
def Hi(f:lY)(i:B.length<=63)(P:xk B):Bd bH Lk bV [(nm "script",Ls B)] bZ (Bo true):=by
 refine aj λ n=>am (gT B) λ a b=>am (Hg (fA B) (fB B)) λ k m=>?_;have c:(fA B++fB B).length<=20:=by rw[eB];exact e4 a b (aE true)
 refine ai P.eo λ o d=>ai P.et λ p e=>ak P.cmp λ u j g=>n ?_;unfold Bd;exact Hf.symm▸(ag.cons (F1 i) (ag.weaken (b:=[(nm "rows",RR B)]) (ag.cons Gr (ag.cons Gs (ag.cons Gu (ag.Hh (ag.weaken (b:=eM B) (ag.cons GA (ag.cons (GG P.cd) (ag.cons (GJ P.un P.G' P.Ha (jo a k (aE true)) (jo b m (aE true))) (ag.cons GK (ag.cons (GN P.xl P.xm P.Hb P.Hc P.sd (λ x h=>(rC (xn h)).1) (λ x h=>(rC (xn h)).1) (jo c (xo (fA B++fB B) (fB B)) (aE true)) (jo c (xo (fA B++fB B) (fA B)) (aE true))) (ag.weaken (b:=eM B) (ag.cons (G1 f d e) (ag.cons G3 (ag.cons (G8 P.xl P.xm) (ag.last (G9 j g) trivial)))) ⟨rfl,rfl,rfl,rfl,trivial⟩)))))) ⟨rfl,rfl,rfl,rfl,trivial⟩))))) ⟨rfl,trivial⟩))
noncomputable abbrev l3:OpenLaw:=Lj
noncomputable abbrev ov:RowW:=l3.row.toRowW
def Hj:looksOpen l3.row.toRowW.prog=true:=by
 unfold looksOpen;simp only[ii];repeat'(first|apply Pp|decide+kernel)
def Hk:l3.row.wellSaid=true:=by
 unfold OpenRow.wellSaid OpenRow.partSaid;rw[Hj];decide+kernel
def xp:l3.wellSaid=true:=by
 unfold OpenLaw.wellSaid;rw[Hk];decide+kernel
def xq:ov.promised:=⟨[.list []],by decide+kernel,by decide+kernel⟩
def Hl:opensWell P0=true:=by decide+kernel
def Hm:P0.bare:=⟨rfl,rfl,rfl,rfl,rfl,by decide+kernel⟩
theorem xr:∀{c:List TM},O6 [] c .int=true->∃l:List Int,c=l.map .int
 |[],_=>⟨[],rfl⟩|x::c,h=>by
  have h:(WShape.has [] x .int&&O6 [] c .int)=true:=by unfold O6 at h;exact h
  refine am (x4.mp h) λ a VL=>?_;refine ai (xr VL) ?_;rintro l rfl;cases x with
  |int i=>exact⟨i::l,rfl⟩|_=>exact(Jp (show ap=true from a)).elim
def Hn{f:List TM}(h:ov.claim.pre f=true):∃l:List Int,f=[.list (l.map .int)]/\l.length<=63:=by
 refine am (pre_splitW h) λ a b=>?_;refine bS (hasAllW_cons (show WShape.hasAll [] f [.list .int]=true from a)) λ d r j g i=>?_;obtain rfl:=j;have :r=[]:=by
  rcases r with _|⟨_,_⟩;·rfl
  ·exact(Jp (show ap=true from i)).elim
 subst this;cases d with
 |list m=>
  refine ai (xr (c:=m) ((TB _).symm.trans g)) ?_;rintro l rfl;refine bj l rfl ?_;have b:WTm.holds [] (.and (.not (.lt (.lit (.int 63)) (.len (.arg 0)))) (.lit (.bool true))) {args:=[.list (l.map .int)]}=true:=b;have k:∀c:Bool,WTm.holds [] (.and (.not (.lit (.bool c))) (.lit (.bool true))) {args:=[]}=true->c=ap:=λ c h=>by
   cases c;·rfl
   ·exact(Jp (show ap=true from h)).elim
  have e:=of_decide_eq_false (k (bF ((63:Int)<((l.map WData.int).length:Int))) b);rw[be]at e;exact J1.mp (JQ.mp e)|_=>exact(Jp (show ap=true from g)).elim
def kY.tabs{k:J7}{S:fl}(H:kY c k S):∀b,bC b->S.abs.heap.get? b=some (Jy #[]):=by
 have tab:∀P,IH P 314=true->(P,Jy #[])∈d8 c.params->S.abs.heap.get? P=some (Jy #[]):=λ P h g=>by
  refine ak (bh.mp (OS.mp H.objs _ g)) λ o j e=>?_;have :o=Jy #[]:=by
   obtain⟨l,d,f,m⟩:=o;cases f<;>first|exact e|cases e
  subst this;exact db (by rw[H.size];exact h) j rfl
 intro b a;unfold bC c8 at a;simp only[JY]at a;rcases a with(a|a)|a<;>obtain rfl:=KC a;·exact tab _ rfl (ct (i:=62) (by lia))
 ·exact tab _ rfl (ct (i:=76) (by lia))
 ·exact tab _ rfl (ct (i:=265) (by lia))
def Ho{g:Array KI}(h:pS g=1):g=#[.finished]:=by
 obtain⟨l⟩:=g;obtain _|⟨a,_|⟨b,r⟩⟩:=l;·cases h
 ·cases a<;>first|rfl|cases h
 ·cases a<;>cases h
def xt(w:ar):(∃s,AfterRun (opening P0) w s)/\∀s,AfterRun (opening P0) w s->∃f,fenceModules? P0 s=some f/\f.gens=#[]/\∃c,TopRan P0 w f c/\c.asleep/\Qi c.gens=ap/\c.heap.isNs FG=true/\c.heap.isNs IV=true/\c.heap.bltView=Rp/\c.heap.bmainOk=true/\aC w c.heap/\c.heap.objs.size=314/\∀b,bC b->c.heap.get? b=some (Jy #[]):=by
 have h:=boot_open (p:=P0) (N:=600) zZ rfl z0 w;refine aj λ C=>ak (bh.mp h) λ f u T=>?_;unfold fencedOpening at u;rw[<-table_eq_tree]at u;refine ak (dg.mp u) λ s V0 VM=>C ?_;have A:=Va V0;refine dv ⟨s,A⟩ (λ Wc V4=>(aj λ C=>?_));obtain rfl:Wc=s:=U' V4 A;have VN:f.asleep:=Qj (fence_lifeW VM) A.life;simp only[LQ]at T;refine iB T λ i r D E=>?_;have VR:f=(pR w.params f.os).abs:=by
   obtain⟨We,g,d,t,os⟩:=f;dsimp only at i r D E;subst i r D E;show _=(⟨R4 (pQ w.params) 11 {},#[],boot_drawn,boot_toks,os⟩:aa);rw[zK]
 refine ai (zW w f.os) λ S H=>?_;have R:=H.runs;rw[<-VR]at R;have G:=Ho H.gens;have L:Qi S.abs.gens=ap:=by
   show Qi S.gens=ap;rw[G];lia
 refine ai ((halts_iff (M:=au P0 w) (st:=[])).mpr ⟨R,L⟩) λ n V3=>bI (zR VN V3) λ m Wd c k V5 V1 O=>?_;have e:c=S.abs:=Shared.eq_of_forget_eq' V1 λ g V2=>by
   have :g∈S.gens:=V2;rw[G]at this;obtain rfl:g=.finished:=by simpa using this
   rfl
 subst e;have v:=H.kX;unfold pT at v;simp only[ii]at v;refine am v λ j U=>?_;refine am j λ j B=>?_;refine am j λ j y=>?_;obtain⟨⟨⟨⟨V7,V8⟩,V9⟩,V'⟩,Wa⟩:=j;have Q:=H.old;simp only[uW,Ki,OE,and_true]at Q;refine sH Q λ VS VT VV VW VX VY VZ VU=>C ?_;have VL:∀{a:Nat},IH a 314=true->IH a S.n=true:=λ h=>by rw[H.size];exact h
 refine⟨f,VM,r,S.abs,⟨⟨m,Wd,k,V5⟩,O,Shared.rest_eq H.zS,λ b o J l=>?_,?_,?_,Pin.keysAreStrs_of y,λ x V6=>(Pin.builtinOf_eq B x).trans (Heap.of_bltView B H.blt x V6),?_,gens_of_done V9,names_of_bound V8,?_⟩,Qj O VN,L,y,B,H.blt,U,H.left,(PF _ _ _).trans H.size,H.tabs⟩
 · rw[i]at J l;have k:=z1 w.params J (λ q=>l (.inr (.inl q))) (λ q=>l (.inl q)) (λ q=>l (.inr (.inr (by rw[PH (tB _).1,(tB _).2,q]))));simp only[aP,LQ,uR,or_false]at k;rcases k with⟨rfl,rfl⟩|⟨rfl,rfl⟩|⟨rfl,rfl⟩|⟨rfl,rfl⟩|⟨rfl,rfl⟩|⟨rfl,rfl⟩|⟨rfl,rfl⟩|⟨rfl,rfl⟩;·exact db (VL rfl) VS rfl
   ·exact db (VL rfl) VT rfl
   ·exact db (VL rfl) VV rfl
   ·exact db (VL rfl) VW rfl
   ·exact db (VL rfl) VX rfl
   ·exact db (VL rfl) VY rfl
   ·exact db (VL rfl) VZ rfl
   ·exact db (VL rfl) VU rfl
 ·rw[tA];exact Heap.accountedI_of_ok Wa
 ·rw[tA,i];exact statics_of_ok V7
 · obtain⟨bm,ob,V,_,Y,VO,VP,_⟩:=Heap.bmainOk_spec U;exact kO bm ob ((PH y _).trans V) Y VO VP
 ·rw[i];exact laid_of_kept V'
def rI:cu 313 312 bZ bV [nm "script"]:=.mk' (λ P=>by lia) (λ P=>by lia) (λ P=>⟨by lia,by lia,by lia,by lia,by lia,by lia⟩) (by decide) (by rfl) (by rfl) ⟨rfl,rfl⟩ rfl rfl rfl
def Hp(h:Bd bH Lk bV [(nm "script",Ls B)] bZ (Bo true)):ef (13,true) (.ref 313) [Ls B] (Bo true):=ef.of (j:=bH.qual) rI (λ P doc b a=>by
  refine ai (k2 a) ?_;rintro v rfl;lia) rfl (λ P=>by lia) h
def Hq(L:aC c s)(i:s.isNs FG=true):isTheDefsW P0 s (nm "law"):=by
 refine aj λ k=>aW (L.fn (rI.fn c.params) rfl) λ o doc j g=>mC (rI.ok c.params) λ l a b d e f=>k ?_;refine⟨313,o,_,(cf c.params 313).params,bZ,bV,((by refine(L.mg.eq_nsMap).symm▸?_;exact PH i _:globalOf s (nm "law")=a5 c.params (nm "law"))).trans (by lia),j,g,by lia,by lia,by lia,rfl,a,d,e,b,f,.inl ⟨by lia,by lia⟩,[],by lia,.inl ⟨rfl,by lia⟩⟩
def xu(L:aC c s)(f:bC h):isCodeTable s h/\∃g,s.get? h=some (Jy g):=by
 unfold bC c8 at f;simp only[JY]at f;have i:∀{j P:ae},U5 s j P->isCodeTable s P:=λ q=>by
  obtain⟨o,k,_,_,_,_,_,_,_,a,h,d,e,_⟩:=q;exact kP _ o k a h d e
 rcases f with(f|f)|f<;>obtain rfl:=KC f;·exact dv (i L.qG) (let⟨g,e,_⟩:=L.g8;⟨g,e⟩)
 ·exact dv (i L.BC) (by rcases L.g' with e|⟨_,e,_⟩<;>exact⟨_,e⟩)
 ·exact dv (i L.qH) (let⟨g,e,_⟩:=L.g9;⟨g,e⟩)
def xv(P:a3)(h:a7)(v:ab):TM->Prop
 |.int n=>∃t,v=.int n t|.list l=>∃a b,v=.ref a/\h.get? a=some {cls:=.type "list",data:=.seq b.toArray}/\Qx P h b l|_=>True
def xw{d:TM}(r:Well Vx s U d):xv Vx s U d:=Well.casesOn (motive_1:=λ U d _=>xv Vx s U d) r trivial (λ _=>trivial) (λ _ t=>⟨t,rfl⟩) (λ _ _=>trivial) (λ _ _=>trivial) (λ _ _=>trivial) (λ _=>trivial) (λ a b=>⟨_,_,rfl,a,b⟩) (λ _ _=>trivial) (λ _ _=>trivial) (λ _ _ _ _=>trivial) (λ _ _ _ _=>trivial) (λ _ _ _ _=>trivial)
def xx(P:a3)(h:a7)(b:List ab):List TM->Prop
 |[]=>b=[]|d::l=>∃v a,b=v::a/\Well P h v d/\Qx P h a l
def ow{l:List TM}(r:Qx Vx s Ve l):xx Vx s Ve l:=WellAll.casesOn (motive_2:=λ Ve l _=>xx Vx s Ve l) r rfl (λ a b=>⟨_,_,rfl,a,b⟩)
def Hr:∀{l:List Int}{a:List ab},Qx Vx s a (l.map .int)->∃b,ga (cb bC s) a (l.map .int) b:=by
 intro l;induction l with
 |nil=>intro a W;rw[show a=[]from ow W];exact⟨[],.nil⟩|cons n l c=>
  intro a W;refine bS (ow W) λ v e d x r=>?_;obtain rfl:=d;refine ai (xw x) ?_;rintro t rfl;exact ai (c r) λ b s=>⟨_,.cons (.int _ _) s⟩
def Hs:Rm (13,true) callerA:=⟨by decide,by decide,λ _=>rfl⟩
def Ht(VX:∀l:List Int,l.length<=63->Bd bH Lk bV [(nm "script",Ls l)] bZ (Bo true)):l3.Holds:=by
 refine⟨xp,row_said xp,xq,⟨Hm,Hl,rfl⟩,xq.witness,λ VN=>⟨(xt VN).1,λ V8 V0=>(aj λ B=>?_)⟩⟩;obtain⟨V9,O,T,s,M,V2,U,Q,_,_,_,L,We,V1⟩:=(xt VN).2 V8 V0;refine B ⟨V9,O,T,s,M,λ n Y=>?_,λ VP VR=>(nomatch VR),λ VP VR=>(nomatch VR),?_⟩
 · obtain rfl:n=nm "law":=by simpa using(show n∈[nm "law"]from Y)
   exact Hq L Q
 refine ClaimW.callFrom_of_specN (c:=ov.claim) (tree:=λ g=>do match<-nsGet mainNs (nm "law")with
     |some f=>do ret (<-I3 f g)|none=>unsupported "claim.caller:no-such-global") V2 U λ k VV V nj D=>?_;refine aj λ B=>?_;refine ai (K1.mp (layAllW_isSome (R:=[]) (cl:=classAt s.heap) (P:=VN.params) (ord:=nj) (λ c p=>by cases p) k ov.args s (pre_splitW VV).1)) λ V5 VQ=>?_;obtain⟨g,d⟩:=V5;have keeps:=layAllW_keeps _ _ _ VQ;refine ci (reads_layAllW D _ _ _ VQ V d.heap (λ _ _ e=>e)) λ G VZ Wc Wd=>?_;have W:Qx VN.params d.heap g k:=well_layAllW D k s _ VQ _ λ _ _ e=>e;refine ak (Hn VV) ?_;rintro l rfl VY;have VT:aC VN d.heap:=L.keeps keeps;have A:∀VL,bC VL->d.heap.get? VL=some (Jy #[]):=λ VL VU=>keeps _ _ (V1 VL VU);obtain⟨v,rfl,a,j,C,u⟩:∃v,g=[v]/\∃a j,d.heap.get? a=some {cls:=.type "list",data:=.seq j.toArray}/\v=.ref a/\Qx VN.params d.heap j (l.map .int):=by
   refine bS (ow W) λ v j z VP Wa=>?_;obtain rfl:=z;refine bS (xw VP) λ a g z e VL=>?_;obtain rfl:=z;exact⟨_,congrArg _ (ow Wa),_,_,e,rfl,VL⟩
 obtain⟨rfl,u⟩:=u;obtain⟨bs,N⟩:=Hr u;refine B ?_;have V7:aU bC d.heap [.ref a] [Ls l]:=.cons ⟨_,Reads.list (dW.mpr ⟨(λ VM=>by have :=A a VM;rw[C]at this;cases this),⟨rfl,rfl⟩,C⟩) rfl rfl N⟩ .nil;have VW:∀VL,¬FA callerA VL:=λ VL V6=>by obtain⟨l',e,VP,VR,_⟩:=V6;cases(show some []=some l' from e);cases VR
 refine⟨_,d,VQ,al (wpAny_nsGet (m:=a5 VN.params) VT.mg ?_)⟩;rw[show a5 VN.params (nm "law")=some (.ref 313)by lia];refine al (aG (Hp (VX l VY) bC VN callerA Hs {d with gens:=#[]} [.ref a] _ VT (λ VL VU=>VT.tabs VU) ⟨λ _ VM=>VM,λ VL VM=>(VW VL VM).elim,⟨[],rfl,λ _ h=>by cases h⟩,λ _ _ VM n=>(n VM).elim⟩ V7) (λ v V'⟨r,K,E⟩=>ah ⟨_,rfl,?_,?_,?_,(λ VM=>nomatch VM)⟩) λ _ _ VP=>VP)
 · obtain rfl:=r.bool;have kp:KX bC d.heap V'.heap:=λ VL VS n e=>K.ext.keep VL VS (λ _=>⟨n,VW VL⟩) e;refine .inl ⟨_,rfl,λ _=>rfl,⟨.bool true,[.list (l.map .int)],[],G,.bool true,VZ.keepsK λ VL VS e p=>?_,by lia,λ _=>⟨.nil,(λ _ h=>nomatch h),(λ _ h=>nomatch h)⟩,λ _ _=>ident_freeW rfl rfl rfl _ _⟩,(λ i t=>nomatch(show none=some i from t)),(λ VL VS e _ _=>?_),(λ i t=>nomatch(show i∈[]from t))⟩
   · refine kp VL VS (λ VM=>?_) e;rw[A VL VM]at e;obtain rfl:=ax e;exact p rfl
   · by_cases VM:bC VL
     · refine am (xu VT VM) λ c1 _=>?_;obtain⟨_,V4,J⟩:=xu E VM;rw[A VL VM]at e;obtain rfl:=ax e;exact .inr (.inl ⟨c1,rfl,#[],V4,rfl,by rw[J];simp[Jy]⟩)
     ·exact .inl (kp VL VS VM e)
 ·refine aW K λ _ _ e _=>?_;subst e;exact(layAllW_rest _ _ _ VQ).2.2.1
 ·refine aW K λ _ _ e _=>?_;subst e;rfl
structure TOk(led:Bool)(n:Nat)(t:cr):Prop where
 plain:t.plain=true
 led:t.led=led
 l4:t.dummies=#[]size:t.place.size=n
 rise:t.place.toList.Pairwise (·<·)
def ox{c:Array Nat}(h:c.toList.Pairwise (·<·))(j:c[a]?=some x)(l:c[b]?=some Vu)(q:a<b):x<Vu:=by
 refine ai (ec.mp j) λ d e=>?_;refine ai (ec.mp l) λ f g=>?_;have :=My.mp h a b (by simpa using d) (by simpa using f) q;simp only[Array.getElem_toList]at this;simp only[e,g]at this;exact this
theorem rJ{b:Array Nat}{j:Nat}(h:b.toList.Pairwise (·<·)):∀(c lo a:Nat),a<=lo+c->a<=b.size->lo<=a->(∀i v,b[i]?=some v->i<lo->v<j)->(∀i v,b[i]?=some v->a<=i->j<=v)->∃r,M7 b j c lo a=r/\r<=b.size/\(∀i v,b[i]?=some v->i<r->v<j)/\(∀i v,b[i]?=some v->r<=i->j<=v)
 |0,lo,a,k,f,n,l,m=>⟨lo,rfl,j4 n f,l,λ i v e q=>m i v e (j4 k q)⟩|c+1,lo,a,k,f,n,l,m=>by
   show∃r,(if lo<a then(if b.getD ((lo+a)/2) j<j then M7 b j c ((lo+a)/2+1) a else M7 b j c lo ((lo+a)/2))else lo)=r/\_;by_cases q:lo<a
   · rw[if_pos q];have o:(lo+a)/2<b.size:=yN f q;have d:b[(lo+a)/2]?=some b[(lo+a)/2]:=hq o;have t:b.getD ((lo+a)/2) j=b[(lo+a)/2]:=by rw[e0,d];rfl
     refine t.symm▸?_;split
     · rename_i s;refine rJ h c _ a (j4 (yM k) (gp (H' (sj q)) c)) f (yA q o) (λ i v e r=>?_) m;by_cases g:i=(lo+a)/2;·subst g;rw[d]at e;obtain rfl:=ax e;exact s
       ·exact LF (ox h e d (jd r g)) s
     · rename_i p;refine rJ h c lo _ (dF (bA (kL (aB _) (oE q)) k)) (j5 o) (sj q) l (λ i v e r=>?_);by_cases g:i=(lo+a)/2;·subst g;rw[d]at e;obtain rfl:=ax e;exact j8 p
       ·have :=ox h d e (mo g (oD r));exact j4 (j8 p) (j5 this)
   · rw[if_neg q];exact o9 lo rfl (j4 n f) l (λ i v e r=>m i v e (j4 (j8 q) r))
def rK{b:Array Nat}(j:Nat)(h:b.toList.Pairwise (·<·)):uX b j<=b.size/\(∀i v,b[i]?=some v->i<uX b j->v<j)/\(∀i v,b[i]?=some v->uX b j<=i->j<=v):=by
 refine aj λ c=>?_;obtain⟨r,e,a⟩:=rJ (j:=j) h b.size 0 b.size (bE) (gx) (bE) (λ _ _ _ q=>hC q) (λ i v e q=>by obtain⟨a,_⟩:=ec.mp e;exact dR a q);refine c ?_;unfold uX;refine e.symm▸?_;exact a
def Hu{l:List Nat}:∀{m:List Nat},l.Nodup->(∀x∈l,x∈m)->l.length<=m.length:=by induction l with
 |nil=>intro m _ _;exact dk _|cons a l i=>
  intro m g h;refine am (Jf.mp g) λ d f=>?_;have b:=h a (.head _);have :=i (m:=m.erase a) f λ x c=>(List.mem_erase_of_ne (λ(e:x=a)=>d (e▸c))).mpr (h x (.tail _ c));simp only[List.length_erase_of_mem b]at this;have :0<m.length:=QC b;simp only[y3];exact an (H' ‹_›) (Jc (Ll this))
def TOk.slot(T:TOk M a VA)(j:Nat):(j∈VA.place.toList/\∃i,VA.slot j=.live i)\/(j∉VA.place.toList/\VA.slot j=.empty):=by
 refine aj λ l=>a4 (rK j T.rise) λ m b c=>l ?_;unfold SetTable.slot;by_cases q:VA.place[uX VA.place j]?=some j;·left;exact⟨by rw[<-Array.mem_def];exact Array.mem_of_getElem? q,uX VA.place j,by simp[q]⟩
 · right;refine⟨λ k=>?_,?_⟩
   · refine ai (Iq k) λ i d=>?_;rw[Ji]at d;by_cases r:i<uX VA.place j;·exact absurd (b i j d r) (Iy _)
     · by_cases f:i=uX VA.place j;·rw[<-f]at q;exact q d
       · have h:uX VA.place j<VA.place.size:=by refine ai (ec.mp d) λ x _=>?_;exact c5 (j8 r) x
         have e:=hq h;exact dR (ox T.rise e d (mo f r)) (c _ _ e (aB _))
   · have g:PO VA.dummies j=ap:=by rw[T.l4];rfl
     simp[(by simpa using q),g]
def TOk.room(T:TOk M a VA)(c:a<=VA.mask):∃j,j<=VA.mask/\VA.slot j=.empty:=by
 apply IK;intro d;have all:∀j∈a1 (VA.mask+1),j∈VA.place.toList:=λ j b=>by
   refine aH (T.slot j) (λ f=>?_) λ g=>?_;·exact am f λ m _=>m
   · refine am g λ _ e=>?_;exact(d ⟨j,by have :=cI.mp b;exact dF this,e⟩).elim
 have :=Hu Sz all;simp only[Ly,aX,T.size]at this;exact dR (dt c) this
noncomputable abbrev d5(t:cr)(h:Int):Nat->Lc->Option Sr:=TN t (λ _=>h+1) h
noncomputable abbrev hx(t:cr)(i p:Nat):Lc:={j:=i,more:=Ij t.mask i-i,i,perturb:=p,dummy:=none}
def xy(t:cr)(h:Int)(a:Nat)(p:Lc):d5 t h (a+1) p=(match t.slot p.j with|.empty=>some (.empty p.j p.dummy)|.dummy=>d5 t h a (t.advance {p with dummy:=some p.j})|.live i=>if h+1==h then some (.candidate p.j i (t.advance p))else d5 t h a (t.advance p)):=rfl
def TOk.go(T:TOk M a VA)(b:Nat)(p:Lc):(VA.slot p.j=.empty/\d5 VA C (b+1) p=some (.empty p.j p.dummy))\/((VA.slot p.j≠.empty)/\d5 VA C (b+1) p=d5 VA C b (VA.advance p)):=by
 refine aH (T.slot p.j) (λ c=>?_) λ d=>?_
 · obtain⟨_,i,e⟩:=c;right;refine⟨(by rw[e];exact λ q=>by cases q),?_⟩;rw[xy,e];dsimp only;rw[if_neg (by simp;exact λ q=>Uo (Int.lt_succ C) q.symm)]
 · obtain⟨_,e⟩:=d;left;refine⟨e,?_⟩;rw[xy,e]
theorem TOk.xz(T:TOk M a VA):∀(c:Nat)(p:Lc)(m:Sr),p.dummy=none->d5 VA C c p=some m->∃j,m=.empty j none/\VA.slot j=.empty
 |0,p,m,_,e=>aQ e|c+1,p,m,d,e=>by
   refine aH (T.go (C:=C) c p) (λ g=>?_) λ i=>?_
   · refine am g λ f b=>?_;rw[b]at e;obtain rfl:=ax e;exact bj _ (by rw[d]) f
   · refine am i λ f b=>?_;rw[b]at e;refine T.xz c _ m ?_ e;unfold Q6;split;·exact d
     ·exact d
theorem TOk.xA(T:TOk M a VA):∀(c k:Nat)(p:Lc),d5 VA C (c+k) p=none->d5 VA C c p=none
 |0,_,_,_=>rfl|c+1,k,p,e=>by
   rw[show c+1+k=c+k+1 by exact hE]at e;refine aH (T.go (C:=C) (c+k) p) (λ d=>?_) λ f=>?_
   · refine am d λ g b=>?_;rw[b]at e;exact c7 e
   · refine am f λ g b=>?_;rw[b]at e;refine aH (T.go (C:=C) c p) (λ d=>?_) λ f=>?_;·exact am d λ i j=>(g i).elim
     · refine am f λ i j=>?_;rw[j];exact T.xA c k _ e
theorem TOk.xB(T:TOk M a VA):∀(more c j:Nat),d5 VA C (more+1+c) ⟨j,more,b,x,none⟩=none->d5 VA C c (hx VA ((b*5+1+x/32)%(VA.mask+1)) (x/32))=none
 |0,c,j,e=>by
   rw[show 0+1+c=c+1 from IE 1 c]at e;rcases T.go (C:=C) c ⟨j,0,b,x,none⟩with⟨f,d⟩|⟨f,d⟩;·rw[d]at e;exact c7 e
   ·rw[d]at e;exact e|more+1,c,j,e=>by
   rw[show more+1+1+c=more+1+c+1 by exact hE]at e;refine aH (T.go (C:=C) (more+1+c) ⟨j,more+1,b,x,none⟩) (λ g=>?_) λ k=>?_
   · refine am g λ f d=>?_;rw[d]at e;exact c7 e
   · refine am k λ f d=>?_;rw[d]at e;exact T.xB more c (j+1) (by
       have :VA.advance ⟨j,more+1,b,x,none⟩=⟨j+1,more,b,x,none⟩:=by
         unfold Q6;rw[if_pos (Ju more)];rfl
       refine this▸?_;exact e)
def TOk.xC(T:TOk M a VA)(e:d5 VA C (10+Vu) (hx VA b x)=none):d5 VA C Vu (hx VA ((b*5+1+x/32)%(VA.mask+1)) (x/32))=none:=by
 have c:Ij VA.mask b-b<=9:=by unfold Ij;split<;>first|exact j6 ms|(rw[Ng];decide)
 refine T.xB (Ij VA.mask b-b) Vu b (T.xA _ (9-(Ij VA.mask b-b)) _ ?_);rw[show Ij VA.mask b-b+1+Vu+(9-(Ij VA.mask b-b))=10+Vu from yX c];exact e
theorem TOk.xD(T:TOk M a VA):∀(m b i:Nat),d5 VA C (10*m+b) (hx VA i 0)=none->d5 VA C b (hx VA (dz (VA.mask+1) m i) 0)=none
 |0,b,i,e=>by rw[show 10*0+b=b by exact fz bE]at e;exact e|m+1,b,i,e=>by
  rw[show 10*(m+1)+b=10+(10*m+b)by exact su]at e;exact T.xD m b _ (T.xC e)
theorem TOk.xE(T:TOk M a VA):∀(m b i q:Nat),i<=VA.mask->q<32^m->d5 VA C (10*m+b) (hx VA i q)=none->∃f,f<=VA.mask/\d5 VA C b (hx VA f 0)=none
 |0,b,i,q,d,c,e=>by
  obtain rfl:q=0:=by simpa using c
  exact bj i d (by rw[show 10*0+b=b by exact fz bE]at e;exact e)|m+1,b,i,q,d,c,e=>by
  rw[show 10*(m+1)+b=10+(10*m+b)by exact su]at e;refine T.xE m b _ (q/32) (Md.mp (Ni _ (Ju _))) ?_ (T.xC e);simp only[Uk]at c;exact sf c
def TOk.free(T:TOk M a VA)(k:fD (VA.mask+1)=true/\dz (VA.mask+1) (VA.mask+1) 0=0)(q:a<=VA.mask)(h:Int):∃j,VA.freeSlot h=some (j,ap)/\VA.slot j=.empty:=by
 refine ey (x:=VA.probe (λ _=>h+1) h (VA.probeStart h)) (λ e=>?_) λ m e=>?_
 · exfalso;refine ak (T.room q) λ j o c=>?_;have e:d5 VA h (10*Jo VA.mask) (hx VA (Jj h%(VA.mask+1)) (Jj h))=none:=e;rw[show 10*Jo VA.mask=10*13+(10*(VA.mask+1)+10)by unfold Jo;exact yY]at e;refine ak (T.xE 13 _ _ _ (Md.mp (Ni _ (Ju _))) (aJ (s6 h) (by decide)) e) λ r l f=>?_;refine ak (sV k (b:=r) (x:=j) (dt l) (dt o)) λ m p g=>?_;rw[show 10*(VA.mask+1)+10=10*m+(10*(VA.mask+1-m)+9+1)from y1 p]at f;have :=T.xD m _ _ f;rw[g]at this;refine aH (T.go (C:=h) (10*(VA.mask+1-m)+9) (hx VA j 0)) (λ s=>?_) λ u=>?_
   · refine am s λ d b=>?_;rw[b]at this;exact c7 this
   ·exact am u λ d b=>d c
 · refine aj λ w=>?_;refine ak (T.xz _ _ m rfl e) λ j v c=>?_;obtain rfl:=v;refine w ?_;exact bj j (by unfold SetTable.freeSlot;refine e.symm▸?_;rfl) c
structure gW(a:Bool)(n:Nat)(t:cr):Prop extends TOk a n t where b6:(t.mask=7/\n<=4)\/(t.mask=31/\n<=18)
def gW.zero:gW M 0 (.fresh 0 0 M):=⟨⟨rfl,rfl,rfl,rfl,.nil⟩,.inl ⟨rfl,by decide⟩⟩
def TOk.fits(T:TOk M a VA)(b:a<=VA.mask):VA.fits a=true:=by
 unfold Ke JA;rw[T.size,T.l4];simp[b]
def gW.fits(T:gW M a VA):VA.fits a=true:=T.toTOk.fits (by rcases T.b6 with⟨c,b⟩|⟨c,b⟩<;>(simp only[c];exact j4 b (bW rfl)))
def xF:fD 32=true/\dz 32 32 0=0:=by decide+kernel
def xG(a:Array Vd)(p:Nat)(x:Vd):(Kn a p x).size=a.size+1:=by rw[<-aX,(SetTable.insertAt_perm a p x).length_eq,aX,Po]
def Hv{d:Array Nat}(h:d.toList.Pairwise (·<·))(l:a∉d.toList):(Kn d (uX d a) a).toList.Pairwise (·<·):=by
 refine a4 (rK a h) λ p b c=>?_;rw[SetTable.toList_insertAt];have e:d.toList=d.toList.take (uX d a)++d.toList.drop (uX d a):=(LW _ _).symm;have lo:∀v∈d.toList.take (uX d a),v<a:=λ v g=>by
   refine ai (Iq g) λ i f=>?_;rw[Kj]at f;split at f;·rename_i q;exact b i v (by rw[<-Ji];exact f) q
   ·exact aQ f
 have f:∀v∈d.toList.drop (uX d a),a<v:=λ v g=>by
   refine ai (Iq g) λ i f=>?_;rw[Ms]at f;exact mo (λ e=>l (e▸KJ g)) (oD (c _ v (by rw[<-Ji];exact f) (dx _ _)))
 rw[e]at h;refine a4 (ND.mp h) λ m n o=>ND.mpr ⟨m,Mr.mpr ⟨f,n⟩,λ u k v g=>(aH (aP.mp g) ?_ λ g=>?_)⟩
 · rintro rfl;exact lo u k
 ·exact o u k v g
def gW.lay{c:Array (Int×ab)}(T:gW M c.size VA)(s:c.size<=10):∃k d,QK VA c C U=(k,d,ap,ap)/\k.toList.Perm (c.push (C,U)).toList/\TOk M (c.size+1) d/\d.mask=VA.mask:=by
 have p:fD (VA.mask+1)=true/\dz (VA.mask+1) (VA.mask+1) 0=0:=by
   rcases T.b6 with⟨a,_⟩|⟨a,_⟩<;>refine a.symm▸?_;·exact sU
   ·exact xF
 have m:c.size+1<=VA.mask:=by rcases T.b6 with⟨a,b⟩|⟨a,b⟩<;>(simp only[a];first|exact iA b rfl|exact iA s rfl)
 refine aj λ y=>ak (T.toTOk.free p (gv m) C) λ j e u=>?_;refine y ?_;have n:=SJ VA c C U;have r:j∉VA.place.toList:=by
   refine aH (T.toTOk.slot j) (λ v=>?_) λ w=>?_
   · obtain⟨_,i,g⟩:=v;rw[u]at g;cases g
   ·exact am w λ a _=>a
 have q:PO VA.dummies j=ap:=by rw[T.l4];rfl
 have f:TOk M (c.size+1) (VA.put j).1:=by
   refine⟨T.plain,T.led,?_,?_,Hv T.rise r⟩
   · show(if PO VA.dummies j=true then _ else VA.dummies)=#[];rw[if_neg (by rw[q];decide),T.l4]
   · show(Kn VA.place _ j).size=_;rw[xG,T.size]
 have o:(VA.put j).1.fits (c.size+1)=true:=f.fits m;have l:QK VA c C U=(Kn c (VA.put j).2 (C,U),(VA.put j).1,ap,ap):=by
   unfold QK;rw[e];dsimp only;rw[xG,o];unfold SetTable.orStandIn;rw[if_pos o];rfl
 rw[l]at n;exact kO _ _ l n f rfl
def Hw{c d:Bool}{i:Array Int}{o:Array Nat}(h:KR a b x c d i=some (VA,o)):VA.plain=d/\VA.led=c/\VA.dummies=#[]/\VA.mask=a/\VA.place.toList.Pairwise (·<·):=by
 unfold KR at h;refine aj λ l=>ak (dg.mp h) λ q _ e=>?_;cases e;refine l (g1 rfl rfl rfl rfl ?_);rw[Se];refine Un _ (R:=(·<·)) (λ n p g r j y k=>?_) QB;refine ak (bh.mp j) ?_;rintro _ _ rfl;refine ak (bh.mp k) ?_;rintro _ _ rfl;exact g
def TOk.Hx{a:Array (Int×ab)}(T:TOk M a.size VA)(w:VA.mask=7)(d:a.size=5):∃f l,Mm VA a (Ik a.size)=(f,l,ap)/\f.toList.Perm a.toList/\gW M a.size l:=by
 have h:=Rl VA a (Ik a.size);refine aj λ v=>?_;refine bS (s8 (a:=31) xF VA.finger (VA.movedTo 31) VA.led VA.plain (b:=a.map (·.1)) (by refine(Lw).symm▸?_;exact j4 (j6 d) bE)) λ k o e c b=>?_;rw[Lw]at c b;refine d6 (Hw e) λ p q r s u=>v ?_;have m:VA.relaid (a.map (·.1)) (Ik a.size)=some (k,o):=by
  unfold Rs;rw[d,show J9 (Ik 5)-1=31 by decide];exact e
 have n:(o.filterMap (a[·]?)).size=a.size:=by
  have g:(o.toList.filterMap λ i=>a.toList[i]?).Perm ((a1 a.toList.length).filterMap λ i=>a.toList[i]?):=List.Perm.filterMap _ (by simp only[aX];exact c);simp only[List.filterMap_getElem?_range_length]at g;rw[<-aX,Qs];simpa using g.length_eq
 have j:Mm VA a (Ik a.size)=(o.filterMap (a[·]?),k,ap):=by
  unfold Mm;refine m.symm▸?_;dsimp only;rw[n,b,if_pos];rw[TC];exact List.isPerm_iff.mpr c
 rw[j]at h;refine⟨_,_,j,h,⟨p.trans T.plain,q.trans T.led,r,?_,u⟩,.inr ⟨s,j4 (j6 d) bE⟩⟩;unfold Ke at b;rw[ii,beq_iff_eq]at b;exact b.1
def TOk.Hy(T:TOk M a VA)(h:(VA.mask=7/\a<=5)\/(VA.mask=31/\a<=18)):(VA.tooFull=ap/\gW M a VA)\/(VA.tooFull=true/\VA.mask=7/\a=5):=by
 unfold SetTable.tooFull JA;rw[T.size,T.l4];refine aH h (λ d=>?_) λ e=>?_
 · refine am d λ c b=>?_;by_cases q:a=5;·right;exact⟨by rw[c,q];decide,c,q⟩
   ·left;exact⟨by rw[c];simp;exact sD (ID (Iu b q)) rfl,T,.inl ⟨c,dF (jc b q)⟩⟩
 · refine am e λ c b=>?_;left;exact⟨by rw[c];simp;exact sD b rfl,T,.inr ⟨c,b⟩⟩
noncomputable def ip(w:ar):Bool:=!(w.params.followText "set-order")
noncomputable def rL:ab->Int
 |.int n _=>n|_=>0
noncomputable abbrev cw(b:Array (Int×ab))(a:Nat)(t:cr):Obj:={cls:=.type "set",dict:=none,data:=.set b a t,slots:=#[]}
structure dP(VL:ar)(a:Array (Int×ab))(t:cr)(b:List Int):Prop where
 l5:OK (NO P0 VL) a.toList
 perm:(a.toList.map λ e=>rL e.2).Perm b
 tab:gW (ip VL) a.size t
def dP.len{a:Array (Int×ab)}(I:dP c a VA B):a.size=B.length:=by simp only[<-I.perm.length_eq,be,aX]
def dP.none{a:Array (Int×ab)}(I:dP c a VA B)(h:C∉B):K8 (λ e=>(NO P0 c).is C e.2) a.toList=none:=JX.mpr λ e d=>by
 rcases q:(NO P0 c).is C e.2 with _|_;·rfl
 · refine ai (Ov q) λ f b=>?_;exact absurd (I.perm.mem_iff.mp (hp.mpr ⟨e,d,by refine b.symm▸?_;rfl⟩)) h
def dP.found{a:Array (Int×ab)}(I:dP c a VA B)(h:C∈B):∃j,K8 (λ e=>(NO P0 c).is C e.2) a.toList=some j:=by
 refine ak (hp.mp (I.perm.mem_iff.mpr h)) λ e d q=>?_;refine am (I.l5 e d) λ g _=>?_;refine ak g λ k b _=>?_;refine ai (Ov b) λ i f=>?_;rw[f]at q;obtain rfl:k=C:=q;refine ey (x:=K8 (λ e=>(NO P0 c).is k e.2) a.toList) (λ r=>?_) λ j r=>?_
 · rw[r];rw[JX.mp r e d]at b;cases b
 · rw[r];exact⟨j,rfl⟩
def Hz{A:aq}{g:Array (Int×ab)}{Q:Bool->aa->Prop}(l:q.heap.get? h=some (cw g a VA))(I:dP c g VA B)(z:B.length<=10)(H:∀b J VL VW VS,Js h q.heap J->J.get? h=some (cw VL VW VS)->dP c VL VS (if C∈B then B else B++[C])->Q b {q with heap:=J,toks:=q.toks+1}):aA (au P0 c) A (R0 h (.int C Vv)) Q y q:=by
 have r:=I.len;have VO:=I.tab.fits;have L:=intKind_is P0 c C Vv;have O:(UC C Vv).scannable=true:=rfl;have VZ:K9=4096:=rfl;unfold R0;refine aK (af ((NO P0 c).pyHash L ?_));unfold RZ QH;refine aK (af (gE (o:=cw g a VA) l rfl VO ?_));dsimp only;rw[T8 O (c5 (j6 r) (c6 z (aE true))) I.l5];simp only[↓reduceIte];unfold setAddByScan;refine af (af (Jw (af (PS (o:=cw g a VA) L l rfl VO I.l5 ?_))));by_cases n:C∈B
 · refine ai (I.found n) λ j e=>?_;rw[e];exact ah (ah (H _ q.heap g a VA (Nl _ _) l (by rw[if_pos n];exact I)))
 · rw[I.none n];refine aj λ Y=>di (I.tab.lay (C:=(NO P0 c).hash C) (U:=.int C Vv) (dS r z)) λ d f VU u p VX=>?_;refine Y (VU.symm▸?_);dsimp only;simp only[Mz]at u;have D:d.size=g.size+1:=by rw[<-aX,u.length_eq,eB,aX];rfl
   have VN:OK (NO P0 c) d.toList:=(I.l5.push L O).perm u;have VP:(d.toList.map λ e=>rL e.2).Perm (B++[C]):=(u.map _).trans (by rw[fs];exact I.perm.append_right _);rw[<-D]at p;rw[if_pos p.plain];refine af (m:=jB ()) (ah (af ?_));simp only[So 8 O];refine ah ?_;simp only[plainKind,↓reduceIte];have VM:d.size<=a9:=M6 (by simp only[VZ,D,r];exact bz (H' z) (by decide));refine af (J5 (o:=cw g a VA) l rfl ?_ VM);have M:(q.heap.update h (JP d f)).get? h=some (cw d (a+1) f):=by
     have :=cQ (JP d f) l (by rw[L8 d f rfl];rfl);rw[L8 d f rfl]at this;exact this
   have VR:=gR q.heap h (JP d f);have fin:(f.mask=7/\d.size<=5)\/(f.mask=31/\d.size<=18):=by
     refine VX.symm▸(aH I.tab.b6 (λ U=>?_) λ V=>?_);·exact am U λ x VT=>.inl ⟨x,j4 (j6 D) (iA VT (aE true))⟩
     · refine am V λ x VT=>?_;exact .inr ⟨x,by simp only[D,r];exact an (H' z) (by decide)⟩
   refine aH (p.Hy fin) (λ U=>?_) λ V=>?_
   · refine am U λ T G=>?_;rw[if_neg (by rw[T];decide)];exact ah (ah (H _ _ d _ f VR M (by rw[if_neg n];exact⟨VN,VP,G⟩)))
   · refine a4 V λ T V1 V0=>?_;rw[if_pos (by rw[T];rfl)];refine aj λ Y=>bS (p.Hx V1 V0) λ i k VV N G=>Y ?_;rw[VV];dsimp only;have VQ:i.size=d.size:=by rw[<-aX,N.length_eq,aX]
     refine af (m:=jB ()) (ah ?_);refine af (J5 (o:=cw d (a+1) f) M rfl ?_ (by rw[VQ];exact VM));have VY:((q.heap.update h (JP d f)).update h (JP i k)).get? h=some (cw i (a+1+1) k):=by
       have :=cQ (JP i k) M (by rw[L8 i k rfl];rfl);rw[L8 i k rfl]at this;exact this
     exact ah (ah (H _ _ i _ k (VR.trans (gR _ h _)) VY (by rw[if_neg n];exact⟨VN.perm N,(N.map _).trans VP,VQ▸G⟩)))
def i9(l:List Int)(v:Int):b5 (l++[v])=if v∈b5 l then b5 l else b5 l++[v]:=by
 have g:v∈b5 l↔v∈l:=by
   refine⟨lX,λ h=>(ai (Iq h) λ k VM=>?_)⟩;have :∃k:Nat,l[k]?=some v/\∀j:Nat,j<k->l[j]?≠some v:=by
     have H:∀n k:Nat,k<=n->l[k]?=some v->∃k:Nat,l[k]?=some v/\∀j:Nat,j<k->l[j]?≠some v:=by
       intro n;induction n with
       |zero=>intro k VM e;exact⟨k,e,λ j VN=>hC (bA VN VM)⟩|succ n p=>
         intro k VM e;by_cases q:∃j:Nat,j<k/\l[j]?=some v;·refine ak q λ j VN b=>?_;exact p j (dF (bA VN VM)) b
         ·exact⟨k,e,λ j VN b=>q ⟨j,VN,b⟩⟩
     exact H k k (aB _) VM
   refine ak this λ k VM m=>?_;have i:k<l.length:=by refine ai (a8.mp VM) λ a _=>?_;exact a
   have f:l.getD k 0=v:=by rw[av,VM];rfl
   unfold b5;refine hp.mpr ⟨k,hu.mpr ⟨cI.mpr i,?_⟩,f⟩;rw[f];simp only[IT,MF,beq_iff_eq];intro x d;refine ai (Iq d) λ j VN=>?_;rw[Kj]at VN;split at VN
   · rename_i q;intro e;obtain rfl:=e.symm;exact m j q VN
   ·exact aQ VN
 have o:((a1 l.length).filter λ k=>!((l++[v]).take k).any (·==(l++[v]).getD k 0)).map (λ k=>(l++[v]).getD k 0)=b5 l:=by
   unfold b5;have e:∀k∈a1 l.length,(l++[v]).getD k 0=l.getD k 0/\(l++[v]).take k=l.take k:=λ k VM=>by
     have :=cI.mp VM;exact⟨by simp only[av,av,GZ this],List.take_append_of_le_length (j5 this)⟩
   rw[ME λ k VM=>by rw[(e k VM).1,(e k VM).2]];exact Iz λ k VM=>(e k (hu.mp VM).1).1
 have c:(l++[v]).getD l.length 0=v:=by rw[av,Ja (aB _)];simp
 show((a1 (l++[v]).length).filter _).map _=_;simp only[eB,Ky,Nj,I1,fs,o];by_cases h:v∈l
 · rw[if_pos (g.mpr h)];have :(!((l++[v]).take l.length).any (·==(l++[v]).getD l.length 0))=ap:=by
     rw[c,Te];simpa using h
   rw[Qq (λ q=>by rw[this]at q;cases q)];simp
 · rw[if_neg λ q=>h (g.mp q)];have :(!((l++[v]).take l.length).any (·==(l++[v]).getD l.length 0))=true:=by
     rw[c,Te,IT,MF];exact λ x d e=>h (pW e▸d)
   rw[Qp (by exact this),Pt,Oh,c]
def HA{R:JJ->aa->Prop}{I:ae}{H E:List ae}{G:Array KI->Array KI->Prop}{P:Nat->ab->Prop}{St:Nat->aa->Prop}(W:WalksS P0 c o.in1 I H E G a P St)(S:ae)(J:S∉H)(N:List Int)(y:N.length=a)(VS:∀i v,P i v->∃t,v=.int (N.getD i 0) t)(d:a<=10):∀(k i:Nat)(s:aa)(g:Array (Int×ab))(l:Nat)(t:cr),a-i=k->i<=a->St i s->s.heap.get? S=some (cw g l t)->dP c g t (b5 (N.take i))->(∀f p x u,Moved (S::E) G s f->f.heap.get? S=some (cw p x u)->dP c p u (b5 N)->R (.ok (.ret .none)) f)->JO (au P0 c) o (.builtin "set.update.loop" ⟨[.ref S,.ref I],[]⟩) R s:=by
 have L:S∉E:=λ h=>J (W.sub _ h);intro k;induction k with
 |zero=>
   intro i s g l t r M D B q z;obtain rfl:i=a:=hA M (iu r);refine hN MI ?_;rw[fH Kv _];refine af (m:=KN (.ref I)) (W.done s _ _ D λ f j=>(ah (z f g l t (j.mono λ b d=>.tail _ d) (j.heap S _ L B) ?_)));rw[<-y,IL]at q;exact q|succ k VT=>
   intro i s g l t r M D B q z;have C:i<a:=iv r;refine hN MI ?_;rw[fH Kv _];refine af (m:=KN (.ref I)) (W.item i s _ _ C D λ v f VL VQ j=>?_);obtain⟨Q,rfl⟩:=VS i v VL;have VR:(b5 (N.take i)).length<=10:=an (i7 _) (by rw[KS];exact j4 hG (dS y d));refine af (m:=Mj [UC (N.getD i 0) Q] (R0 S (.int (N.getD i 0) Q))) (aK (Hz (j.heap S _ L B) q VR λ b h' p x u O VM V=>?_));have VP:N.take (i+1)=N.take i++[N.getD i 0]:=by rw[Sd,av,ay (eO y C)];rfl
   refine ah ⟨I2 Kv _,VT (i+1) _ p x u (hB r) C (W.frame _ f _ _ VQ (I7 _) λ b d VU e=>?_) VM (by simp only[VP,i9];exact V) λ VV U T VW VO VN Y=>?_⟩;·rw[O.2 b (λ h:b=S=>J (by rw[<-h];exact d))];exact e
   · refine z VV U T VW (Moved.trans W.gtrans ((j.mono λ b d=>.tail _ d).then_heap (I7 _) λ b VU d e=>?_) VO) VN Y;rw[O.2 b (λ h:b=S=>d (by rw[h];exact List.mem_cons_self))];exact e
noncomputable abbrev i'(VL:ar):Obj:=cw #[] 0 (.fresh 0 0 (ip VL))
def HB(a:ab)(h:Vh (.ref q.heap.objs.size) {q with heap:=q.heap.push (i' c)}):JO (au P0 c) o (.call (.builtin "set.__new__") ⟨[.type "set",a],[]⟩) (wants Vh y) q:=by
 refine Mu (al (cx (F.newCall_set_1 a) (ah ⟨I2 TS _,hN F.entry_set_new ?_⟩)));rw[fH TS _];unfold Builtin.«set.__new__»SY;have e:=sub_set_self;obtain⟨b,g,d,f,os⟩:=q;wp_walk;refine IR (ah ?_);dsimp only;simp only[UV];exact al (P7 (ah (ah h)))
def HC(VS:o.handled=none)(VU:q.heap.IsList h Ve.toArray)(J:M' Ve B)(k:B.length<=10)(VO:∀d m a f t,d.get? q.heap.objs.size=some (cw a f t)->dP c a t (b5 B)->(KO q.heap d)->Vh (.ref q.heap.objs.size) {q with heap:=d,toks:=m}):aA (au P0 c) o (I3 (.type "set") [.ref h]) Vh y q:=by
 refine aj λ j=>?_;obtain⟨V1,Wg,V8⟩:=K6.mro;refine j ?_;have V7:=K6.made;have Wb:=K6.sub;refine Jg (Mu ?_);refine ah ⟨Le _ (by decide+kernel),hN Q8 ?_⟩;rw[Q' (Sn "set" [.ref h] []) rfl];have V2:=K6.notType;have V3:=K6.canCreate;have V5:=F.typeCall_set_1 (.ref h);repeat(any_goals(first|assumption|wp_step))
 refine MB (HB (.ref h) (y:=y) (Vh:=λ U Y=>U=.ref q.heap.objs.size/\Y={q with heap:=q.heap.push (i' c)}) ⟨rfl,rfl⟩) λ r Y u=>?_;have T:Ve.length=B.length:=IntsAre.length J;rcases r with e|VM;·exact u
 ·cases VM with
   |ret U=>
     obtain⟨rfl,rfl⟩:=u;have D:(q.heap.push (i' c)).get? q.heap.objs.size=some (i' c):=aF _ rfl;have VQ:Shared.TypeIs {q with heap:=q.heap.push (i' c)} (.ref q.heap.objs.size) "set":=⟨_,D,rfl⟩;have V6:=K6.init.lookup;have V4:=K6.init.bind (.ref q.heap.objs.size);repeat(any_goals(first|assumption|wp_step))
     refine MB (Ii (R:=wants (λ r VL=>r=.none/\∃d m a f t,VL={q with heap:=d,toks:=m}/\d.get? q.heap.objs.size=some (cw a f t)/\dP c a t (b5 B)/\(KO q.heap d)) y) K6.init.plain F.entry_set_init (check_set_init_1 VQ ?_)) λ VZ VL x=>?_
     · refine aj λ j=>?_;obtain⟨VY,O,G,VW,H⟩:=VU;obtain⟨Wc,We,Wd,Wf⟩:=VY;simp only at G H;subst G H;refine j ?_;have Wa:=F.sub_list_set;have V':=F.sub_list_frozenset;have V9:(Ix "list"==Ix "dict")=ap:=by decide
       have L:(q.heap.push (i' c)).IsList h Ve.toArray:=⟨_,ao _ O,rfl,VW,rfl⟩;unfold Builtin.«set.__init__»noKeywords OY;generalize VP:LA=V0;wp_walk;subst VP;refine M3 L ?_;refine af (Ol ?_);have M:h<q.heap.objs.size:=az O;have z:(q.heap.push (i' c)).objs.size=q.heap.objs.size+1:=IG _ _;refine HA ((PC (by simp[VS]) _ h (by rw[z];exact br (gb M)) Ve.toArray).toS) q.heap.objs.size (λ g=>by
         rcases aP.mp g with e|g;·exact absurd (e.trans z) (br (Ia _))
         ·exact absurd (aI.mp g) (IC M)) B (by simp[T]) (λ i v VV=>IntsAre.int_at J i v (by rw[<-Nq];exact VV)) (by simp[T];exact k) Ve.toArray.size 0 _ #[] 0 (.fresh 0 0 (ip c)) rfl (dk _) ⟨⟨_,aF _ rfl,rfl,rfl⟩,L.push _⟩ (ao _ D) ⟨λ e VR=>(nomatch VR),.nil,gW.zero⟩ λ V a f t g p n=>?_;rw[Ta g];refine ah ?_;refine ah ⟨rfl,V.heap,V.toks,a,f,t,rfl,p,n,λ b VX e=>?_⟩;have k:=az e;exact g.heap b VX (λ C=>by
         rcases aP.mp C with e|C;·exact absurd e (br k)
         ·exact absurd ((aI.mp C).trans z) (br (gb k))) (ao _ (ao _ e))
     ·cases VZ with
       |error e=>exact x|ok VN=>cases VN with
         |ret r=>
           refine aj λ j=>?_;obtain⟨rfl,d,m,a,f,t,rfl,p,n,VT⟩:=x;refine j ?_;repeat(any_goals(first|assumption|wp_step))
           exact VO _ _ a f t p n VT|_=>exact x.elim
   |_=>exact u.elim
theorem xH{b:Type}:∀(l:List b)(i:Nat)(x:b),l[i]?=some x->(x::l.eraseIdx i).Perm l
 |a::l,0,x,h=>by obtain rfl:=ax h;exact .rfl|a::l,i+1,x,h=>(RB a x _).trans ((xH l i x h).cons a)
set_option tactic.hygienic true in theorem xI{f:Type}(b:Nat->Nat):∀(n k:Nat)(l:List f)(c:Array f),l.length<=n->(Py b n k l c).toList.Perm (c.toList++l)
 |0,k,l,c,h=>by
   obtain rfl:l=[]:=Qo.mp (hA h bE);show c.toList.Perm (c.toList++[]);simp|n+1,k,l,c,h=>by
   show(match l[b k%l.length]? with|some x=>Py b n (k+1) (l.eraseIdx (b k%l.length)) (c.push x)|none=>c).toList.Perm _;rcases e:l[b k%l.length]? with _|x;rotate_left;·
     have d:b k%l.length<l.length:=by refine ai (a8.mp e) λ a _=>?_;exact a
     refine(xI b n (k+1) _ _ (by rw[PR d];exact dF (mr h d))).trans ?_;simp only[Mz,kn];exact List.Perm.append_left _ (xH l _ x e)
   · have :l=[]:=by
       apply IK;intro q;have :=Ni (b k) (N2.mpr q);rw[ay this]at e;exact c7 e
     subst this;simp
noncomputable def f0(w:ar)(S b:Nat)(a:Array (Int×ab)):Array (Int×ab):=if ip w then a else RG (w.params.setOrder S b) a
def kB(VO:ar)(S ep:Nat)(VL:Array (Int×ab)):(f0 VO S ep VL).toList.Perm VL.toList:=by
 unfold f0;split;·exact .rfl
 · have :=xI (VO.params.setOrder S ep) VL.size 0 VL.toList #[] (by simp);unfold RG;simpa using this
noncomputable def eN(w:ar)(t:cr)(i:Nat):Nat:=if ip w then(if i=0 then 0 else t.place.getD (i-1) 0+1)else 0
noncomputable abbrev gr(VN:ar)(S:ae)(b:Array (Int×ab))(a:Nat)(t:cr)(VL:Nat):Obj:={cls:=.type "set_iterator",data:=.fields #[JI (eN VN t VL),JI VL,.ref S,JI b.size,JI a]}
def HD(T:TOk M a VA)(g:b<=a):uX VA.place (if b=0 then 0 else VA.place.getD (b-1) 0+1)=b:=by
 refine a4 (rK (if b=0 then 0 else VA.place.getD (b-1) 0+1) T.rise) λ d e c=>?_;simp only[T.size]at d;have bt:∀k,k<a->VA.place[k]?=some (VA.place.getD k 0):=λ k h=>by rw[e0,hq (by rw[T.size];exact h)];rfl
 generalize uX VA.place (if b=0 then 0 else VA.place.getD (b-1) 0+1)=r at d e c⊢;by_cases f:b=0
 · subst f;rw[if_pos rfl]at e;apply IK;intro q;exact absurd (e 0 _ (bt 0 (aJ (OB q) d)) (c5 bE (oL q))) (PN _)
 · rw[if_neg f]at e c;refine ez (LD r b) (λ q=>?_) (λ q=>?_) λ q=>?_
   · have :=c (b-1) _ (bt _ (mr g q)) (jn q);exact dR (dt this) (ix this)
   ·exact q
   ·exact yn (ox T.rise (bt (b-1) (c5 ji (bA q d))) (bt b (bA q d)) (oL f)) (e b _ (bt b (bA q d)) q)
def xJ{A:aq}{d:Array (Int×ab)}{Q:Option (ab×Nat)->aa->Prop}(n:q.heap.get? h=some (cw d a VA))(I:dP c d VA B)(r:b<=d.size)(f:Q ((f0 c h a d)[b]?.map λ e=>(e.2,eN c VA (b+1))) q):aA (au P0 c) A (TJ h (eN c VA b) b a) Q y q:=by
 have m:=I.tab.fits;unfold TJ;refine al (gE (o:=cw d a VA) n rfl m ?_);unfold NM;refine al (al (IR (ah ?_)));unfold f0 at f;rcases g:ip c with _|_
 · have k:c.params.followText "set-order"=true:=by unfold ip at g;simpa using g
   rw[g]at f;simp only[cT,if_false]at f;refine eP k (J3 (λ j=>by simp at j) (λ _=>?_));unfold setWalk;refine al (al (gE (o:=cw d a VA) n rfl m ?_));unfold NM;refine al (al (IR (ah (eP k (al (IR (ah (ah ?_))))))));have e:eN c VA b=eN c VA (b+1):=by unfold eN;rw[g];rfl
   refine e.symm▸?_;exact f
 · have k:¬c.params.followText "set-order"=true:=by unfold ip at g;simpa using g
   rw[g]at f;simp only[if_true]at f;refine bT k (J3 (λ j=>?_) (λ _=>?_))
   · have j:(!VA.plain&&bF (d.size>1))=true:=j;rw[I.tab.plain]at j;cases j
   · refine al ?_;show aA _ _ (if(!VA.led&&!d.isEmpty)=true then _ else _) _ _ _;rw[I.tab.led,g,if_neg (by simp)];refine ah (ah ?_);have e:uX VA.place (eN c VA b)=b:=by unfold eN;rw[g];exact HD I.tab.toTOk r
     refine e.symm▸?_;by_cases j:b<d.size
     · have l:d[b]?=some d[b]:=hq j;have p:VA.place[b]?=some (VA.place.getD b 0):=by rw[e0,hq (by rw[I.tab.size];exact j)];rfl
       rw[l]at f⊢;refine p.symm▸?_;have :eN c VA (b+1)=VA.place.getD b 0+1:=by unfold eN;refine g.symm▸?_;rfl
       rw[this]at f;exact f
     · have l:d[b]?=none:=Ib (j8 j);rw[l]at f⊢;exact f
def kC:Rr "set_iterator" "__next__" "set_iterator.__next__":=.of (owner:="set_iterator") (n:="__next__") (by rw[I6,FF];lia) (by decide+kernel) (by decide+kernel) (by decide+kernel) (.inl (by decide+kernel)) (by rw[kF];lia)
def xK:Rr "set_iterator" "__iter__" "set_iterator.__iter__":=.of (owner:="set_iterator") (n:="__iter__") (by rw[I6,FF];lia) (by decide+kernel) (by decide+kernel) (by decide+kernel) (.inl (by decide+kernel)) (by rw[kF];lia)
def xL:KH Kl "set_iterator.__next__"=some Builtin.«set_iterator.__next__»:=Jx (by lia)
def HE:KH Kl "set_iterator.__iter__"=some Builtin.«dict_keyiterator.__iter__»:=U2 (id':="dict_keyiterator.__iter__") (by lia) rfl (by decide+kernel) (by lia)
def HF:KH Kl "set.__iter__"=some Builtin.«frozenset.__iter__»:=U2 (id':="frozenset.__iter__") (by lia) rfl (by decide+kernel) (by lia)
def xM:Manifest.owners.lookup (String.ofList ['r','o','t','a','r','e','t','i','_','t','e','s'].reverse)=some Manifest.sig_set_iterator:=by lia
def xN(a:ab):L' "set_iterator.__next__" ⟨[a],[]⟩:=by unfold L';rw[Mi (id:="set_iterator.__next__") (n:=['_','_','t','x','e','n','_','_']) (o:=['r','o','t','a','r','e','t','i','_','t','e','s']) (by lia) xM];lia
def HG(a:ab):L' "set_iterator.__iter__" ⟨[a],[]⟩:=by unfold L';rw[Mi (id:="set_iterator.__iter__") (n:=['_','_','r','e','t','i','_','_']) (o:=['r','o','t','a','r','e','t','i','_','t','e','s']) (by lia) xM];lia
def HH{A:aq}{b:Array (Int×ab)}(d:q.heap.get? h=some (cw b a VA))(I:dP c b VA B)(f:Vh (.ref q.heap.objs.size) {q with heap:=q.heap.push (gr c h b a VA 0)}):aA (au P0 c) A (LA (.ref h)) Vh y q:=by
 have g:=I.tab.fits;have i:q.TypeIs (.ref h) "set":=⟨_,d,rfl⟩;refine TE i TR (IQ TR i HF ?_ (F.args_set_iter_1 _));unfold Builtin.«frozenset.__iter__»;refine af (m:=SX _ _) (ah ?_);unfold LV;refine af (af (JL (o:=cw b a VA) d rfl g (ah ?_)));unfold setDrawn;refine af (af (gE (o:=cw b a VA) d rfl g ?_));unfold NM;refine af (af (IR (ah (ah (J3 (λ e=>?_) (λ _=>?_))))))
 · have e:(!c.params.followText "set-order"&&(!VA.plain&&bF (b.size>1)))=true:=e;rw[I.tab.plain]at e;simp at e
 · refine af (m:=jB (JI 0)) (ah (af (L0 (o:=cw b a VA) d rfl g ?_)));have j:eN c VA 0=0:=by unfold eN;split<;>rfl
   refine af (m:=T6 _ _) (Ih (ah ⟨_,rfl,"set_iterator",_,⟨_,aF _ rfl,rfl⟩,kC.lookup,?_⟩));unfold gr at f;rw[j]at f;exact f
def HI{A:aq}{d:Array (Int×ab)}{S I:ae}{e:Int×ab}{Q:Option ab->aa->Prop}(f:q.heap.get? I=some (gr c S d a VA b))(l:q.heap.get? S=some (cw d a VA))(G:dP c d VA B)(n:b<=d.size)(m:(f0 c S a d)[b]?=some e)(h:∀g,g.get? I=some (gr c S d a VA (b+1))->Js I q.heap g->Q (some e.2) {q with heap:=g}):aA (au P0 c) A (KN (.ref I)) Q y q:=by
 have k:q.TypeIs (.ref I) "set_iterator":=⟨_,f,rfl⟩;unfold KN;refine al (Mh (JD (name:=ac "__next__") k kC (IQ kC k xL ?_ (xN _))));show aA _ _ (fieldsOf (.ref I)>>=_) _ _ q;refine al (UN f rfl ?_);show aA _ _ (setEntries S>>=_) _ _ q;refine al (JL (o:=cw d a VA) l rfl G.tab.fits (J3 (λ p=>by simp at p) (λ _=>?_)));show aA _ _ (TJ S (eN c VA b:Int).toNat (b:Int).toNat (a:Int).toNat>>=_) _ _ q;rw[b4,b4,b4];refine al (xJ l G n (m.symm▸(al (Kk f rfl (by simp) ?_))));have j:=cQ (MP (·.setIfInBounds 0 (JI (eN c VA (b+1))))) f rfl;refine al (Kk j rfl (by simp) (ah ⟨_,rfl,ah (h _ ?_ ((gR ..).trans (gR ..)))⟩));exact cQ _ j rfl
def HJ{A:aq}{d:Array (Int×ab)}{S I:ae}{Q:Option ab->aa->Prop}(j:A.handled=none)(e:q.heap.get? I=some (gr c S d x VA d.size))(i:q.heap.get? S=some (cw d x VA))(G:dP c d VA B)(h:∀f,I5 I q.heap f->Q none {q with heap:=f}):aA (au P0 c) A (KN (.ref I)) Q y q:=by
 have g:q.TypeIs (.ref I) "set_iterator":=⟨_,e,rfl⟩;unfold KN;refine af (Mh (JD (name:=ac "__next__") g kC (IQ kC g xL ?_ (xN _))));show aA _ _ (fieldsOf (.ref I)>>=_) _ _ q;refine af (UN e rfl ?_);show aA _ _ (setEntries S>>=_) _ _ q;refine af (JL (o:=cw d x VA) i rfl G.tab.fits (J3 (λ k=>by simp at k) (λ _=>?_)));show aA _ _ (TJ S (eN c VA d.size:Int).toNat (d.size:Int).toNat (x:Int).toNat>>=_) _ _ q;simp only[b4,b4,b4];refine af (xJ i G (aB _) ((Ib (by rw[<-aX,(kB c S x d).length_eq,aX];exact aB _)).symm▸(af (Kk e rfl (by simp) ?_))));refine af (m:=UX (.type "StopIteration") []) ?_;simp only[UX,UU];refine af (Ih ?_ (by size_fits));refine af (m:=L2 _ _) (cx (a:=I9) (by first|rfl|(simp only[L2];rfl)) ?_);refine Ih ?_ (by size_fits);rw[UT];refine af (Ri ?_);rw[show A.in1.handled=none from j];refine af (ah (Ok ?_));refine af (JR (T:="StopIteration") (b:=true) ⟨_,aF _ rfl,rfl⟩ U0 ?_);exact ah (h _ (((gR ..).extBut.push _).push _))
def HK{d:Array (Int×ab)}{S I:ae}(x:o.handled=none)(C:S≠I)(G:dP c d VA B):U4 P0 c o I [I,S] [I] d.size (λ i v=>((f0 c S a d)[i]?).map (·.2)=some v) (λ i h=>h.get? I=some (gr c S d a VA i)/\h.get? S=some (cw d a VA)/\i<=d.size)where
 sub:=λ b f=>by simp at f;simp[f]
 frame:=λ _ _ _ st q=>⟨q I (by simp) _ st.1,q S (by simp) _ st.2.1,st.2.2⟩;item:=λ i s Q E p st g=>by
  have D:(f0 c S a d).size=d.size:=by rw[<-aX,(kB c S a d).length_eq,aX]
  have y:i<(f0 c S a d).size:=D.symm▸p;have n:(f0 c S a d)[i]?=some (f0 c S a d)[i]:=hq y;refine HI st.1 st.2.1 G st.2.2 n λ j z r=>?_;exact g _ j s.toks (by simp only[n];rfl) ⟨z,r.extBut S _ C st.2.1,p⟩ λ b l f e=>r.extBut b l (λ h=>f (by simp[h])) e
 done:=λ s Q E st g=>HJ x st.1 st.2.1 G λ j u=>g j s.toks λ b l f e=>u b l (λ h=>f (by simp[h])) e;self:=λ i s Q E st g=>by
  have k:s.TypeIs (.ref I) "set_iterator":=⟨_,st.1,rfl⟩;exact TE k xK (IQ xK k HE (af (m:=slotArgs _ _ _) (ah (ah ⟨_,rfl,"set_iterator",_,k,kC.lookup,g⟩))) (HG _))
def HL{g:Array (Int×ab)}{Q:Bool->aa->Prop}(j:q.heap.get? h=some (cw g a VA))(i:Q ap q):aA (au P0 c) o (N9 (.ref h)) Q y q:=by
 have d:q.TypeIs (.ref h) "set":=⟨_,j,rfl⟩;unfold N9;refine af (NX d F.slot_set_len.lookup ?_);generalize f:("set.__len__":String)=k;wp_delta;rw[show splitId k=some ("set","__len__")from by subst f;decide+kernel];subst f;refine af (JR (T:="set") (b:=true) d sub_set_self (J3 (λ e=>absurd e (by decide)) (λ _=>?_)));refine J3 (λ _=>?_) (λ e=>absurd (by decide+kernel) e);exact af (LZ d (ah i))
def HM{d:Array (Int×ab)}{R:JJ->aa->Prop}(VR:o.handled=none)(l:q.heap.get? h=some (cw d a VA))(G:dP c d VA B)(VO:d.size<=10)(VP:∀u VU J V,(KO q.heap u)->u.get? q.heap.objs.size=some {cls:=.type "list",dict:=none,data:=.seq J V,slots:=#[]}->J.toList=(f0 c h a d).toList.map (·.2)->R (.ok (.ret (.ref q.heap.objs.size))) {q with heap:=u,toks:=VU}):JO (au P0 c) o (.builtin "proto.collect" ⟨[.ref h],[]⟩) R q:=by
 have Q:=az l;refine hN RS ?_;rw[fH RQ _];refine al (Ih (ah ⟨I2 LU _,hN Pj ?_⟩));rw[fH LU _];have M:(q.heap.push {cls:=.type "list",data:=.seq ([]:List ab).toArray}).get? q.heap.objs.size=some {cls:=.type "list",data:=.seq ([]:List ab).toArray}:=aF _ rfl;have n:(q.heap.push {cls:=.type "list",data:=.seq ([]:List ab).toArray}).objs.size=q.heap.objs.size+1:=IG _ _;have p:KO q.heap (q.heap.push {cls:=.type "list",data:=.seq ([]:List ab).toArray}):=λ b g e=>ao _ e;generalize(q.heap.push {cls:=.type "list",data:=.seq ([]:List ab).toArray})=H at M n p⊢;have C:q.heap.objs.size≠h:=IC Q;show aA _ o.in1 (N' (.ref q.heap.objs.size) (.ref h) (.ref q.heap.objs.size)) _ _ {q with heap:=H};unfold N';refine al (LZ (T:="set") ⟨_,p _ _ l,rfl⟩ ?_);have VL:ON (.ref q.heap.objs.size) (.ref h)=ap:=by simp[ON,C]
 have VM:(Ix "set"==Ix "list")=ap:=by decide
 have VN:(Ix "set"==Ix "tuple")=ap:=by decide
 simp only[VL,VM,VN,TB,cT,if_false];refine al (HH (q:={q with heap:=H}) (p _ _ l) G ?_);have v:=ao (gr c h d a VA 0) M;have x:(H.push (gr c h d a VA 0)).get? H.objs.size=some (gr c h d a VA 0):=aF _ rfl;have r:KO q.heap (H.push (gr c h d a VA 0)):=λ b g e=>ao _ (p b g e);generalize y:H.objs.size=I at x⊢;generalize(H.push (gr c h d a VA 0))=E at v x r⊢;refine al (aK (HL (r _ _ l) (J3 (λ _=>?_) (λ f=>absurd (by decide+kernel) f))));refine al (Jw (al (al (Us v rfl ?_))));have N:=cQ (wx (·.push I9)) v rfl;refine Us N rfl ?_;have O:q.heap.objs.size≠I:=by simp only[<-y,n];exact br (Ia _)
 have D:∀b g,b≠q.heap.objs.size->E.get? b=some g->((E.update q.heap.objs.size (wx (·.push I9))).update q.heap.objs.size (wx (·.pop))).get? b=some g:=λ b g k e=>(JG _ _ (Kb k)).trans ((JG _ _ (Kb k)).trans e);refine ah ⟨I2 F.plain_extend_loop _,codeAny_extend_loopS ((HK (a:=a) (o:=o.in1) VR (by simp only[<-y,n];exact br (gb Q)) G).toS) (by simp only[LM];exact a2 VO (aE true)) q.heap.objs.size (λ i=>by
     rcases aP.mp i with e|i;·exact O e
     ·exact C (aI.mp i)) _ d.size 0 _ _ _ rfl (dk _) ⟨D _ _ (Kb O) x,D _ _ (Kb C) (r _ _ l),dk _⟩ (cQ (wx (·.pop)) N rfl) (ItemsOf.nil _) λ U m Y i VQ z=>?_⟩;rw[Ta i];refine VP U.heap U.toks m Y (λ b g e=>i.heap b g (λ f=>?_) (D b g (br (az e)) (r b g e))) VQ ?_
 · have k:=az e;rcases aP.mp f with e|f;·exact absurd e (br k)
   · have f:=aI.mp f;simp only[<-y,n]at f;exact absurd f (br (gb k))
 · have VT:(f0 c h a d).toList.length=d.size:=by simp only[(kB c h a d).length_eq,aX]
   refine KD λ j=>?_;simp only[a',Ji,Ji];by_cases f:j<d.size
   · have VS:j<m.size:=by simp only[z.1];exact f
     have L:m[j]?=some m[j]:=hq VS;simp only[L];exact(z.2 j _ L).symm
   ·simp only[Ib (by rw[z.1];exact j8 f),Ib (by rw[<-aX,VT];exact j8 f)];rfl
def HN{a:List (Int×ab)}(h:OK (NO P0 c) a):M' (a.map (·.2)) (a.map λ e=>rL e.2):=by induction a with
 |nil=>exact .nil|cons e r f=>
  refine aj λ j=>?_;refine am (h e (.head _)) λ g _=>?_;refine ak g λ k b _=>?_;refine ai (Ov b) λ i q=>j ?_;have :=f λ x d=>h x (.tail _ d);simp only[uW,uW,q];exact .cons k i this
def HO{f:Array (Int×ab)}(O:o.handled=none)(T:q.heap.get? h=some (cw f a VA))(G:dP c f VA B)(v:f.size<=10)(L:∀d u k e(i:Array ab)g,q.heap.get? k=none->d.get? k=some (L4 "list" i e)->M' i.toList g->g.Perm B->g.Pairwise (·<=·)->(KO q.heap d)->Vh (.ref k) {q with heap:=d,toks:=u}):aA (au P0 c) o (I3 (.builtin "sorted") [.ref h]) Vh y q:=by
 refine Q9 kind_sorted plain_sorted entry_sorted (args_sorted1 _) ?_;unfold Builtin.«sorted»;refine af (m:=checkCount "sorted" 1 1 _) (ah (af ?_));unfold R1;refine af (Ol (HM (by simpa using O) T G v λ d u l U n M x=>?_));refine af (MN M (ah ?_));have C:l.toList.length<64:=by simp only[x,be,(kB c h a f).length_eq,aX];exact c6 v (aE true)
 refine af (Rh ?_ (an (bn C) (bW rfl)));have p:(d.push (L4 "list" l.toList.toArray 0)).get? d.objs.size=some (L4 "list" l.toList.toArray 0):=aF _ rfl;refine af (aK (IQ Vb ⟨_,p,rfl⟩ UG (list_sort_tree p (by rw[x];exact HN (G.l5.perm (kB c h a f))) C λ i g D H J=>⟨_,rfl,(ai (sortedHeap_at (out:=i) p) λ e N=>(ah ⟨_,rfl,L _ u _ e i g ?_ N D (H.trans (((kB c h a f).map _).trans G.perm)) J λ b r j=>?_⟩))⟩) (args_list_sort _)))
 · rcases j:q.heap.get? d.objs.size with _|r;·rfl
   ·exact absurd (az (n _ _ j)) (Iy _)
 · have z:=az (n b r j);rw[sortedHeap_old (br z) (by rw[IG];exact gb z)];exact ao _ (n b r j)
def HP:lY:=λ{k sc VM np VP V1 V2 e F}h g y B z M X w A c d s E R=>by
 refine dr ((Ev.bl (u:=k) (i:=VM) (v:=np) lk B).use c R (Kp.refl s) λ v V4 Y _ O m=>?_);obtain rfl:v=.builtin "sorted":=Y;have N:∀(p:Pos),L9 p (bD [e] d)=[(ap,He e d)]:=λ p=>by rw[M];rfl
 refine Ir (by rfl) (b1 (N7 ?_));refine dr ((Ev.bl (u:=k) (i:=VM) (v:=VP) AE z).use c m O λ v V5 VR _ Q n=>?_);obtain rfl:v=.type "set":=VR;rw[N];refine I0 rfl (b1 (N7 (y.use c n Q λ v j VS _ T o=>Oy (aj λ VU=>?_))));refine bI (RV.list VS) λ a vs as V VY U VQ=>?_;obtain rfl:=V;refine VU (HC (c.calm h) U.isList (ni VQ) g λ f l VX ep t H G C=>?_);have i:Kp j {j with heap:=f,toks:=l}:=⟨f,l,rfl,C⟩;refine Oy ?_;refine HO (c.calm h) H G (by rw[G.len];exact an (i7 F) g) λ r VT b q V0 VZ x u VN J L D=>?_;obtain rfl:=w8 J L;exact⟨.gD ((o.keeps i.keep).ex.jU x) ⟨q,u⟩ (qi _ VN),T.trans (i.trans ⟨r,VT,rfl,D⟩)⟩
abbrev Nn(F:List Int):Prop:=∀y∈F,0<=y
def hy(a:0<=C)(b:0<=Vs):cY (sg C) (sg Vs)=bF (C<Vs):=by
 show bF ([C.toNat]<[Vs.toNat])=_;refine decide_eq_decide.mpr ?_;rw[QV];constructor
 · rintro(h|⟨_,h⟩);·exact Sk.mp λ q=>absurd h (b'.mpr (Int.toNat_le_toNat q))
   ·exact absurd h (NG _)
 ·intro h;left;exact sk a h
def xO(a:0<=C)(b:0<=Vs)(h:sg C=sg Vs):C=Vs:=by
 have :C.toNat=Vs.toNat:=by
  have :=congrArg (λ s:Str=>s.cps.toList) h;simpa[sg]using this
 exact(K7 a).symm.trans ((congrArg (λ n:Nat=>(n:Int)) this).trans (K7 b))
def l6(a:0<=C)(b:0<=Vs):(sg C==sg Vs)=(C==Vs):=by
 by_cases h:C=Vs;·subst h;simp
 · have :sg C≠sg Vs:=λ q=>h (xO a b q);simp only[beq_eq_false_iff_ne.mpr this,beq_eq_false_iff_ne.mpr h]
theorem l7:∀{G:List Int},Nn G->∀{VL:Int},0<=VL->(G.map sg).count (sg VL)=G.count VL
 |[],_,_,_=>rfl|g::G,h,VL,a=>by simp only[uW,IX,IX,l7 (λ y b=>h y (.tail _ b)) a,l6 (h g (.head _)) a]
section
variable{a:Type}[DecidableEq a]
noncomputable def e2:List a->(a->Nat)->List a
 |[],_=>[]|b::r,c=>if 0<c b then e2 r (λ z=>if z=b then c z-1 else c z)else b::e2 r c
def l8(b:a)(r:List a)(c:a->Nat):e2 (b::r) c=if 0<c b then e2 r (λ z=>if z=b then c z-1 else c z)else b::e2 r c:=rfl
theorem xP:∀l:List a,e2 l (λ _=>0)=l
 |[]=>rfl|b::r=>by rw[l8,if_neg (Iy 0),xP r]
theorem rM:∀(l:List a)(VM:a->Nat)(y:a),(e2 l VM).erase y=e2 l λ z=>if z=y then VM z+1 else VM z
 |[],_,_=>rfl|b::r,VM,y=>by
   rw[l8,l8];by_cases h:0<VM b
   · rw[if_pos h,if_pos (show 0<if b=y then VM b+1 else VM b by split<;>first|exact kJ h|exact h),rM r];congr 1;funext z;by_cases d:z=b
     · subst d;by_cases VL:z=y;·simp[VL];simp only[VL]at h;exact r2 h
       ·simp[VL]
     · by_cases VL:z=y;·subst VL;simp[d]
       ·simp[d,VL]
   · rw[if_neg h];by_cases VL:b=y
     · subst VL;rw[List.erase_cons_head,if_pos (by simp)];congr 1;funext z;by_cases d:z=b;·subst d;simp
       ·simp[d]
     ·rw[List.erase_cons_tail (by simpa using VL),if_neg (show¬0<if b=y then VM b+1 else VM b by rw[if_neg VL];exact h),rM r]
theorem rN:∀(l:List a)(VL:a->Nat)(y:a),(e2 l VL).count y=l.count y-VL y
 |[],_,_=>by show List.count _ ([]:List a)=_;simp|b::r,VL,y=>by
   rw[l8];by_cases h:0<VL b
   · rw[if_pos h,rN r,IX];by_cases d:y=b;·subst d;simp;exact yj h
     · have :(b==y)=ap:=by simpa using λ q:b=y=>d q.symm
       simp[d,this]
   · rw[if_neg h,IX,rN r,IX];by_cases d:y=b;·subst d;simp;rw[LI h];rfl
     · have :(b==y)=ap:=by simpa using λ q:b=y=>d q.symm
       simp[this]
theorem xQ(d:a):∀(l:List a)(c:a->Nat),e2 l c=((a1 l.length).filter λ k=>bF (c (l.getD k d)<(l.take (k+1)).count (l.getD k d))).map λ k=>l.getD k d
 |[],_=>rfl|b::r,c=>by
   simp only[y3,QA,H8,List.filter_map];have m:bF (c ((b::r).getD 0 d)<((b::r).take (0+1)).count ((b::r).getD 0 d))=bF (¬0<c b):=by
     have :(b::r).getD 0 d=b:=rfl;refine this.symm▸?_;simp only[Im,K2,Td,List.count_singleton_self];exact decide_eq_decide.mpr ⟨λ q=>b'.mpr (ID q),λ q=>LG (b'.mp q)⟩
   refine m.symm▸?_;have i:∀g:a->Nat,(∀k,k<r.length->(c ((b::r).getD (k+1) d)<((b::r).take (k+1+1)).count ((b::r).getD (k+1) d)↔g (r.getD k d)<(r.take (k+1)).count (r.getD k d)))->(((a1 r.length).filter ((λ k=>bF (c ((b::r).getD k d)<((b::r).take (k+1)).count ((b::r).getD k d)))∘Nat.succ)).map Nat.succ).map (λ k=>(b::r).getD k d)=e2 r g:=λ g h=>by
     simp only[xQ d r g,dQ];exact congrArg (Tf λ k=>r.getD k d) (ME λ k f=>decide_eq_decide.mpr (h k (cI.mp f)))
   have j:∀k,(b::r).getD (k+1) d=r.getD k d:=λ k=>rfl;rw[l8];by_cases h:0<c b
   · rw[if_pos h,if_neg (by simpa using Nat.pos_iff_ne_zero.mp h)];refine(i _ λ k f=>?_).symm;rw[j,K2,IX];by_cases e:r.getD k d=b;·refine e.symm▸?_;simp;exact⟨λ q=>aJ (Ko h Kh) (ID q),λ q=>LG (Nat.le_of_pred_lt q)⟩
     · have :(b==r.getD k d)=ap:=by simpa using λ q:b=_=>e q.symm
       simp only[e,if_false,this,cT,KY]
   · rw[if_neg h,if_pos (by simpa using LI h),uW];congr 1;refine(i _ λ k f=>?_).symm;rw[j,K2,IX];by_cases e:r.getD k d=b
     · have n:b∈r.take (k+1):=by
         simp only[<-e,av,ay f];exact List.mem_take_iff_getElem.mpr ⟨k,mi iy f,rfl⟩
       have :=Mt.mpr n;refine e.symm▸?_;simp;simp only[LI h];exact iff_of_true (Ju _) this
     · have :(b==r.getD k d)=ap:=by simpa using λ q:b=_=>e q.symm
       simp only[this,cT,if_false,KY]
end
theorem xR(VL as:List Str):∀VM,VM<=VL.length->(bf VL as VM).2=e2 as (λ z=>(VL.drop (VL.length-VM)).count z)/\(bf VL as VM).1=(((a1 VM).map λ j=>VL.length-1-j).filter λ k=>bF (as.count (VL.getD k aR)<(VL.drop k).count (VL.getD k aR))).map λ k=>VL.getD k aR
 |0,_=>by
   refine⟨?_,rfl⟩;simp only[KU,List.drop_length];exact(xP as).symm|VM+1,VP=>by
   refine am (xR VL as VM (by exact gv VP)) λ b g=>?_;have d:VL.drop (VL.length-1-VM)=VL.getD (VL.length-1-VM) aR::VL.drop (VL.length-VM):=by simp only[ht (by exact hF (gY VP)),av,ay (by exact hF (gY VP)),show VL.length-1-VM+1=VL.length-VM by exact yi VP];rfl
   have m:VL.drop (VL.length-(VM+1))=VL.getD (VL.length-1-VM) aR::VL.drop (VL.length-VM):=by simp only[<-d,show VL.length-(VM+1)=VL.length-1-VM by exact r0 VP]
   refine m.symm▸?_;have n:(((a1 (VM+1)).map λ j=>VL.length-1-j).filter λ k=>bF (as.count (VL.getD k aR)<(VL.drop k).count (VL.getD k aR))).map (λ k=>VL.getD k aR)=(bf VL as VM).1++(if as.count (VL.getD (VL.length-1-VM) aR)<(VL.drop (VL.length-1-VM)).count (VL.getD (VL.length-1-VM) aR)then[VL.getD (VL.length-1-VM) aR]else[]):=by
     simp only[g,Nj,fs,I1,fs];congr 1;simp only[Oh,H8];split;·rename_i VO;rw[if_pos (of_decide_eq_true VO)];rfl
     ·rename_i VO;rw[if_neg λ r=>VO (decide_eq_true r)];rfl
   simp only[n,d,Rg];have e:=@vg VL as VM;have f:=@vh VL as VM;generalize VL.getD (VL.length-1-VM) aR=y at e f⊢;have c:=rN as (λ z=>(VL.drop (VL.length-VM)).count z) y;have l:e2 as (λ z=>(y::VL.drop (VL.length-VM)).count z)=(e2 as (λ z=>(VL.drop (VL.length-VM)).count z)).erase y:=by
     simp only[rM];congr 1;funext z;simp only[IX];by_cases VO:z=y;·obtain rfl:=VO.symm;simp
     · have :(y==z)=ap:=by simpa using λ r:y=z=>VO r.symm
       simp[VO,this]
   rw[l];by_cases a:y∈(bf VL as VM).2
   · rw[e a];refine⟨?_,?_⟩;·rw[<-b];exact(List.erase_eq_eraseIdx_of_idxOf (List.idxOf_lt_length_iff.mpr a|>λ _=>rfl)).symm
     · rw[b]at a;have :=Mt.mpr a;rw[if_neg (b'.mpr (Sx (c▸this))),IY]
   · rw[f a];refine⟨?_,?_⟩;·rw[<-b];exact(List.erase_of_not_mem a).symm
     · rw[b]at a;have :=JN.mpr a;rw[if_pos (LG (Nat.le_of_sub_eq_zero (c.symm.trans this)))]
def l9(b:a<B.length):(B.map sg).getD a aR=sg (B.getD a 0):=by simp only[av,av,a',ay b];rfl
def f'(b:a<B.length):B.getD a 0∈B:=by simp only[av,ay b];exact IM b
def HQ{F G:List Int}:(∀x∈da F G,x∈F)/\∀x∈df F G,x∈G:=by
 refine⟨λ x b=>?_,λ x b=>?_⟩
 · refine ak (hp.mp b) ?_;rintro k a rfl;refine ak (hp.mp (hu.mp a).1) ?_;rintro j c rfl;have :=cI.mp c;exact f' (hF this)
 · refine aj λ d=>?_;refine ak (hp.mp b) ?_;rintro k a rfl;exact d (f' (cI.mp (hu.mp a).1))
def HR{F G:List Int}(c:Nn F)(d:Nn G):bf (F.map sg) (G.map sg) (F.map sg).length=((da F G).map sg,(df F G).map sg):=by
 refine am (xR (F.map sg) (G.map sg) (F.map sg).length (aB _)) λ g f=>MU ?_ ?_
 · simp only[f];unfold da;rw[be,dQ];have b:∀k∈(a1 F.length).map λ j=>F.length-1-j,k<F.length:=λ k b=>by
     refine ak (hp.mp b) ?_;rintro j i rfl;have :=cI.mp i;exact hF this
   rw[ME (q:=λ k=>bF (G.count (F.getD k 0)<(F.drop k).count (F.getD k 0))) λ k h=>?_];·exact Iz λ k h=>l9 (b k (hu.mp h).1)
   · have :=b k h;have a:=c _ (f' this);rw[l9 this,l7 d a,<-Qf,l7 (λ y e=>c y (KJ e)) a]
 · simp only[g,Ng,Lz,xQ aR];unfold df;simp only[be,dQ];rw[ME (q:=λ k=>bF (F.count (G.getD k 0)<(G.take (k+1)).count (G.getD k 0))) λ k h=>?_];·exact Iz λ k h=>l9 (cI.mp (hu.mp h).1)
   · have :=cI.mp h;have a:=d _ (f' this);rw[l9 this,l7 c a,<-Od,l7 (λ y e=>d y (Rc e)) a]
abbrev oy(a b:Str):Prop:=cY b a=ap
theorem xS:∀(r:List Str)(p:Str),risingS p r=true->(p::r).Pairwise oy
 |[],_,_=>Qm _ _|x::r,p,h=>by
   unfold risingS at h;refine am (x4.mp h) λ a d=>?_;have c:=xS r x d;have VM:oy p x:=by
     simp only[IT]at a;show bF (x.cps.toList<p.cps.toList)=ap;rw[lt_meets];exact a
   refine am (Mr.mp c) λ VN _=>Mr.mpr ⟨λ VO VL=>(aH (aP.mp VL) ?_ λ VL=>?_),c⟩
   · rintro rfl;exact VM
   · have b:=NE.mp (of_decide_eq_false (VN VO VL));exact decide_eq_false (NE.mpr (List.le_trans (NE.mp (of_decide_eq_false VM)) b))
def HS(e:Nn B):((bx B).map sg).Pairwise oy:=by
 rw[Se];refine(oq B).imp_of_mem λ{a b}c d h=>?_;have c:=e a ((ea B).mem_iff.mp c);have d:=e b ((ea B).mem_iff.mp d);show cY (sg b) (sg a)=ap;rw[hy d c];exact decide_eq_false (oI h)
def xT(e:Nn B)(f:G.Perm (B.map sg))(g:M9 G=true):G=(bx B).map sg:=by
 have c:G.Pairwise oy:=by
  rcases G with _|⟨x,r⟩;·exact .nil
  ·exact xS r x g
 exact Mo (λ a b _ _ c d=>q2 d c) c (HS e) (f.trans ((ea B).map sg).symm)
def rO(c:∀x∈B,0<=x/\x<65536/\(x<55296\/57343<x))(e:B.length<=10):cS (aY B) (sg 65536):=by
 have d:∀x∈bx B,x∈B:=λ x b=>(ea B).mem_iff.mp b;refine⟨⟨_,rfl,λ y a=>?_⟩,λ y a=>?_,?_⟩
 · refine aj λ f=>?_;refine ak (hp.mp a) ?_;rintro x b rfl;refine f ?_;have :=c x (d x b);rw[hy (by exact this.left) (by exact dh)];exact decide_eq_true (this.right.left)
 · rcases k9.mp a with a|a
   · refine ak (hp.mp a) ?_;rintro x b rfl;have :=c x (d x b);show(#[x.toNat].all _)=true;simp;exact oY this rfl
   ·rw[aI.mp a];decide+kernel
 · unfold aY;simp only[eB,be,il,Ky];exact iA e (aE true)
def HT(a b:Bool):eX a b=0-eX b a:=by unfold eX;exact((Int.zero_sub _).trans (Int.neg_sub _ _)).symm
def HU(a:Bool):eX a a=0:=by unfold eX;exact Int.sub_self _
theorem xU:∀{a b:List Int},Nn a->Nn b->((((a.zip b).filter λ VN=>VN.1 !=VN.2).map λ VN=>if VN.2<VN.1 then(1:Int)else-1)++[eX (bF (b.length<a.length)) (bF (a.length<b.length))])[0]?=some (fY (a.map sg) (b.map sg))
 |[],[],_,_=>rfl|[],VM::b,_,_=>by simp[fY,ck]|VL::a,[],_,_=>by simp[fY,ck]|VL::a,VM::b,f,g=>by
   have c:=f VL (.head _);have d:=g VM (.head _);unfold fY;simp only[uW,uW,Og,H8];unfold ck;simp only[l6 c d,l6 d c];by_cases h:VL=VM
   · subst h;simp only[bne_self_eq_false,cT,if_false,beq_self_eq_true,if_true,y3,Nat.add_lt_add_iff_right];exact xU (λ z e=>f z (.tail _ e)) (λ z e=>g z (.tail _ e))
   · have k:(VL==VM)=ap:=by simpa using h
     have l:(VM==VL)=ap:=by simpa using λ VN:VM=VL=>h VN.symm
     simp only[bne,k,l,Bool.not_false,if_true,cT,if_false];have i:bF ((sg VL).cps.toList<(sg VM).cps.toList)=bF (VL<VM):=hy c d;have j:bF ((sg VM).cps.toList<(sg VL).cps.toList)=bF (VM<VL):=hy d c;simp only[i,j];show some _=_;unfold eX;by_cases VN:VM<VL
     · have :¬VL<VM:=oI (gw VN);simp[VN,this]
     · have :VL<VM:=mA (JQ.mp VN) h;simp[VN,this]
theorem xV:∀{s:List Str},s≠[]->ck s.dropLast s=true/\ck s s.dropLast=ap
 |[],VL=>(VL rfl).elim|[x],_=>⟨rfl,rfl⟩|x::y::r,_=>by
  refine am (xV (s:=y::r) (by simp)) λ a b=>?_;refine(List.dropLast_cons_cons).symm▸?_;unfold ck;simp only[beq_self_eq_true,if_true];exact⟨a,b⟩
def HV(d:Nn (fA B))(e:Nn (fB B))(f:sA B≠[]):∃u,(io (fA B) (fB B))[0]?=some u/\fZ B=[u,0-u,0,-1,1]:=by
 have c:∀{F:List Int},Nn F->Nn (bx F):=λ h x g=>h x ((ea _).mem_iff.mp g);refine bj (fY ((bx (fA B)).map sg) ((bx (fB B)).map sg)) ?_ ?_
 · have :=xU (c d) (c e);rw[il,il]at this;exact this
 · refine am (xV f) λ a b=>?_;unfold fZ fY;simp only[a,b,HU,HT (ck ((bx (fA B)).map sg) ((bx (fB B)).map sg))];rfl
noncomputable def cU(F P:List Int):List (Option Str):=F.map λ VL=>if VL∈P then none else some (sg VL)
noncomputable def ma(F G L:List Int):List d':=(L.filter λ x=>F.count x !=G.count x).map λ x=>(F.count x,G.count x,sg x)
def oz{F P:List Int}:(cU F P)[a]?=F[a]?.map λ x=>if x∈P then none else some (sg x):=by unfold cU;simp only[a']
def HW(F P:List Int):(cU F P).length=F.length:=by unfold cU;rw[be]
def xW{F P:List Int}(h:a<F.length):(cU F P).getD a none=if F.getD a 0∈P then none else some (sg (F.getD a 0)):=by rw[av,oz,av,ay h];rfl
def xX(a:0<=C)(b:0<=Vs):((some (sg C):Option Str)==some (sg Vs))=(C==Vs):=by simp only[Option.some_beq_some,l6 a b]
theorem xY{P:List Int}{x:Int}(b:0<=x)(a:x∉P):∀{F:List Int},Nn F->(cU F P).count (some (sg x))=F.count x
 |[],_=>rfl|y::F,h=>by
   have e:cU (y::F) P=(if y∈P then none else some (sg y))::cU F P:=rfl;simp only[e,IX,IX,xY b a λ z c=>h z (.tail _ c)];congr 1;by_cases q:y∈P
   · rw[if_pos q];have :(y==x)=ap:=by simpa using λ e:y=x=>a (e▸q)
     refine this.symm▸?_;rfl
   ·rw[if_neg q,xX (h y (.head _)) b]
def rP{F P:List Int}(d:Nn F)(i:0<=C)(g:∀j y,j<a->F[j]?=some y->y∈P):bv (sg C) (cU F P) a ((cU F P).length-a)=cU F (P++[C]):=by
 refine KD λ j=>?_;simp only[ib,oz,oz,HW];rcases e:F[j]? with _|y;·rfl
 · have f:j<F.length:=by refine ai (a8.mp e) λ c _=>?_;exact c
   simp only[IF,Kd];by_cases q:y∈P
   · rw[if_pos q,if_pos (Ip _ q)];simp
   · have b:a<=j:=S4 λ r=>q (g j y r e);simp only[if_neg q,xX (d y (ct e)) i,decide_eq_true b,decide_eq_true (yC f b)];by_cases r:y=C;·subst r;simp
     · have :(y==C)=ap:=by simpa using r
       have h:y∉P++[C]:=λ m=>by
         rcases k9.mp m with m|m;·exact q m
         ·exact r (aI.mp m)
       rw[this,if_neg h];simp
def rQ{F P:List Int}(f:Nn F)(i:0<=C)(g:C∉P)(h:∀j y,j<b->F[j]?=some y->y∈P):cL (sg C) (cU F P) b ((cU F P).length-b)=F.count C:=by
 unfold cL;rw[lu (by rw[MW];exact aB _),<-xY i g f];have d:((cU F P).take b).count (some (sg C))=0:=by
   refine JN.mpr λ m=>ai (Iq m) λ j c=>?_;rw[Kj]at c;split at c
   · rename_i q;rw[oz]at c;refine ak (bh.mp c) λ y k e=>?_;rw[if_pos (h j y q k)]at e;exact aQ e
   ·exact aQ c
 have :=KE (a:=some (sg C)) (l₁:=(cU F P).take b) (l₂:=(cU F P).drop b);simp only[LW,d]at this;exact(this.trans (Im _)).symm
def rR{F P a:List Int}(h:∀x,x∈P↔x∈a):cU F P=cU F a:=by
 unfold cU;refine Iz λ x _=>?_;by_cases q:x∈P;·rw[if_pos q,if_pos ((h x).mp q)]
 ·rw[if_neg q,if_neg λ r=>q ((h x).mpr r)]
def kD:C∈b5 B↔C∈B:=by
 refine⟨lX,λ h=>?_⟩;have H:∀n,C∈B.take n->C∈b5 (B.take n):=by
   intro n;induction n with
   |zero=>intro h;simp at h|succ n a=>
     intro h;by_cases q:n<B.length
     · rw[hs q]at h⊢;rw[i9];split
       · rename_i r;rcases k9.mp h with h|h;·exact a h
         ·simp only[aI.mp h];exact r
       · refine aH (k9.mp h) (λ h=>?_) λ h=>?_;·exact Ip _ (a h)
         ·exact jq _ h
     · rw[lu (j4 (j8 q) dG)]at h⊢;rw[lu (j8 q)]at a;exact a h
 have :=H B.length;rw[IL]at this;exact this h
def mc:∀j y,j<a->B[j]?=some y->y∈B.take a:=λ j y b e=>ct (i:=j) (by rw[Kj,if_pos b];exact e)
theorem xZ{F G:List Int}(a:Nn F)(c:Nn G):∀i,i<=F.length->ch (F.map sg) (G.map sg) i=(cU F (F.take i),cU G (F.take i),ma F G (b5 (F.take i)))
 |0,_=>by
   have e:∀L:List Int,(L.map sg).map some=cU L []:=λ L=>by unfold cU;rw[dQ];exact Iz λ x _=>by simp
   show((F.map sg).map some,(G.map sg).map some,[])=_;simp only[e,e];rfl|i+1,h=>by
   have d:i<F.length:=gY h;have b:=a _ (f' d);unfold ch;rw[(xZ a c i (gv h))];unfold c1;rw[xW d,hs d];generalize F.getD i 0=x at*;by_cases q:x∈F.take i
   · rw[if_pos q];dsimp only;have l:∀z,z∈F.take i↔z∈F.take i++[x]:=λ z=>⟨Ip _,λ m=>by
       rcases k9.mp m with m|m;·exact m
       ·simp only[aI.mp m];exact q⟩;rw[i9,if_pos (kD.mpr q),rR l,rR (F:=G) l]
   · rw[if_neg q];dsimp only;have k:∀j y,j<0->G[j]?=some y->y∈F.take i:=λ j y n=>absurd n (PN _);have f:=rP (C:=x) c b k;have g:=rQ c b q k;simp only[KU]at f g;simp only[(rP (C:=x) a b (mc (B:=F) (a:=i))),rQ a b q (mc (B:=F) (a:=i)),f,g,i9,if_neg λ m=>q (kD.mp m)];refine MU rfl (MU rfl ?_);unfold ma;simp only[I1,fs,H8];unfold bne;cases F.count x==G.count x<;>simp
theorem x0{F G:List Int}(a:Nn G):∀i,i<=G.length->d0 (cU G F,ma F G (b5 F)) i=(cU G (F++G.take i),ma F G (b5 (F++G.take i)))
 |0,_=>by simp only[Td,IY];rfl|i+1,h=>by
   have b:i<G.length:=gY h;have f:=a _ (f' b);unfold d0;rw[(x0 (F:=F) a i (gv h))];unfold c2;rw[xW b,hs b,<-kn];have k:=f' b;generalize G.getD i 0=x at*;by_cases q:x∈F++G.take i
   · rw[if_pos q];dsimp only;have n:∀z,z∈F++G.take i↔z∈(F++G.take i)++[x]:=λ z=>⟨Ip _,λ m=>by
       rcases k9.mp m with m|m;·exact m
       ·simp only[aI.mp m];exact q⟩;rw[i9,if_pos (kD.mpr q),rR n]
   · rw[if_neg q];dsimp only;have d:∀j y,j<i->G[j]?=some y->y∈F++G.take i:=λ j y l e=>jq _ (mc j y l e);rw[rP a f d,rQ a f q d,i9,if_neg λ m=>q (kD.mp m)];refine MU rfl ?_;have c:F.count x=0:=JN.mpr λ m=>q (Ip _ m);have g:0<G.count x:=Mt.mpr k;unfold ma;rw[I1,fs,H8,if_pos (by rw[c];simp;exact yf (rY g)),Pt,Oh,c]
def HX{F G:List Int}(b:Nn F)(a:Nn G):ie (F.map sg) (G.map sg)=(gU F G).map λ x=>(F.count x,G.count x,sg x):=by
 unfold ie;simp only[be,be,xZ b a _ (aB _),IL,x0 a _ (aB _),IL];rfl
def x1(l:List Int):(b5 l).Nodup:=by
 have H:∀n,(b5 (l.take n)).Nodup:=by
   intro n;induction n with
   |zero=>exact NF|succ n a=>
     by_cases VM:n<l.length
     · simp only[hs VM,i9];split;·exact a
       · rename_i r;refine Sf.mpr ⟨a,Jf.mpr ⟨(λ h=>by cases h),NF⟩,λ x b y c e=>?_⟩;rw[aI.mp c]at e;exact r (e▸b)
     · rw[lu (by first|exact j8 VM|exact j4 (j8 VM) dG)]at a⊢;exact a
 have :=H l.length;rwa[IL]at this
def x2(h:B.Nodup):(bx B).Pairwise (·<·):=((oq B).and ((ea B).nodup_iff.mpr h)).imp λ c=>by refine am c λ a b=>?_;exact mA a b
def x3{a b:List Int}(c:a.Pairwise (·<·))(d:b.Pairwise (·<·))(h:∀x,x∈a↔x∈b):a=b:=by
 have e:∀{l:List Int},l.Pairwise (·<·)->l.Nodup:=λ h=>h.imp λ q=>ye q;exact w7 ((PQ (e c) (e d)).mpr h) (c.imp λ q=>gw q) (d.imp λ q=>gw q)
structure kE(a:List Int)(i b:Nat)(x:Int):Prop where
 len:b<=a.length
 lt:i<b
 HY:x∈a.take b
 old:∀z,z∈a.take b->z∈a.take i\/z=x
 new:∀z,z∈a.drop b->x<z
def kE.sub(S:kE B a b C):(∀z,z∈B.take a->z∈B.take b)/\∀z,z∈B.drop b->z∈B.drop a:=by
 refine⟨λ z h=>?_,λ z h=>?_⟩
 · have :=(List.take_prefix_take_left (l:=B) (bn S.lt)).subset h;exact this
 · have e:B.drop b=(B.drop a).drop (b-a):=by simp only[List.drop_drop];congr 1;have :=S.lt;exact(Jd (bn this)).symm
   rw[e]at h;exact KJ h
structure gs(a b:List Int)(i j:Nat)(m u:List Int):Prop where
 hi:i<=a.length
 hj:j<=b.length
 pm:m.Pairwise (·<·)pu:u.Pairwise (·<·)mm:∀x,x∈m↔x∈a.take i/\x∉b
 mu:∀x,x∈u↔x∈b.take j/\x∉a
 sep:∀x,x∈a.take i\/x∈b.take j->∀y,y∈a.drop i\/y∈b.drop j->x<y
def gs.swap{c d:List Int}{m u:List Int}(H:gs c d a b m u):gs d c b a u m:=⟨H.hj,H.hi,H.pu,H.pm,H.mu,H.mm,λ x h y g=>H.sep x h.symm y g.symm⟩
def gs.less{d c:List Int}{m u:List Int}(H:gs d c a b m u)(S:kE d a x C)(k:C∈d.drop a)(f:∀z,z∈c.drop b->C<z):gs d c x b (m++[C]) u:=by
 refine am S.sub λ r s=>?_;have o:C∉c:=λ h=>by
   rw[<-LW b c]at h;rcases k9.mp h with h|h;·exact absurd (H.sep C (.inr h) C (.inl k)) (Qr _)
   ·exact absurd (f C h) (Qr _)
 refine⟨S.len,H.hj,?_,H.pu,λ z=>⟨λ h=>?_,λ⟨l,n⟩=>?_⟩,H.mu,λ z h y g=>?_⟩
 · refine ND.mpr ⟨H.pm,Qm _ _,λ z q y p=>?_⟩;simp only[aI.mp p];exact H.sep z (.inl ((H.mm z).mp q).1) C (.inl k)
 · rcases k9.mp h with h|h;·have :=(H.mm z).mp h;exact⟨r z this.1,this.2⟩
   ·rw[aI.mp h];exact⟨S.HY,o⟩
 · refine aH (S.old z l) (λ h=>?_) λ h=>?_;·exact Ip _ ((H.mm z).mpr ⟨h,n⟩)
   ·exact jq _ (aI.mpr h)
 · have e:y∈d.drop a\/y∈c.drop b:=g.imp_left (s y);rcases h with h|h
   · refine aH (S.old z h) (λ h=>?_) λ h=>?_;·exact H.sep z (.inl h) y e
     · obtain rfl:=h.symm;refine aH g (λ g=>?_) λ g=>?_;·exact S.new y g
       ·exact f y g
   ·exact H.sep z (.inr h) y e
def gs.same{d e:List Int}{m u:List Int}(H:gs d e a b m u)(S:kE d a x C)(c:kE e b Vu C)(o:C∈d.drop a)(p:C∈e.drop b):gs d e x Vu m u:=by
 refine aj λ v=>am S.sub λ q r=>am c.sub λ s t=>v ?_;refine⟨S.len,c.len,H.pm,H.pu,λ z=>⟨λ h=>⟨q z ((H.mm z).mp h).1,((H.mm z).mp h).2⟩,λ⟨k,f⟩=>?_⟩,λ z=>⟨λ h=>⟨s z ((H.mu z).mp h).1,((H.mu z).mp h).2⟩,λ⟨k,f⟩=>?_⟩,λ z h y g=>?_⟩
 · rcases S.old z k with h|h;·exact(H.mm z).mpr ⟨h,f⟩
   ·exact(f (h▸(KJ p))).elim
 · rcases c.old z k with h|h;·exact(H.mu z).mpr ⟨h,f⟩
   ·exact(f (h▸(KJ o))).elim
 · have l:y∈d.drop a\/y∈e.drop b:=g.imp (r y) (t y);have n:C<y:=g.elim (S.new y) (c.new y);refine aH h (λ h=>?_) λ h=>?_
   · rcases S.old z h with h|h;·exact H.sep z (.inl h) y l
     ·rw[h];exact n
   · rcases c.old z h with h|h;·exact H.sep z (.inr h) y l
     ·rw[h];exact n
structure ja(a:List Int):Prop where
 rT:a.Pairwise (·<=·)bd:∀x∈a,0<=x/\x<65536
 ok:cS (a.map sg++[sg 65536]) (sg 65536)
noncomputable abbrev c4(a:List Int):List Str:=a.map sg++[sg 65536]
def rU(h:a<B.length):(c4 B).getD a aR=sg (B.getD a 0):=by rw[av,GZ (by simpa using h),<-av,l9 h]
def HZ:(c4 B).getD B.length aR=sg 65536:=by rw[av,Ja (by simp)];simp
def kG:(c4 B).length=B.length+1:=by simp
def rV(h:B[a]?=some C):a<B.length/\B.getD a 0=C:=by
 refine ai (a8.mp h) λ q _=>?_;exact⟨q,by rw[av,h];rfl⟩
def H0(h:a<B.length):B[a]?=some (B.getD a 0):=by rw[av,ay h];rfl
def rW(h:B.Pairwise (·<=·))(q:a<=b)(c:b<B.length):B.getD a 0<=B.getD b 0:=by
 by_cases e:a=b;·subst e;exact NW _
 · have :=My.mp h a b (c5 q c) c (jc q e);simp only[av,av,ay c,ay (c5 q c)];exact this
def ja.skip(R:ja B)(m:a<B.length):kE B a (bY (c4 B) (sg (B.getD a 0)) (a+1)) (B.getD a 0):=by
 have n:=R.bd _ (f' m);have d:bY (c4 B) (sg (B.getD a 0)) (a+1)<(c4 B).length:=R.ok.skip (by simp only[kG];exact sa m) (by rw[hy (by exact n.left) (by exact dh)];exact decide_eq_true (by exact n.right));have p:∀k,a+1<=k->k<bY (c4 B) (sg (B.getD a 0)) (a+1)->B.getD k 0=B.getD a 0:=λ k f c=>by
   have v:k-(a+1)<(((c4 B).drop (a+1)).takeWhile (·==sg (B.getD a 0))).length:=by unfold bY at c;exact se c f
   refine am (q1 v) λ j g=>?_;rw[show a+1+(k-(a+1))=k by exact fz f]at j g;have b:k<B.length:=by simp only[kG]at d;exact bA c (dF d)
   rw[rU b]at g;exact xO (R.bd _ (f' b)).1 n.1 g
 have l:=@vx (c4 B) (sg (B.getD a 0)) (a+1) d;have h:a+1<=bY (c4 B) (sg (B.getD a 0)) (a+1):=by unfold bY;exact dG
 generalize bY (c4 B) (sg (B.getD a 0)) (a+1)=r at d p l h⊢;simp only[kG]at d;refine⟨by exact dF d,by exact gY h,mc a _ (by exact gY h) (H0 m),λ z o=>?_,λ z o=>?_⟩
 · refine ai (Iq o) λ k b=>?_;rw[Kj]at b;split at b
   · rename_i q;by_cases s:k<a;·exact .inl (mc k z s b)
     · right;refine am (rV b) λ _ e=>?_;by_cases t:k=a;·obtain rfl:=t.symm;exact e.symm
       ·refine e▸?_;exact p k (by exact hz (mo t s)) q
   ·exact aQ b
 · refine ai (Iq o) λ k b=>?_;rw[Ms]at b;refine am (rV b) λ f e=>?_;have c:r<B.length:=by exact fy f
   rw[rU c]at l;have j:B.getD r 0≠B.getD a 0:=λ q=>l (by rw[q]);have g:=rW R.rT (by exact gv h) c;have u:=rW R.rT (by exact dG) f;refine e▸?_;exact Kr (mA g j.symm) (e▸u)
def x5(R:ja B)(h:C∈B.drop a):a<B.length/\B.getD a 0<=C:=by
 refine aj λ d=>ai (Iq h) λ k c=>?_;rw[Ms]at c;refine am (rV c) λ b e=>d ?_;exact⟨fy b,by simp only[<-e];exact rW R.rT (dG) b⟩
def oC(h:a<B.length):B.getD a 0∈B.drop a:=by simp only[ht h,av,ay h];exact .head _
def x6(R:ja B)(h:a<=B.length):∃x,(c4 B).getD a aR=sg x/\0<=x/\((a<B.length/\x=B.getD a 0/\x<65536)\/(a=B.length/\x=65536)):=by
 by_cases q:a<B.length
 · have :=R.bd _ (f' q);exact dU _ (rU q) this.1 (.inl ⟨q,rfl,this.2⟩)
 · obtain rfl:a=B.length:=gu h q;exact dU (65536) HZ (dh) (.inr ⟨rfl,rfl⟩)
theorem x7{a b:List Int}(o:ja a)(p:ja b):∀t,∃m u,(aM (c4 a) (c4 b) t).2.2=(m.map sg,u.map sg)/\gs a b (aM (c4 a) (c4 b) t).1 (aM (c4 a) (c4 b) t).2.1 m u
 |0=>⟨[],[],rfl,dk _,dk _,.nil,.nil,λ x=>by simp[aM],λ x=>by simp[aM],λ x h=>by simp[aM]at h⟩|t+1=>by
   refine aj λ L=>aW (x7 o p t) λ m u e H=>L ?_;unfold aM;rcases r:dN (c4 a) (c4 b) (aM (c4 a) (c4 b) t)with _|_
   · rw[if_neg (by simp)];generalize aM (c4 a) (c4 b) t=q at*;obtain⟨i,j,M,U⟩:=q;dsimp only at e H;refine am (JW e) ?_;rintro rfl J;obtain rfl:=J;refine ci (x6 o H.hi) λ x E B f=>ci (x6 p H.hj) λ y G C c=>?_;unfold fR;dsimp only;rw[E,G,hy B C,hy C B];by_cases l:x<y
     · simp only[if_pos (decide_eq_true l)];rcases f with⟨g,rfl,f⟩|⟨_,rfl⟩
       · refine dw (m++[a.getD i 0]) u (by simp) (H.less (o.skip g) (oC g) λ z k=>?_);refine am (x5 p k) λ d k=>?_;rcases c with⟨_,rfl,_⟩|⟨rfl,_⟩;·exact r4 l k
         ·exact ml d d
       ·rcases c with⟨_,_,c⟩|⟨_,rfl⟩<;>first|exact oJ l (gw c)|exact dR (kI l) bE
     · rw[if_neg (by simpa using l)];by_cases n:y<x
       · simp only[if_pos (decide_eq_true n)];rcases c with⟨d,rfl,c⟩|⟨_,rfl⟩
         · refine dw m (u++[b.getD j 0]) (by simp) ((H.swap.less (p.skip d) (oC d) λ z k=>?_).swap);refine am (x5 o k) λ g k=>?_;rcases f with⟨_,rfl,_⟩|⟨rfl,_⟩;·exact r4 n k
           ·exact ml g g
         ·rcases f with⟨_,_,f⟩|⟨_,rfl⟩<;>first|exact oJ n (gw f)|exact dR (kI n) bE
       · rw[if_neg (by simpa using n)];obtain rfl:x=y:=r7 (oH n) (oH l);rcases f with⟨g,D,f⟩|⟨rfl,rfl⟩
         · rcases c with⟨d,A,c⟩|⟨_,rfl⟩
           · have S:=o.skip g;have s:=p.skip d;have v:=oC g;have w:=oC d;rw[<-D]at S v;rw[<-A]at s w;exact dw m u rfl (H.same S s v w)
           ·exact dR (kI f) bE
         · rcases c with⟨d,A,c⟩|⟨rfl,_⟩;·exact dR (kI c) bE
           · unfold dN at r;simp only[kG,beq_self_eq_true,Bool.and_self]at r;cases r
   ·rw[if_pos rfl];exact dw m u e H
def H1{F G:List Int}(b:∀x∈F,0<=x/\x<65536/\(x<55296\/57343<x))(D:∀x∈G,0<=x/\x<65536/\(x<55296\/57343<x))(z:F.length<=10)(A:G.length<=10):(aM (aY F) (aY G) ((aY F).length+(aY G).length)).2.2=((gq (F++G) G).map sg,(gq (F++G) F).map sg):=by
 have r:∀{F:List Int},(∀x∈F,0<=x/\x<65536/\(x<55296\/57343<x))->F.length<=10->ja (bx F):=λ b h=>⟨oq _,λ x E=>by have :=b x ((ea _).mem_iff.mp E);exact⟨this.1,this.2.1⟩,rO b h⟩;have i:=r b z;have j:=r D A;have f:=ka i.ok j.ok ((aY F).length+(aY G).length);refine aj λ g=>aW (x7 i j ((aY F).length+(aY G).length)) λ m u e H=>d6 f λ L M O Q f=>g ?_;have k:dN (aY F) (aY G) (aM (aY F) (aY G) ((aY F).length+(aY G).length))=true:=by
   rcases q:dN (aY F) (aY G) (aM (aY F) (aY G) ((aY F).length+(aY G).length))with _|_
   · have B:(aM (aY F) (aY G) ((aY F).length+(aY G).length)).2.1<(aY G).length:=M;have C:(aY F).length+(aY G).length<=(aM (aY F) (aY G) ((aY F).length+(aY G).length)).1+(aM (aY F) (aY G) ((aY F).length+(aY G).length)).2.1:=f q;exact sE L B C
   ·rfl
 refine e.symm▸?_;have H:gs (bx F) (bx G) (aM (aY F) (aY G) ((aY F).length+(aY G).length)).1 (aM (aY F) (aY G) ((aY F).length+(aY G).length)).2.1 m u:=H;unfold dN at k;refine aj λ g=>am (x4.mp k) λ c d=>?_;have c:=pW c;have d:=pW d;have N:(aM (aY F) (aY G) ((aY F).length+(aY G).length)).1=(bx F).length:=mn (jf c) (hB kG);have l:=H.mm;have n:=H.mu;rw[N,IL]at l;rw[(mn (jf d) (hB kG)),IL]at n;have o:∀(all X:List Int),(gq all X).Pairwise (·<·)/\∀x,x∈gq all X↔x∈all/\x∉X:=λ all X=>by
   refine⟨(x2 (x1 all)).filter _,λ x=>?_⟩;unfold gq;rw[hu,(ea _).mem_iff,kD,IT,MF];exact and_congr_right λ _=>⟨λ h q=>h x q (beq_self_eq_true x),λ h y J e=>h (pW e▸J)⟩
 refine am (o (F++G) G) λ s t=>am (o (F++G) F) λ v w=>g ?_;rw[x3 H.pm s λ x=>by rw[l,t,(ea F).mem_iff,(ea G).mem_iff,k9];exact⟨λ a=>(by refine am a λ p q=>?_;exact⟨.inl p,q⟩),λ a=>by refine am a λ p q=>?_;exact⟨p.resolve_right q,q⟩⟩];rw[x3 H.pu v λ x=>by rw[n,w,(ea F).mem_iff,(ea G).mem_iff,k9];exact⟨λ a=>(by refine am a λ p q=>?_;exact⟨.inr p,q⟩),λ a=>by refine am a λ p q=>?_;exact⟨p.resolve_left q,q⟩⟩]
def H2:a∈fX B↔a<B.length:=by
 unfold fX;rw[List.mem_flatMap];constructor
 · rintro⟨x,_,h⟩;exact cI.mp (hu.mp h).1
 · intro h;refine bj (B.getD a 0) ?_ (hu.mpr ⟨cI.mpr h,beq_self_eq_true _⟩);unfold hv;exact(ea _).mem_iff.mpr (kD.mpr (f' h))
def H3(f:Nn B):(fX B).Pairwise (dD (cq B)):=by
 unfold fX;rw[List.pairwise_flatMap];refine⟨λ x _=>?_,?_⟩
 · refine(QB.filter _).imp_of_mem λ{i j}c d h=>.inr ⟨?_,h⟩;have a:B.getD i 0=x:=pW (hu.mp c).2;have b:B.getD j 0=x:=pW (hu.mp d).2;show(B.getD i 0).toNat=(B.getD j 0).toNat;rw[a,b]
 · refine(x2 (x1 B)).imp_of_mem λ{x y}e g h i c j d=>.inl ?_;have a:B.getD i 0=x:=pW (hu.mp c).2;have b:B.getD j 0=y:=pW (hu.mp d).2;have e:0<=x:=f x (lX ((ea _).mem_iff.mp e));show(B.getD i 0).toNat<(B.getD j 0).toNat;simp only[a,b];exact sk e h
def H4(m:Nn B){p:List Nat}(n:p.Perm (a1 B.length))(h:p.Pairwise (dD (cq B))):p=fX B:=by
 have o:∀a,¬dD (cq B) a a:=λ a q=>by rcases q with q|⟨_,q⟩<;>exact Iy _ q
 have g:∀{l:List Nat},l.Pairwise (dD (cq B))->l.Nodup:=λ h=>h.imp λ{a b}(q:dD (cq B) a b)(e:a=b)=>o a (by simp only[<-e]at q;exact q);have f:=H3 m;exact Mo (λ a b _ _ c d=>by rcases c with c|⟨c,i⟩<;>rcases d with d|⟨d,j⟩<;>first|exact ml c d|exact dR c (j6 d)|exact dR d (j6 c)|exact ml i j) h f ((PQ (g h) (g f)).mpr λ k=>by rw[n.mem_iff,cI,H2])
theorem H5:∀{m:List Int},m≠[]->∃M,M∈m/\∀VM,VM∈m->VM<=M
 |[],VL=>(VL rfl).elim|[x],_=>⟨x,.head _,λ VM VL=>by rw[aI.mp VL];exact NW _⟩|x::y::r,_=>by
  refine ak (H5 (m:=y::r) (by simp)) λ M b VN=>?_;by_cases VO:M<=x;·exact⟨x,.head _,λ VM VL=>by
   rcases aP.mp VL with rfl|VL;·exact NW _
   ·exact J2 (VN VM VL) VO⟩
  ·exact⟨M,.tail _ b,λ VM VL=>by
   rcases aP.mp VL with rfl|VL;·exact gw (yd VO)
   ·exact VN VM VL⟩
theorem x8{F:List Int}(f:Nn F):∀i,i<F.length->∃m,m∈F.take (i+1)/\(∀a,a∈F.take (i+1)->a<=m)/\d3 F (i+1)=hw (F.take (i+1)) m
 |0,h=>by
   refine dU (F.getD 0 0) ?_ ?_ ?_;·rw[hs h];simp
   ·rw[hs h];intro a b;rw[aI.mp (show a∈[F.getD 0 0]from b)];exact NW _
   · have :cY aR (sg (F.getD 0 0))=true:=by exact decide_eq_true (List.nil_lt_cons _ _)
     unfold d3 kx;show(if cY aR (sg (F.getD 0 0))=true then _ else _)=_;rw[if_pos this];unfold hw;rw[hs h];simp[d3]|i+1,h=>by
   refine aj λ s=>ci (x8 f i (fy h)) λ m k d p=>?_;refine s ?_;have j:=f _ (f' h);have g:=f m (Rc k);unfold d3;rw[p,hs h];generalize F.getD (i+1) 0=x at*;generalize F.take (i+1)=T at*;unfold kx hw;rw[hy g j,hy j g,l6 j g];by_cases q:m<x
   · rw[if_pos (decide_eq_true q)];refine dU x (by simp) (λ a b=>?_) ?_
     · rcases k9.mp b with b|b;·have :=d a b;exact r5 this (gw q)
       ·rw[aI.mp b];exact NW _
     · have o:∀U:List Int,(∀a∈U,a<=m)->(U.filter λ y=>bF (y<m)).length+U.count m=(U.filter λ y=>bF (y<x)).length:=by
         intro U;induction U with
         |nil=>intro _;rfl|cons u U e=>
           intro l;have n:=l u (.head _);have e:=e λ a b=>l a (.tail _ b);simp only[H8,H8,IX,if_pos (c:=bF (u<x)=true) (decide_eq_true (yc n q))];by_cases r:u=m
           · obtain rfl:=r.symm;rw[if_neg (by simp)];simp;exact congrArg (·+1) e
           · have :(u==m)=ap:=by simpa using r
             rw[if_pos (decide_eq_true (mA n r)),this];simp;exact(O0 _ _).trans (congrArg (·+1) e)
       have :=o T d;refine MU rfl (MU ?_ ?_)
       · simp only[I1];simp;exact congrArg Ln this
       · simp only[KE,(JN.mpr λ r=>by have :=d x r;exact oJ q this)];simp
   · rw[if_neg (by simpa using q)];refine dU m (Ip _ k) (λ a b=>?_) ?_
     · rcases k9.mp b with b|b;·exact d a b
       ·rw[aI.mp b];exact oH q
     · refine MU rfl (MU ?_ ?_)
       · rw[I1,eB,H8];by_cases r:x<m;·simp[r]
         ·simp[r]
       · rw[KE,NI];dsimp only;by_cases r:x=m;·obtain rfl:=r.symm;simp
         · have :(x==m)=ap:=by simpa using r
           simp[this]
def x9(c:2<=B.length)(j:B.length<=10)(b:∀x∈B,0<=x/\x<65536):∃M,kz B M:=by
 have f:Nn B:=λ x l=>(b x l).1;refine aj λ n=>ai (⟨B.length-1,si (e3 c (aE true))⟩:∃i,B.length=i+1) λ i g=>?_;refine ci (x8 f i (bA iy (j7 g))) λ m a d e=>?_;refine n ?_;rw[<-g,IL]at a d e;exact⟨m,c,j,λ p k h=>H4 f k h,(b m a).1,(b m a).2,a,d,e⟩
def plain(l:List Int):xk l:=by
 have VO:∀VL∈fA l,0<=VL/\VL<65536/\(VL<55296\/57343<VL):=λ VL VM=>lU VM;have VP:∀VL∈fB l,0<=VL/\VL<65536/\(VL<55296\/57343<VL):=λ VL VM=>lU VM;have a:Nn (fA l):=λ VL VM=>(VO VL VM).1;have b:Nn (fB l):=λ VL VM=>(VP VL VM).1;refine am (gT l) λ c d=>?_;have VQ:5<=(fA l).length:=by
  show 5<=(b6 (eo l)).length;unfold eo;simp only[ru,eB,show(b6 [97,8364,55297,97,10,233]).length=5 by decide];exact bE
 have e:4<=(fB l).length:=by
  show 4<=(b6 (et l)).length;unfold et;simp only[ru,eB,show(b6 [233,97,57344,57343,8364]).length=4 by decide];exact bE
 refine am (@HQ (fA l) (fB l)) λ m1 m2=>?_;exact⟨HX a b,HR a b,λ VL VM=>a VL (m1 VL VM),λ VL VM=>b VL (m2 VL VM),λ m=>xT a,λ m=>xT b,rO VO c,rO VP d,H1 VO VP c d,x9 (e3 VQ (aE true)) c λ VL VM=>⟨(VO VL VM).1,(VO VL VM).2.1⟩,x9 (e3 e (aE true)) d λ VL VM=>⟨(VP VL VM).1,(VP VL VM).2.1⟩,HV a b λ q=>by
   have :(sA l).length=(fA l).length:=by show((b6 _).map sg).length=_;rw[be]
   rw[q]at this;have f:([]:List Str).length=0:=rfl;exact dR g0 (jh this VQ)⟩
def the_law:Lj.Holds:=Ht λ l a=>Hi HP a (plain l)
end Mine
theorem PySem.Challenge.cw_in0064_01_holds : PySem.Challenge.rw_in0064_01.Holds :=
  Mine.the_law
